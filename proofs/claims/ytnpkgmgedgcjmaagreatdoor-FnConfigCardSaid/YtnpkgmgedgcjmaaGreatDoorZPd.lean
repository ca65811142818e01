/- A part of the proof: Pd. -/
import Derived.Test.YtnpkgmgedgcjmaaGreatDoorZPc
import Derived.Test.YtnpkgmgedgcjmaaGreatDoorZTr
set_option linter.all false
set_option maxRecDepth 100000
section
namespace Go.Proofs.YtnpkgmgedgcjmaaGreatDoor
open Go Go.RowKit Png
set_option maxHeartbeats 4000000 in
theorem chunk_PLTE (d c rb sb m np dp cb : Nat) (cfg : Bool) (td : TypeId) (p rest : List UInt8) (w : World) (hd : Dec w d c rb td)
  (hs : Src w rb sb ((four m ++ nPLTE) ++ (p ++ (four (crc (nPLTE ++ p)) ++ rest)))) (hds : d ≠ sb) (hcs : c ≠ sb) (hp : p.length = m) (hm : m = 3 * np)
  (hT : Tab w 3 .u32 256 crc8) (hT3 : d ≠ 3 ∧ rb ≠ 3 ∧ c ≠ 3) (h8 : w.cell? ⟨d, 8, none⟩ = some (.int .i64 1))
  (h5 : w.cell? ⟨d, 5, none⟩ = some (.int .i64 dp)) (h7 : w.cell? ⟨d, 7, none⟩ = some (.int .i64 cb)) (hcb : cb = 7 ∨ cb = 8 ∨ cb = 9 ∨ cb = 10)
  (hdp : dp ≤ 8) (hnp0 : 0 < np) (hnp : np ≤ 2 ^ dp) :
  Calls Tryz.prog 65 #[.pointer (some ⟨d, 0, none⟩), .bool cfg] w fun e w' =>
   e = .returned .nilIface ∧ Fr [d, rb, c] w w' ∧
    (∀ o, (o ≠ 6 ∧ o ≠ 8 ∧ (o < 10 ∨ 778 ≤ o)) → w'.cell? ⟨d, o, none⟩ = w.cell? ⟨d, o, none⟩) ∧ Src w' rb sb rest ∧
    w'.cell? ⟨d, 8, none⟩ = some (.int .i64 2) ∧
    ∃ B, w.heap.size ≤ B ∧ w'.cell? ⟨d, 6, none⟩ = some (.slice (some ⟨B, 0, none⟩) np 256) ∧ Row w' B 140 256 ∧
     (∀ k, k < np → w'.cell? ⟨B, k, none⟩ = some (rgbV (nb p (3 * k)) (nb p (3 * k + 1)) (nb p (3 * k + 2)))) ∧
     ∀ k, np ≤ k → k < 256 → w'.cell? ⟨B, k, none⟩ = some (rgbV 0 0 0) := by
 have hnp2 : np ≤ 256 := Nat.le_trans hnp (Nat.pow_le_pow_right (n := 2) (i := dp) (j := 8) (by omega) hdp)
 have hm768 : m ≤ 768 := by omega
 have Hp := Lib.hid hp
 have Hm := Lib.hid hm
 clear hp hm
 have C := rf_full rb sb d 10 768 786 8 td (four m ++ nPLTE) _ w.drew hs (Lib.hid rfl) (by omega) hd.row (by omega) hd.ne.2.2 hds
 have HC := Lib.hid C
 have hr := hd.r
 clear C hs
 go_enter Tryz.func65, Tryz.ntmps65
 go_wp2
 go_region_with (go_at_call 84; refine HC.out.mono ?_; rintro e w1 ⟨rfl, hF, hS, hsame, hsrc⟩)
 have hcd := hd.ne.1
 have hcr := hd.ne.2.1
 have hdr := hd.ne.2.2
 have r2 : w1.cell? ⟨d, 2, none⟩ = some (.pointer (some ⟨c, 0, none⟩)) := by rw [hsame 2 (by omega)]; exact hd.crc
 have r8 : w1.cell? ⟨d, 8, none⟩ = some (.int .i64 1) := by rw [hsame 8 (by omega)]; exact h8
 have r5 : w1.cell? ⟨d, 5, none⟩ = some (.int .i64 dp) := by rw [hsame 5 (by omega)]; exact h5
 have r7 : w1.cell? ⟨d, 7, none⟩ = some (.int .i64 cb) := by rw [hsame 7 (by omega)]; exact h7
 have crow1 := hF.undrew.row _ _ _ hd.crow
 obtain ⟨cv, hcv⟩ := crow1.cell (o := 0) (by omega)
 have hcf := crow1.frozen
 have Hsame := Lib.hid hsame
 have HF := Lib.hid hF.undrew
 have HS := Lib.hid hS
 have HB := be32_any d 10 0 4 768 (four m ++ nPLTE) w1 (by simp [four]; try decide) (by omega) hS
 rw [be4_four_append _ _ (by omega)] at HB
 have HB' := Lib.hid HB
 clear hsame hr hF hS HC h8 h5 h7 HB
 go_wp2_with fail
 refine HB'.out.mono ?_
 rintro e w' ⟨rfl, ⟨k1, rfl⟩⟩
 go_wp2_with fail
 refine (reset_any c cv (w1.drewN k1) hcv (hcf 0)).mono ?_
 rintro e w2 ⟨rfl, hw2⟩
 have F2 : Fr [c] w1 w2 := by rw [← hw2]; exact ((Fr.refl _ w1).drewN _).setCell _ _ (.inl (by simp))
 have hdc : d ∉ [c] := by simpa using hcd.symm
 have c2 : w2.cell? ⟨c, 0, none⟩ = some (.int .u32 (crc [] : Nat)) := by
  rw [← hw2, crc_nil]; exact World.cell?_setCell_same (w1.drewN k1) _ _ hcv
 have S2 := (HS.out.fr F2 hdc)
 have S24 := S2.append.2
 have C2 := crcW_acc c d 14 764 4 [] nPLTE w2.drew rfl (by omega) 126 (F2.row _ _ _ crow1) c2 ((hT.fr HF.out (by simp [hT3.1.symm, hT3.2.1.symm])).fr F2 (by simpa using hT3.2.2.symm)) S24
 have HC2 := Lib.hid C2
 have r22 := F2.cell' hdc r2
 have r28 := F2.cell' hdc r8
 have r25 := F2.cell' hdc r5
 have r27 := F2.cell' hdc r7
 have HS2 := Lib.hid S2
 have HF2 := Lib.hid F2
 clear C2 S24 S2 F2 r2 r8 r5 r7 c2 hw2 hcv hcf
 go_wp2
 go_region_with (go_at_call 87; refine HC2.out.mono ?_; rintro e w3 ⟨rfl, hF3, hc3⟩)
 have F13 : Fr [c] w1 w3 := HF2.out.trans hF3.undrew
 have S3 := (HS2.out.fr hF3.undrew hdc).append.2
 have hcv := run_convert_seg (P := Tryz.prog) w3 24 5 9 Tryz.underlying24 Tryz.underlying5 Tryz.underlying9 d 14 4 764 nPLTE rfl S3
 have r32 := hF3.undrew.cell' hdc r22
 have r38 := hF3.undrew.cell' hdc r28
 have r35 := hF3.undrew.cell' hdc r25
 have r37 := hF3.undrew.cell' hdc r27
 have Rd3 := F13.row _ _ _ (HF.out.row _ _ _ hd.row)
 have hf3 := Rd3.frozen
 have hg3 := Rd3.has
 have D1 : Dec w1 d c rb td := hd.fr HF.out (Hsame.out 0 (by omega)) (Hsame.out 2 (by omega))
 have D3 : Dec w3 d c rb td := D1.fr F13 (F13.cell D1.row.lt hdc 0) (F13.cell D1.row.lt hdc 2)
 have HD1 := Lib.hid D1
 have HD3 := Lib.hid D3
 have HF13 := Lib.hid F13
 have HSrc := Lib.hid (hsrc.fr F13 (by simpa using hcr.symm) (by simpa using hcs.symm))
 have Hc3 := Lib.hid hc3
 have HT3 := Lib.hid ((hT.fr HF.out (by simp [hT3.1.symm, hT3.2.1.symm])).fr F13 (by simpa using hT3.2.2.symm))
 clear HC2 F13 S3 Rd3 D1 D3 hsrc hF3 hc3 r22 r28 r25 r27 hT
 go_wp2_with fail
 generalize hW4 : World.setCell _ _ _ = W4
 have F4 : Fr [d] w3 W4 := by rw [← hW4]; exact (Fr.refl _ _).setCell _ _ (.inl (by simp))
 have K4 : ∀ o, o ≠ 8 → W4.cell? ⟨d, o, none⟩ = w3.cell? ⟨d, o, none⟩ := fun o ho => by rw [← hW4]; exact off_ne _ _ _ _ _ (Ne.symm ho)
 have V4 : W4.cell? ⟨d, 8, none⟩ = some (.int .i64 2) := by rw [← hW4]; exact cell?_setCell_has _ _ _ (hg3 8 (by omega))
 refine (parsePLTE_ok d c rb sb m np dp cb td p nPLTE rest W4 (HD3.out.fr F4 (K4 0 (by omega)) (K4 2 (by omega))) (HSrc.out.fr F4 (by simpa using hdr.symm) (by simpa using hds.symm)) hds hcs Hp.out Hm.out
  (F4.cell' (by simpa using hcd) Hc3.out) (HT3.out.fr F4 (by simpa using hT3.1.symm)) ⟨hT3.1, hT3.2.1⟩ ((K4 5 (by omega)).trans r35) ((K4 7 (by omega)).trans r37) hcb hdp hnp0 hnp).mono ?_
 rintro e w5 ⟨rfl, F5, K5, S5, B, hB, V6, RB, L1, L2⟩
 have Hk4 := Lib.hid K4
 have Hk5 := Lib.hid K5
 clear K4 K5 hW4
 have HL := Lib.hid (And.intro L1 L2)
 clear L1 L2
 go_wp2
 go_ret
 refine ⟨rfl, ?_, ?_, S5, (Hk5.out 8 (by omega)).trans V4, B, ?_, V6, RB, HL.out.1, HL.out.2⟩
 ·
  exact (((HF.out.mono (by simp)).trans (HF13.out.mono (by simp))).trans (F4.mono (by simp))).trans (F5.mono (by simp))
 ·
  rintro o ⟨o6, o8, ho⟩
  exact (Hk5.out o ⟨o6, ho⟩).trans ((Hk4.out o o8).trans ((HF13.out.cell HD1.out.row.lt hdc o).trans (Hsame.out o (by omega))))
 ·
  exact Nat.le_trans (Nat.le_trans HF.out.size (Nat.le_trans HF13.out.size F4.size)) hB
set_option maxHeartbeats 4000000 in
theorem chunk_tRNS_pal (d c rb sb B m np cb : Nat) (R G U : Nat → Nat) (cfg : Bool) (td : TypeId) (p rest : List UInt8) (w : World) (hd : Dec w d c rb td)
  (hs : Src w rb sb ((four m ++ ntRNS) ++ (p ++ (four (crc (ntRNS ++ p)) ++ rest)))) (hds : d ≠ sb) (hcs : c ≠ sb) (hp : p.length = m)
  (hT : Tab w 3 .u32 256 crc8) (hT3 : d ≠ 3 ∧ rb ≠ 3 ∧ c ≠ 3) (h8 : w.cell? ⟨d, 8, none⟩ = some (.int .i64 2))
  (h7 : w.cell? ⟨d, 7, none⟩ = some (.int .i64 cb)) (hcb : cb = 7 ∨ cb = 8 ∨ cb = 9 ∨ cb = 10)
  (h6 : w.cell? ⟨d, 6, none⟩ = some (.slice (some ⟨B, 0, none⟩) np 256)) (hm0 : 0 < m) (hmp : m ≤ np) (hnp : np ≤ 256)
  (hB : B ≠ d ∧ B ≠ rb ∧ B ≠ c ∧ B ≠ sb) (hR : Row w B 140 256) (hcell : ∀ k, k < np → w.cell? ⟨B, k, none⟩ = some (rgbV (R k) (G k) (U k))) :
  Calls Tryz.prog 65 #[.pointer (some ⟨d, 0, none⟩), .bool cfg] w fun e w' =>
   e = .returned .nilIface ∧ Fr [d, rb, c, B] w w' ∧
    (∀ o, (o ≠ 8 ∧ (o < 10 ∨ 778 ≤ o)) → w'.cell? ⟨d, o, none⟩ = w.cell? ⟨d, o, none⟩) ∧ Src w' rb sb rest ∧
    w'.cell? ⟨d, 8, none⟩ = some (.int .i64 3) ∧
     (∀ k, k < m → w'.cell? ⟨B, k, none⟩ = some (nrgbV (R k) (G k) (U k) (nb p k))) ∧
     ∀ k, m ≤ k → w'.cell? ⟨B, k, none⟩ = w.cell? ⟨B, k, none⟩ := by
 have hpal : decide (7 ≤ cb ∧ cb ≤ 10) = true := by simp; omega
 have Hp := Lib.hid hp
 have Hpal := Lib.hid hpal
 have Hcell := Lib.hid hcell
 clear hp hpal hcell
 have C := rf_full rb sb d 10 768 786 8 td (four m ++ ntRNS) _ w.drew hs (Lib.hid rfl) (by omega) hd.row (by omega) hd.ne.2.2 hds
 have HC := Lib.hid C
 have hr := hd.r
 clear C hs
 go_enter Tryz.func65, Tryz.ntmps65
 go_wp2
 go_region_with (go_at_call 84; refine HC.out.mono ?_; rintro e w1 ⟨rfl, hF, hS, hsame, hsrc⟩)
 have hcd := hd.ne.1
 have hcr := hd.ne.2.1
 have hdr := hd.ne.2.2
 have r2 : w1.cell? ⟨d, 2, none⟩ = some (.pointer (some ⟨c, 0, none⟩)) := by rw [hsame 2 (by omega)]; exact hd.crc
 have r8 : w1.cell? ⟨d, 8, none⟩ = some (.int .i64 2) := by rw [hsame 8 (by omega)]; exact h8
 have r6 : w1.cell? ⟨d, 6, none⟩ = some (.slice (some ⟨B, 0, none⟩) np 256) := by rw [hsame 6 (by omega)]; exact h6
 have r7 : w1.cell? ⟨d, 7, none⟩ = some (.int .i64 cb) := by rw [hsame 7 (by omega)]; exact h7
 have crow1 := hF.undrew.row _ _ _ hd.crow
 obtain ⟨cv, hcv⟩ := crow1.cell (o := 0) (by omega)
 have hcf := crow1.frozen
 have Hsame := Lib.hid hsame
 have HF := Lib.hid hF.undrew
 have HS := Lib.hid hS
 have HB := be32_any d 10 0 4 768 (four m ++ ntRNS) w1 (by simp [four]; try decide) (by omega) hS
 rw [be4_four_append _ _ (by omega)] at HB
 have HB' := Lib.hid HB
 clear hsame hr hF hS HC h8 h6 h7 HB
 go_wp2_with fail
 refine HB'.out.mono ?_
 rintro e w' ⟨rfl, ⟨k1, rfl⟩⟩
 go_wp2_with fail
 refine (reset_any c cv (w1.drewN k1) hcv (hcf 0)).mono ?_
 rintro e w2 ⟨rfl, hw2⟩
 have F2 : Fr [c] w1 w2 := by rw [← hw2]; exact ((Fr.refl _ w1).drewN _).setCell _ _ (.inl (by simp))
 have hdc : d ∉ [c] := by simpa using hcd.symm
 have c2 : w2.cell? ⟨c, 0, none⟩ = some (.int .u32 (crc [] : Nat)) := by
  rw [← hw2, crc_nil]; exact World.cell?_setCell_same (w1.drewN k1) _ _ hcv
 have S2 := (HS.out.fr F2 hdc)
 have S24 := S2.append.2
 have C2 := crcW_acc c d 14 764 4 [] ntRNS w2.drew rfl (by omega) 126 (F2.row _ _ _ crow1) c2 ((hT.fr HF.out (by simp [hT3.1.symm, hT3.2.1.symm])).fr F2 (by simpa using hT3.2.2.symm)) S24
 have HC2 := Lib.hid C2
 have r22 := F2.cell' hdc r2
 have r28 := F2.cell' hdc r8
 have r26 := F2.cell' hdc r6
 have r27 := F2.cell' hdc r7
 have HS2 := Lib.hid S2
 have HF2 := Lib.hid F2
 clear C2 S24 S2 F2 r2 r8 r6 r7 c2 hw2 hcv hcf
 go_wp2
 go_region_with (go_at_call 87; refine HC2.out.mono ?_; rintro e w3 ⟨rfl, hF3, hc3⟩)
 have F13 : Fr [c] w1 w3 := HF2.out.trans hF3.undrew
 have S3 := (HS2.out.fr hF3.undrew hdc).append.2
 have hcv := run_convert_seg (P := Tryz.prog) w3 24 5 9 Tryz.underlying24 Tryz.underlying5 Tryz.underlying9 d 14 4 764 ntRNS rfl S3
 have r32 := hF3.undrew.cell' hdc r22
 have r38 := hF3.undrew.cell' hdc r28
 have r36 := hF3.undrew.cell' hdc r26
 have r37 := hF3.undrew.cell' hdc r27
 have Rd3 := F13.row _ _ _ (HF.out.row _ _ _ hd.row)
 have hf3 := Rd3.frozen
 have hg3 := Rd3.has
 have D1 : Dec w1 d c rb td := hd.fr HF.out (Hsame.out 0 (by omega)) (Hsame.out 2 (by omega))
 have D3 : Dec w3 d c rb td := D1.fr F13 (F13.cell D1.row.lt hdc 0) (F13.cell D1.row.lt hdc 2)
 have HD1 := Lib.hid D1
 have HD3 := Lib.hid D3
 have HF13 := Lib.hid F13
 have HSrc := Lib.hid (hsrc.fr F13 (by simpa using hcr.symm) (by simpa using hcs.symm))
 have Hc3 := Lib.hid hc3
 have HT3 := Lib.hid ((hT.fr HF.out (by simp [hT3.1.symm, hT3.2.1.symm])).fr F13 (by simpa using hT3.2.2.symm))
 clear HC2 F13 S3 Rd3 D1 D3 hsrc hF3 hc3 r22 r28 r26 r27 hT
 have CP := cbPal_any cb w3
 rw [Hpal.out] at CP
 have HCP := Lib.hid CP
 clear CP
 go_wp2_with fail
 refine HCP.out.mono ?_
 rintro e w' ⟨rfl, rfl⟩
 go_wp2_with fail
 generalize hW4 : World.setCell _ _ _ = W4
 have F4 : Fr [d] w3 W4 := by rw [← hW4]; exact (Fr.refl _ _).setCell _ _ (.inl (by simp))
 have K4 : ∀ o, o ≠ 8 → W4.cell? ⟨d, o, none⟩ = w3.cell? ⟨d, o, none⟩ := fun o ho => by rw [← hW4]; exact off_ne _ _ _ _ _ (Ne.symm ho)
 have V4 : W4.cell? ⟨d, 8, none⟩ = some (.int .i64 3) := by rw [← hW4]; exact cell?_setCell_has _ _ _ (hg3 8 (by omega))
 have hBn : B ∉ [d, rb] ∧ B ∉ [c] ∧ B ∉ [d] := by simp [hB]
 have hlt1 := (HF.out.row _ _ _ hR).lt
 have hlt3 := (HF13.out.row _ _ _ (HF.out.row _ _ _ hR)).lt
 have KB : ∀ k, W4.cell? ⟨B, k, none⟩ = w.cell? ⟨B, k, none⟩ := fun k => (F4.cell hlt3 hBn.2.2 k).trans ((HF13.out.cell hlt1 hBn.2.1 k).trans (HF.out.cell hR.lt hBn.1 k))
 refine (parsetRNS_pal d c rb sb B m np cb R G U td p ntRNS rest W4 (HD3.out.fr F4 (K4 0 (by omega)) (K4 2 (by omega))) (HSrc.out.fr F4 (by simpa using hdr.symm) (by simpa using hds.symm)) hds hcs Hp.out
  (F4.cell' (by simpa using hcd) Hc3.out) (HT3.out.fr F4 (by simpa using hT3.1.symm)) ⟨hT3.1, hT3.2.1⟩ ((K4 7 (by omega)).trans r37) hcb ((K4 6 (by omega)).trans r36) hm0 hmp hnp hB
  (F4.row _ _ _ (HF13.out.row _ _ _ (HF.out.row _ _ _ hR))) (fun k hk => (KB k).trans (Hcell.out k hk))).mono ?_
 rintro e w5 ⟨rfl, F5, K5, S5, L1, L2⟩
 have Hk4 := Lib.hid K4
 have Hk5 := Lib.hid K5
 have HKB := Lib.hid KB
 clear K4 K5 hW4 KB
 have HL := Lib.hid (And.intro L1 L2)
 clear L1 L2
 go_wp2
 go_ret
 refine ⟨rfl, ?_, ?_, S5, (Hk5.out 8 (by omega)).trans V4, HL.out.1, fun k hk => (HL.out.2 k hk).trans (HKB.out k)⟩
 ·
  exact (((HF.out.mono (by simp)).trans (HF13.out.mono (by simp))).trans (F4.mono (by simp))).trans (F5.mono (by simp))
 ·
  rintro o ⟨o8, ho⟩
  exact (Hk5.out o ho).trans ((Hk4.out o o8).trans ((HF13.out.cell HD1.out.row.lt hdc o).trans (Hsame.out o (by omega))))
set_option maxHeartbeats 4000000 in
theorem chunk_IDAT_cfg (d c rb sb n cb : Nat) (td : TypeId) (rest : List UInt8) (w : World) (hd : Dec w d c rb td)
  (hs : Src w rb sb ((four n ++ nIDAT) ++ rest)) (hds : d ≠ sb) (hcs : c ≠ sb) (hn : n < 4294967296)
  (hT : Tab w 3 .u32 256 crc8) (hT3 : d ≠ 3 ∧ rb ≠ 3 ∧ c ≠ 3) (h8 : w.cell? ⟨d, 8, none⟩ = some (.int .i64 2)) :
  Calls Tryz.prog 65 #[.pointer (some ⟨d, 0, none⟩), .bool true] w fun e w' =>
   e = .returned .nilIface ∧ Fr [d, rb, c] w w' ∧
    (∀ o, (o ≠ 8 ∧ (o < 10 ∨ 778 ≤ o)) → w'.cell? ⟨d, o, none⟩ = w.cell? ⟨d, o, none⟩) ∧ Src w' rb sb rest ∧
    w'.cell? ⟨d, 8, none⟩ = some (.int .i64 4) := by
 have C := rf_full rb sb d 10 768 786 8 td (four n ++ nIDAT) _ w.drew hs (Lib.hid rfl) (by omega) hd.row (by omega) hd.ne.2.2 hds
 have HC := Lib.hid C
 have hr := hd.r
 clear C hs
 go_enter Tryz.func65, Tryz.ntmps65
 go_wp2
 go_region_with (go_at_call 84; refine HC.out.mono ?_; rintro e w1 ⟨rfl, hF, hS, hsame, hsrc⟩)
 have hcd := hd.ne.1
 have hcr := hd.ne.2.1
 have hdr := hd.ne.2.2
 have r2 : w1.cell? ⟨d, 2, none⟩ = some (.pointer (some ⟨c, 0, none⟩)) := by rw [hsame 2 (by omega)]; exact hd.crc
 have r8 : w1.cell? ⟨d, 8, none⟩ = some (.int .i64 2) := by rw [hsame 8 (by omega)]; exact h8
 have crow1 := hF.undrew.row _ _ _ hd.crow
 obtain ⟨cv, hcv⟩ := crow1.cell (o := 0) (by omega)
 have hcf := crow1.frozen
 have Hsame := Lib.hid hsame
 have HF := Lib.hid hF.undrew
 have HS := Lib.hid hS
 have HB := be32_any d 10 0 4 768 (four n ++ nIDAT) w1 (by simp [four]; try decide) (by omega) hS
 rw [be4_four_append _ _ (hn)] at HB
 have HB' := Lib.hid HB
 clear hsame hr hF hS HC h8 HB
 go_wp2_with fail
 refine HB'.out.mono ?_
 rintro e w' ⟨rfl, ⟨k1, rfl⟩⟩
 go_wp2_with fail
 refine (reset_any c cv (w1.drewN k1) hcv (hcf 0)).mono ?_
 rintro e w2 ⟨rfl, hw2⟩
 have F2 : Fr [c] w1 w2 := by rw [← hw2]; exact ((Fr.refl _ w1).drewN _).setCell _ _ (.inl (by simp))
 have hdc : d ∉ [c] := by simpa using hcd.symm
 have c2 : w2.cell? ⟨c, 0, none⟩ = some (.int .u32 (crc [] : Nat)) := by
  rw [← hw2, crc_nil]; exact World.cell?_setCell_same (w1.drewN k1) _ _ hcv
 have S2 := (HS.out.fr F2 hdc)
 have S24 := S2.append.2
 have C2 := crcW_acc c d 14 764 4 [] nIDAT w2.drew rfl (by omega) 126 (F2.row _ _ _ crow1) c2 ((hT.fr HF.out (by simp [hT3.1.symm, hT3.2.1.symm])).fr F2 (by simpa using hT3.2.2.symm)) S24
 have HC2 := Lib.hid C2
 have r22 := F2.cell' hdc r2
 have r28 := F2.cell' hdc r8
 have HS2 := Lib.hid S2
 have HF2 := Lib.hid F2
 clear C2 S24 S2 F2 r2 r8 c2 hw2 hcv hcf
 go_wp2
 go_region_with (go_at_call 87; refine HC2.out.mono ?_; rintro e w3 ⟨rfl, hF3, hc3⟩)
 have F13 : Fr [c] w1 w3 := HF2.out.trans hF3.undrew
 have S3 := (HS2.out.fr hF3.undrew hdc).append.2
 have hcv := run_convert_seg (P := Tryz.prog) w3 24 5 9 Tryz.underlying24 Tryz.underlying5 Tryz.underlying9 d 14 4 764 nIDAT rfl S3
 have r32 := hF3.undrew.cell' hdc r22
 have r38 := hF3.undrew.cell' hdc r28
 have Rd3 := F13.row _ _ _ (HF.out.row _ _ _ hd.row)
 have hf3 := Rd3.frozen
 have hg3 := Rd3.has
 have D1 : Dec w1 d c rb td := hd.fr HF.out (Hsame.out 0 (by omega)) (Hsame.out 2 (by omega))
 have D3 : Dec w3 d c rb td := D1.fr F13 (F13.cell D1.row.lt hdc 0) (F13.cell D1.row.lt hdc 2)
 have HD1 := Lib.hid D1
 have HD3 := Lib.hid D3
 have HF13 := Lib.hid F13
 have HSrc := Lib.hid (hsrc.fr F13 (by simpa using hcr.symm) (by simpa using hcs.symm))
 have Hc3 := Lib.hid hc3
 have HT3 := Lib.hid ((hT.fr HF.out (by simp [hT3.1.symm, hT3.2.1.symm])).fr F13 (by simpa using hT3.2.2.symm))
 clear HC2 F13 S3 Rd3 D1 D3 hsrc hF3 hc3 r22 r28 hT
 go_wp2_with fail
 generalize hW4 : World.setCell _ _ _ = W4
 have F4 : Fr [d] w3 W4 := by rw [← hW4]; exact (Fr.refl _ _).setCell _ _ (.inl (by simp))
 have K4 : ∀ o, o ≠ 8 → W4.cell? ⟨d, o, none⟩ = w3.cell? ⟨d, o, none⟩ := fun o ho => by rw [← hW4]; exact off_ne _ _ _ _ _ (Ne.symm ho)
 have V4 : W4.cell? ⟨d, 8, none⟩ = some (.int .i64 4) := by rw [← hW4]; exact cell?_setCell_has _ _ _ (hg3 8 (by omega))
 have Hk4 := Lib.hid K4
 clear K4 hW4
 go_ret
 refine ⟨rfl, ?_, ?_, HSrc.out.fr F4 (by simpa using hdr.symm) (by simpa using hds.symm), V4⟩
 ·
  exact ((HF.out.mono (by simp)).trans (HF13.out.mono (by simp))).trans (F4.mono (by simp))
 ·
  rintro o ⟨o8, ho⟩
  exact ((Hk4.out o o8).trans ((HF13.out.cell HD1.out.row.lt hdc o).trans (Hsame.out o (by omega))))
end Go.Proofs.YtnpkgmgedgcjmaaGreatDoor
end
