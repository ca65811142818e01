/- A part of the proof: Pc. -/
import Derived.Test.YtnpkgmgedgcjmaaGreatDoorZIh
import Derived.Test.YtnpkgmgedgcjmaaGreatDoorZPl
set_option linter.all false
set_option maxRecDepth 100000
section
namespace Go.Proofs.YtnpkgmgedgcjmaaGreatDoor
open Go Go.RowKit Png
theorem crc_nil : crc [] = 0 := by decide
theorem be4_four_append (n : Nat) (l : List UInt8) (h : n < 4294967296) : be4 (four n ++ l) 0 = n := by
 simp [be4, nb, four]
 omega
set_option maxHeartbeats 1000000 in
theorem cbPal_any (cb : Nat) (w : World) : Calls Tryz.prog 66 #[.int .i64 cb] w fun e w' => e = .returned (.bool (decide (7 ≤ cb ∧ cb ≤ 10))) ∧ w = w' := by
 go_enter Tryz.func66, Tryz.ntmps66
 by_cases h : (7 : Int) ≤ (cb : Int)
 ·
  go_wp2
  go_ret
  refine ⟨?_, rfl⟩
  have : 7 ≤ cb := by omega
  simp [this]
  omega
 ·
  go_wp2
  go_ret
  refine ⟨?_, rfl⟩
  have : ¬ 7 ≤ cb := by omega
  simp [this]
def nIHDR : List UInt8 := [73, 72, 68, 82]
def nPLTE : List UInt8 := [80, 76, 84, 69]
def ntRNS : List UInt8 := [116, 82, 78, 83]
def nIDAT : List UInt8 := [73, 68, 65, 84]
def nIEND : List UInt8 := [73, 69, 78, 68]
set_option maxHeartbeats 4000000 in
theorem chunk_IHDR (d c rb sb W H dp ct il : Nat) (cfg : Bool) (td : TypeId) (h rest : List UInt8) (w : World) (hd : Dec w d c rb td)
  (hs : Src w rb sb ((four 13 ++ nIHDR) ++ (h ++ (four (crc (nIHDR ++ h)) ++ rest)))) (hds : d ≠ sb) (hcs : c ≠ sb) (hh : h.length = 13)
  (hT : Tab w 3 .u32 256 crc8) (hT3 : d ≠ 3 ∧ rb ≠ 3 ∧ c ≠ 3) (h8 : w.cell? ⟨d, 8, none⟩ = some (.int .i64 0))
  (hW : be4 h 0 = W) (hH : be4 h 4 = H) (hdp : nb h 8 = dp) (hct : nb h 9 = ct) (h10 : nb h 10 = 0) (h11 : nb h 11 = 0) (h12 : nb h 12 = il) (hil : il = 0 ∨ il = 1)
  (hk : Kinds ct dp) (hW0 : 0 < W) (hH0 : 0 < H) (hW1 : W ≤ 16384) (hH1 : H ≤ 16384) :
  Calls Tryz.prog 65 #[.pointer (some ⟨d, 0, none⟩), .bool cfg] w fun e w' =>
   e = .returned .nilIface ∧ Fr [d, rb, c] w w' ∧
    (∀ o, (o ≠ 3 ∧ o ≠ 4 ∧ o ≠ 5 ∧ o ≠ 7 ∧ o ≠ 8 ∧ (o < 10 ∨ 778 < o)) → w'.cell? ⟨d, o, none⟩ = w.cell? ⟨d, o, none⟩) ∧ Src w' rb sb rest ∧
    w'.cell? ⟨d, 8, none⟩ = some (.int .i64 1) ∧
    w'.cell? ⟨d, 3, none⟩ = some (.int .i64 W) ∧ w'.cell? ⟨d, 4, none⟩ = some (.int .i64 H) ∧ w'.cell? ⟨d, 5, none⟩ = some (.int .i64 dp) ∧
    w'.cell? ⟨d, 7, none⟩ = some (.int .i64 (cbOf ct dp : Nat)) ∧ w'.cell? ⟨d, 778, none⟩ = some (.int .i64 il) := by
 have C := rf_full rb sb d 10 768 786 8 td (four 13 ++ nIHDR) _ w.drew hs (Lib.hid rfl) (by omega) hd.row (by omega) hd.ne.2.2 hds
 have HC := Lib.hid C
 have hr := hd.r
 have HX := Lib.hid (And.intro hW (And.intro hH (And.intro hdp (And.intro hct (And.intro h10 (And.intro h11 h12))))))
 have Hhh := Lib.hid hh
 have Hk := Lib.hid hk
 clear C hs hW hH hdp hct h10 h11 h12 hh hk
 go_enter Tryz.func65, Tryz.ntmps65
 go_wp2
 go_region_with (go_at_call 84; refine HC.out.mono ?_; rintro e w1 ⟨rfl, hF, hS, hsame, hsrc⟩)
 have hcd := hd.ne.1
 have hcr := hd.ne.2.1
 have hdr := hd.ne.2.2
 have r2 : w1.cell? ⟨d, 2, none⟩ = some (.pointer (some ⟨c, 0, none⟩)) := by rw [hsame 2 (by omega)]; exact hd.crc
 have r8 : w1.cell? ⟨d, 8, none⟩ = some (.int .i64 0) := by rw [hsame 8 (by omega)]; exact h8
 have crow1 := hF.undrew.row _ _ _ hd.crow
 obtain ⟨cv, hcv⟩ := crow1.cell (o := 0) (by omega)
 have hcf := crow1.frozen
 have Hsame := Lib.hid hsame
 have HF := Lib.hid hF.undrew
 have HS := Lib.hid hS
 have HB := be32_any d 10 0 4 768 (four 13 ++ nIHDR) w1 (by decide) (by omega) hS
 rw [be4_four_append _ _ (by omega), show ((13 : Nat) : Int) = 13 from rfl] at HB
 have HB' := Lib.hid HB
 clear hsame hr hF hS HC h8 HB
 go_wp2_with fail
 refine HB'.out.mono ?_
 rintro e w' ⟨rfl, ⟨k1, rfl⟩⟩
 go_wp2_with fail
 refine (reset_any c cv (w1.drewN k1) hcv (hcf 0)).mono ?_
 rintro e w2 ⟨rfl, hw2⟩
 have F2 : Fr [c] w1 w2 := by rw [← hw2]; exact ((Fr.refl _ w1).drewN _).setCell _ _ (.inl (by simp))
 have hdc : d ∉ [c] := by simpa using hcd.symm
 have c2 : w2.cell? ⟨c, 0, none⟩ = some (.int .u32 (crc [] : Nat)) := by
  rw [← hw2, crc_nil]; exact World.cell?_setCell_same (w1.drewN k1) _ _ hcv
 have S2 := (HS.out.fr F2 hdc)
 have S24 := S2.append.2
 have C2 := crcW_acc c d 14 764 4 [] nIHDR w2.drew rfl (by omega) 126 (F2.row _ _ _ crow1) c2 ((hT.fr HF.out (by simp [hT3.1.symm, hT3.2.1.symm])).fr F2 (by simpa using hT3.2.2.symm)) S24
 have HC2 := Lib.hid C2
 have r22 := F2.cell' hdc r2
 have r28 := F2.cell' hdc r8
 have HS2 := Lib.hid S2
 have HF2 := Lib.hid F2
 clear C2 S24 S2 F2 r2 r8 c2 hw2 hcv hcf
 go_wp2
 go_region_with (go_at_call 87; refine HC2.out.mono ?_; rintro e w3 ⟨rfl, hF3, hc3⟩)
 have F13 : Fr [c] w1 w3 := HF2.out.trans hF3.undrew
 have S3 := (HS2.out.fr hF3.undrew hdc).append.2
 have hcv := run_convert_seg (P := Tryz.prog) w3 24 5 9 Tryz.underlying24 Tryz.underlying5 Tryz.underlying9 d 14 4 764 nIHDR rfl S3
 have r32 := hF3.undrew.cell' hdc r22
 have r38 := hF3.undrew.cell' hdc r28
 have Rd3 := F13.row _ _ _ (HF.out.row _ _ _ hd.row)
 have hf3 := Rd3.frozen
 have hg3 := Rd3.has
 have D1 : Dec w1 d c rb td := hd.fr HF.out (Hsame.out 0 (by omega)) (Hsame.out 2 (by omega))
 have D3 : Dec w3 d c rb td := D1.fr F13 (F13.cell D1.row.lt hdc 0) (F13.cell D1.row.lt hdc 2)
 have HD1 := Lib.hid D1
 have HD3 := Lib.hid D3
 have HF13 := Lib.hid F13
 have HSrc := Lib.hid (hsrc.fr F13 (by simpa using hcr.symm) (by simpa using hcs.symm))
 have Hc3 := Lib.hid hc3
 have HT3 := Lib.hid ((hT.fr HF.out (by simp [hT3.1.symm, hT3.2.1.symm])).fr F13 (by simpa using hT3.2.2.symm))
 clear HC2 F13 S3 Rd3 D1 D3 hsrc hF3 hc3 r22 r28 hT
 go_wp2_with fail
 generalize hW4 : World.setCell _ _ _ = W4
 have F4 : Fr [d] w3 W4 := by rw [← hW4]; exact (Fr.refl _ _).setCell _ _ (.inl (by simp))
 have K4 : ∀ o, o ≠ 8 → W4.cell? ⟨d, o, none⟩ = w3.cell? ⟨d, o, none⟩ := fun o ho => by rw [← hW4]; exact off_ne _ _ _ _ _ (Ne.symm ho)
 have V4 : W4.cell? ⟨d, 8, none⟩ = some (.int .i64 1) := by rw [← hW4]; exact cell?_setCell_has _ _ _ (hg3 8 (by omega))
 have hx := HX.out
 refine (parseIHDR_ok d c rb sb W H dp ct il td h nIHDR rest W4 (HD3.out.fr F4 (K4 0 (by omega)) (K4 2 (by omega))) (HSrc.out.fr F4 (by simpa using hdr.symm) (by simpa using hds.symm)) hds hcs Hhh.out
  (F4.cell' (by simpa using hcd) Hc3.out) (HT3.out.fr F4 (by simpa using hT3.1.symm)) ⟨hT3.1, hT3.2.1⟩ hx.1 hx.2.1 hx.2.2.1 hx.2.2.2.1 hx.2.2.2.2.1 hx.2.2.2.2.2.1 hx.2.2.2.2.2.2 hil Hk.out hW0 hH0 hW1 hH1).mono ?_
 rintro e w5 ⟨rfl, F5, K5, S5, V3, Vh, Vd, Vc, Vi⟩
 have Hk4 := Lib.hid K4
 have Hk5 := Lib.hid K5
 clear K4 K5 hW4 hx
 go_wp2
 go_ret
 refine ⟨rfl, ?_, ?_, S5, (Hk5.out 8 (by omega)).trans V4, V3, Vh, Vd, Vc, Vi⟩
 ·
  exact (((HF.out.mono (by simp)).trans (HF13.out.mono (by simp))).trans (F4.mono (by simp))).trans (F5.mono (by simp))
 ·
  rintro o ⟨o3, o4, o5, o7, o8, ho⟩
  exact (Hk5.out o (by omega)).trans ((Hk4.out o o8).trans ((HF13.out.cell HD1.out.row.lt hdc o).trans (Hsame.out o (by omega))))
end Go.Proofs.YtnpkgmgedgcjmaaGreatDoor
end
