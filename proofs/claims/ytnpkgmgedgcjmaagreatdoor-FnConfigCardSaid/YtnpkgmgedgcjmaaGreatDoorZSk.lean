/- A part of the proof: Sk. -/
import Derived.Deep.DeepCutAuto
import Derived.Deep.LoopGhost
import Derived.Test.YtnpkgmgedgcjmaaGreatDoorZPc
set_option linter.all false
set_option maxRecDepth 100000
section
namespace Go.Proofs.YtnpkgmgedgcjmaaGreatDoor
open Go Go.RowKit Png
theorem name_ne {nm m : List UInt8} (h : nm ≠ m) : ((⟨nm.toArray⟩ : ByteArray).toList == m) = false := by
 rw [ByteArray.toList_eq, beq_eq_false_iff_ne]
 exact h
structure SkI (W w : World) (rb c A sb : Nat) (acc q tail : List UInt8) : Prop where
 f : Fr [rb, c, A] W w
 s : Src w rb sb (q ++ tail)
 c : w.cell? ⟨c, 0, none⟩ = some (.int .u32 (crc acc : Nat))
theorem zc188 : Tryz.zeroCells188.size = 4096 := by kernel_rfl
set_option maxHeartbeats 4000000 in
theorem chunk_skip (d c rb sb : Nat) (cfg : Bool) (td : TypeId) (nm p rest : List UInt8) (w : World) (hd : Dec w d c rb td)
  (hs : Src w rb sb ((four p.length ++ nm) ++ (p ++ (four (crc (nm ++ p)) ++ rest)))) (hds : d ≠ sb) (hcs : c ≠ sb) (h4 : nm.length = 4) (hpl : p.length ≤ 2147483647)
  (hn1 : nm ≠ nIHDR) (hn2 : nm ≠ nPLTE) (hn3 : nm ≠ ntRNS) (hn4 : nm ≠ nIDAT) (hn5 : nm ≠ nIEND)
  (hT : Tab w 3 .u32 256 crc8) (hT3 : d ≠ 3 ∧ rb ≠ 3 ∧ c ≠ 3) :
  Calls Tryz.prog 65 #[.pointer (some ⟨d, 0, none⟩), .bool cfg] w fun e w' =>
   e = .returned .nilIface ∧ Fr [d, rb, c] w w' ∧
    (∀ o, (o < 10 ∨ 778 ≤ o) → w'.cell? ⟨d, o, none⟩ = w.cell? ⟨d, o, none⟩) ∧ Src w' rb sb rest := by
 have Hn := Lib.hid (And.intro hn1 (And.intro hn2 (And.intro hn3 (And.intro hn4 hn5))))
 have H4 := Lib.hid h4
 have hl8 : (four p.length ++ nm).length = 8 := by simp [four, h4]
 have C := rf_full rb sb d 10 768 786 8 td (four p.length ++ nm) _ w.drew hs (Lib.hid hl8) (by omega) hd.row (by omega) hd.ne.2.2 hds
 have HC := Lib.hid C
 have hr := hd.r
 have Hl8 := Lib.hid hl8
 obtain ⟨n, hn⟩ : ∃ n, n = p.length := ⟨_, rfl⟩
 have hnb : n ≤ 2147483647 := by omega
 have Hpn := Lib.hid hn
 clear C hs hn1 hn2 hn3 hn4 hn5 hl8 hpl
 go_enter Tryz.func65, Tryz.ntmps65
 go_wp2
 go_region_with (go_at_call 84; refine HC.out.mono ?_; rintro e w1 ⟨rfl, hF, hS, hsame, hsrc⟩)
 have hcd := hd.ne.1
 have hcr := hd.ne.2.1
 have hdr := hd.ne.2.2
 have r2 : w1.cell? ⟨d, 2, none⟩ = some (.pointer (some ⟨c, 0, none⟩)) := by rw [hsame 2 (by omega)]; exact hd.crc
 have crow1 := hF.undrew.row _ _ _ hd.crow
 obtain ⟨cv, hcv⟩ := crow1.cell (o := 0) (by omega)
 have hcf := crow1.frozen
 have Hsame := Lib.hid hsame
 have HF := Lib.hid hF.undrew
 have HS := Lib.hid hS
 have HB := be32_any d 10 0 4 768 (four p.length ++ nm) w1 (by rw [Hl8.out]; omega) (by omega) hS
 rw [be4_four_append _ _ (by omega), ← hn] at HB
 have HB' := Lib.hid HB
 clear hsame hr hF hS HC HB hn
 go_wp2_with fail
 refine HB'.out.mono ?_
 rintro e w' ⟨rfl, ⟨k1, rfl⟩⟩
 go_wp2_with fail
 refine (reset_any c cv (w1.drewN k1) hcv (hcf 0)).mono ?_
 rintro e w2 ⟨rfl, hw2⟩
 have F2 : Fr [c] w1 w2 := by rw [← hw2]; exact ((Fr.refl _ w1).drewN _).setCell _ _ (.inl (by simp))
 have hdc : d ∉ [c] := by simpa using hcd.symm
 have c2 : w2.cell? ⟨c, 0, none⟩ = some (.int .u32 (crc [] : Nat)) := by
  rw [← hw2, crc_nil]; exact World.cell?_setCell_same (w1.drewN k1) _ _ hcv
 have S2 := (HS.out.fr F2 hdc)
 have S24 : Seg w2 d 14 nm := S2.append.2
 have C2 := crcW_acc c d 14 764 4 [] nm w2.drew H4.out (by omega) 126 (F2.row _ _ _ crow1) c2 ((hT.fr HF.out (by simp [hT3.1.symm, hT3.2.1.symm])).fr F2 (by simpa using hT3.2.2.symm)) S24
 have HC2 := Lib.hid C2
 have r22 := F2.cell' hdc r2
 have HS2 := Lib.hid S2
 have HF2 := Lib.hid F2
 clear C2 S24 S2 F2 r2 c2 hw2 hcv hcf
 go_wp2
 go_region_with (go_at_call 87; refine HC2.out.mono ?_; rintro e w3 ⟨rfl, hF3, hc3⟩)
 have F13 : Fr [c] w1 w3 := HF2.out.trans hF3.undrew
 have S3 : Seg w3 d 14 nm := (HS2.out.fr hF3.undrew hdc).append.2
 have hcv := run_convert_seg (P := Tryz.prog) w3 24 5 9 Tryz.underlying24 Tryz.underlying5 Tryz.underlying9 d 14 4 764 nm H4.out S3
 obtain ⟨SN, hSN⟩ : ∃ SN : ByteArray, SN = ⟨nm.toArray⟩ := ⟨_, rfl⟩
 have s1 : (SN.toList == [73, 72, 68, 82]) = false := by rw [hSN]; exact name_ne Hn.out.1
 have s2 : (SN.toList == [80, 76, 84, 69]) = false := by rw [hSN]; exact name_ne Hn.out.2.1
 have s3 : (SN.toList == [116, 82, 78, 83]) = false := by rw [hSN]; exact name_ne Hn.out.2.2.1
 have s4 : (SN.toList == [73, 68, 65, 84]) = false := by rw [hSN]; exact name_ne Hn.out.2.2.2.1
 have s5 : (SN.toList == [73, 69, 78, 68]) = false := by rw [hSN]; exact name_ne Hn.out.2.2.2.2
 rw [← hSN] at hcv
 clear hSN
 have r32 := hF3.undrew.cell' hdc r22
 have D1 : Dec w1 d c rb td := hd.fr HF.out (Hsame.out 0 (by omega)) (Hsame.out 2 (by omega))
 have D3 : Dec w3 d c rb td := D1.fr F13 (F13.cell D1.row.lt hdc 0) (F13.cell D1.row.lt hdc 2)
 have r30 := D3.r
 have HD1 := Lib.hid D1
 have HD3 := Lib.hid D3
 have HF13 := Lib.hid F13
 have HSrc := Lib.hid (hsrc.fr F13 (by simpa using hcr.symm) (by simpa using hcs.symm))
 have Hc3 := Lib.hid hc3
 have HT3 := Lib.hid ((hT.fr HF.out (by simp [hT3.1.symm, hT3.2.1.symm])).fr F13 (by simpa using hT3.2.2.symm))
 clear HC2 F13 S3 D1 D3 hsrc hF3 hc3 r22 hT
 have hnd : decide ((2147483647 : Int) < (n : Int)) = false := by simp; omega
 have hni : ¬ (2147483647 : Int) < (n : Int) := by omega
 go_wp2
 obtain ⟨A, hA⟩ : ∃ A, A = w3.heap.size := ⟨_, rfl⟩
 have RA : Row (w3.alloc (Obj.cells Tryz.zeroCells188 188)) A 188 4096 := by
  have := Row.alloc_new (w := w3) Tryz.zeroCells188 188
  rw [zc188, ← hA] at this
  exact this
 rw [← hA]
 generalize hW8 : World.alloc w3 _ = W8
 rw [hW8] at RA
 have F8 : Fr [] w3 W8 := by rw [← hW8]; exact (Fr.refl _ _).alloc _
 have hlt : d < A ∧ c < A ∧ rb < A ∧ sb < A ∧ 3 < A := by
  refine ⟨by rw [hA]; exact HD3.out.row.lt, by rw [hA]; exact HD3.out.crow.lt, ?_, ?_, by rw [hA]; exact World.block_lt_of_cell? w3 ⟨3, 0, none⟩ (HT3.out 0 (by decide))⟩
  ·
   obtain ⟨_, _, _, _, _, _, h, _⟩ := HSrc.out; rw [hA]; exact h.lt
  ·
   obtain ⟨_, _, i, _, _, _, _, _, _, _, h, _⟩ := HSrc.out
   rw [hA]; exact World.block_lt_of_cell? w3 ⟨sb, i + 0, none⟩ (h 0 (by simp [four]; omega))
 have D8 : Dec W8 d c rb td := HD3.out.fr F8 (F8.cell HD3.out.row.lt (by simp) 0) (F8.cell HD3.out.row.lt (by simp) 2)
 have HI8 : Hid (SkI W8 W8 rb c A sb nm p (four (crc (nm ++ p)) ++ rest)) := Lib.hid ⟨Fr.refl _ _, HSrc.out.fr F8 (by simp) (by simp), F8.cell' (by simp) Hc3.out⟩
 have HT8 := Lib.hid (HT3.out.fr F8 (by simp))
 have HRA := Lib.hid RA
 have HD8 := Lib.hid D8
 have HF8 := Lib.hid F8
 have HA := Lib.hid hA
 clear hW8 RA F8 D8 hA r30 r32 s1 s2 s3 s4 s5 hcv hnd hni crow1
 go_loopg [7] n (fun gh v wr => ∃ acc q, v = .int .u32 ((gh : Nat) : Int) ∧ q.length = gh ∧ gh ≤ n ∧ Hid (acc ++ q = nm ++ p) ∧ Hid (SkI W8 wr rb c A sb acc q (four (crc (nm ++ p)) ++ rest)))
 case atStart => exact ⟨nm, p, rfl, Hpn.out.symm, Nat.le_refl _, Lib.hid rfl, HI8⟩
 case round =>
  obtain ⟨acc, q, rfl, hq, hgn, Hacc, HI⟩ := hrel
  have Hq := Lib.hid hq
  clear hq HI8
  have hdn : d ∉ [rb, c, A] := by simp; omega
  have Dwr : Dec wr d c rb td := HD8.out.fr HI.out.f (HI.out.f.cell HD8.out.row.lt hdn 0) (HI.out.f.cell HD8.out.row.lt hdn 2)
  have r0 := Dwr.r
  have r2 := Dwr.crc
  have HDwr := Lib.hid Dwr
  have HTwr := Lib.hid (HT8.out.fr HI.out.f (by simp; omega))
  have HRwr := Lib.hid (HI.out.f.row _ _ _ HRA.out)
  clear Dwr
  by_cases h0 : 0 < gk
  ·
   have t1 : decide ((0 : Int) < (gk : Int)) = true := by simp; omega
   have t2 : (0 : Int) < (gk : Int) := by omega
   have ewg : IntKind.i64.wrap (gk : Int) = (gk : Int) := IntWalk.i64_in _ (by omega)
   have HRF : Hid (∀ k, 0 < k → k ≤ 4096 → k ≤ gk → ∀ W' : World, Dr wr W' → Calls Tryz.prog 84 #[.iface 84 (.pointer (some ⟨rb, 0, none⟩)), .slice (some ⟨A, 0, none⟩) k 4096] W' fun e w' => e = .returned (.tuple #[.int .i64 (k : Int), .nilIface]) ∧ Fr [A, rb] wr w' ∧ Seg w' A 0 (q.take k) ∧ Src w' rb sb (q.drop k ++ (four (crc (nm ++ p)) ++ rest))) := Lib.hid fun k k0 k1 k2 W' hW' => by
    obtain ⟨m, rfl⟩ := hW'
    have hsrc : Src (wr.drewN m) rb sb (q.take k ++ (q.drop k ++ (four (crc (nm ++ p)) ++ rest))) := by
     rw [← List.append_assoc, List.take_append_drop]
     exact HI.out.s.fr ((Fr.refl [] wr).drewN m) (by simp) (by simp)
    refine (rf_full rb sb A 0 4096 4096 k 188 (q.take k) _ (wr.drewN m) hsrc (Lib.hid (by rw [List.length_take, Hq.out]; omega)) k0 HRwr.out.drewN (by omega) (by omega) (by omega)).mono ?_
    rintro e w' ⟨rfl, hF, hS, _, hs⟩
    exact ⟨rfl, hF.undrewN, hS, hs⟩
   go_upto_region 46 with (fail)
   go_cut [9, 10] (fun v9 v10 wx => ∃ k, 0 < k ∧ k ≤ 4096 ∧ k ≤ gk ∧ v9 = .int .i64 ((k : Nat) : Int) ∧ v10 = .nilIface ∧ Hid (Fr [A, rb] wr wx) ∧ Hid (Seg wx A 0 (q.take k)) ∧ Hid (Src wx rb sb (q.drop k ++ (four (crc (nm ++ p)) ++ rest))))
   case first =>
    by_cases hg : gk < 4096
    ·
     have t3 : (gk : Int) < 4096 := by omega
     have t4 : decide ((gk : Int) < 4096) = true := decide_eq_true t3
     have t5 : (gk : Int) ≤ 4096 := by omega
     have t6 : gk ≤ 4096 := by omega
     go_region_with (go_at_call 84; refine (HRF.out gk h0 t6 (Nat.le_refl _) _ ⟨_, rfl⟩).mono ?_; rintro e w5 ⟨rfl, hF5, hS5, hs5⟩)
     all_goals
      go_wp2
      go_meet
      case rel => exact ⟨gk, h0, t6, Nat.le_refl _, rfl, rfl, Lib.hid hF5, Lib.hid hS5, Lib.hid hs5⟩
    ·
     have t3 : ¬ (gk : Int) < 4096 := by omega
     have t4 : decide ((gk : Int) < 4096) = false := decide_eq_false t3
     go_region_with (go_at_call 84; refine (HRF.out 4096 (by decide) (by decide) (by omega) _ ⟨_, rfl⟩).mono ?_; rintro e w5 ⟨rfl, hF5, hS5, hs5⟩)
     all_goals
      go_wp2
      go_meet
      case rel => exact ⟨4096, by decide, by decide, by omega, rfl, rfl, Lib.hid hF5, Lib.hid hS5, Lib.hid hs5⟩
   case rest =>
    obtain ⟨k, k0, k1, k2, rfl, rfl, HF5, HS5, Hs5⟩ := hcut
    have hdn2 : d ∉ [A, rb] := by simp; omega
    have hcn2 : c ∉ [A, rb] := by simp; omega
    have HD5 := Lib.hid (HDwr.out.fr HF5.out (HF5.out.cell HDwr.out.row.lt hdn2 0) (HF5.out.cell HDwr.out.row.lt hdn2 2))
    have y2 := HD5.out.crc
    have HC5 := Lib.hid (crcW_acc c A 0 4096 k acc (q.take k) wc.drew (by rw [List.length_take, Hq.out]; omega) (by omega) 126 (HF5.out.row _ _ _ HDwr.out.crow) (HF5.out.cell' hcn2 HI.out.c) (HTwr.out.fr HF5.out (by simp; omega)) HS5.out)
    have e1 : (k : Int) % 4294967296 = (k : Int) := by omega
    obtain ⟨m2, hm2⟩ : ∃ m2, m2 = gk - k := ⟨_, rfl⟩
    have e2 : ((gk : Int) - (k : Int)) % 4294967296 = (m2 : Int) := by omega
    have e3 : (gk : Int) - (k : Int) = (m2 : Int) := by omega
    have e4 : (m2 : Int) % 4294967296 = (m2 : Int) := by omega
    have k3 : (k : Int) ≤ 4096 := by omega
    clear r0 r2 HRF
    go_wp2
    go_region_with (go_at_call 87; refine HC5.out.mono ?_; rintro e w6 ⟨rfl, hF6, hc6⟩)
    have HF6 := Lib.hid (show Fr [c] wc w6 from hF6.undrew)
    have Hc6 := Lib.hid hc6
    clear hF6 hc6 y2 HC5
    go_wp2
    go_roundg m2
    case measure => omega
    case rel =>
     refine ⟨acc ++ q.take k, q.drop k, by first | rfl | go_num | (congr 1; omega), by rw [List.length_drop, Hq.out, hm2], by omega, Lib.hid (by rw [List.append_assoc, List.take_append_drop]; exact Hacc.out), Lib.hid ⟨?_, ?_, Hc6.out⟩⟩
     ·
      exact (HI.out.f.trans (HF5.out.mono (by simp))).trans (HF6.out.mono (by simp))
     ·
      exact Hs5.out.fr HF6.out (by simpa using hcr.symm) (by simpa using hcs.symm)
  ·
   have t1 : decide ((0 : Int) < (gk : Int)) = false := by simp; omega
   have t2 : ¬ (0 : Int) < (gk : Int) := by omega
   have hq0 : q = [] := List.eq_nil_of_length_eq_zero (by rw [Hq.out]; omega)
   have hac : acc = nm ++ p := by have := Hacc.out; rwa [hq0, List.append_nil] at this
   have hsr := HI.out.s
   rw [hq0, List.nil_append] at hsr
   have hcc := HI.out.c
   rw [hac] at hcc
   have HV := Lib.hid (verify_ok d c rb sb td (four (crc (nm ++ p))) rest wr HDwr.out hsr hds hcs rfl (by rw [be4_four _ (crc_lt _)]; exact hcc))
   have HFI := Lib.hid HI.out.f
   clear r0 r2 hq0 hac hsr hcc h0
   go_wp2_with fail
   refine HV.out.mono ?_
   rintro e w9 ⟨rfl, hF9, hK9, hs9⟩
   have HF9 := Lib.hid hF9
   have HK9 := Lib.hid hK9
   have Hs9 := Lib.hid hs9
   clear hF9 hK9 hs9 HV
   go_wp2
   go_ret
   have hF : Fr [d, rb, c, A] w w9 := ((((HF.out.mono (by simp)).trans (HF13.out.mono (by simp))).trans (HF8.out.mono (by simp))).trans (HFI.out.mono (by simp))).trans (HF9.out.mono (by simp))
   refine ⟨rfl, ?_, ?_, Hs9.out⟩
   ·
    refine (Fr.refl [d, rb, c] w).new' hF ?_
    have h1 := HF.out.size
    have h2 := HF13.out.size
    have h3 := HF8.out.size
    have h4 : w.heap.size ≤ A := by
     have := HRA.out
     have hA2 := HA.out
     omega
    simp; omega
   ·
    intro o ho
    have hdA : d ∉ [rb, c, A] := hdn
    exact (HK9.out o (by omega)).trans ((HFI.out.cell HD8.out.row.lt hdA o).trans ((HF8.out.cell HD3.out.row.lt (by simp) o).trans ((HF13.out.cell HD1.out.row.lt hdc o).trans (Hsame.out o (by omega)))))
end Go.Proofs.YtnpkgmgedgcjmaaGreatDoor
end
