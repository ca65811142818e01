/- A part of the proof: Ih. -/
import Derived.Deep.CutBlock
import Derived.Deep.DeepCutAuto
import Derived.IntWalk
import Derived.Test.YtnpkgmgedgcjmaaGreatDoorZHd
set_option linter.all false
set_option maxRecDepth 100000
section
namespace Go.Proofs.YtnpkgmgedgcjmaaGreatDoor
open Go Go.RowKit Png
set_option maxHeartbeats 20000000 in
theorem parseIHDR_ok (d c rb sb W H dp ct il : Nat) (td : TypeId) (h acc rest : List UInt8) (w : World) (hd : Dec w d c rb td)
  (hs : Src w rb sb (h ++ (four (crc (acc ++ h)) ++ rest))) (hds : d ≠ sb) (hcs : c ≠ sb) (hh : h.length = 13)
  (hc : w.cell? ⟨c, 0, none⟩ = some (.int .u32 (crc acc : Nat))) (hT : Tab w 3 .u32 256 crc8) (hT3 : d ≠ 3 ∧ rb ≠ 3)
  (hW : be4 h 0 = W) (hH : be4 h 4 = H) (hdp : nb h 8 = dp) (hct : nb h 9 = ct) (h10 : nb h 10 = 0) (h11 : nb h 11 = 0) (h12 : nb h 12 = il) (hil : il = 0 ∨ il = 1)
  (hk : Kinds ct dp) (hW0 : 0 < W) (hH0 : 0 < H) (hW1 : W ≤ 16384) (hH1 : H ≤ 16384) :
  Calls Tryz.prog 88 #[.pointer (some ⟨d, 0, none⟩), .int .u32 13] w fun e w' =>
   e = .returned .nilIface ∧ Fr [d, rb, c] w w' ∧
    (∀ o, (o ≠ 3 ∧ o ≠ 4 ∧ o ≠ 5 ∧ o ≠ 7 ∧ (o < 10 ∨ 778 < o)) → w'.cell? ⟨d, o, none⟩ = w.cell? ⟨d, o, none⟩) ∧ Src w' rb sb rest ∧
    w'.cell? ⟨d, 3, none⟩ = some (.int .i64 W) ∧ w'.cell? ⟨d, 4, none⟩ = some (.int .i64 H) ∧ w'.cell? ⟨d, 5, none⟩ = some (.int .i64 dp) ∧
    w'.cell? ⟨d, 7, none⟩ = some (.int .i64 (cbOf ct dp : Nat)) ∧ w'.cell? ⟨d, 778, none⟩ = some (.int .i64 il) := by
 have hr := hd.r
 have C := rf_full rb sb d 10 768 786 13 td h _ w.drew hs (Lib.hid hh) (by omega) hd.row (by omega) hd.ne.2.2 hds
 have HC := Lib.hid C
 have Hh := Lib.hid hh
 have hcd := hd.ne.1
 have hcr := hd.ne.2.1
 have hdr := hd.ne.2.2
 have HW := Lib.hid hW
 have HH := Lib.hid hH
 have Hct := Lib.hid hct
 have Hdp := Lib.hid hdp
 have H10 := Lib.hid h10
 have H11 := Lib.hid h11
 have H12 := Lib.hid h12
 have Hc := Lib.hid hc
 clear C hs hh hc hW hH hdp hct h10 h11 h12
 go_enter Tryz.func88, Tryz.ntmps88
 go_wp2
 go_region_with (go_at_call 84; refine HC.out.mono ?_; rintro e w1 ⟨rfl, hF, hS, hsame, hsrc⟩)
 have r2 : w1.cell? ⟨d, 2, none⟩ = some (.pointer (some ⟨c, 0, none⟩)) := by rw [hsame 2 (by omega)]; exact hd.crc
 have C2 := crcW_acc c d 10 768 13 acc h w1.drew Hh.out (by omega) 126 (hF.row _ _ _ hd.crow) ((hF.cell (by simpa using hd.crow.lt) (by simp [hcd, hcr]) 0).trans Hc.out)
  (Tab.fr hF (by simp [hT3.1.symm, hT3.2.symm]) hT) hS
 have HC2 := Lib.hid C2
 have Hsame := Lib.hid hsame
 have HF := Lib.hid hF
 clear C2 hsame hr hF HC Hc
 go_wp2
 go_region_with (go_at_call 87; refine HC2.out.mono ?_; rintro e w2 ⟨rfl, hF2, hc2⟩)
 have hdc : d ∉ [c] := by simpa using hcd.symm
 have S2 := hS.fr hF2.undrew hdc
 have R2 := hF2.undrew.row _ _ _ (HF.out.row _ _ _ hd.row)
 have hf := R2.frozen
 have x8 := S2 8 (by rw [Hh.out]; omega)
 have x9 := S2 9 (by rw [Hh.out]; omega)
 have x10 := S2 10 (by rw [Hh.out]; omega)
 have x11 := S2 11 (by rw [Hh.out]; omega)
 have x12 := S2 12 (by rw [Hh.out]; omega)
 rw [Hdp.out] at x8
 rw [Hct.out] at x9
 rw [H10.out] at x10
 rw [H11.out] at x11
 rw [H12.out] at x12
 simp only [Nat.reduceAdd] at x8 x9 x10 x11 x12
 have hg := R2.has
 obtain ⟨v778, y778⟩ := R2.cell (o := 778) (by omega)
 obtain ⟨v3, y3⟩ := R2.cell (o := 3) (by omega)
 obtain ⟨v4, y4⟩ := R2.cell (o := 4) (by omega)
 obtain ⟨v5, y5⟩ := R2.cell (o := 5) (by omega)
 obtain ⟨v7, y7⟩ := R2.cell (o := 7) (by omega)
 have Hc2 := Lib.hid hc2
 have HT := Lib.hid hT
 have HS2 := Lib.hid S2
 have HF2 := Lib.hid hF2.undrew
 have HK := Lib.hid hk
 have Hsrc := Lib.hid hsrc
 have ho14 : ∀ w : World, Seg w d 10 h → Calls Tryz.prog 85 #[.slice (some ⟨d, 10, none⟩) 4 768] w fun e w' => e = .returned (.int .u32 (W : Nat)) ∧ Dr w w' := fun w hw => by
  have := be32_any d 10 0 4 768 h w (by rw [Hh.out]; omega) (by omega) hw
  rw [HW.out] at this; exact this
 have ho15 : ∀ w : World, Seg w d 10 h → Calls Tryz.prog 85 #[.slice (some ⟨d, 14, none⟩) 4 764] w fun e w' => e = .returned (.int .u32 (H : Nat)) ∧ Dr w w' := fun w hw => by
  have := be32_any d 10 4 4 764 h w (by rw [Hh.out]; omega) (by omega) hw
  rw [HH.out] at this; exact this
 have Ho14 := Lib.hid ho14
 have Ho15 := Lib.hid ho15
 clear hc2 hT S2 hF2 HC2 hS r2 ho14 ho15 hk hsrc
 have eW : IntKind.i64.wrap ((W : Int) * (H : Int)) = (W : Int) * (H : Int) := by
  have h1 : W * H ≤ 16384 * 16384 := Nat.mul_le_mul hW1 hH1
  have h2 : (0 : Int) ≤ (W : Int) * (H : Int) := by have := Int.natCast_nonneg (W * H); simpa using this
  have h3 : (W : Int) * (H : Int) ≤ 268435456 := by
   have : ((W * H : Nat) : Int) ≤ 268435456 := by omega
   simpa using this
  rw [IntKind.wrap_i64]; omega
 have eT : ((W : Int) * (H : Int) != wrap64 ((wrap64 ((W : Int) * (H : Int) * 8)).tdiv 8)) = false := by
  have h1 : W * H ≤ 16384 * 16384 := Nat.mul_le_mul hW1 hH1
  rw [show (W : Int) * (H : Int) = ((W * H : Nat) : Int) by simp]
  generalize W * H = p at h1
  have e1 : wrap64 ((p : Int) * 8) = (p : Int) * 8 := by unfold wrap64; omega
  have e2 : ((p : Int) * 8).tdiv 8 = (p : Int) := Int.mul_tdiv_cancel _ (by decide)
  have e3 : wrap64 (p : Int) = (p : Int) := by unfold wrap64; omega
  rw [e1, e2, e3]; simp
 have f1 : wrap64 1 = 1 := by unfold wrap64; omega
 have f2 : wrap64 2 = 2 := by unfold wrap64; omega
 have f4 : wrap64 4 = 4 := by unfold wrap64; omega
 have f8 : wrap64 8 = 8 := by unfold wrap64; omega
 have f16 : wrap64 16 = 16 := by unfold wrap64; omega
 have hb8 : dp ≤ 16 := by have := HK.out; unfold Kinds at this; omega
 have hb9 : ct ≤ 6 := by have := HK.out; unfold Kinds at this; omega
 have D1 : Dec w1 d c rb td := hd.fr HF.out.undrew (Hsame.out 0 (by omega)) (Hsame.out 2 (by omega))
 have D2 : Dec w2 d c rb td := D1.fr HF2.out (HF2.out.cell (D1.row.lt) hdc 0) (HF2.out.cell (D1.row.lt) hdc 2)
 have S2 : Src w2 rb sb (four (crc (acc ++ h)) ++ rest) := Hsrc.out.fr HF2.out (by simpa using hcr.symm) (by simpa using hcs.symm)
 have HD2 := Lib.hid D2
 have HSS := Lib.hid S2
 clear D1 D2 S2
 rcases hil with rfl | rfl
 all_goals
  go_wp2_with fail
  refine (Ho14.out _ (HS2.out.set _ _ (fun _ => .inr (by rw [Hh.out]; simp)))).mono ?_
  rintro e w' ⟨rfl, ⟨k1, rfl⟩⟩
  go_wp2_with fail
  refine (Ho15.out _ (by exact HS2.out.set _ _ (fun _ => .inr (by rw [Hh.out]; simp)))).mono ?_
  rintro e w' ⟨rfl, ⟨k2, rfl⟩⟩
  go_upto_block 0 with (fail)
  have hk := HK.out
  unfold Kinds at hk
  clear eW eT x10 x11 x12
  rcases hk with ⟨rfl, rfl⟩ | ⟨rfl, rfl⟩ | ⟨rfl, rfl⟩ | ⟨rfl, rfl⟩ | ⟨rfl, rfl⟩ | ⟨rfl, rfl⟩ | ⟨rfl, rfl⟩ | ⟨rfl, rfl⟩ | ⟨rfl, rfl⟩ | ⟨rfl, rfl⟩ | ⟨rfl, rfl⟩ | ⟨rfl, rfl⟩ | ⟨rfl, rfl⟩ | ⟨rfl, rfl⟩ | ⟨rfl, rfl⟩
  all_goals
   go_wp2_with fail
   generalize hW3 : World.setCell _ _ _ = W3
   have F3 : Fr [d] w2 W3 := by rw [← hW3]; exact ((((((Fr.refl _ w2).setCell _ _ (.inl (by simp))).drewN _).setCell _ _ (.inl (by simp))).setCell _ _ (.inl (by simp))).setCell _ _ (.inl (by simp))).setCell _ _ (.inl (by simp)) |>.setCell _ _ (.inl (by simp))
   have K3 : ∀ o, o ≠ 3 → o ≠ 4 → o ≠ 5 → o ≠ 7 → o ≠ 778 → W3.cell? ⟨d, o, none⟩ = w2.cell? ⟨d, o, none⟩ := by
    intro o a b c e f
    rw [← hW3, off_ne _ _ _ _ _ (Ne.symm b), off_ne _ _ _ _ _ (Ne.symm a), off_ne _ _ _ _ _ (Ne.symm e), off_ne _ _ _ _ _ (Ne.symm c), off_ne _ _ _ _ _ (Ne.symm e), World.cell?_drewN, off_ne _ _ _ _ _ (Ne.symm f)]
   refine (verify_ok d c rb sb td (four (crc (acc ++ h))) rest W3 (HD2.out.fr F3 (K3 0 (by omega) (by omega) (by omega) (by omega) (by omega)) (K3 2 (by omega) (by omega) (by omega) (by omega) (by omega)))
    (HSS.out.fr F3 (by simpa using hdr.symm) (by simpa using hds.symm)) hds hcs rfl (by rw [be4_four _ (crc_lt _)]; exact F3.cell' (by simpa using hcd) Hc2.out)).mono ?_
   rintro e w4 ⟨rfl, F4, K4, S4⟩
   have Hk3 := Lib.hid K3
   have Hk4 := Lib.hid K4
   have Hw3 := Lib.hid hW3
   clear K3 K4 hW3 x8 x9 hf y778 y3 y4 y5 y7
   go_wp2
   go_ret
   refine ⟨rfl, ?_, ?_, S4, ?_, ?_, ?_, ?_, ?_⟩
   ·
    exact (((HF.out.undrew.mono (by simp)).trans (HF2.out.mono (by simp))).trans (F3.mono (by simp))).trans (F4.mono (by simp))
   ·
    rintro o ⟨o3, o4, o5, o7, o8⟩
    exact (Hk4.out o (by omega)).trans ((Hk3.out o o3 o4 o5 o7 (by omega)).trans ((HF2.out.cell (HF.out.undrew.row _ _ _ hd.row).lt hdc o).trans (Hsame.out o (by omega))))
   ·
    exact (Hk4.out 3 (by omega)).trans (by rw [← Hw3.out]; go_simp)
   ·
    exact (Hk4.out 4 (by omega)).trans (by rw [← Hw3.out]; go_simp)
   ·
    exact (Hk4.out 5 (by omega)).trans (by rw [← Hw3.out]; go_simp)
   ·
    exact (Hk4.out 7 (by omega)).trans (by rw [← Hw3.out]; simp only [cbOf]; go_simp)
   ·
    exact (Hk4.out 778 (by omega)).trans (by rw [← Hw3.out]; go_simp)
end Go.Proofs.YtnpkgmgedgcjmaaGreatDoor
end
