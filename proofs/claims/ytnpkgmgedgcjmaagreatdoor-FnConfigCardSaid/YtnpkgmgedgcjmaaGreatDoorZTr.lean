/- A part of the proof: Tr. -/
import Derived.Deep.CutBlock
import Derived.Deep.DeepCutAuto
import Derived.Deep.LoopGhost
import Derived.IntWalk
import Derived.Test.YtnpkgmgedgcjmaaGreatDoorZPl
set_option linter.all false
set_option maxRecDepth 100000
section
namespace Go.Proofs.YtnpkgmgedgcjmaaGreatDoor
open Go Go.RowKit Png
def nrgbV (r g b a : Nat) : Value := .iface 141 (.agg #[.int .u8 r, .int .u8 g, .int .u8 b, .int .u8 a])
@[go_sem] theorem ta142 (v : Value) (w : World) : (Instr.typeAssert (.iface 142 v) 140 142 false).run Tryz.prog w = .ok v w := by kernel_rfl
set_option maxHeartbeats 8000000 in
theorem parsetRNS_pal (d c rb sb B m np cb : Nat) (R G U : Nat → Nat) (td : TypeId) (p acc rest : List UInt8) (w : World) (hd : Dec w d c rb td)
  (hs : Src w rb sb (p ++ (four (crc (acc ++ p)) ++ rest))) (hds : d ≠ sb) (hcs : c ≠ sb) (hp : p.length = m)
  (hc : w.cell? ⟨c, 0, none⟩ = some (.int .u32 (crc acc : Nat))) (hT : Tab w 3 .u32 256 crc8) (hT3 : d ≠ 3 ∧ rb ≠ 3)
  (h7 : w.cell? ⟨d, 7, none⟩ = some (.int .i64 cb)) (hcb : cb = 7 ∨ cb = 8 ∨ cb = 9 ∨ cb = 10)
  (h6 : w.cell? ⟨d, 6, none⟩ = some (.slice (some ⟨B, 0, none⟩) np 256)) (hm0 : 0 < m) (hmp : m ≤ np) (hnp : np ≤ 256)
  (hB : B ≠ d ∧ B ≠ rb ∧ B ≠ c ∧ B ≠ sb) (hR : Row w B 140 256) (hcell : ∀ k, k < np → w.cell? ⟨B, k, none⟩ = some (rgbV (R k) (G k) (U k))) :
  Calls Tryz.prog 91 #[.pointer (some ⟨d, 0, none⟩), .int .u32 (m : Int)] w fun e w' => 
   e = .returned .nilIface ∧ Fr [d, rb, c, B] w w' ∧
    (∀ o, (o < 10 ∨ 778 ≤ o) → w'.cell? ⟨d, o, none⟩ = w.cell? ⟨d, o, none⟩) ∧ Src w' rb sb rest ∧
     (∀ k, k < m → w'.cell? ⟨B, k, none⟩ = some (nrgbV (R k) (G k) (U k) (nb p k))) ∧
     ∀ k, m ≤ k → w'.cell? ⟨B, k, none⟩ = w.cell? ⟨B, k, none⟩ := by
 have C := rf_full rb sb d 10 768 786 m td p _ w.drew hs (Lib.hid hp) (by omega) hd.row (by omega) hd.ne.2.2 hds
 have HC := Lib.hid C
 have Hp := Lib.hid hp
 have g1 : (m : Int) ≤ 256 := by omega
 have g2 : (m : Int) ≤ (np : Int) := by omega
 have g3 : (m : Int) ≤ 768 := by omega
 have gd : (np < m) = False := by simp; omega
 have Hcell := Lib.hid hcell
 have HR := Lib.hid hR
 have hr := hd.r
 clear C hs hp hcell hR
 rcases hcb with rfl | rfl | rfl | rfl
 all_goals
  go_enter Tryz.func91, Tryz.ntmps91
  go_wp2
  go_region_with (go_at_call 84; refine HC.out.mono ?_; rintro e w1 ⟨rfl, hF, hS, hsame, hsrc⟩)
  have hcd := hd.ne.1
  have hcr := hd.ne.2.1
  have hdr := hd.ne.2.2
  have r2 : w1.cell? ⟨d, 2, none⟩ = some (.pointer (some ⟨c, 0, none⟩)) := by rw [hsame 2 (by omega)]; exact hd.crc
  have C2 := crcW_acc c d 10 768 m acc p w1.drew Hp.out (by omega) 126 (hF.row _ _ _ hd.crow) ((hF.cell (by simpa using hd.crow.lt) (by simp [hcd, hcr]) 0).trans hc)
   (Tab.fr hF (by simp [hT3.1.symm, hT3.2.symm]) hT) hS
  have HC2 := Lib.hid C2
  have r6 : w1.cell? ⟨d, 6, none⟩ = some (.slice (some ⟨B, 0, none⟩) np 256) := by rw [hsame 6 (by omega)]; exact h6
  have Hsame := Lib.hid hsame
  have HF := Lib.hid hF
  have Hc := Lib.hid hc
  clear C2 hsame hr hF HC hc h6 h7
  go_wp2
  go_region_with (go_at_call 87; refine HC2.out.mono ?_; rintro e w2 ⟨rfl, hF2, hc2⟩)
  have hdc : d ∉ [c] := by simpa using hcd.symm
  have S2 := hS.fr hF2.undrew hdc
  have R2 := hF2.undrew.row _ _ _ (HF.out.row _ _ _ hd.row)
  have s6 := hF2.undrew.cell' (by simpa using hcd.symm) r6
  have HF2 := Lib.hid hF2.undrew
  have Hc2 := Lib.hid hc2
  have HT := Lib.hid hT
  have hBn : B ∉ [d, rb] ∧ B ∉ [c] := by simp [hB]
  have HR2 := HF2.out.row _ _ _ (HF.out.row _ _ _ HR.out)
  have Cl2 : ∀ k, w2.cell? ⟨B, k, none⟩ = w.cell? ⟨B, k, none⟩ := fun k => (HF2.out.cell (HF.out.undrew.row _ _ _ HR.out).lt hBn.2 k).trans (HF.out.undrew.cell HR.out.lt hBn.1 k)
  have HCl2 := Lib.hid Cl2
  clear hF2 hc2 hT HC2 hS r2 r6 Cl2
  have HS2 := Lib.hid S2
  have HR2d := Lib.hid R2
  have hdB : d ∉ [B] := by simpa using hB.1.symm
  clear S2 R2
  go_wp2
  go_loopg [11] m (fun g i wr => ∃ j : Nat, j + g = m ∧ i = .int .i64 j ∧ Fr [B] w2 wr ∧
   (∀ k, k < j → wr.cell? ⟨B, k, none⟩ = some (nrgbV (R k) (G k) (U k) (nb p k))) ∧ ∀ k, j ≤ k → wr.cell? ⟨B, k, none⟩ = w.cell? ⟨B, k, none⟩)
  case atStart => exact ⟨0, by omega, rfl, Fr.refl _ _, fun k hk => absurd hk (Nat.not_lt_zero k), fun k _ => HCl2.out k⟩
  case round =>
   obtain ⟨j, hj, rfl, FL, hL, hM⟩ := hrel
   have q6 := FL.cell' hdB s6
   have Hq := Lib.hid hL
   have HM := Lib.hid hM
   have HFL := Lib.hid FL
   have RBr := FL.row _ _ _ HR2
   have Hj := Lib.hid hj
   by_cases hlt : j < m
   ·
    have cj : wr.cell? ⟨B, j, none⟩ = some (.iface 142 (.agg #[.int .u8 (R j), .int .u8 (G j), .int .u8 (U j), .int .u8 255])) := (hM j (Nat.le_refl j)).trans (Hcell.out j (by omega))
    have xj := (HS2.out.fr FL hdB) j (by rw [Hp.out]; exact hlt)
    have hfB := RBr.frozen
    have hgB := RBr.has
    have hj256 : (j : Int) < 256 := by omega
    have hj768 : (j : Int) < 768 := by omega
    have hjnp : (j : Int) < (np : Int) := by omega
    have HRBr := Lib.hid RBr
    clear hL hM FL RBr hj hfB hgB
    go_wp2
    generalize hWa : World.alloc _ _ = Wa
    have Fa : Fr [] wr Wa := by rw [← hWa]; exact (Fr.refl _ _).alloc _
    have q6a := Fa.cell' (by simp) q6
    have cja := Fa.cell' (by simp) cj
    have xja := Fa.cell' (by simp) xj
    have Ra := Fa.row _ _ _ HRBr.out
    have hfB := Ra.frozen
    have hgB := Ra.has
    have a0 : Wa.cell? ⟨wr.heap.size, 0, none⟩ = some (.int .u8 (R j)) := by rw [← hWa]; unfold World.cell?; rw [heap_alloc_new]; rfl
    have a1 : Wa.cell? ⟨wr.heap.size, 1, none⟩ = some (.int .u8 (G j)) := by rw [← hWa]; unfold World.cell?; rw [heap_alloc_new]; rfl
    have a2 : Wa.cell? ⟨wr.heap.size, 2, none⟩ = some (.int .u8 (U j)) := by rw [← hWa]; unfold World.cell?; rw [heap_alloc_new]; rfl
    have HFa := Lib.hid (HFL.out.trans (Fa.mono (by simp)))
    have HFa0 := Lib.hid Fa
    clear Ra hWa q6 cj xj Fa
    go_still_tail 20, (by kernel_rfl)
    go_wp2
    go_roundg (gk - 1)
    case measure => have := Hj.out; omega
    case rel =>
     have := Hj.out
     have hBlt := HRBr.out.lt
     refine ⟨j + 1, by omega, by go_num, ?_, ?_, ?_⟩
     ·
      exact HFa.out.drew.setCell _ _ (.inl (by simp))
     ·
      intro k hk
      by_cases hkj : k = j
      ·
       subst hkj
       exact cell?_setCell_has Wa.drew ⟨B, k, none⟩ (nrgbV (R k) (G k) (U k) (nb p k)) (hgB k (by omega))
      ·
       exact (off_ne Wa.drew B k j _ (fun e => hkj e.symm)).trans ((HFa0.out.cell hBlt (by simp) k).trans (Hq.out k (by omega)))
     ·
      intro k hk
      exact (off_ne Wa.drew B k j _ (by omega)).trans ((HFa0.out.cell hBlt (by simp) k).trans (HM.out k (by omega)))
   ·
    have hjm : j = m := by have := Hj.out; omega
    subst hjm
    clear hlt Hj hL hM
    go_wp2_with fail
    have hBlt := HR2.lt
    have D2 : Dec w2 d c rb td := (hd.fr HF.out.undrew (Hsame.out 0 (by omega)) (Hsame.out 2 (by omega))).fr HF2.out (HF2.out.cell (HF.out.undrew.row _ _ _ hd.row).lt hdc 0) (HF2.out.cell (HF.out.undrew.row _ _ _ hd.row).lt hdc 2)
    have D3 := D2.fr HFL.out (HFL.out.cell D2.row.lt hdB 0) (HFL.out.cell D2.row.lt hdB 2)
    have S3 := (hsrc.fr HF2.out (by simpa using hcr.symm) (by simpa using hcs.symm)).fr HFL.out (by simpa using hB.2.1.symm) (by simpa using hB.2.2.2.symm)
    have C3 := HFL.out.cell' (by simpa using hB.2.2.1.symm) Hc2.out
    refine (verify_ok d c rb sb td (four (crc (acc ++ p))) rest wr D3 S3 hds hcs rfl (by rw [be4_four _ (crc_lt _)]; exact C3)).mono ?_
    rintro e w6 ⟨rfl, F6, K6, S6⟩
    have HD2 := Lib.hid D2
    have Hk6 := Lib.hid K6
    clear K6 D2 D3 S3 C3
    go_wp2
    go_ret
    refine ⟨rfl, ?_, ?_, S6, ?_, ?_⟩
    ·
     exact (((HF.out.undrew.mono (by simp)).trans (HF2.out.mono (by simp))).trans (HFL.out.mono (by simp))).trans (F6.mono (by simp))
    ·
     intro o ho
     exact (Hk6.out o (by omega)).trans ((HFL.out.cell HD2.out.row.lt hdB o).trans ((HF2.out.cell (HF.out.undrew.row _ _ _ hd.row).lt hdc o).trans (Hsame.out o (by omega))))
    ·
     intro k hk
     rw [F6.cell RBr.lt hBn.1]; exact Hq.out k hk
    ·
     intro k hk
     rw [F6.cell RBr.lt hBn.1]; exact HM.out k hk
end Go.Proofs.YtnpkgmgedgcjmaaGreatDoor
end
