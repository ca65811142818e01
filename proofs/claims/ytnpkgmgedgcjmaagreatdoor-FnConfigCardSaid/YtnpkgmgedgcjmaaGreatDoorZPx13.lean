/- A part of the proof: Px13. -/
import Derived.Test.YtnpkgmgedgcjmaaGreatDoorZPx0
set_option linter.all false
set_option maxRecDepth 100000
section
namespace Go.Proofs.YtnpkgmgedgcjmaaGreatDoor.Pr
open Go.RowKit Go.Proofs.YtnpkgmgedgcjmaaGreatDoorW.PrintWords Go.Proofs.YtnpkgmgedgcjmaaGreatDoorW.PrintLast Go.Proofs.YtnpkgmgedgcjmaaGreatDoorW.PrintMore
attribute [local go_sem] max2_int max_two
def spec_IsKind.f (a0 : Int) (a1 : Int) : Option (Bool) := if a0 = 0 then (if a1 = 1 then (some true) else (if a1 = 2 then (some true) else (if a1 = 4 then (some true) else (if a1 = 8 then (some true) else (some (a1 == 16)))))) else (if a0 = 3 then (if a1 = 1 then (some true) else (if a1 = 2 then (some true) else (if a1 = 4 then (some true) else (some (a1 == 8))))) else (if a0 = 2 then (if a1 = 8 then (some true) else (some (a1 == 16))) else (if a0 = 4 then (if a1 = 8 then (some true) else (some (a1 == 16))) else (if a0 = 6 then (if a1 = 8 then (some true) else (some (a1 == 16))) else (some false)))))
set_option maxHeartbeats 8000000 in
theorem spec_IsKind.calls (a0 : Int) (a1 : Int) (r : Bool) (w : World) (h : spec_IsKind.f a0 a1 = some r) :
  Calls Tryz.prog 83 #[.int .i64 a0, .int .i64 a1] w fun e w' => e = .returned (.bool r) ∧ Drawn0 w w' := by
 have H : (if a0 = 0 then (if a1 = 1 then (some true) else (if a1 = 2 then (some true) else (if a1 = 4 then (some true) else (if a1 = 8 then (some true) else (some (a1 == 16)))))) else (if a0 = 3 then (if a1 = 1 then (some true) else (if a1 = 2 then (some true) else (if a1 = 4 then (some true) else (some (a1 == 8))))) else (if a0 = 2 then (if a1 = 8 then (some true) else (some (a1 == 16))) else (if a0 = 4 then (if a1 = 8 then (some true) else (some (a1 == 16))) else (if a0 = 6 then (if a1 = 8 then (some true) else (some (a1 == 16))) else (some false)))))) = some r := h
 clear h
 by_cases c3 : a0 = 0
 ·
  rw [if_pos c3] at H
  have c3b0 : (a0 == 0) = true := beq_iff_eq.mpr c3
  have c3b1 : (a0 != 0) = false := bne_eq_false_iff_eq.mpr c3
  clear c3
  by_cases c4 : a1 = 1
  ·
   rw [if_pos c4] at H
   have c4b0 : (a1 == 1) = true := beq_iff_eq.mpr c4
   have c4b1 : (a1 != 1) = false := bne_eq_false_iff_eq.mpr c4
   clear c4
   obtain rfl := Option.some.inj H
   go_enter Tryz.func83, Tryz.ntmps83
   go_wp2
   go_ret
   exact ⟨by first | rfl | (simp; done) | (simp [*]; done), by repeat (first | exact Drawn0.refl _ | apply Drawn0.step)⟩
  ·
   rw [if_neg c4] at H
   have c4b0 : (a1 == 1) = false := beq_eq_false_iff_ne.mpr c4
   have c4b1 : (a1 != 1) = true := bne_iff_ne.mpr c4
   by_cases c5 : a1 = 2
   ·
    rw [if_pos c5] at H
    have c5b0 : (a1 == 2) = true := beq_iff_eq.mpr c5
    have c5b1 : (a1 != 2) = false := bne_eq_false_iff_eq.mpr c5
    clear c5
    obtain rfl := Option.some.inj H
    go_enter Tryz.func83, Tryz.ntmps83
    go_wp2
    go_ret
    exact ⟨by first | rfl | (simp; done) | (simp [*]; done), by repeat (first | exact Drawn0.refl _ | apply Drawn0.step)⟩
   ·
    rw [if_neg c5] at H
    have c5b0 : (a1 == 2) = false := beq_eq_false_iff_ne.mpr c5
    have c5b1 : (a1 != 2) = true := bne_iff_ne.mpr c5
    by_cases c6 : a1 = 4
    ·
     rw [if_pos c6] at H
     have c6b0 : (a1 == 4) = true := beq_iff_eq.mpr c6
     have c6b1 : (a1 != 4) = false := bne_eq_false_iff_eq.mpr c6
     clear c6
     obtain rfl := Option.some.inj H
     go_enter Tryz.func83, Tryz.ntmps83
     go_wp2
     go_ret
     exact ⟨by first | rfl | (simp; done) | (simp [*]; done), by repeat (first | exact Drawn0.refl _ | apply Drawn0.step)⟩
    ·
     rw [if_neg c6] at H
     have c6b0 : (a1 == 4) = false := beq_eq_false_iff_ne.mpr c6
     have c6b1 : (a1 != 4) = true := bne_iff_ne.mpr c6
     by_cases c7 : a1 = 8
     ·
      rw [if_pos c7] at H
      have c7b0 : (a1 == 8) = true := beq_iff_eq.mpr c7
      have c7b1 : (a1 != 8) = false := bne_eq_false_iff_eq.mpr c7
      clear c7
      obtain rfl := Option.some.inj H
      go_enter Tryz.func83, Tryz.ntmps83
      go_wp2
      go_ret
      exact ⟨by first | rfl | (simp; done) | (simp [*]; done), by repeat (first | exact Drawn0.refl _ | apply Drawn0.step)⟩
     ·
      rw [if_neg c7] at H
      have c7b0 : (a1 == 8) = false := beq_eq_false_iff_ne.mpr c7
      have c7b1 : (a1 != 8) = true := bne_iff_ne.mpr c7
      obtain rfl := Option.some.inj H
      go_enter Tryz.func83, Tryz.ntmps83
      go_wp2
      go_ret
      exact ⟨by first | rfl | (simp; done) | (simp [*]; done), by repeat (first | exact Drawn0.refl _ | apply Drawn0.step)⟩
 ·
  rw [if_neg c3] at H
  have c3b0 : (a0 == 0) = false := beq_eq_false_iff_ne.mpr c3
  have c3b1 : (a0 != 0) = true := bne_iff_ne.mpr c3
  by_cases c8 : a0 = 3
  ·
   rw [if_pos c8] at H
   have c8b0 : (a0 == 3) = true := beq_iff_eq.mpr c8
   have c8b1 : (a0 != 3) = false := bne_eq_false_iff_eq.mpr c8
   clear c8
   by_cases c9 : a1 = 1
   ·
    rw [if_pos c9] at H
    have c9b0 : (a1 == 1) = true := beq_iff_eq.mpr c9
    have c9b1 : (a1 != 1) = false := bne_eq_false_iff_eq.mpr c9
    clear c9
    obtain rfl := Option.some.inj H
    go_enter Tryz.func83, Tryz.ntmps83
    go_wp2
    go_ret
    exact ⟨by first | rfl | (simp; done) | (simp [*]; done), by repeat (first | exact Drawn0.refl _ | apply Drawn0.step)⟩
   ·
    rw [if_neg c9] at H
    have c9b0 : (a1 == 1) = false := beq_eq_false_iff_ne.mpr c9
    have c9b1 : (a1 != 1) = true := bne_iff_ne.mpr c9
    by_cases c10 : a1 = 2
    ·
     rw [if_pos c10] at H
     have c10b0 : (a1 == 2) = true := beq_iff_eq.mpr c10
     have c10b1 : (a1 != 2) = false := bne_eq_false_iff_eq.mpr c10
     clear c10
     obtain rfl := Option.some.inj H
     go_enter Tryz.func83, Tryz.ntmps83
     go_wp2
     go_ret
     exact ⟨by first | rfl | (simp; done) | (simp [*]; done), by repeat (first | exact Drawn0.refl _ | apply Drawn0.step)⟩
    ·
     rw [if_neg c10] at H
     have c10b0 : (a1 == 2) = false := beq_eq_false_iff_ne.mpr c10
     have c10b1 : (a1 != 2) = true := bne_iff_ne.mpr c10
     by_cases c11 : a1 = 4
     ·
      rw [if_pos c11] at H
      have c11b0 : (a1 == 4) = true := beq_iff_eq.mpr c11
      have c11b1 : (a1 != 4) = false := bne_eq_false_iff_eq.mpr c11
      clear c11
      obtain rfl := Option.some.inj H
      go_enter Tryz.func83, Tryz.ntmps83
      go_wp2
      go_ret
      exact ⟨by first | rfl | (simp; done) | (simp [*]; done), by repeat (first | exact Drawn0.refl _ | apply Drawn0.step)⟩
     ·
      rw [if_neg c11] at H
      have c11b0 : (a1 == 4) = false := beq_eq_false_iff_ne.mpr c11
      have c11b1 : (a1 != 4) = true := bne_iff_ne.mpr c11
      obtain rfl := Option.some.inj H
      go_enter Tryz.func83, Tryz.ntmps83
      go_wp2
      go_ret
      exact ⟨by first | rfl | (simp; done) | (simp [*]; done), by repeat (first | exact Drawn0.refl _ | apply Drawn0.step)⟩
  ·
   rw [if_neg c8] at H
   have c8b0 : (a0 == 3) = false := beq_eq_false_iff_ne.mpr c8
   have c8b1 : (a0 != 3) = true := bne_iff_ne.mpr c8
   by_cases c12 : a0 = 2
   ·
    rw [if_pos c12] at H
    have c12b0 : (a0 == 2) = true := beq_iff_eq.mpr c12
    have c12b1 : (a0 != 2) = false := bne_eq_false_iff_eq.mpr c12
    clear c12
    by_cases c13 : a1 = 8
    ·
     rw [if_pos c13] at H
     have c13b0 : (a1 == 8) = true := beq_iff_eq.mpr c13
     have c13b1 : (a1 != 8) = false := bne_eq_false_iff_eq.mpr c13
     clear c13
     obtain rfl := Option.some.inj H
     go_enter Tryz.func83, Tryz.ntmps83
     go_wp2
     go_ret
     exact ⟨by first | rfl | (simp; done) | (simp [*]; done), by repeat (first | exact Drawn0.refl _ | apply Drawn0.step)⟩
    ·
     rw [if_neg c13] at H
     have c13b0 : (a1 == 8) = false := beq_eq_false_iff_ne.mpr c13
     have c13b1 : (a1 != 8) = true := bne_iff_ne.mpr c13
     obtain rfl := Option.some.inj H
     go_enter Tryz.func83, Tryz.ntmps83
     go_wp2
     go_ret
     exact ⟨by first | rfl | (simp; done) | (simp [*]; done), by repeat (first | exact Drawn0.refl _ | apply Drawn0.step)⟩
   ·
    rw [if_neg c12] at H
    have c12b0 : (a0 == 2) = false := beq_eq_false_iff_ne.mpr c12
    have c12b1 : (a0 != 2) = true := bne_iff_ne.mpr c12
    by_cases c14 : a0 = 4
    ·
     rw [if_pos c14] at H
     have c14b0 : (a0 == 4) = true := beq_iff_eq.mpr c14
     have c14b1 : (a0 != 4) = false := bne_eq_false_iff_eq.mpr c14
     clear c14
     by_cases c15 : a1 = 8
     ·
      rw [if_pos c15] at H
      have c15b0 : (a1 == 8) = true := beq_iff_eq.mpr c15
      have c15b1 : (a1 != 8) = false := bne_eq_false_iff_eq.mpr c15
      clear c15
      obtain rfl := Option.some.inj H
      go_enter Tryz.func83, Tryz.ntmps83
      go_wp2
      go_ret
      exact ⟨by first | rfl | (simp; done) | (simp [*]; done), by repeat (first | exact Drawn0.refl _ | apply Drawn0.step)⟩
     ·
      rw [if_neg c15] at H
      have c15b0 : (a1 == 8) = false := beq_eq_false_iff_ne.mpr c15
      have c15b1 : (a1 != 8) = true := bne_iff_ne.mpr c15
      obtain rfl := Option.some.inj H
      go_enter Tryz.func83, Tryz.ntmps83
      go_wp2
      go_ret
      exact ⟨by first | rfl | (simp; done) | (simp [*]; done), by repeat (first | exact Drawn0.refl _ | apply Drawn0.step)⟩
    ·
     rw [if_neg c14] at H
     have c14b0 : (a0 == 4) = false := beq_eq_false_iff_ne.mpr c14
     have c14b1 : (a0 != 4) = true := bne_iff_ne.mpr c14
     by_cases c16 : a0 = 6
     ·
      rw [if_pos c16] at H
      have c16b0 : (a0 == 6) = true := beq_iff_eq.mpr c16
      have c16b1 : (a0 != 6) = false := bne_eq_false_iff_eq.mpr c16
      clear c16
      by_cases c17 : a1 = 8
      ·
       rw [if_pos c17] at H
       have c17b0 : (a1 == 8) = true := beq_iff_eq.mpr c17
       have c17b1 : (a1 != 8) = false := bne_eq_false_iff_eq.mpr c17
       clear c17
       obtain rfl := Option.some.inj H
       go_enter Tryz.func83, Tryz.ntmps83
       go_wp2
       go_ret
       exact ⟨by first | rfl | (simp; done) | (simp [*]; done), by repeat (first | exact Drawn0.refl _ | apply Drawn0.step)⟩
      ·
       rw [if_neg c17] at H
       have c17b0 : (a1 == 8) = false := beq_eq_false_iff_ne.mpr c17
       have c17b1 : (a1 != 8) = true := bne_iff_ne.mpr c17
       obtain rfl := Option.some.inj H
       go_enter Tryz.func83, Tryz.ntmps83
       go_wp2
       go_ret
       exact ⟨by first | rfl | (simp; done) | (simp [*]; done), by repeat (first | exact Drawn0.refl _ | apply Drawn0.step)⟩
     ·
      rw [if_neg c16] at H
      have c16b0 : (a0 == 6) = false := beq_eq_false_iff_ne.mpr c16
      have c16b1 : (a0 != 6) = true := bne_iff_ne.mpr c16
      obtain rfl := Option.some.inj H
      go_enter Tryz.func83, Tryz.ntmps83
      go_wp2
      go_ret
      exact ⟨by first | rfl | (simp; done) | (simp [*]; done), by repeat (first | exact Drawn0.refl _ | apply Drawn0.step)⟩
end Go.Proofs.YtnpkgmgedgcjmaaGreatDoor.Pr
end
