/- How far bytes stand there as they are so far ahead. -/
import Derived.Test.YtnpkgmgedgcjmaaGreatDoorW2
set_option linter.all false
namespace Go.Proofs.YtnpkgmgedgcjmaaGreatDoor
open Go Go.RowKit Png

set_option maxHeartbeats 8000000 in
set_option maxRecDepth 100000 in
theorem repeats_ok (p : Option Addr) (cap n at_ far : Nat) (d : List UInt8) (w : World) (hd : d.length = n) (hs : Bsl w p d) (hn : n ≤ 1099511627776) (ha : at_ ≤ 1099511627776) (hf : 1 ≤ far) (hf2 : far ≤ 1099511627776) :
    Calls Tryz.prog 99 #[.slice p n cap, .int .i64 at_, .int .i64 far] w fun e w' => ∃ r : Nat, r ≤ 258 ∧ e = .returned (.int .i64 (r : Nat)) ∧ Dr w w' := by
  have Hd := Lib.hid hd
  have Hs := Lib.hid hs
  clear hd hs
  go_enter Tryz.func99, Tryz.ntmps99
  go_wp2
  go_loopg [7] 258 (fun g i wr => ∃ r : Nat, r + g = 258 ∧ i = .int .i64 (r : Nat) ∧ Dr w wr)
  case atStart => exact ⟨0, by omega, rfl, Dr.refl _⟩
  case round =>
    obtain ⟨r, hr, rfl, hD⟩ := hrel
    have HD := Lib.hid hD
    have Hr := Lib.hid hr
    have hr2 : r ≤ 258 := by omega
    clear hD hr
    by_cases h1 : far ≤ at_
    · have g1 : decide ((far : Int) ≤ (at_ : Int)) = true := by simp; omega
      have g1' : decide (far ≤ at_) = true := by simp; omega
      by_cases h2 : r < 258
      · have g2 : decide ((r : Int) < 258) = true := by simp; omega
        have g2' : decide (r < 258) = true := by simp; omega
        have e1 : IntKind.i64.wrap ((at_ : Int) + (r : Int)) = ((at_ + r : Nat) : Int) := by rw [IntWalk.i64_in _ (by omega)]; omega
        obtain ⟨x, hx⟩ : ∃ x, x = at_ + r := ⟨_, rfl⟩
        rw [← hx] at e1
        by_cases h3 : x < n
        · have g3 : decide ((x : Int) < (n : Int)) = true := by simp; omega
          have g3' : decide (x < n) = true := by simp; omega
          have e2 : IntKind.i64.wrap ((x : Int) - (far : Int)) = ((x - far : Nat) : Int) := by rw [IntWalk.i64_in _ (by omega)]; omega
          obtain ⟨y, hy⟩ : ∃ y, y = x - far := ⟨_, rfl⟩
          rw [← hy] at e2
          have hyn : y < n := by omega
          obtain ⟨b, off, rfl, c1⟩ := Hs.out.at (k := x) (by rw [Hd.out]; exact h3)
          obtain ⟨b', off', he, c2⟩ := Hs.out.at (k := y) (by rw [Hd.out]; exact hyn)
          injection he with he
          injection he with he1 he2
          subst he1
          subst he2
          have f1 := (HD.out.fr []).cell' (by simp) c1
          have f2 := (HD.out.fr []).cell' (by simp) c2
          have i1 : (x : Int) < (n : Int) := by omega
          have i2 : (y : Int) < (n : Int) := by omega
          clear c1 c2 hx hy
          go_wp2
          go_quiet (fail)
          go_wp2
          · go_roundg (gk - 1)
            case measure => have := Hr.out; omega
            case rel => exact ⟨r + 1, by have := Hr.out; omega, by go_num, HD.out.drewN _⟩
          · go_ret
            exact ⟨r, hr2, rfl, HD.out.drewN _⟩
        · have g3 : decide ((x : Int) < (n : Int)) = false := by simp; omega
          have g3' : decide (x < n) = false := by simp; omega
          clear hx h3
          go_wp2
          go_quiet (fail)
          go_wp2
          go_ret
          exact ⟨r, hr2, rfl, HD.out.drewN _⟩
      · have g2 : decide ((r : Int) < 258) = false := by simp; omega
        have g2' : decide (r < 258) = false := by simp; omega
        go_wp2
        go_quiet (fail)
        go_wp2
        go_ret
        exact ⟨r, hr2, rfl, HD.out.drewN _⟩
    · have g1 : decide ((far : Int) ≤ (at_ : Int)) = false := by simp; omega
      have g1' : decide (far ≤ at_) = false := by simp; omega
      go_wp2
      go_quiet (fail)
      go_wp2
      go_ret
      exact ⟨r, hr2, rfl, HD.out.drewN _⟩
end Go.Proofs.YtnpkgmgedgcjmaaGreatDoor
