/- The laws' and the reference's small functions. -/
import Derived.Test.YtnpkgmgedgcjmaaGreatDoorWb
set_option linter.all false
namespace Go.Proofs.YtnpkgmgedgcjmaaGreatDoor
open Go Go.RowKit Png

/-- A colour type's samples a pixel. -/
def chan (c : Nat) : Nat := if c = 2 then 3 else if c = 4 then 2 else if c = 6 then 4 else 1

set_option maxHeartbeats 4000000 in
set_option maxRecDepth 100000 in
theorem lawKind_ok (k : Nat) (hk : k < 256) (w : World) :
    Calls Tryz.prog 34 #[.int .u8 (k : Nat)] w fun e w' => ∃ ct dp : Nat, e = .returned (.tuple #[.int .i64 ct, .int .i64 dp]) ∧ Kinds ct dp ∧ Dr w w' := by
  have hj : (k : Int) % 15 = 0 ∨ (k : Int) % 15 = 1 ∨ (k : Int) % 15 = 2 ∨ (k : Int) % 15 = 3 ∨ (k : Int) % 15 = 4 ∨ (k : Int) % 15 = 5 ∨ (k : Int) % 15 = 6 ∨ (k : Int) % 15 = 7 ∨
    (k : Int) % 15 = 8 ∨ (k : Int) % 15 = 9 ∨ (k : Int) % 15 = 10 ∨ (k : Int) % 15 = 11 ∨ (k : Int) % 15 = 12 ∨ (k : Int) % 15 = 13 ∨ (k : Int) % 15 = 14 := by omega
  rcases hj with h | h | h | h | h | h | h | h | h | h | h | h | h | h | h <;>
  · go_enter Tryz.func34, Tryz.ntmps34
    go_wp2
    go_quiet (fail)
    go_wp2
    go_ret2
    exact ⟨_, _, rfl, by unfold Kinds; simp, (Dr.refl w).drewN _⟩

set_option maxHeartbeats 1000000 in
set_option maxRecDepth 100000 in
theorem shapeOf_ok (ct dp a b : Nat) (il : Bool) (ha : a < 256) (hb : b < 256) (w : World) :
    Calls Tryz.prog 35 #[.int .i64 ct, .int .i64 dp, .int .u8 a, .int .u8 b, .bool il] w fun e w' =>
      e = .returned (.agg #[.int .i64 ((1 + a % 40 : Nat) : Int), .int .i64 ((1 + b % 40 : Nat) : Int), .int .i64 dp, .int .i64 ct, .bool il]) ∧ Below w.heap.size w w' := by
  go_enter Tryz.func35, Tryz.ntmps35
  go_wp2
  refine bodyPost_ret (v := .agg #[.int .i64 ((1 + a % 40 : Nat) : Int), .int .i64 ((1 + b % 40 : Nat) : Int), .int .i64 dp, .int .i64 ct, .bool il]) (by simp [results, Tryz.results35, go_sem]) rfl ⟨rfl, ?_⟩
  exact (Below.refl _ _).alloc (Nat.le_refl _) _

set_option maxHeartbeats 1000000 in
theorem chan_ok (c : Nat) (hc : c = 0 ∨ c = 2 ∨ c = 3 ∨ c = 4 ∨ c = 6) (w : World) :
    Calls Tryz.prog 36 #[.int .i64 c] w fun e w' => e = .returned (.int .i64 (chan c : Nat)) ∧ w = w' := by
  rcases hc with rfl | rfl | rfl | rfl | rfl <;>
  · go_enter Tryz.func36, Tryz.ntmps36
    go_wp2
    go_ret
    exact ⟨rfl, rfl⟩

set_option maxHeartbeats 8000000 in
theorem lengthOf_ok (s : Nat) (h1 : 257 ≤ s) (h2 : s ≤ 285) (w : World) :
    Calls Tryz.prog 113 #[.int .i64 s] w fun e w' => ∃ n m : Nat, e = .returned (.tuple #[.int .i64 n, .int .i64 m]) ∧ 3 ≤ n ∧ n ≤ 258 ∧ m ≤ 5 ∧ w = w' := by
  obtain ⟨j, rfl, hj⟩ : ∃ j, s = 257 + j ∧ j < 29 := ⟨s - 257, by omega, by omega⟩
  have : j = 0 ∨ j = 1 ∨ j = 2 ∨ j = 3 ∨ j = 4 ∨ j = 5 ∨ j = 6 ∨ j = 7 ∨ j = 8 ∨ j = 9 ∨ j = 10 ∨ j = 11 ∨ j = 12 ∨ j = 13 ∨ j = 14 ∨ j = 15 ∨ j = 16 ∨ j = 17 ∨ j = 18 ∨ j = 19 ∨ j = 20 ∨ j = 21 ∨ j = 22 ∨ j = 23 ∨ j = 24 ∨ j = 25 ∨ j = 26 ∨ j = 27 ∨ j = 28 := by omega
  clear h1 h2 hj
  rcases this with rfl | rfl | rfl | rfl | rfl | rfl | rfl | rfl | rfl | rfl | rfl | rfl | rfl | rfl | rfl | rfl | rfl | rfl | rfl | rfl | rfl | rfl | rfl | rfl | rfl | rfl | rfl | rfl | rfl <;>
  · go_enter Tryz.func113, Tryz.ntmps113
    go_wp2
    go_ret2
    exact ⟨_, _, rfl, by decide, by decide, by decide, rfl⟩

set_option maxHeartbeats 8000000 in
theorem distanceOf_ok (s : Nat) (h2 : s < 30) (w : World) :
    Calls Tryz.prog 114 #[.int .i64 s] w fun e w' => ∃ n m : Nat, e = .returned (.tuple #[.int .i64 n, .int .i64 m]) ∧ 1 ≤ n ∧ n ≤ 24577 ∧ m ≤ 13 ∧ w = w' := by
  have : s = 0 ∨ s = 1 ∨ s = 2 ∨ s = 3 ∨ s = 4 ∨ s = 5 ∨ s = 6 ∨ s = 7 ∨ s = 8 ∨ s = 9 ∨ s = 10 ∨ s = 11 ∨ s = 12 ∨ s = 13 ∨ s = 14 ∨ s = 15 ∨ s = 16 ∨ s = 17 ∨ s = 18 ∨ s = 19 ∨ s = 20 ∨ s = 21 ∨ s = 22 ∨ s = 23 ∨ s = 24 ∨ s = 25 ∨ s = 26 ∨ s = 27 ∨ s = 28 ∨ s = 29 := by omega
  clear h2
  rcases this with rfl | rfl | rfl | rfl | rfl | rfl | rfl | rfl | rfl | rfl | rfl | rfl | rfl | rfl | rfl | rfl | rfl | rfl | rfl | rfl | rfl | rfl | rfl | rfl | rfl | rfl | rfl | rfl | rfl | rfl <;>
  · go_enter Tryz.func114, Tryz.ntmps114
    go_wp2
    go_ret2
    exact ⟨_, _, rfl, by decide, by decide, by decide, rfl⟩
end Go.Proofs.YtnpkgmgedgcjmaaGreatDoor
