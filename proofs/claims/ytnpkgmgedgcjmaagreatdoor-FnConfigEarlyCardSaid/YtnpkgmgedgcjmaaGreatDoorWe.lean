/- The reference's shapes: how many bytes a row has, the passes. -/
import Derived.Test.YtnpkgmgedgcjmaaGreatDoorWc
import Derived.IntWalk
set_option linter.all false
namespace Go.Proofs.YtnpkgmgedgcjmaaGreatDoor
open Go Go.RowKit Png

/-- A shape's value. -/
def shapeV (W H dp ct : Nat) (il : Bool) : Value := .agg #[.int .i64 W, .int .i64 H, .int .i64 dp, .int .i64 ct, .bool il]

theorem Kinds.ct {ct dp : Nat} (h : Kinds ct dp) : ct = 0 ∨ ct = 2 ∨ ct = 3 ∨ ct = 4 ∨ ct = 6 := by unfold Kinds at h; omega

theorem wrap_mul (a b m : Nat) (h : a * b ≤ m) (hm : m ≤ 9223372036854775807) : IntKind.i64.wrap ((a : Int) * (b : Int)) = ((a * b : Nat) : Int) := by
  rw [← Int.natCast_mul]
  exact IntWalk.i64_in _ (by omega)

theorem chan_le (c : Nat) : 1 ≤ chan c ∧ chan c ≤ 4 := by
  unfold chan
  split
  · omega
  · split
    · omega
    · split <;> omega

set_option maxHeartbeats 1000000 in
set_option maxRecDepth 100000 in
theorem rowBytes_ok (W H dp ct n : Nat) (il : Bool) (hc : ct = 0 ∨ ct = 2 ∨ ct = 3 ∨ ct = 4 ∨ ct = 6) (hd : dp ≤ 16) (hn : n ≤ 16384) (w : World) :
    Calls Tryz.prog 75 #[.agg #[.int .i64 W, .int .i64 H, .int .i64 dp, .int .i64 ct, .bool il], .int .i64 n] w fun e w' =>
      e = .returned (.int .i64 (((n * chan ct * dp + 7) / 8 : Nat) : Int)) ∧ Below w.heap.size w w' := by
  have hcl := chan_le ct
  have h1 : n * chan ct ≤ 65536 := Nat.le_trans (Nat.mul_le_mul hn hcl.2) (by omega)
  have h2 : n * chan ct * dp ≤ 1048576 := Nat.le_trans (Nat.mul_le_mul h1 hd) (by omega)
  have Hc := Lib.hid hc
  obtain ⟨c, hce⟩ : ∃ c, c = chan ct := ⟨_, rfl⟩
  have C : ∀ w, Calls Tryz.prog 36 #[.int .i64 ct] w fun e w' => e = .returned (.int .i64 (c : Nat)) ∧ w = w' := fun w => by rw [hce]; exact chan_ok ct Hc.out w
  have HC := Lib.hid C
  rw [← hce] at h1 h2 ⊢
  have e1 := wrap_mul n c _ h1 (by omega)
  obtain ⟨x, hx⟩ : ∃ x, x = n * c := ⟨_, rfl⟩
  rw [← hx] at e1 h2 ⊢
  have e2 := wrap_mul x dp _ h2 (by omega)
  obtain ⟨y, hy⟩ : ∃ y, y = x * dp := ⟨_, rfl⟩
  rw [← hy] at e2 h2 ⊢
  have e3 : IntKind.i64.wrap ((y : Int) + 7) = (y : Int) + 7 := IntWalk.i64_in _ (by omega)
  clear hx hy hce hc C h1 hcl
  go_enter Tryz.func75, Tryz.ntmps75
  go_wp2
  go_quiet ((go_at_call 36; exact calls_same (HC.out _)))
  go_wp2
  go_ret
  exact ⟨ret_int (by omega), ⟨rfl, rfl, rfl, by simp, fun k hk => heap_alloc_old w _ hk⟩⟩

set_option maxHeartbeats 1000000 in
theorem passes_ok (il : Bool) (w : World) : Calls Tryz.prog 72 #[.bool il] w fun e w' => e = .returned (.int .i64 ((if il then 7 else 1 : Nat) : Int)) ∧ w = w' := by
  cases il <;>
  · go_enter Tryz.func72, Tryz.ntmps72
    go_wp2
    go_ret
    exact ⟨rfl, rfl⟩

/-- The passes: where a part begins, and how far its pixels stand apart. -/
def partX (il : Bool) (p : Nat) : Nat := if il then [0, 4, 0, 2, 0, 1, 0].getD p 0 else 0
def partY (il : Bool) (p : Nat) : Nat := if il then [0, 0, 4, 0, 2, 0, 1].getD p 0 else 0
def partDX (il : Bool) (p : Nat) : Nat := if il then [8, 8, 4, 4, 2, 2, 1].getD p 1 else 1
def partDY (il : Bool) (p : Nat) : Nat := if il then [8, 8, 8, 4, 4, 2, 2].getD p 1 else 1

set_option maxHeartbeats 8000000 in
set_option maxRecDepth 100000 in
theorem partOf_ok (il : Bool) (p : Nat) (hp : p < if il then 7 else 1) (w : World) :
    Calls Tryz.prog 73 #[.bool il, .int .i64 p] w fun e w' =>
      e = .returned (.agg #[.int .i64 (partX il p : Nat), .int .i64 (partY il p : Nat), .int .i64 (partDX il p : Nat), .int .i64 (partDY il p : Nat)]) ∧ Below w.heap.size w w' := by
  cases il
  · simp at hp
    subst hp
    go_enter Tryz.func73, Tryz.ntmps73
    go_wp2
    refine bodyPost_ret (v := .agg #[.int .i64 0, .int .i64 0, .int .i64 1, .int .i64 1]) (by simp [results, Tryz.results73, go_sem]) rfl ⟨rfl, ?_⟩
    exact (Below.refl _ _).alloc (Nat.le_refl _) _
  · simp at hp
    have : p = 0 ∨ p = 1 ∨ p = 2 ∨ p = 3 ∨ p = 4 ∨ p = 5 ∨ p = 6 := by omega
    clear hp
    rcases this with rfl | rfl | rfl | rfl | rfl | rfl | rfl <;>
    · go_enter Tryz.func73, Tryz.ntmps73
      go_wp2
      refine bodyPost_ret (v := _) (by simp [results, Tryz.results73, go_sem]; exact ⟨rfl, rfl, rfl, rfl⟩) rfl ⟨rfl, ?_⟩
      go_simp
      exact ((Below.refl _ _).alloc (Nat.le_refl _) _).alloc (by simp) _
end Go.Proofs.YtnpkgmgedgcjmaaGreatDoor
