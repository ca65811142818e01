/- The rows of all parts, each with its filter. -/
import Derived.Test.YtnpkgmgedgcjmaaGreatDoorB3
import Derived.Laws.OwnMore
import Derived.Deep.OwnRows
import Derived.Deep.RegionHeld3
set_option linter.all false
namespace Go.Proofs.YtnpkgmgedgcjmaaGreatDoor
open Go Go.RowKit Png

set_option maxHeartbeats 2000000 in
set_option maxRecDepth 100000 in
theorem step_ok (W H dp ct : Nat) (il : Bool) (hc : ct = 0 ∨ ct = 2 ∨ ct = 3 ∨ ct = 4 ∨ ct = 6) (hd : dp ≤ 16) (w : World) :
    Calls Tryz.prog 78 #[.agg #[.int .i64 W, .int .i64 H, .int .i64 dp, .int .i64 ct, .bool il]] w fun e w' =>
      e = .returned (.int .i64 ((max 1 (chan ct * dp / 8) : Nat) : Int)) ∧ Below w.heap.size w w' := by
  have hcl := chan_le ct
  have h2 : chan ct * dp ≤ 64 := Nat.le_trans (Nat.mul_le_mul hcl.2 hd) (by omega)
  have HC := Lib.hid (chan_ok ct hc)
  obtain ⟨c, hce⟩ : ∃ c, c = chan ct := ⟨_, rfl⟩
  rw [← hce] at HC h2 ⊢
  have e1 := wrap_mul c dp _ h2 (by omega)
  obtain ⟨y, hy⟩ : ∃ y, y = c * dp := ⟨_, rfl⟩
  rw [← hy] at e1 h2 ⊢
  obtain ⟨v, hv⟩ : ∃ v, v = y / 8 := ⟨_, rfl⟩
  have e2 : IntKind.i64.wrap ((y : Int) / 8) = (v : Int) := by rw [IntWalk.i64_in _ (by omega)]; omega
  rw [← hv]
  obtain ⟨mx, hmx⟩ : ∃ mx, mx = max 1 v := ⟨_, rfl⟩
  rw [← hmx]
  have Hmx := Lib.hid hmx
  clear hy hce hc hcl hmx hv
  go_enter Tryz.func78, Tryz.ntmps78
  go_wp2
  go_quiet ((go_at_call 36; exact calls_same (HC.out _)))
  go_wp2
  all_goals
    go_ret
    have := Hmx.out
    exact ⟨ret_int (by omega), ⟨rfl, rfl, rfl, by simp, fun k hk => heap_alloc_old w _ hk⟩⟩

theorem part_ok (il : Bool) (j : Nat) (hj : j < if il then 7 else 1) : ∃ X Y DX DY : Nat, X ≤ 8 ∧ Y ≤ 8 ∧ 1 ≤ DX ∧ DX ≤ 8 ∧ 1 ≤ DY ∧ DY ≤ 8 ∧ (j = 0 → X = 0 ∧ Y = 0) ∧
    ∀ w, Calls Tryz.prog 73 #[.bool il, .int .i64 j] w fun e w' => e = .returned (.agg #[.int .i64 X, .int .i64 Y, .int .i64 DX, .int .i64 DY]) ∧ Below w.heap.size w w' := by
  refine ⟨partX il j, partY il j, partDX il j, partDY il j, ?_, ?_, ?_, ?_, ?_, ?_, ?_, partOf_ok il j hj⟩
  all_goals cases il
  all_goals simp at hj
  any_goals (subst hj; decide)
  all_goals
    have : j = 0 ∨ j = 1 ∨ j = 2 ∨ j = 3 ∨ j = 4 ∨ j = 5 ∨ j = 6 := by omega
    rcases this with rfl | rfl | rfl | rfl | rfl | rfl | rfl <;> decide

theorem Bsl.cellZ {w : World} {b : Nat} {l : List UInt8} (h : Bsl w (some ⟨b, 0, none⟩) l) {k : Nat} (hk : k < l.length) : w.cell? ⟨b, k, none⟩ = some (.int .u8 (nb l k : Int)) := by
  obtain ⟨b', off, he, hc⟩ := h.at hk
  injection he with he
  injection he with h1 h2
  subst h1
  subst h2
  rwa [Nat.zero_add] at hc

theorem step_app {w : World} {ops : Array Oper} {o : Oper} {a : Act} {K : Act → World → Prop} {Q : Exit → Act → World → Prop} {E : Prop} (hgd : o.guard = none) (s x : Operand)
    (ho : o.op = .call { callee := .builtin .append, args := #[s, x], argTypes := #[24, 24] })
    (base n cap m c : Nat) (p p2 : Option Addr) (l l2 : List UInt8) (hs : a.eval s = .slice p n cap) (hx : a.eval x = .slice p2 m c) (hown : Ob w base p n cap l)
    (B : Nat) (hr : Reads w B 1 p2 m (bvals l2)) (hbd : n + m ≤ 140737488355328) (hbase : base ≤ w.heap.size)
    (h : ∀ p' cap' w', Ob w' base p' (n + m) cap' (l ++ l2) → w.grownBy w' (p.map (·.block)) → (p'.map (·.block) = p.map (·.block) ∨ p'.map (·.block) = some w.heap.size) → K (a.put o.dst (.slice p' (n + m) cap')) w') :
    if Region.wanted o (yielded ops a.tmps) = true then Oper.wp Tryz.prog o a w K Q else E := by
  refine step_append_any w hgd s x 24 ho base 5 Tryz.t5 (.int .u8 0) 1 1 Tryz.underlying24 (by kernel_rfl) (by kernel_rfl) (by kernel_rfl) (by kernel_rfl) rfl (by decide)
    (.slice p n cap) n (bvals l) hs hown.2 B p2 m c (bvals l2) hx hr (bvals_one l2) (by simp only [maxLen]; omega) (by omega) hbase ?_
  intro v' w' h1 h2 h3
  obtain ⟨p', cap', rfl⟩ := owns_slice h1
  rw [ownBlock_slice] at h2 h3
  rw [ownBlock_slice] at h3
  have hl : l2.length = m := by have := hr.1; simpa using this
  exact h p' cap' w' ⟨by simp [hown.1, hl], by simpa [bvals] using h1⟩ h2 h3

theorem row_ok (b n cap dp : Nat) (zs : List Nat) (w : World) (hz : IntsAt w b zs) (hb : b < w.heap.size) (hl : zs.length = n) (hn : n ≤ 100000) (hv : ∀ k, zs.getD k 0 ≤ 65535) (hd : dp = 1 ∨ dp = 2 ∨ dp = 4 ∨ dp = 8 ∨ dp = 16) :
    Calls Tryz.prog 76 #[.slice (some ⟨b, 0, none⟩) n cap, .int .i64 dp] w fun e w' =>
      ∃ p m c l, e = .returned (.slice p m c) ∧ m = (n * dp + 7) / 8 ∧ Ob w' w.heap.size p m c l ∧ Below w.heap.size w w' := by
  by_cases h : dp = 8 ∨ dp = 16
  · exact row_whole b n cap dp zs w hz hb hl hn hv h
  · exact row_small b n cap dp zs w hz hb hl hn hv (by omega)

theorem made_seg (w : World) (n : Nat) : Seg (w.alloc (.cells (madeCells #[.int .u8 0] n) 5)) w.heap.size 0 (List.replicate n 0) := by
  intro k hk
  have h := Blk.new w 5 (madeCells #[.int .u8 0] n)
  rw [Nat.zero_add, h.cell k]
  have hkn : k < n := by simpa using hk
  rw [← Array.getElem?_toList, toList_madeCells_one]
  simp [nb, hkn]

theorem Oi.intsAt {w : World} {base g n cap : Nat} {l : List Nat} (h : Oi w base (some ⟨g, 0, Option.none⟩) n cap l) : IntsAt w g l := by
  intro k hk
  have := h.2.cellAt k (by rw [h.1] at hk; omega)
  rw [nvals_get l k hk] at this
  exact this

theorem reads_part {w : World} {b n at_ c : Nat} {zs : List Nat} (hz : IntsAt w b zs) (hb : b < w.heap.size) (hl : zs.length = n) (hc : at_ + c ≤ n) : Reads w w.heap.size 1 (some ⟨b, at_, none⟩) c (nvals ((zs.drop at_).take c)) := by
  refine ⟨by simp; omega, fun _ => ⟨_, rfl, hb, fun j u hu => ?_⟩⟩
  have hj : j < c := by
    have := (List.getElem?_eq_some_iff.1 hu).1
    simp at this
    omega
  rw [nvals_get _ _ (by simp; omega)] at hu
  rw [add_addr, hz (at_ + j) (by omega), ← hu]
  congr 3
  simp [List.getD_eq_getElem?_getD, List.getElem?_take, List.getElem?_drop, hj]

theorem Seg.bsl {w : World} {b : Nat} {l : List UInt8} (h : Seg w b 0 l) : Bsl w (some ⟨b, 0, none⟩) l := .inr ⟨b, 0, rfl, h⟩
theorem Bsl.seg {w : World} {b : Nat} {l : List UInt8} (h : Bsl w (some ⟨b, 0, none⟩) l) : Seg w b 0 l := fun k hk => by
  rw [Nat.zero_add]; exact h.cellZ hk

/-- The shape's box. -/
def Box (w : World) (B W H dp ct : Nat) (il : Bool) : Prop :=
  w.cell? ⟨B, 0, none⟩ = some (.int .i64 W) ∧ w.cell? ⟨B, 1, none⟩ = some (.int .i64 H) ∧ w.cell? ⟨B, 2, none⟩ = some (.int .i64 dp) ∧ w.cell? ⟨B, 3, none⟩ = some (.int .i64 ct) ∧ w.cell? ⟨B, 4, none⟩ = some (.bool il)
theorem Box.below {w w' : World} {B C W H dp ct : Nat} {il : Bool} (h : Box w B W H dp ct il) (hb : Below C w w') (hB : B < C) : Box w' B W H dp ct il :=
  ⟨by rw [hb.cell (p := ⟨B, 0, none⟩) hB]; exact h.1, by rw [hb.cell (p := ⟨B, 1, none⟩) hB]; exact h.2.1, by rw [hb.cell (p := ⟨B, 2, none⟩) hB]; exact h.2.2.1, by rw [hb.cell (p := ⟨B, 3, none⟩) hB]; exact h.2.2.2.1, by rw [hb.cell (p := ⟨B, 4, none⟩) hB]; exact h.2.2.2.2⟩
theorem Box.new (w : World) (B W H dp ct : Nat) (il : Bool) (hB : B = w.heap.size) : Box (w.alloc (.cells #[.int .i64 W, .int .i64 H, .int .i64 dp, .int .i64 ct, .bool il] 26)) B W H dp ct il := by
  subst hB
  have h := Blk.new w 26 #[.int .i64 W, .int .i64 H, .int .i64 dp, .int .i64 ct, .bool il]
  exact ⟨h.cell 0, h.cell 1, h.cell 2, h.cell 3, h.cell 4⟩

/-- A part's box. -/
def PBox (w : World) (B X Y DX DY : Nat) : Prop :=
  w.cell? ⟨B, 0, none⟩ = some (.int .i64 X) ∧ w.cell? ⟨B, 1, none⟩ = some (.int .i64 Y) ∧ w.cell? ⟨B, 2, none⟩ = some (.int .i64 DX) ∧ w.cell? ⟨B, 3, none⟩ = some (.int .i64 DY)
theorem PBox.below {w w' : World} {B C X Y DX DY : Nat} (h : PBox w B X Y DX DY) (hb : Below C w w') (hB : B < C) : PBox w' B X Y DX DY :=
  ⟨by rw [hb.cell (p := ⟨B, 0, none⟩) hB]; exact h.1, by rw [hb.cell (p := ⟨B, 1, none⟩) hB]; exact h.2.1, by rw [hb.cell (p := ⟨B, 2, none⟩) hB]; exact h.2.2.1, by rw [hb.cell (p := ⟨B, 3, none⟩) hB]; exact h.2.2.2⟩
theorem PBox.new (w : World) (B X Y DX DY : Nat) (hB : B = w.heap.size) : PBox (w.alloc (.cells #[.int .i64 X, .int .i64 Y, .int .i64 DX, .int .i64 DY] 151)) B X Y DX DY := by
  subst hB
  have h := Blk.new w 151 #[.int .i64 X, .int .i64 Y, .int .i64 DX, .int .i64 DY]
  exact ⟨h.cell 0, h.cell 1, h.cell 2, h.cell 3⟩
end Go.Proofs.YtnpkgmgedgcjmaaGreatDoor
