/- Words for pixels: a pixel's box. -/
import Derived.Test.YtnpkgmgedgcjmaaGreatDoorPa
set_option linter.all false
namespace Go.Proofs.YtnpkgmgedgcjmaaGreatDoor
open Go Go.RowKit Png

theorem Oi.cellAt {w : World} {base g n cap : Nat} {l : List Nat} (h : Oi w base (some ⟨g, 0, Option.none⟩) n cap l) {k : Nat} (hk : k < n) : ∃ v : Nat, w.cell? ⟨g, k, Option.none⟩ = some (.int .i64 v) := by
  have hl := h.1
  refine ⟨l[k]'(by omega), ?_⟩
  rw [h.2.cellAt k (by omega)]
  simp [nvals, List.getElem?_eq_getElem (show k < l.length by omega)]
theorem Oi.ptr {w : World} {base n cap : Nat} {p : Option Addr} {l : List Nat} (h : Oi w base p n cap l) (h0 : 0 < n) : ∃ g, p = some ⟨g, 0, Option.none⟩ := by
  obtain ⟨g, c, hv, _⟩ := h.2.form h0
  injection hv with hv
  exact ⟨g, hv⟩
theorem Oi.alloc {w : World} {base n cap : Nat} {p : Option Addr} {l : List Nat} (h : Oi w base p n cap l) (o : Obj) : Oi (w.alloc o) base p n cap l := h.keep fun j hj => heap_alloc_old w o (owns_lt h.2 j hj).2
theorem Od.alloc {w : World} {base n cap : Nat} {p : Option Addr} {l : List Q4} (h : Od w base p n cap l) (o : Obj) : Od (w.alloc o) base p n cap l := h.keep fun j hj => heap_alloc_old w o (owns_lt h.2 j hj).2
theorem Kinds.tops {ct dp : Nat} (h : Kinds ct dp) : 2 ≤ 2 ^ dp ∧ 2 ^ dp ≤ 65536 := by
  rcases h.dps with rfl | rfl | rfl | rfl | rfl <;> decide

/-- A pixel's box. -/
def QBox (w : World) (D : Nat) (q : Q4) : Prop := Blk w D 75 #[.int .i64 (q.r : Int), .int .i64 (q.g : Int), .int .i64 (q.b : Int), .int .i64 (q.a : Int)]
theorem QBox.facts {w : World} {D : Nat} {q : Q4} (h : QBox w D q) : w.cell? ⟨D, 0, none⟩ = some (.int .i64 (q.r : Int)) ∧ w.cell? ⟨D, 1, none⟩ = some (.int .i64 (q.g : Int)) ∧ w.cell? ⟨D, 2, none⟩ = some (.int .i64 (q.b : Int)) ∧ w.cell? ⟨D, 3, none⟩ = some (.int .i64 (q.a : Int)) ∧
    (∀ o, w.frozen? ⟨D, o, none⟩ = false) ∧ (∀ o, o < 4 → hasCell w ⟨D, o, none⟩ = true) :=
  ⟨h.cell 0, h.cell 1, h.cell 2, h.cell 3, fun o => h.frozen o, fun o ho => by
    have : o = 0 ∨ o = 1 ∨ o = 2 ∨ o = 3 := by omega
    unfold hasCell
    rcases this with rfl | rfl | rfl | rfl
    all_goals rw [h.cell]; rfl⟩
theorem QBox.sets {w : World} {D : Nat} {q : Q4} (h : QBox w D q) (r g b a : Nat) : QBox ((((w.setCell ⟨D, 0, none⟩ (.int .i64 (r : Int))).setCell ⟨D, 1, none⟩ (.int .i64 (g : Int))).setCell ⟨D, 2, none⟩ (.int .i64 (b : Int))).setCell ⟨D, 3, none⟩ (.int .i64 (a : Int))) D ⟨r, g, b, a⟩ :=
  (((Blk.set_ h 0 (.int .i64 (r : Int))).set_ 1 (.int .i64 (g : Int))).set_ 2 (.int .i64 (b : Int))).set_ 3 (.int .i64 (a : Int))
theorem QBox.sets1 {w : World} {D : Nat} {q : Q4} (h : QBox w D q) (r g b : Nat) : QBox ((((w.setCell ⟨D, 0, none⟩ (.int .i64 (r : Int))).setCell ⟨D, 1, none⟩ (.int .i64 (g : Int))).setCell ⟨D, 2, none⟩ (.int .i64 (b : Int))).setCell ⟨D, 3, none⟩ (.int .i64 65535)) D ⟨r, g, b, 65535⟩ := h.sets r g b 65535
theorem QBox.setA {w : World} {D : Nat} {q : Q4} (h : QBox w D q) : QBox (w.setCell ⟨D, 3, none⟩ (.int .i64 0)) D ⟨q.r, q.g, q.b, 0⟩ := Blk.set_ h 3 (.int .i64 0)
theorem below_sets {w0 w : World} {D : Nat} (h : Below D w0 w) (r g b a : Value) : Below D w0 ((((w.setCell ⟨D, 0, none⟩ r).setCell ⟨D, 1, none⟩ g).setCell ⟨D, 2, none⟩ b).setCell ⟨D, 3, none⟩ a) :=
  (((h.setCell (p := ⟨D, 0, none⟩) (Nat.le_refl _) r).setCell (p := ⟨D, 1, none⟩) (Nat.le_refl _) g).setCell (p := ⟨D, 2, none⟩) (Nat.le_refl _) b).setCell (p := ⟨D, 3, none⟩) (Nat.le_refl _) a
end Go.Proofs.YtnpkgmgedgcjmaaGreatDoor
