/- Rows of ints and of pixels that are owned. -/
import Derived.Test.YtnpkgmgedgcjmaaGreatDoorWe
import Derived.Test.YtnpkgmgedgcjmaaGreatDoorWd
set_option linter.all false
namespace Go.Proofs.YtnpkgmgedgcjmaaGreatDoor
open Go Go.RowKit Png

/-- A pixel: red, green, blue, alpha. -/
structure Q4 where
  r : Nat
  g : Nat
  b : Nat
  a : Nat

def nvals (l : List Nat) : List Value := l.map fun v : Nat => Value.int .i64 (v : Int)
def dval (d : Q4) : List Value := [.int .i64 (d.r : Int), .int .i64 (d.g : Int), .int .i64 (d.b : Int), .int .i64 (d.a : Int)]
def dvals (l : List Q4) : List Value := l.flatMap dval

@[simp] theorem nvals_length (l : List Nat) : (nvals l).length = l.length := by simp [nvals]
theorem nvals_get (l : List Nat) (k : Nat) (h : k < l.length) : (nvals l)[k]? = some (.int .i64 (l.getD k 0 : Nat)) := by
  simp [nvals, List.getD_eq_getElem?_getD, List.getElem?_eq_getElem h]
theorem nvals_append (a b : List Nat) : nvals (a ++ b) = nvals a ++ nvals b := by simp [nvals]
theorem nvals_one (l : List Nat) : ∀ v ∈ nvals l, v.oneCell' = true := by
  intro v hv
  simp only [nvals, List.mem_map] at hv
  obtain ⟨b, _, rfl⟩ := hv
  rfl
@[simp] theorem dvals_length (l : List Q4) : (dvals l).length = l.length * 4 := by
  induction l with
  | nil => rfl
  | cons d l ih => simp [dvals, dval] at ih ⊢; omega
theorem dvals_append (a b : List Q4) : dvals (a ++ b) = dvals a ++ dvals b := by simp [dvals]
theorem dvals_one (l : List Q4) : ∀ v ∈ dvals l, v.oneCell' = true := by
  intro v hv
  simp only [dvals, List.mem_flatMap, dval] at hv
  obtain ⟨b, _, h⟩ := hv
  simp at h
  rcases h with rfl | rfl | rfl | rfl <;> rfl
theorem dvals_get (l : List Q4) : ∀ (k : Nat) (h : k < l.length), (dvals l)[k * 4]? = some (.int .i64 (l[k].r : Int)) ∧ (dvals l)[k * 4 + 1]? = some (.int .i64 (l[k].g : Int)) ∧
    (dvals l)[k * 4 + 2]? = some (.int .i64 (l[k].b : Int)) ∧ (dvals l)[k * 4 + 3]? = some (.int .i64 (l[k].a : Int)) := by
  induction l with
  | nil => intro k h; simp at h
  | cons d l ih =>
    intro k h
    cases k with
    | zero => simp [dvals, dval]
    | succ k =>
      have := ih k (by simpa using h)
      have e : dvals (d :: l) = dval d ++ dvals l := rfl
      have e4 : (dval d).length = 4 := rfl
      simp only [e, List.getElem_cons_succ]
      refine ⟨?_, ?_, ?_, ?_⟩ <;> rw [List.getElem?_append_right (by omega), e4] <;> simp only [show (k + 1) * 4 - 4 = k * 4 by omega, show (k + 1) * 4 + 1 - 4 = k * 4 + 1 by omega, show (k + 1) * 4 + 2 - 4 = k * 4 + 2 by omega, show (k + 1) * 4 + 3 - 4 = k * 4 + 3 by omega, this]

/-- Ints of its own. -/
def Oi (w : World) (base : Nat) (p : Option Addr) (n cap : Nat) (l : List Nat) : Prop := l.length = n ∧ w.ownsRow base 3 1 (.slice p n cap) n (nvals l)
/-- Pixels of its own. -/
def Od (w : World) (base : Nat) (p : Option Addr) (n cap : Nat) (l : List Q4) : Prop := l.length = n ∧ w.ownsRow base 75 4 (.slice p n cap) n (dvals l)

theorem Oi.reads {w : World} {base n cap : Nat} {p : Option Addr} {l : List Nat} (h : Oi w base p n cap l) : Reads w w.heap.size 1 p n (nvals l) := Reads.of_own h.2
theorem Od.reads {w : World} {base n cap : Nat} {p : Option Addr} {l : List Q4} (h : Od w base p n cap l) : Reads w w.heap.size 4 p n (dvals l) := Reads.of_own h.2
theorem Oi.none (w : World) (base : Nat) : Oi w base none 0 0 [] := ⟨rfl, World.ownsRow_nil w base 3 1⟩
theorem Od.none (w : World) (base : Nat) : Od w base none 0 0 [] := ⟨rfl, World.ownsRow_nil w base 75 4⟩
theorem Oi.keep {w w' : World} {base n cap : Nat} {p : Option Addr} {l : List Nat} (h : Oi w base p n cap l) (hb : ∀ k, p.map (·.block) = some k → w'.heap[k]? = w.heap[k]?) : Oi w' base p n cap l := ⟨h.1, owns_kept h.2 hb⟩
theorem Od.keep {w w' : World} {base n cap : Nat} {p : Option Addr} {l : List Q4} (h : Od w base p n cap l) (hb : ∀ k, p.map (·.block) = some k → w'.heap[k]? = w.heap[k]?) : Od w' base p n cap l := ⟨h.1, owns_kept h.2 hb⟩
theorem Oi.kept {w w' : World} {base n cap : Nat} {p : Option Addr} {l : List Nat} (h : Oi w base p n cap l) (hb : Below w.heap.size w w') : Oi w' base p n cap l := h.keep fun k hk => hb.block k (owns_lt h.2 k hk).2
theorem Od.kept {w w' : World} {base n cap : Nat} {p : Option Addr} {l : List Q4} (h : Od w base p n cap l) (hb : Below w.heap.size w w') : Od w' base p n cap l := h.keep fun k hk => hb.block k (owns_lt h.2 k hk).2
theorem Oi.lower {w : World} {base base' n cap : Nat} {p : Option Addr} {l : List Nat} (h : Oi w base p n cap l) (hb : base' ≤ base) : Oi w base' p n cap l := ⟨h.1, owns_lower h.2 hb⟩
theorem Od.lower {w : World} {base base' n cap : Nat} {p : Option Addr} {l : List Q4} (h : Od w base p n cap l) (hb : base' ≤ base) : Od w base' p n cap l := ⟨h.1, owns_lower h.2 hb⟩

/-- The builtin append of ints to ints of its own. -/
theorem wp_appI {w : World} {ops : Array Oper} {rest : List Oper} {o : Oper} {a : Act} {Q : Exit → Act → World → Prop} (hgd : o.guard = none) (s x : Operand)
    (ho : o.op = .call { callee := .builtin .append, args := #[s, x], argTypes := #[27, 27] })
    (base n cap m c : Nat) (p p2 : Option Addr) (l l2 : List Nat) (hs : a.eval s = .slice p n cap) (hx : a.eval x = .slice p2 m c) (hown : Oi w base p n cap l)
    (B : Nat) (hr : Reads w B 1 p2 m (nvals l2)) (hbd : n + m ≤ 17592186044416) (hbase : base ≤ w.heap.size)
    (h : ∀ p' cap' w', Oi w' base p' (n + m) cap' (l ++ l2) → w.grownBy w' (p.map (·.block)) → (p'.map (·.block) = p.map (·.block) ∨ p'.map (·.block) = some w.heap.size) → wpList Tryz.prog ops Q rest (a.put o.dst (.slice p' (n + m) cap')) w') :
    wpList Tryz.prog ops Q (o :: rest) a w := by
  refine wpList_append_any w hgd s x 27 ho base 3 Tryz.t3 (.int .i64 0) 1 8 Tryz.underlying27 (by kernel_rfl) (by kernel_rfl) (by kernel_rfl) (by kernel_rfl) rfl (by decide)
    (.slice p n cap) n (nvals l) hs hown.2 B p2 m c (nvals l2) hx hr (nvals_one l2) (by simp only [maxLen]; omega) (by omega) hbase ?_
  intro v' w' h1 h2 h3
  obtain ⟨p', cap', rfl⟩ := owns_slice h1
  rw [ownBlock_slice] at h2 h3
  rw [ownBlock_slice] at h3
  have hl : l2.length = m := by have := hr.1; simpa using this
  exact h p' cap' w' ⟨by simp [hown.1, hl], by rw [nvals_append]; exact h1⟩ h2 h3

/-- The builtin append of pixels to pixels of its own. -/
theorem wp_appD {w : World} {ops : Array Oper} {rest : List Oper} {o : Oper} {a : Act} {Q : Exit → Act → World → Prop} (hgd : o.guard = none) (s x : Operand)
    (ho : o.op = .call { callee := .builtin .append, args := #[s, x], argTypes := #[28, 28] })
    (base n cap m c : Nat) (p p2 : Option Addr) (l l2 : List Q4) (hs : a.eval s = .slice p n cap) (hx : a.eval x = .slice p2 m c) (hown : Od w base p n cap l)
    (B : Nat) (hr : Reads w B 4 p2 m (dvals l2)) (hbd : n + m ≤ 4398046511104) (hbase : base ≤ w.heap.size)
    (h : ∀ p' cap' w', Od w' base p' (n + m) cap' (l ++ l2) → w.grownBy w' (p.map (·.block)) → (p'.map (·.block) = p.map (·.block) ∨ p'.map (·.block) = some w.heap.size) → wpList Tryz.prog ops Q rest (a.put o.dst (.slice p' (n + m) cap')) w') :
    wpList Tryz.prog ops Q (o :: rest) a w := by
  refine wpList_append_any w hgd s x 28 ho base 75 Tryz.t75 (.agg #[.int .i64 0, .int .i64 0, .int .i64 0, .int .i64 0]) 4 32 Tryz.underlying28 (by kernel_rfl) (by kernel_rfl) (by kernel_rfl) (by kernel_rfl) rfl (by decide)
    (.slice p n cap) n (dvals l) hs hown.2 B p2 m c (dvals l2) hx hr (dvals_one l2) (by simp only [maxLen]; omega) (by omega) hbase ?_
  intro v' w' h1 h2 h3
  obtain ⟨p', cap', rfl⟩ := owns_slice h1
  rw [ownBlock_slice] at h2 h3
  rw [ownBlock_slice] at h3
  have hl : l2.length = m := by have := hr.1; simp at this; omega
  exact h p' cap' w' ⟨by simp [hown.1, hl], by rw [dvals_append]; exact h1⟩ h2 h3

end Go.Proofs.YtnpkgmgedgcjmaaGreatDoor
