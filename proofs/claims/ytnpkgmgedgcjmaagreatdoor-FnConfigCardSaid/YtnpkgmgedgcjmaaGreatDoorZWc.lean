/- A part of the proof: Wc, Wd, We, Dd, D1, L0. -/
import Derived.IntWalk
import Derived.Test.YtnpkgmgedgcjmaaGreatDoorZCrc
set_option linter.all false
set_option maxRecDepth 100000
section
namespace Go.Proofs.YtnpkgmgedgcjmaaGreatDoor
open Go Go.RowKit Png
def chan (c : Nat) : Nat := if c = 2 then 3 else if c = 4 then 2 else if c = 6 then 4 else 1
set_option maxHeartbeats 1000000 in
theorem chan_ok (c : Nat) (hc : c = 0 ∨ c = 2 ∨ c = 3 ∨ c = 4 ∨ c = 6) (w : World) :
  Calls Tryz.prog 36 #[.int .i64 c] w fun e w' => e = .returned (.int .i64 (chan c : Nat)) ∧ w = w' := by
 rcases hc with rfl | rfl | rfl | rfl | rfl <;>
 ·
  go_enter Tryz.func36, Tryz.ntmps36
  go_wp2
  go_ret
  exact ⟨rfl, rfl⟩
end Go.Proofs.YtnpkgmgedgcjmaaGreatDoor
end
section
namespace Go.Proofs.YtnpkgmgedgcjmaaGreatDoor
open Go Go.RowKit Png
theorem reads_new (w : World) (cs : Array Value) (t : TypeId) (B size n : Nat) (xs : List Value) (hl : xs.length = n * size) (hcs : cs.toList = xs) (hB : w.heap.size < B) (g : Nat) (hg : g = w.heap.size) :
  Reads (w.alloc (.cells cs t)) B size (some ⟨g, 0, none⟩) n xs := by
 subst hg
 refine ⟨hl, fun _ => ⟨_, rfl, hB, fun j u hu => ?_⟩⟩
 rw [add_addr, Nat.zero_add]
 have := heap_alloc_new w (.cells cs t)
 unfold World.cell?
 simp only [this]
 rw [← hcs] at hu
 simpa using hu
end Go.Proofs.YtnpkgmgedgcjmaaGreatDoor
end
section
namespace Go.Proofs.YtnpkgmgedgcjmaaGreatDoor
open Go Go.RowKit Png
theorem Kinds.ct {ct dp : Nat} (h : Kinds ct dp) : ct = 0 ∨ ct = 2 ∨ ct = 3 ∨ ct = 4 ∨ ct = 6 := by unfold Kinds at h; omega
theorem chan_le (c : Nat) : 1 ≤ chan c ∧ chan c ≤ 4 := by
 unfold chan
 split
 ·
  omega
 ·
  split
  ·
   omega
  ·
   split <;> omega
def partX (il : Bool) (p : Nat) : Nat := if il then [0, 4, 0, 2, 0, 1, 0].getD p 0 else 0
def partY (il : Bool) (p : Nat) : Nat := if il then [0, 0, 4, 0, 2, 0, 1].getD p 0 else 0
def partDX (il : Bool) (p : Nat) : Nat := if il then [8, 8, 4, 4, 2, 2, 1].getD p 1 else 1
def partDY (il : Bool) (p : Nat) : Nat := if il then [8, 8, 8, 4, 4, 2, 2].getD p 1 else 1
end Go.Proofs.YtnpkgmgedgcjmaaGreatDoor
end
section
namespace Go.Proofs.YtnpkgmgedgcjmaaGreatDoor
open Go Go.RowKit Png
structure Q4 where
 r : Nat
 g : Nat
 b : Nat
 a : Nat
def nvals (l : List Nat) : List Value := l.map fun v : Nat => Value.int .i64 (v : Int)
def dval (d : Q4) : List Value := [.int .i64 (d.r : Int), .int .i64 (d.g : Int), .int .i64 (d.b : Int), .int .i64 (d.a : Int)]
def dvals (l : List Q4) : List Value := l.flatMap dval
@[simp] theorem nvals_length (l : List Nat) : (nvals l).length = l.length := by simp [nvals]
theorem nvals_append (a b : List Nat) : nvals (a ++ b) = nvals a ++ nvals b := by simp [nvals]
theorem nvals_one (l : List Nat) : ∀ v ∈ nvals l, v.oneCell' = true := by
 intro v hv
 simp only [nvals, List.mem_map] at hv
 obtain ⟨b, _, rfl⟩ := hv
 rfl
@[simp] theorem dvals_length (l : List Q4) : (dvals l).length = l.length * 4 := by
 induction l with
 | nil => rfl
 | cons d l ih => simp [dvals, dval] at ih ⊢; omega
theorem dvals_append (a b : List Q4) : dvals (a ++ b) = dvals a ++ dvals b := by simp [dvals]
theorem dvals_one (l : List Q4) : ∀ v ∈ dvals l, v.oneCell' = true := by
 intro v hv
 simp only [dvals, List.mem_flatMap, dval] at hv
 obtain ⟨b, _, h⟩ := hv
 simp at h
 rcases h with rfl | rfl | rfl | rfl <;> rfl
theorem dvals_get (l : List Q4) : ∀ (k : Nat) (h : k < l.length), (dvals l)[k * 4]? = some (.int .i64 (l[k].r : Int)) ∧ (dvals l)[k * 4 + 1]? = some (.int .i64 (l[k].g : Int)) ∧
  (dvals l)[k * 4 + 2]? = some (.int .i64 (l[k].b : Int)) ∧ (dvals l)[k * 4 + 3]? = some (.int .i64 (l[k].a : Int)) := by
 induction l with
 | nil => intro k h; simp at h
 | cons d l ih =>
  intro k h
  cases k with
  | zero => simp [dvals, dval]
  | succ k =>
   have := ih k (by simpa using h)
   have e : dvals (d :: l) = dval d ++ dvals l := rfl
   have e4 : (dval d).length = 4 := rfl
   simp only [e, List.getElem_cons_succ]
   refine ⟨?_, ?_, ?_, ?_⟩ <;> rw [List.getElem?_append_right (by omega), e4] <;> simp only [show (k + 1) * 4 - 4 = k * 4 by omega, show (k + 1) * 4 + 1 - 4 = k * 4 + 1 by omega, show (k + 1) * 4 + 2 - 4 = k * 4 + 2 by omega, show (k + 1) * 4 + 3 - 4 = k * 4 + 3 by omega, this]
def Oi (w : World) (base : Nat) (p : Option Addr) (n cap : Nat) (l : List Nat) : Prop := l.length = n ∧ w.ownsRow base 3 1 (.slice p n cap) n (nvals l)
def Od (w : World) (base : Nat) (p : Option Addr) (n cap : Nat) (l : List Q4) : Prop := l.length = n ∧ w.ownsRow base 75 4 (.slice p n cap) n (dvals l)
theorem Oi.none (w : World) (base : Nat) : Oi w base none 0 0 [] := ⟨rfl, World.ownsRow_nil w base 3 1⟩
theorem Od.none (w : World) (base : Nat) : Od w base none 0 0 [] := ⟨rfl, World.ownsRow_nil w base 75 4⟩
theorem Oi.keep {w w' : World} {base n cap : Nat} {p : Option Addr} {l : List Nat} (h : Oi w base p n cap l) (hb : ∀ k, p.map (·.block) = some k → w'.heap[k]? = w.heap[k]?) : Oi w' base p n cap l := ⟨h.1, owns_kept h.2 hb⟩
theorem Od.keep {w w' : World} {base n cap : Nat} {p : Option Addr} {l : List Q4} (h : Od w base p n cap l) (hb : ∀ k, p.map (·.block) = some k → w'.heap[k]? = w.heap[k]?) : Od w' base p n cap l := ⟨h.1, owns_kept h.2 hb⟩
theorem Oi.kept {w w' : World} {base n cap : Nat} {p : Option Addr} {l : List Nat} (h : Oi w base p n cap l) (hb : Below w.heap.size w w') : Oi w' base p n cap l := h.keep fun k hk => hb.block k (owns_lt h.2 k hk).2
theorem Od.kept {w w' : World} {base n cap : Nat} {p : Option Addr} {l : List Q4} (h : Od w base p n cap l) (hb : Below w.heap.size w w') : Od w' base p n cap l := h.keep fun k hk => hb.block k (owns_lt h.2 k hk).2
theorem Oi.lower {w : World} {base base' n cap : Nat} {p : Option Addr} {l : List Nat} (h : Oi w base p n cap l) (hb : base' ≤ base) : Oi w base' p n cap l := ⟨h.1, owns_lower h.2 hb⟩
theorem Od.lower {w : World} {base base' n cap : Nat} {p : Option Addr} {l : List Q4} (h : Od w base p n cap l) (hb : base' ≤ base) : Od w base' p n cap l := ⟨h.1, owns_lower h.2 hb⟩
theorem wp_appI {w : World} {ops : Array Oper} {rest : List Oper} {o : Oper} {a : Act} {Q : Exit → Act → World → Prop} (hgd : o.guard = none) (s x : Operand)
  (ho : o.op = .call { callee := .builtin .append, args := #[s, x], argTypes := #[27, 27] })
  (base n cap m c : Nat) (p p2 : Option Addr) (l l2 : List Nat) (hs : a.eval s = .slice p n cap) (hx : a.eval x = .slice p2 m c) (hown : Oi w base p n cap l)
  (B : Nat) (hr : Reads w B 1 p2 m (nvals l2)) (hbd : n + m ≤ 17592186044416) (hbase : base ≤ w.heap.size)
  (h : ∀ p' cap' w', Oi w' base p' (n + m) cap' (l ++ l2) → w.grownBy w' (p.map (·.block)) → (p'.map (·.block) = p.map (·.block) ∨ p'.map (·.block) = some w.heap.size) → wpList Tryz.prog ops Q rest (a.put o.dst (.slice p' (n + m) cap')) w') :
  wpList Tryz.prog ops Q (o :: rest) a w := by
 refine wpList_append_any w hgd s x 27 ho base 3 Tryz.t3 (.int .i64 0) 1 8 Tryz.underlying27 (by kernel_rfl) (by kernel_rfl) (by kernel_rfl) (by kernel_rfl) rfl (by decide)
  (.slice p n cap) n (nvals l) hs hown.2 B p2 m c (nvals l2) hx hr (nvals_one l2) (by simp only [maxLen]; omega) (by omega) hbase ?_
 intro v' w' h1 h2 h3
 obtain ⟨p', cap', rfl⟩ := owns_slice h1
 rw [ownBlock_slice] at h2 h3
 rw [ownBlock_slice] at h3
 have hl : l2.length = m := by have := hr.1; simpa using this
 exact h p' cap' w' ⟨by simp [hown.1, hl], by rw [nvals_append]; exact h1⟩ h2 h3
theorem wp_appD {w : World} {ops : Array Oper} {rest : List Oper} {o : Oper} {a : Act} {Q : Exit → Act → World → Prop} (hgd : o.guard = none) (s x : Operand)
  (ho : o.op = .call { callee := .builtin .append, args := #[s, x], argTypes := #[28, 28] })
  (base n cap m c : Nat) (p p2 : Option Addr) (l l2 : List Q4) (hs : a.eval s = .slice p n cap) (hx : a.eval x = .slice p2 m c) (hown : Od w base p n cap l)
  (B : Nat) (hr : Reads w B 4 p2 m (dvals l2)) (hbd : n + m ≤ 4398046511104) (hbase : base ≤ w.heap.size)
  (h : ∀ p' cap' w', Od w' base p' (n + m) cap' (l ++ l2) → w.grownBy w' (p.map (·.block)) → (p'.map (·.block) = p.map (·.block) ∨ p'.map (·.block) = some w.heap.size) → wpList Tryz.prog ops Q rest (a.put o.dst (.slice p' (n + m) cap')) w') :
  wpList Tryz.prog ops Q (o :: rest) a w := by
 refine wpList_append_any w hgd s x 28 ho base 75 Tryz.t75 (.agg #[.int .i64 0, .int .i64 0, .int .i64 0, .int .i64 0]) 4 32 Tryz.underlying28 (by kernel_rfl) (by kernel_rfl) (by kernel_rfl) (by kernel_rfl) rfl (by decide)
  (.slice p n cap) n (dvals l) hs hown.2 B p2 m c (dvals l2) hx hr (dvals_one l2) (by simp only [maxLen]; omega) (by omega) hbase ?_
 intro v' w' h1 h2 h3
 obtain ⟨p', cap', rfl⟩ := owns_slice h1
 rw [ownBlock_slice] at h2 h3
 rw [ownBlock_slice] at h3
 have hl : l2.length = m := by have := hr.1; simp at this; omega
 exact h p' cap' w' ⟨by simp [hown.1, hl], by rw [dvals_append]; exact h1⟩ h2 h3
end Go.Proofs.YtnpkgmgedgcjmaaGreatDoor
end
section
namespace Go.Proofs.YtnpkgmgedgcjmaaGreatDoor
open Go Go.RowKit Png
def q4of (R G U A : Nat → Nat) (k : Nat) : Q4 := ⟨257 * R k, 257 * G k, 257 * U k, 257 * A k⟩
def q4s (R G U A : Nat → Nat) (n : Nat) : List Q4 := (List.range n).map (q4of R G U A)
theorem q4s_succ (R G U A : Nat → Nat) (n : Nat) : q4s R G U A (n + 1) = q4s R G U A n ++ [q4of R G U A n] := by simp [q4s, List.range_succ]
theorem q4s_length (R G U A : Nat → Nat) (n : Nat) : (q4s R G U A n).length = n := by simp [q4s]
def Shades (w : World) (b off n : Nat) (R G U A : Nat → Nat) : Prop :=
 ∀ k, k < n → w.cell? ⟨b, off + k * 4, none⟩ = some (.int .u8 (R k : Nat)) ∧ w.cell? ⟨b, off + k * 4 + 1, none⟩ = some (.int .u8 (G k : Nat)) ∧ w.cell? ⟨b, off + k * 4 + 2, none⟩ = some (.int .u8 (U k : Nat)) ∧ w.cell? ⟨b, off + k * 4 + 3, none⟩ = some (.int .u8 (A k : Nat)) ∧
  R k < 256 ∧ G k < 256 ∧ U k < 256 ∧ A k < 256
theorem Shades.below {w w' : World} {B b off n : Nat} {R G U A : Nat → Nat} (h : Shades w b off n R G U A) (hb : Below B w w') (hB : b < B) : Shades w' b off n R G U A := fun k hk => by
 obtain ⟨h0, h1, h2, h3, h4⟩ := h k hk
 refine ⟨?_, ?_, ?_, ?_, h4⟩
 ·
  rw [hb.cell (p := ⟨b, off + k * 4, none⟩) hB]; exact h0
 ·
  rw [hb.cell (p := ⟨b, off + k * 4 + 1, none⟩) hB]; exact h1
 ·
  rw [hb.cell (p := ⟨b, off + k * 4 + 2, none⟩) hB]; exact h2
 ·
  rw [hb.cell (p := ⟨b, off + k * 4 + 3, none⟩) hB]; exact h3
set_option maxHeartbeats 4000000 in
theorem dots_ok (b off n cap : Nat) (R G U A : Nat → Nat) (w : World) (hs : Shades w b off n R G U A) (hb : b < w.heap.size) (hn : n ≤ 2147483647) :
  Calls Tryz.prog 30 #[.slice (some ⟨b, off, none⟩) n cap] w fun e w' => ∃ p c, e = .returned (.slice p n c) ∧ Od w' w.heap.size p n c (q4s R G U A n) ∧ Below w.heap.size w w' := by
 have Hs := Lib.hid hs
 clear hs
 obtain ⟨B, hB⟩ : ∃ B, w.heap.size = B := ⟨_, rfl⟩
 rw [hB] at hb ⊢
 have HB := Lib.hid hB
 have hO0 : Od (w.alloc (.cells #[] 75)) B (some ⟨w.heap.size, 0, none⟩) 0 0 [] := ⟨rfl, World.ownsRow_made w #[] 0 (by omega) (by simp) rfl⟩
 have hBw : B ≤ w.heap.size := by omega
 clear hB
 go_enter Tryz.func30, Tryz.ntmps30
 go_wp2
 go_loopg [3, 9] n (fun g v i wr => ∃ k p cp, k + g = n ∧ i = .int .i64 (k : Nat) ∧ v = .slice p k cp ∧ Od wr B p k cp (q4s R G U A k) ∧ Below B w wr)
 case atStart => exact ⟨0, _, _, by omega, rfl, rfl, hO0, (Below.refl _ _).alloc hBw _⟩
 case round =>
  obtain ⟨k, p, cp, hk, rfl, rfl, hO, hbl⟩ := hrel
  have HO := Lib.hid hO
  have Hb := Lib.hid hbl
  have Hk := Lib.hid hk
  by_cases hlt : k < n
  ·
   obtain ⟨c0, c1, c2, c3, r1, r2, r3, r4⟩ := Hs.out.below hbl hb k hlt
   have hki : (k : Int) < (n : Int) := by omega
   have hbw : B ≤ wr.heap.size := by have := hbl.size; omega
   obtain ⟨r, hr⟩ : ∃ r, r = R k := ⟨_, rfl⟩
   obtain ⟨g, hg⟩ : ∃ g, g = G k := ⟨_, rfl⟩
   obtain ⟨u, hu⟩ : ∃ u, u = U k := ⟨_, rfl⟩
   obtain ⟨a, ha⟩ : ∃ a, a = A k := ⟨_, rfl⟩
   rw [← hr] at c0 r1
   rw [← hg] at c1 r2
   rw [← hu] at c2 r3
   rw [← ha] at c3 r4
   have HQ := Lib.hid (show q4of R G U A k = ⟨257 * r, 257 * g, 257 * u, 257 * a⟩ by rw [hr, hg, hu, ha]; rfl)
   clear hO hbl hk hr hg hu ha
   go_wp2_with (at_builtin; go_must (refine wp_appD rfl (.tmp 13) (.tmp 31) rfl B k cp 1 1 p (some ⟨wr.heap.size + 1, 0, none⟩) (q4s R G U A k) [⟨257 * r, 257 * g, 257 * u, 257 * a⟩] rfl rfl ((HO.out.keep fun j hj => (heap_alloc_old (wr.alloc _) _ (by have := (owns_lt HO.out.2 j hj).2; simp; omega)).trans (heap_alloc_old wr _ (owns_lt HO.out.2 j hj).2))) (wr.heap.size + 2) (reads_new (wr.alloc _) _ 75 _ 4 1 _ rfl (by simp [dvals, dval]) (by simp) _ (by simp)) (by omega) (by simp; omega) ?_); intro p1 cap1 w1 hO1 hG hL; have HO1 := Lib.hid hO1; have Hb1 := Lib.hid (((Hb.out.alloc hbw _).alloc (by simp; omega) _).grown hG (by simp; omega) (fun j hj => (owns_lt HO.out.2 j hj).1)); clear hO1 hG hL)
   go_roundg (gk - 1)
   case measure => have := Hk.out; omega
   case rel =>
    have := Hk.out
    exact ⟨k + 1, p1, cap1, by omega, by go_num, rfl, by rw [q4s_succ, HQ.out]; exact HO1.out, Hb1.out⟩
  ·
   have hkn : k = n := by omega
   subst hkn
   clear hO hbl hk
   go_wp2
   go_ret
   exact ⟨p, cp, rfl, HO.out, Hb.out⟩
theorem Od.cells {w : World} {base g n cap : Nat} {l : List Q4} (h : Od w base (some ⟨g, 0, Option.none⟩) n cap l) {k : Nat} (hk : k < l.length) :
  w.cell? ⟨g, k * 4, Option.none⟩ = some (.int .i64 (l[k].r : Int)) ∧ w.cell? ⟨g, k * 4 + 1, Option.none⟩ = some (.int .i64 (l[k].g : Int)) ∧ w.cell? ⟨g, k * 4 + 2, Option.none⟩ = some (.int .i64 (l[k].b : Int)) ∧ w.cell? ⟨g, k * 4 + 3, Option.none⟩ = some (.int .i64 (l[k].a : Int)) := by
 obtain ⟨g0, g1, g2, g3⟩ := dvals_get l k hk
 have hl := h.1
 refine ⟨?_, ?_, ?_, ?_⟩
 ·
  rw [h.2.cellAt _ (by omega)]; exact g0
 ·
  rw [h.2.cellAt _ (by omega)]; exact g1
 ·
  rw [h.2.cellAt _ (by omega)]; exact g2
 ·
  rw [h.2.cellAt _ (by omega)]; exact g3
end Go.Proofs.YtnpkgmgedgcjmaaGreatDoor
end
section
namespace Go.Proofs.YtnpkgmgedgcjmaaGreatDoor
open Go Go.RowKit Png
def Pal (w : World) (p : Option Addr) (n : Nat) (R G U A : Nat → Nat) : Prop := n = 0 ∨ ∃ b off, p = some ⟨b, off, none⟩ ∧ b < w.heap.size ∧ Shades w b off n R G U A
theorem Pal.below {w w' : World} {p : Option Addr} {n : Nat} {R G U A : Nat → Nat} (h : Pal w p n R G U A) (hb : Below w.heap.size w w') : Pal w' p n R G U A := by
 rcases h with h | ⟨b, off, e, hlt, hc⟩
 ·
  exact .inl h
 ·
  exact .inr ⟨b, off, e, Nat.lt_of_lt_of_le hlt hb.size, hc.below hb hlt⟩
theorem cell_lt {w : World} {a : Addr} {v : Value} (h : w.cell? a = some v) : a.block < w.heap.size ∧ a.spot = none := by
 unfold World.cell? at h
 constructor
 ·
  rcases Nat.lt_or_ge a.block w.heap.size with h' | h'
  ·
   exact h'
  ·
   rw [Array.getElem?_eq_none h'] at h; cases h
 ·
  cases hs : a.spot with
  | none => rfl
  | some s => rw [hs] at h; split at h <;> simp at h
end Go.Proofs.YtnpkgmgedgcjmaaGreatDoor
end
