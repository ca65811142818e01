/- Bytes made of a string ('[]byte(name)'), and what is put behind them. -/
import Derived.Test.YtnpkgmgedgcjmaaGreatDoorWb
import Derived.Lib.ConvBytes
set_option linter.all false
namespace Go.Proofs.YtnpkgmgedgcjmaaGreatDoor
open Go Go.RowKit Png

/-- Cells stored into a row whose mark lies behind its cells. -/
theorem storeCells_mk (P : Program) (g o : Nat) (t : TypeId) (m : Nat × Nat) (vs : List Value) : ∀ (i : Nat) (cur : Array Value) (w : World), w.heap[g]? = some (.cells cur t m) → cur.size ≤ m.1 →
    o + i + vs.length ≤ cur.size → (∀ v ∈ vs, v.oneCell' = true) →
    (storeCells ⟨g, o, none⟩ vs i).run P w = .ok () (w.setRow g (cur.toList.take (o + i) ++ vs ++ cur.toList.drop (o + i + vs.length)).toArray) := by
  induction vs with
  | nil =>
    intro i cur w hg hm _ _
    simp only [storeCells, List.append_nil, List.length_nil, Nat.add_zero, List.take_append_drop, Array.toArray_toList]
    rw [setRow_self w g cur t m hg]
    rfl
  | cons v rest ih =>
    intro i cur w hg hm hl h1
    have hi : o + i < cur.size := by simp at hl; omega
    have hcell : w.cell? ⟨g, o + i, none⟩ = some cur[o + i] := by simp [World.cell?, hg, hi]
    have hfro : w.frozen? ⟨g, o + i, none⟩ = false := by
      obtain ⟨m1, m2⟩ := m
      simp [World.frozen?, hg]
      intro h; simp at hm; omega
    have hst : (store ((⟨g, o, none⟩ : Addr).add i) v).run P w = .ok () (w.setRow g (cur.setIfInBounds (o + i) v)) := by
      rw [add_addr, run_store P w _ v _ (h1 v (by simp)), hcell]
      simp [hfro, setCell_eq_setRow w g (o + i) cur t m v hg]
    have ih := ih (i + 1) (cur.setIfInBounds (o + i) v) (w.setRow g (cur.setIfInBounds (o + i) v)) (setRow_heap w g cur _ t _ hg) (by simpa using hm) (by simp at hl ⊢; omega) (fun x hx => h1 x (by simp [hx]))
    simp only [storeCells, Sem.run_bind, hst, Result.andThen_ok, ih, setRow_setRow]
    congr 3
    have e := list_seg_step cur.toList (o + i) v rest (by simp at hl ⊢; omega)
    simpa [Array.toList_setIfInBounds, Nat.add_assoc] using e

set_option maxRecDepth 100000 in
/-- The builtin append of bytes (or of none) to bytes made of a string. -/
theorem run_app_mk (w : World) (ty : TypeId) (g n cap m c : Nat) (cur : Array Value) (mk : Nat × Nat) (l l2 : List UInt8) (p2 : Option Addr) (B : Nat) (hg : w.heap[g]? = some (.cells cur 5 mk))
    (hmk : cur.size ≤ mk.1) (hcs : cur.size = cap) (hn : n ≤ cap) (hl : l.length = n) (hcur : cur.toList.take n = bvals l) (hr : Reads w B 1 p2 m (bvals l2)) (hbd : n + m ≤ 1073741824) :
    ∃ p' cap' w', (Builtin.append_ #[24, 24] ty #[.slice (some ⟨g, 0, none⟩) n cap, .slice p2 m c]).run Tryz.prog w = .ok (.slice p' (n + m) cap') w' ∧
      Reads w' w'.heap.size 1 p' (n + m) (bvals (l ++ l2)) ∧ w.grownBy w' (some g) ∧ (∀ a, p' = some a → a.spot = none) := by
  have ht := Tryz.underlying24
  have hi : Tryz.prog.info? 5 = some Tryz.t5 := by kernel_rfl
  have hz : Tryz.t5.zero = some (.int .u8 0) := by kernel_rfl
  have hsz : Tryz.t5.size = 1 := by kernel_rfl
  have hby : Tryz.t5.bytes = 1 := by kernel_rfl
  have hl2 : l2.length = m := by have := hr.1; simpa using this
  have hlt : g < w.heap.size := (Array.getElem?_eq_some_iff.1 hg).1
  have old : ∀ j u, (bvals l)[j]? = some u → w.cell? ((⟨g, 0, none⟩ : Addr).add j) = some u := by
    intro j u hu
    rw [add_addr, Nat.zero_add]
    have hj : j < n := by
      have := (List.getElem?_eq_some_iff.1 hu).1
      simpa [hl] using this
    rw [← hcur, List.getElem?_take_of_lt hj] at hu
    simpa [World.cell?, hg] using hu
  have empty : ∀ c, m = 0 → (Builtin.append_ #[24, 24] ty #[.slice (some ⟨g, 0, none⟩) n cap, .slice none 0 c]).run Tryz.prog w = .ok (.slice (some ⟨g, 0, none⟩) n cap) w := by
    intro c _
    simp [Builtin.append_, run_underlying ht, sizeOf, typeInfo, hi, Builtin.lenOf, Builtin.firstCells, hn, storeCells]
  rcases p2 with _ | ad
  · have hm : m = 0 := by
      rcases Nat.eq_zero_or_pos m with h0 | h0
      · exact h0
      · obtain ⟨ad, h, _⟩ := hr.2 h0; cases h
    subst hm
    have hn2 : l2 = [] := List.eq_nil_of_length_eq_zero hl2
    subst hn2
    refine ⟨_, _, w, empty c rfl, ⟨by simp [hl], fun _ => ⟨_, rfl, hlt, by simpa using old⟩⟩, World.grownBy.refl w _, ?_⟩
    rintro a ⟨⟩; rfl
  · have hcells : ∀ j u, (bvals l2)[j]? = some u → w.cell? (ad.add j) = some u := by
      intro j u hu
      rcases Nat.eq_zero_or_pos m with h0 | h0
      · have hn2 : l2 = [] := List.eq_nil_of_length_eq_zero (by omega)
        rw [hn2] at hu
        exact absurd hu (by simp [bvals])
      · obtain ⟨ad', h, _, hc⟩ := hr.2 h0
        obtain rfl := Option.some.inj h
        exact hc j u hu
    by_cases hroom : n + m ≤ cap
    · have hf := run_firstCells_some (P := Tryz.prog) w 1 m ad m c (bvals l2) (by simp [hl2]) hcells
      have hst := storeCells_mk Tryz.prog g (n * 1) 5 mk (bvals l2) 0 cur w hg hmk (by simp [hl2]; omega) (bvals_one l2)
      simp only [Nat.add_zero] at hst
      refine ⟨some ⟨g, 0, none⟩, cap, w.setRow g (cur.toList.take (n * 1) ++ bvals l2 ++ cur.toList.drop (n * 1 + (bvals l2).length)).toArray, ?_, ⟨by simp [hl, hl2], fun _ => ⟨_, rfl, by simpa using hlt, fun j u hu => ?_⟩⟩, ?_, ?_⟩
      · have hst2 := hst
        simp only [Nat.mul_one] at hst2
        clear empty old hcells hst
        simp [Builtin.append_, run_underlying ht, sizeOf, typeInfo, hi, hsz, Builtin.lenOf, hroom, hf, Addr.add_lit, hst2]
      · have hj : j < n + m := by
          have := (List.getElem?_eq_some_iff.1 hu).1
          simpa [hl, hl2] using this
        rw [add_addr, Nat.zero_add, cell_setRow_same w g j cur _ 5 mk hg]
        rw [Nat.mul_one, hcur, show bvals l ++ bvals l2 = bvals (l ++ l2) by simp [bvals]]
        rw [List.getElem?_toArray, List.getElem?_append_left (by simp [hl, hl2]; omega)]
        exact hu
      · exact ⟨rfl, rfl, rfl, by simp, fun k _ hk => setRow_other w g k _ (fun e => hk (by rw [e]))⟩
      · rintro a ⟨⟩; rfl
    · have hr2 := run_append_grow (P := Tryz.prog) w 24 ty 5 Tryz.t5 (.int .u8 0) ht hi hz ⟨g, 0, none⟩ n cap (bvals l) (by simp [hl, hsz]) old ad m c (bvals l2) (by simp [hl2, hsz]) hcells (by omega) (by omega)
        (growslice_fits (by omega) (by rw [hby]; omega))
      refine ⟨_, _, _, hr2, ⟨by simp [hl, hl2], fun _ => ⟨_, rfl, by simp, fun j u hu => ?_⟩⟩, ⟨rfl, rfl, rfl, by simp, fun k hk _ => heap_alloc_old w.drew _ hk⟩, ?_⟩
      · have hj : j < n + m := by
          have := (List.getElem?_eq_some_iff.1 hu).1
          simpa [hl, hl2] using this
        rw [add_addr, Nat.zero_add]
        have hnew := heap_alloc_new w.drew (.cells ((bvals l).toArray ++ (bvals l2).toArray ++ Builtin.zeroCells (Value.int .u8 0).cells (grownCap w (n + m) cap 5 - (n + m))) 5)
        have : w.drew.heap.size = w.heap.size := rfl
        rw [this] at hnew
        unfold World.cell?
        simp only [hnew]
        rw [show (bvals l).toArray ++ (bvals l2).toArray = (bvals (l ++ l2)).toArray by simp [bvals]]
        rw [Array.getElem?_append_left (by simp [hl, hl2]; omega)]
        simpa using hu
      · rintro a ⟨⟩; rfl
end Go.Proofs.YtnpkgmgedgcjmaaGreatDoor
