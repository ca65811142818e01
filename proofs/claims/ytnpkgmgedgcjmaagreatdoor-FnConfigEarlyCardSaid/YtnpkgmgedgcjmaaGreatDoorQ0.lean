/- Slices of structs opened to cells (the plain theorem that the kit's page of structs gives to be copied), and the statements' slices in the words of the walks. -/
import Derived.Test.YtnpkgmgedgcjmaaGreatDoorL0
import Derived.Deep.Slices
import Derived.Deep.Fields
import Derived.ChangeSame
import Derived.ChangeSlices
import Derived.RowKit
set_option linter.all false
namespace Go.Proofs.YtnpkgmgedgcjmaaGreatDoor
open Go Go.ChangeShapes Go.WideShapes Go.RowKit Go.Deep Png

section
variable {H : Type} {enc : TypeId × Value → H} {P : Program} {w : World} {base : Nat} {spare : Nat → Bool} {held : Bool}
theorem open_slice_fields {t e : TypeId} {fs : Array Field} {fuel : Nat} {cs : List Value} {x : DataW H × List MemPlace} (ht : P.underlying t = some (.slice e)) (he : P.underlying e = some (.struct fs))
    (hone : oneCellFields P fs = true) (hC : P.cellsOf e = fs.size) (h : DataW.trod enc P w base spare held fuel t cs = some x) :
    (cs = [.slice none 0 0] ∧ x = (.nil, [])) ∨
    ∃ (a : Addr) (len cap m : Nat) (D : Nat → DataW H) (Pl : Nat → List MemPlace), cs = [.slice (some a) len cap] ∧ base ≤ a.block ∧ len ≤ cap ∧ cap ≤ maxLen ∧ m = (if spare a.block then cap else len) ∧
      x = (.slice ((List.range len).map D) ((List.range (m - len)).map fun j => D (len + j)), MemPlace.row a (m * fs.size) ++ (List.range m).flatMap Pl) ∧
      ∀ i, i < m → ∃ (ys : List (DataW H × List MemPlace)) (n : Nat), D i = .agg (ys.map (·.1)) ∧ Pl i = ys.flatMap (·.2) ∧ ys.length = fs.size ∧
        ∀ (j : Nat) (f : Field), fs[j]? = some f → ∃ (v : Value) (y : DataW H × List MemPlace), w.cell? (a.add (i * fs.size + j)) = some v ∧ ys[j]? = some y ∧ DataW.trod enc P w base spare held n f.type [v] = some y := by
  rcases open_slice ht h with h0 | ⟨a, len, cap, m, n, D, Pl, hcs, hb, hl, hm, hmm, hx, hi⟩
  · exact .inl h0
  · refine .inr ⟨a, len, cap, m, D, Pl, hcs, hb, hl, hm, hmm, by rw [hC] at hx; exact hx, fun i him => ?_⟩
    obtain ⟨cs', hc, ht'⟩ := hi i him
    rw [hC] at hc
    obtain ⟨ys, n', hn', hy, hlen, hyl, hf⟩ := DataW.trod_struct he ht'
    obtain ⟨_, hcl, hat⟩ := World.cells?_some hc
    simp only [Prod.mk.injEq] at hy
    refine ⟨ys, n', hy.1, hy.2, hyl, fun j f hj => ?_⟩
    obtain ⟨ho, hk⟩ := hone_of hone j f hj
    have hjl : j < fs.size := (Array.getElem?_eq_some_iff.1 hj).1
    have hcell := hat j hjl
    have hv : cs'[j]? = some (cs'[j]'(by omega)) := List.getElem?_eq_getElem (by omega)
    have h1 := hf j f hj
    rw [ho, hk] at h1
    have hone' : (cs'.drop j).take 1 = [cs'[j]'(by omega)] := by
      rw [List.drop_eq_getElem_cons (by omega)]
      rfl
    rw [hone'] at h1
    have hys : ys[j]? = some (ys[j]'(by omega)) := List.getElem?_eq_getElem (by omega)
    refine ⟨_, _, ?_, hys, h1.trans hys⟩
    rw [← Go.Deep.add_add, hcell, hv]
end

section
variable {H : Type} {enc : TypeId × Value → H} {W : World}
set_option maxRecDepth 100000 in
theorem open_u16s {r : Reach} {b0 : Nat} {v : Value} {d : DataW H} {p : List MemPlace} (hv : Value.okWide Tryz.prog W r b0 22 v) (h : DataW.Trod enc Tryz.prog W 0 (fun _ => true) true 22 v d p) :
    ∃ (q : Option Addr) (n cap : Nat) (X : Nat → Nat), v = .slice q n cap ∧ n ≤ cap ∧ cap ≤ 9223372036854775807 ∧ U16s W q n X := by
  obtain ⟨a, len, cap, rfl⟩ := okWide_slice Tryz.underlying22 hv
  obtain ⟨fuel, hf⟩ := h
  rcases open_ints Tryz.underlying22 Tryz.underlying35 (by kernel_rfl) hf with ⟨hc, _⟩ | ⟨a', len', cap', zs, hc, _, hl, hm, hz, _, hcell, hwf⟩
  · simp only [Value.cells, List.cons.injEq, and_true] at hc
    injection hc with h1 h2 h3
    subst h1 h2 h3
    exact ⟨_, _, _, fun _ => 0, rfl, Nat.le_refl _, by omega, .inl rfl⟩
  · simp only [Value.cells, List.cons.injEq, and_true] at hc
    injection hc with h1 h2 h3
    subst h1 h2 h3
    simp only [if_true] at hz
    have wf : ∀ i, i < zs.length → 0 ≤ zs.getD i 0 ∧ zs.getD i 0 < 65536 := fun i hi => by
      have := hwf (zs.getD i 0) (by rw [List.getD_eq_getElem?_getD, List.getElem?_eq_getElem hi]; exact List.getElem_mem hi)
      generalize zs.getD i 0 = z at this ⊢
      simp [Lit.wf, IntKind.min, IntKind.max, IntKind.signed, IntKind.bits] at this
      omega
    refine ⟨_, _, _, fun i => (zs.getD i 0).toNat, rfl, hl, Nat.le_trans hm (by decide), ?_⟩
    rcases Nat.eq_zero_or_pos len with h0 | h0
    · exact .inl h0
    · right
      obtain ⟨hb, hs⟩ := cell_lt (hcell 0 (by omega))
      have e0 : a'.add 0 = a' := rfl
      rw [e0] at hb hs
      obtain ⟨b, off, sp⟩ := a'
      simp only at hs hb
      subst hs
      refine ⟨b, off, rfl, hb, fun i hi => ?_⟩
      have := hcell i (by omega)
      rw [add_addr] at this
      have w2 := wf i (by omega)
      rw [this]
      dsimp only
      generalize zs.getD i 0 = z at w2 ⊢
      exact ⟨by rw [Int.toNat_of_nonneg w2.1], by omega⟩

theorem shade_fields (fs : Array Field) (e : Tryz.prog.underlying 96 = some (.struct fs)) (j : Nat) (hj : j < 4) : ∃ f, fs[j]? = some f ∧ f.type = 5 := by
  have e2 := Tryz.underlying96.symm.trans e
  injection e2 with e2
  injection e2 with e2
  subst e2
  have hj4 : j = 0 ∨ j = 1 ∨ j = 2 ∨ j = 3 := by omega
  rcases hj4 with rfl | rfl | rfl | rfl
  · exact ⟨_, rfl, rfl⟩
  · exact ⟨_, rfl, rfl⟩
  · exact ⟨_, rfl, rfl⟩
  · exact ⟨_, rfl, rfl⟩
set_option maxRecDepth 100000 in
theorem open_pal {r : Reach} {b0 : Nat} {v : Value} {d : DataW H} {p : List MemPlace} (hv : Value.okWide Tryz.prog W r b0 39 v) (h : DataW.Trod enc Tryz.prog W 0 (fun _ => true) true 39 v d p) :
    ∃ (q : Option Addr) (n cap : Nat) (R G U A : Nat → Nat), v = .slice q n cap ∧ n ≤ cap ∧ cap ≤ 9223372036854775807 ∧ Pal W q n R G U A := by
  obtain ⟨a, len, cap, rfl⟩ := okWide_slice Tryz.underlying39 hv
  obtain ⟨fuel, hf⟩ := h
  rcases open_slice_fields Tryz.underlying39 Tryz.underlying96 (by kernel_rfl) (by kernel_rfl) hf with ⟨hc, _⟩ | ⟨a', len', cap', m, D, Pl, hc, _, hl, hm, hmm, _, hall⟩
  · simp only [Value.cells, List.cons.injEq, and_true] at hc
    injection hc with h1 h2 h3
    subst h1 h2 h3
    exact ⟨_, _, _, fun _ => 0, fun _ => 0, fun _ => 0, fun _ => 0, rfl, Nat.le_refl _, by omega, .inl rfl⟩
  · simp only [Value.cells, List.cons.injEq, and_true] at hc
    injection hc with h1 h2 h3
    subst h1 h2 h3
    simp only [if_true] at hmm
    have each : ∀ j, j < 4 → ∃ F : Nat → Nat, ∀ i, i < len → W.cell? (a'.add (i * 4 + j)) = some (.int .u8 (F i : Nat)) ∧ F i < 256 := fun j hj => by
      refine choose_lt (p := fun i (v : Nat) => W.cell? (a'.add (i * 4 + j)) = some (.int .u8 (v : Nat)) ∧ v < 256) fun i hi => ?_
      obtain ⟨ys, n, _, _, _, hf⟩ := hall i (by omega)
      obtain ⟨f, f1, f2⟩ := shade_fields _ Tryz.underlying96 j hj
      obtain ⟨v, y, hcell, _, ht⟩ := hf j f f1
      rw [f2] at ht
      obtain ⟨k, e1, _, hw⟩ := DataW.trod_int Tryz.underlying5 ht
      simp only [List.cons.injEq, and_true] at e1
      subst e1
      simp [Lit.wf, IntKind.min, IntKind.max, IntKind.signed, IntKind.bits] at hw
      refine ⟨k.toNat, ?_, by omega⟩
      rw [show ((k.toNat : Nat) : Int) = k by omega]
      exact hcell
    obtain ⟨R, hR⟩ := each 0 (by decide)
    obtain ⟨G, hG⟩ := each 1 (by decide)
    obtain ⟨U, hU⟩ := each 2 (by decide)
    obtain ⟨A, hA⟩ := each 3 (by decide)
    refine ⟨_, _, _, R, G, U, A, rfl, hl, Nat.le_trans hm (by decide), ?_⟩
    rcases Nat.eq_zero_or_pos len with h0 | h0
    · exact .inl h0
    · right
      obtain ⟨hb, hs⟩ := cell_lt (hR 0 h0).1
      have e0 : a'.add (0 * 4 + 0) = a' := rfl
      rw [e0] at hb hs
      obtain ⟨b, off, sp⟩ := a'
      simp only at hs hb
      subst hs
      refine ⟨b, off, rfl, hb, fun i hi => ?_⟩
      have h1 := hR i hi
      have h2 := hG i hi
      have h3 := hU i hi
      have h4 := hA i hi
      rw [add_addr] at h1 h2 h3 h4
      exact ⟨h1.1, h2.1, h3.1, h4.1, h1.2, h2.2, h3.2, h4.2⟩
end

end Go.Proofs.YtnpkgmgedgcjmaaGreatDoor
