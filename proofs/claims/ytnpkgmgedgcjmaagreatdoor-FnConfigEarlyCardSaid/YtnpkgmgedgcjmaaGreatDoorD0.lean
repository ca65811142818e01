/- What an image that is drawn is, in the words of the walks. -/
import Derived.Test.YtnpkgmgedgcjmaaGreatDoorPa
import Derived.Test.YtnpkgmgedgcjmaaGreatDoorL0
import Derived.Test.YtnpkgmgedgcjmaaGreatDoorSh
set_option linter.all false
namespace Go.Proofs.YtnpkgmgedgcjmaaGreatDoor
open Go Go.RowKit Png

/-- An image that is drawn: its shape, its samples, its palette, its clear samples. -/
structure Drawn (w : World) (W H ct dp sb ns scap dN dcap kN kcap : Nat) (pd pk : Option Addr) (vd : Value) (zs : List Nat) (ds : List Q4) (cs : List Nat) : Prop where
  kinds : Kinds ct dp
  w1 : 1 ≤ W
  w40 : W ≤ 40
  h1 : 1 ≤ H
  h40 : H ≤ 40
  ints : IntsAt w sb zs
  sbl : sb < w.heap.size
  zl : zs.length = ns
  nse : ns = H * W * chan ct
  cap : ns ≤ scap
  cap2 : scap ≤ 9223372036854775807
  zv : ∀ k, zs.getD k 0 ≤ 65535
  dots : 0 < dN → ∃ db, pd = some ⟨db, 0, none⟩ ∧ db < w.heap.size ∧ DotsAt w db ds
  dl : ds.length = dN
  dn : dN ≤ 256
  dv : ∀ d ∈ ds, d.r ≤ 65535 ∧ d.g ≤ 65535 ∧ d.b ≤ 65535 ∧ d.a ≤ 65535
  clr : 0 < kN → ∃ cb, pk = some ⟨cb, 0, none⟩ ∧ cb < w.heap.size ∧ IntsAt w cb cs
  cl : cs.length = kN
  cn : kN ≤ 4
  cv : ∀ k, cs.getD k 0 ≤ 65535
  one : 0 < dN → kN = 0
  three : ct = 3 → 0 < dN ∧ dN ≤ 2 ^ dp
  other : ct ≠ 3 → dN = 0
  vds : ∃ a n c, vd = .slice a n c

theorem Drawn.below {w w' : World} {W H ct dp sb ns scap dN dcap kN kcap : Nat} {pd pk : Option Addr} {vd : Value} {zs : List Nat} {ds : List Q4} {cs : List Nat} (h : Drawn w W H ct dp sb ns scap dN dcap kN kcap pd pk vd zs ds cs) (hb : Below w.heap.size w w') :
    Drawn w' W H ct dp sb ns scap dN dcap kN kcap pd pk vd zs ds cs :=
  { h with
    ints := h.ints.below hb h.sbl
    sbl := Nat.lt_of_lt_of_le h.sbl hb.size
    dots := fun h0 => by obtain ⟨db, e, h1, h2⟩ := h.dots h0; exact ⟨db, e, Nat.lt_of_lt_of_le h1 hb.size, h2.below hb h1⟩
    clr := fun h0 => by obtain ⟨db, e, h1, h2⟩ := h.clr h0; exact ⟨db, e, Nat.lt_of_lt_of_le h1 hb.size, h2.below hb h1⟩ }

/-- Any colors that come in, made into pixels. -/
theorem pal_dots (p : Option Addr) (n cap : Nat) (R G U A : Nat → Nat) (w : World) (h : Pal w p n R G U A) (hn : n ≤ 2147483647) :
    Calls Tryz.prog 30 #[.slice p n cap] w fun e w' => ∃ q c, e = .returned (.slice q n c) ∧ Od w' w.heap.size q n c (q4s R G U A n) ∧ Below w.heap.size w w' := by
  rcases h with rfl | ⟨b, off, rfl, hb, hs⟩
  · go_enter Tryz.func30, Tryz.ntmps30
    go_wp2
    refine wp_loop_rounds 1 ?_
    rw [rounds_succ]
    go_wp2
    go_ret
    exact ⟨_, _, rfl, ⟨rfl, World.ownsRow_made w #[] 0 (Nat.le_refl _) (by simp) rfl⟩, (Below.refl _ _).alloc (Nat.le_refl _) _⟩
  · exact dots_ok b off n cap R G U A w hs hb hn

theorem q4s_bounds (R G U A : Nat → Nat) (n : Nat) (h : ∀ k, k < n → R k < 256 ∧ G k < 256 ∧ U k < 256 ∧ A k < 256) : ∀ d ∈ q4s R G U A n, d.r ≤ 65535 ∧ d.g ≤ 65535 ∧ d.b ≤ 65535 ∧ d.a ≤ 65535 := by
  intro d hd
  simp only [q4s, List.mem_map, List.mem_range] at hd
  obtain ⟨k, hk, rfl⟩ := hd
  obtain ⟨h1, h2, h3, h4⟩ := h k hk
  simp only [q4of]
  omega
theorem Od.at {w : World} {base g n cap : Nat} {l : List Q4} (h : Od w base (some ⟨g, 0, Option.none⟩) n cap l) : DotsAt w g l := fun _ hk => h.cells hk
theorem DotsAt.take {w : World} {b m : Nat} {ds : List Q4} (h : DotsAt w b ds) : DotsAt w b (ds.take m) := fun k hk => by
  have hk2 : k < ds.length := by simp at hk; omega
  have e : (ds.take m)[k] = ds[k] := by simp
  rw [e]
  exact h k hk2
theorem Od.ptr {w : World} {base n cap : Nat} {p : Option Addr} {l : List Q4} (h : Od w base p n cap l) (h0 : 0 < n) : ∃ g, p = some ⟨g, 0, Option.none⟩ ∧ base ≤ g ∧ g < w.heap.size ∧ n ≤ cap ∧ cap ≤ 9223372036854775807 := by
  obtain ⟨g, c, hv, _⟩ := h.2.form h0
  injection hv with hv hn hc
  have hlt := owns_lt h.2 g (by rw [hv]; rfl)
  rcases h.2.2 with ⟨e, _⟩ | ⟨g', c', cur, e, hb, hh, h1, h2, h3⟩
  · cases e; omega
  · injection e with e1 e2 e3
    subst e3
    exact ⟨g, hv, hlt.1, hlt.2, h1, Nat.le_trans h2 (by decide)⟩
theorem Fr.to_below {w w' : World} (h : Fr [] w w') : Below w.heap.size w w' := ⟨h.os, h.tape, h.output, h.size, fun k hk => h.block k hk (by simp)⟩

theorem shadesV_length' (R G U A : Nat → Nat) (n : Nat) : (shadesV R G U A n).length = 4 * n := by
  induction n with
  | zero => rfl
  | succ n ih => simp [shadesV, shadeV, ih]; omega
theorem shadesV_get (R G U A : Nat → Nat) (n : Nat) : ∀ k, k < n → (shadesV R G U A n)[k * 4]? = some (.int .u8 (R k : Nat)) ∧ (shadesV R G U A n)[k * 4 + 1]? = some (.int .u8 (G k : Nat)) ∧
    (shadesV R G U A n)[k * 4 + 2]? = some (.int .u8 (U k : Nat)) ∧ (shadesV R G U A n)[k * 4 + 3]? = some (.int .u8 (A k : Nat)) := by
  induction n with
  | zero => intro k h; omega
  | succ n ih =>
    intro k hk
    have hl := shadesV_length' R G U A n
    simp only [shadesV]
    by_cases h : k < n
    · obtain ⟨h0, h1, h2, h3⟩ := ih k h
      rw [List.getElem?_append_left (by omega), List.getElem?_append_left (by omega), List.getElem?_append_left (by omega), List.getElem?_append_left (by omega)]
      exact ⟨h0, h1, h2, h3⟩
    · have hkn : k = n := by omega
      subst hkn
      rw [List.getElem?_append_right (by omega), List.getElem?_append_right (by omega), List.getElem?_append_right (by omega), List.getElem?_append_right (by omega), hl]
      rw [show k * 4 - 4 * k = 0 by omega, show k * 4 + 1 - 4 * k = 1 by omega, show k * 4 + 2 - 4 * k = 2 by omega, show k * 4 + 3 - 4 * k = 3 by omega]
      exact ⟨rfl, rfl, rfl, rfl⟩

/-- Colors as impl gives them, in the words of what is made of them. -/
theorem shades_of {w : World} {base np g c : Nat} {R G U A : Nat → Nat} (h : w.ownsRow base 96 4 (.slice (some ⟨g, 0, none⟩) np c) np (shadesV R G U A np)) (hb : ∀ k, k < np → R k < 256 ∧ G k < 256 ∧ U k < 256 ∧ A k < 256) : Shades w g 0 np R G U A := fun k hk => by
  obtain ⟨g0, g1, g2, g3⟩ := shadesV_get R G U A np k hk
  refine ⟨?_, ?_, ?_, ?_, hb k hk⟩
  · rw [Nat.zero_add, h.cellAt _ (by omega)]; exact g0
  · rw [Nat.zero_add, h.cellAt _ (by omega)]; exact g1
  · rw [Nat.zero_add, h.cellAt _ (by omega)]; exact g2
  · rw [Nat.zero_add, h.cellAt _ (by omega)]; exact g3
end Go.Proofs.YtnpkgmgedgcjmaaGreatDoor
