/- An image that is drawn. -/
import Derived.Test.YtnpkgmgedgcjmaaGreatDoorDa
import Derived.Test.YtnpkgmgedgcjmaaGreatDoorDe
import Derived.Test.YtnpkgmgedgcjmaaGreatDoorDf
import Derived.Test.YtnpkgmgedgcjmaaGreatDoorD0
import Derived.Test.YtnpkgmgedgcjmaaGreatDoorWc
import Derived.Deep.RegionLaw
set_option linter.all false

/- Pixels that the reference makes of samples: that it returns, and touches nothing that was there. -/
namespace Go.Proofs.YtnpkgmgedgcjmaaGreatDoor
open Go Go.RowKit Png

theorem dotsW_ok (W H dp ct sb ns scap dN dcap cN ccap N : Nat) (il : Bool) (zs : List Nat) (ds : List Q4) (cs : List Nat) (pd pc : Option Addr) (w : World)
    (hk : Kinds ct dp) (hN : N ≤ 1600) (hz : IntsAt w sb zs) (hsb : sb < w.heap.size) (hl : zs.length = ns)
    (hns : ns = N * chan ct) (hcap : ns ≤ scap) (hcap2 : scap ≤ 9223372036854775807) (hv : ∀ k, zs.getD k 0 ≤ 65535)
    (hd : 0 < dN → ∃ db, pd = some ⟨db, 0, none⟩ ∧ db < w.heap.size ∧ DotsAt w db ds) (hdl : ds.length = dN) (hdn : dN ≤ 256)
    (hc : 0 < cN → ∃ cb, pc = some ⟨cb, 0, none⟩ ∧ cb < w.heap.size ∧ IntsAt w cb cs) (hcl : cs.length = cN) (hcn : cN ≤ 4) :
    Calls Tryz.prog 37 #[.agg #[.int .i64 W, .int .i64 H, .int .i64 dp, .int .i64 ct, .bool il], .slice (some ⟨sb, 0, none⟩) ns scap, .slice pd dN dcap, .slice pc cN ccap] w fun e w' =>
      ∃ p n c s, e = .returned (.tuple #[.slice p n c, .int .i64 s]) ∧ Below w.heap.size w w' := by
  rcases hk.ct with h | h | h | h | h
  · exact dotsW_a W H dp ct sb ns scap dN dcap cN ccap N il zs ds cs pd pc w (.inl h) hk hN hz hsb hl hns hcap hcap2 hv hd hdl hdn hc hcl hcn
  · exact dotsW_a W H dp ct sb ns scap dN dcap cN ccap N il zs ds cs pd pc w (.inr h) hk hN hz hsb hl hns hcap hcap2 hv hd hdl hdn hc hcl hcn
  · exact dotsW_b W H dp ct sb ns scap dN dcap cN ccap N il zs ds cs pd pc w (.inl h) hk hN hz hsb hl hns hcap hcap2 hv hd hdl hdn hc hcl hcn
  · exact dotsW_b W H dp ct sb ns scap dN dcap cN ccap N il zs ds cs pd pc w (.inr h) hk hN hz hsb hl hns hcap hcap2 hv hd hdl hdn hc hcl hcn
  · exact dotsW_c W H dp ct sb ns scap dN dcap cN ccap N il zs ds cs pd pc w h hk hN hz hsb hl hns hcap hcap2 hv hd hdl hdn hc hcl hcn
end Go.Proofs.YtnpkgmgedgcjmaaGreatDoor

namespace Go.Proofs.YtnpkgmgedgcjmaaGreatDoor
open Go Go.RowKit Png

theorem step_appI {w : World} {ops : Array Oper} {o : Oper} {a : Act} {K : Act → World → Prop} {Q : Exit → Act → World → Prop} {E : Prop} (hgd : o.guard = none) (s x : Operand)
    (ho : o.op = .call { callee := .builtin .append, args := #[s, x], argTypes := #[27, 27] })
    (base n cap m c : Nat) (p p2 : Option Addr) (l l2 : List Nat) (hs : a.eval s = .slice p n cap) (hx : a.eval x = .slice p2 m c) (hown : Oi w base p n cap l)
    (B : Nat) (hr : Reads w B 1 p2 m (nvals l2)) (hbd : n + m ≤ 17592186044416) (hbase : base ≤ w.heap.size)
    (h : ∀ p' cap' w', Oi w' base p' (n + m) cap' (l ++ l2) → w.grownBy w' (p.map (·.block)) → (p'.map (·.block) = p.map (·.block) ∨ p'.map (·.block) = some w.heap.size) → K (a.put o.dst (.slice p' (n + m) cap')) w') :
    if Region.wanted o (yielded ops a.tmps) = true then Oper.wp Tryz.prog o a w K Q else E := by
  refine step_append_any w hgd s x 27 ho base 3 Tryz.t3 (.int .i64 0) 1 8 Tryz.underlying27 (by kernel_rfl) (by kernel_rfl) (by kernel_rfl) (by kernel_rfl) rfl (by decide)
    (.slice p n cap) n (nvals l) hs hown.2 B p2 m c (nvals l2) hx hr (nvals_one l2) (by simp only [maxLen]; omega) (by omega) hbase ?_
  intro v' w' h1 h2 h3
  obtain ⟨p', cap', rfl⟩ := owns_slice h1
  rw [ownBlock_slice] at h2 h3
  rw [ownBlock_slice] at h3
  have hl : l2.length = m := by have := hr.1; simpa [nvals] using this
  exact h p' cap' w' ⟨by simp [hown.1, hl], by simpa [nvals] using h1⟩ h2 h3

theorem Od.made1 (w : World) (base : Nat) (q : Q4) (hb : base ≤ w.heap.size) : Od (w.alloc (.cells #[.int .i64 (q.r : Int), .int .i64 (q.g : Int), .int .i64 (q.b : Int), .int .i64 (q.a : Int)] 75)) base (some ⟨w.heap.size, 0, Option.none⟩) 1 1 [q] :=
  ⟨rfl, by simp [dvals, dval], .inr ⟨w.heap.size, 1, _, rfl, hb, heap_alloc_new w _, Nat.le_refl _, by decide, by simp, by simp [dvals, dval]⟩⟩
def vInt (n : Nat) : Value := .int .i64 (n : Int)
theorem vInt_eq (n : Nat) : vInt n = .int .i64 (n : Int) := rfl
theorem getD_app_le (l : List Nat) (q m : Nat) (h : ∀ j, l.getD j 0 ≤ m) (hq : q ≤ m) (j : Nat) : (l ++ [q]).getD j 0 ≤ m := by
  rw [List.getD_eq_getElem?_getD, List.getElem?_append]
  split
  · have := h j
    rwa [List.getD_eq_getElem?_getD] at this
  · rcases j - l.length with _ | n
    · simpa using hq
    · simp
theorem Oi.ptr2 {w : World} {base n cap : Nat} {p : Option Addr} {l : List Nat} (h : Oi w base p n cap l) (h0 : 0 < n) : ∃ g, p = some ⟨g, 0, Option.none⟩ ∧ base ≤ g ∧ g < w.heap.size ∧ n ≤ cap ∧ cap ≤ 9223372036854775807 := by
  obtain ⟨g, c, hv, _⟩ := h.2.form h0
  injection hv with hv hn hc
  have hlt := owns_lt h.2 g (by rw [hv]; rfl)
  rcases h.2.2 with ⟨e, _⟩ | ⟨g', c', cur, e, hb, hh, h1, h2, h3⟩
  · cases e; omega
  · injection e with e1 e2 e3
    subst e3
    exact ⟨g, hv, hlt.1, hlt.2, h1, Nat.le_trans h2 (by decide)⟩
theorem Oi.ints {w : World} {base g n cap : Nat} {l : List Nat} (h : Oi w base (some ⟨g, 0, Option.none⟩) n cap l) : IntsAt w g l := fun k hk => by
  have hl := h.1
  rw [h.2.cellAt k (by omega)]
  simp [nvals, List.getElem?_eq_getElem hk, List.getD_eq_getElem?_getD]
theorem IntsAt.blk {w w' : World} {b : Nat} {zs : List Nat} (h : IntsAt w b zs) (hb : w'.heap[b]? = w.heap[b]?) : IntsAt w' b zs := fun k hk => (World.cell?_of_block (a := ⟨b, k, none⟩) hb).trans (h k hk)
theorem DotsAt.blk {w w' : World} {b : Nat} {ds : List Q4} (h : DotsAt w b ds) (hb : w'.heap[b]? = w.heap[b]?) : DotsAt w' b ds := fun k hk => by
  obtain ⟨h0, h1, h2, h3⟩ := h k hk
  exact ⟨(World.cell?_of_block (a := ⟨b, k * 4, none⟩) hb).trans h0, (World.cell?_of_block (a := ⟨b, k * 4 + 1, none⟩) hb).trans h1, (World.cell?_of_block (a := ⟨b, k * 4 + 2, none⟩) hb).trans h2, (World.cell?_of_block (a := ⟨b, k * 4 + 3, none⟩) hb).trans h3⟩
/-- What the image's box holds. -/
def DBox (w : World) (D W H dp ct : Nat) (il : Bool) (v5 v6 v7 v8 : Value) : Prop := Blk w D 30 #[.int .i64 W, .int .i64 H, .int .i64 dp, .int .i64 ct, .bool il, v5, v6, v7, v8]
theorem DBox.cells {w : World} {D W H dp ct : Nat} {il : Bool} {v5 v6 v7 v8 : Value} (h : DBox w D W H dp ct il v5 v6 v7 v8) :
    w.cell? ⟨D, 0, none⟩ = some (.int .i64 W) ∧ w.cell? ⟨D, 1, none⟩ = some (.int .i64 H) ∧ w.cell? ⟨D, 2, none⟩ = some (.int .i64 dp) ∧ w.cell? ⟨D, 3, none⟩ = some (.int .i64 ct) ∧ w.cell? ⟨D, 4, none⟩ = some (.bool il) ∧
    w.cell? ⟨D, 5, none⟩ = some v5 ∧ w.cell? ⟨D, 6, none⟩ = some v6 ∧ w.cell? ⟨D, 7, none⟩ = some v7 ∧ w.cell? ⟨D, 8, none⟩ = some v8 ∧ (∀ o, w.frozen? ⟨D, o, none⟩ = false) ∧ (∀ o, o < 9 → hasCell w ⟨D, o, none⟩ = true) :=
  ⟨h.cell 0, h.cell 1, h.cell 2, h.cell 3, h.cell 4, h.cell 5, h.cell 6, h.cell 7, h.cell 8, fun o => h.frozen o, fun o ho => by
    have : o = 0 ∨ o = 1 ∨ o = 2 ∨ o = 3 ∨ o = 4 ∨ o = 5 ∨ o = 6 ∨ o = 7 ∨ o = 8 := by omega
    unfold hasCell
    rcases this with rfl | rfl | rfl | rfl | rfl | rfl | rfl | rfl | rfl
    all_goals rw [h.cell]; rfl⟩
theorem DBox.grown {w w' : World} {D W H dp ct : Nat} {il : Bool} {v5 v6 v7 v8 : Value} {row : Option Nat} (h : DBox w D W H dp ct il v5 v6 v7 v8) (hg : w.grownBy w' row) (hne : some D ≠ row) : DBox w' D W H dp ct il v5 v6 v7 v8 := Blk.grown h hg hne
theorem DBox.below {w w' : World} {B D W H dp ct : Nat} {il : Bool} {v5 v6 v7 v8 : Value} (h : DBox w D W H dp ct il v5 v6 v7 v8) (hb : Below B w w') (hD : D < B) : DBox w' D W H dp ct il v5 v6 v7 v8 := Blk.below h hb hD
theorem DBox.set5 {w : World} {D W H dp ct : Nat} {il : Bool} {v5 v6 v7 v8 : Value} (h : DBox w D W H dp ct il v5 v6 v7 v8) (v : Value) : DBox (w.setCell ⟨D, 5, none⟩ v) D W H dp ct il v v6 v7 v8 := Blk.set_ h 5 v
theorem DBox.set6 {w : World} {D W H dp ct : Nat} {il : Bool} {v5 v6 v7 v8 : Value} (h : DBox w D W H dp ct il v5 v6 v7 v8) (v : Value) : DBox (w.setCell ⟨D, 6, none⟩ v) D W H dp ct il v5 v v7 v8 := Blk.set_ h 6 v
theorem DBox.set7 {w : World} {D W H dp ct : Nat} {il : Bool} {v5 v6 v7 v8 : Value} (h : DBox w D W H dp ct il v5 v6 v7 v8) (v : Value) : DBox (w.setCell ⟨D, 7, none⟩ v) D W H dp ct il v5 v6 v v8 := Blk.set_ h 7 v
theorem DBox.set8 {w : World} {D W H dp ct : Nat} {il : Bool} {v5 v6 v7 v8 : Value} (h : DBox w D W H dp ct il v5 v6 v7 v8) (v : Value) : DBox (w.setCell ⟨D, 8, none⟩ v) D W H dp ct il v5 v6 v7 v := Blk.set_ h 8 v

/-- The result's box, stored into. -/
def fillW (w : World) (B W H dp ct : Nat) (il : Bool) (v5 v6 v7 v8 : Value) : World :=
  ((((((((w.setCell ⟨B, 0, none⟩ (.int .i64 (W : Int))).setCell ⟨B, 1, none⟩ (.int .i64 (H : Int))).setCell ⟨B, 2, none⟩ (.int .i64 (dp : Int))).setCell ⟨B, 3, none⟩ (.int .i64 (ct : Int))).setCell ⟨B, 4, none⟩ (.bool il)).setCell ⟨B, 5, none⟩ v5).setCell ⟨B, 6, none⟩ v6).setCell ⟨B, 7, none⟩ v7).setCell ⟨B, 8, none⟩ v8
theorem fill_box {w : World} {B : Nat} (h : DBox w B 0 0 0 0 false (.slice none 0 0) (.slice none 0 0) (.slice none 0 0) (.slice none 0 0)) (W H dp ct : Nat) (il : Bool) (v5 v6 v7 v8 : Value) : DBox (fillW w B W H dp ct il v5 v6 v7 v8) B W H dp ct il v5 v6 v7 v8 := by
  have h0 : Blk w B 30 #[(.int .i64 ((0 : Nat) : Int)), (.int .i64 ((0 : Nat) : Int)), (.int .i64 ((0 : Nat) : Int)), (.int .i64 ((0 : Nat) : Int)), (.bool false), (.slice none 0 0), (.slice none 0 0), (.slice none 0 0), (.slice none 0 0)] := h
  have h1 : Blk (w.setCell ⟨B, 0, none⟩ (.int .i64 (W : Int))) B 30 #[(.int .i64 (W : Int)), (.int .i64 ((0 : Nat) : Int)), (.int .i64 ((0 : Nat) : Int)), (.int .i64 ((0 : Nat) : Int)), (.bool false), (.slice none 0 0), (.slice none 0 0), (.slice none 0 0), (.slice none 0 0)] := Blk.set_ h0 0 (.int .i64 (W : Int))
  have h2 : Blk ((w.setCell ⟨B, 0, none⟩ (.int .i64 (W : Int))).setCell ⟨B, 1, none⟩ (.int .i64 (H : Int))) B 30 #[(.int .i64 (W : Int)), (.int .i64 (H : Int)), (.int .i64 ((0 : Nat) : Int)), (.int .i64 ((0 : Nat) : Int)), (.bool false), (.slice none 0 0), (.slice none 0 0), (.slice none 0 0), (.slice none 0 0)] := Blk.set_ h1 1 (.int .i64 (H : Int))
  have h3 : Blk (((w.setCell ⟨B, 0, none⟩ (.int .i64 (W : Int))).setCell ⟨B, 1, none⟩ (.int .i64 (H : Int))).setCell ⟨B, 2, none⟩ (.int .i64 (dp : Int))) B 30 #[(.int .i64 (W : Int)), (.int .i64 (H : Int)), (.int .i64 (dp : Int)), (.int .i64 ((0 : Nat) : Int)), (.bool false), (.slice none 0 0), (.slice none 0 0), (.slice none 0 0), (.slice none 0 0)] := Blk.set_ h2 2 (.int .i64 (dp : Int))
  have h4 : Blk ((((w.setCell ⟨B, 0, none⟩ (.int .i64 (W : Int))).setCell ⟨B, 1, none⟩ (.int .i64 (H : Int))).setCell ⟨B, 2, none⟩ (.int .i64 (dp : Int))).setCell ⟨B, 3, none⟩ (.int .i64 (ct : Int))) B 30 #[(.int .i64 (W : Int)), (.int .i64 (H : Int)), (.int .i64 (dp : Int)), (.int .i64 (ct : Int)), (.bool false), (.slice none 0 0), (.slice none 0 0), (.slice none 0 0), (.slice none 0 0)] := Blk.set_ h3 3 (.int .i64 (ct : Int))
  have h5 : Blk (((((w.setCell ⟨B, 0, none⟩ (.int .i64 (W : Int))).setCell ⟨B, 1, none⟩ (.int .i64 (H : Int))).setCell ⟨B, 2, none⟩ (.int .i64 (dp : Int))).setCell ⟨B, 3, none⟩ (.int .i64 (ct : Int))).setCell ⟨B, 4, none⟩ (.bool il)) B 30 #[(.int .i64 (W : Int)), (.int .i64 (H : Int)), (.int .i64 (dp : Int)), (.int .i64 (ct : Int)), (.bool il), (.slice none 0 0), (.slice none 0 0), (.slice none 0 0), (.slice none 0 0)] := Blk.set_ h4 4 (.bool il)
  have h6 : Blk ((((((w.setCell ⟨B, 0, none⟩ (.int .i64 (W : Int))).setCell ⟨B, 1, none⟩ (.int .i64 (H : Int))).setCell ⟨B, 2, none⟩ (.int .i64 (dp : Int))).setCell ⟨B, 3, none⟩ (.int .i64 (ct : Int))).setCell ⟨B, 4, none⟩ (.bool il)).setCell ⟨B, 5, none⟩ v5) B 30 #[(.int .i64 (W : Int)), (.int .i64 (H : Int)), (.int .i64 (dp : Int)), (.int .i64 (ct : Int)), (.bool il), v5, (.slice none 0 0), (.slice none 0 0), (.slice none 0 0)] := Blk.set_ h5 5 v5
  have h7 : Blk (((((((w.setCell ⟨B, 0, none⟩ (.int .i64 (W : Int))).setCell ⟨B, 1, none⟩ (.int .i64 (H : Int))).setCell ⟨B, 2, none⟩ (.int .i64 (dp : Int))).setCell ⟨B, 3, none⟩ (.int .i64 (ct : Int))).setCell ⟨B, 4, none⟩ (.bool il)).setCell ⟨B, 5, none⟩ v5).setCell ⟨B, 6, none⟩ v6) B 30 #[(.int .i64 (W : Int)), (.int .i64 (H : Int)), (.int .i64 (dp : Int)), (.int .i64 (ct : Int)), (.bool il), v5, v6, (.slice none 0 0), (.slice none 0 0)] := Blk.set_ h6 6 v6
  have h8 : Blk ((((((((w.setCell ⟨B, 0, none⟩ (.int .i64 (W : Int))).setCell ⟨B, 1, none⟩ (.int .i64 (H : Int))).setCell ⟨B, 2, none⟩ (.int .i64 (dp : Int))).setCell ⟨B, 3, none⟩ (.int .i64 (ct : Int))).setCell ⟨B, 4, none⟩ (.bool il)).setCell ⟨B, 5, none⟩ v5).setCell ⟨B, 6, none⟩ v6).setCell ⟨B, 7, none⟩ v7) B 30 #[(.int .i64 (W : Int)), (.int .i64 (H : Int)), (.int .i64 (dp : Int)), (.int .i64 (ct : Int)), (.bool il), v5, v6, v7, (.slice none 0 0)] := Blk.set_ h7 7 v7
  have h9 : Blk (((((((((w.setCell ⟨B, 0, none⟩ (.int .i64 (W : Int))).setCell ⟨B, 1, none⟩ (.int .i64 (H : Int))).setCell ⟨B, 2, none⟩ (.int .i64 (dp : Int))).setCell ⟨B, 3, none⟩ (.int .i64 (ct : Int))).setCell ⟨B, 4, none⟩ (.bool il)).setCell ⟨B, 5, none⟩ v5).setCell ⟨B, 6, none⟩ v6).setCell ⟨B, 7, none⟩ v7).setCell ⟨B, 8, none⟩ v8) B 30 #[(.int .i64 (W : Int)), (.int .i64 (H : Int)), (.int .i64 (dp : Int)), (.int .i64 (ct : Int)), (.bool il), v5, v6, v7, v8] := Blk.set_ h8 8 v8
  exact h9
theorem fill_other (w : World) (B W H dp ct : Nat) (il : Bool) (v5 v6 v7 v8 : Value) (k : Nat) (hk : k ≠ B) : (fillW w B W H dp ct il v5 v6 v7 v8).heap[k]? = w.heap[k]? := by
  unfold fillW
  rw [Below.heap_setCell _ ⟨B, 8, none⟩ _ k hk, Below.heap_setCell _ ⟨B, 7, none⟩ _ k hk, Below.heap_setCell _ ⟨B, 6, none⟩ _ k hk, Below.heap_setCell _ ⟨B, 5, none⟩ _ k hk, Below.heap_setCell _ ⟨B, 4, none⟩ _ k hk,
    Below.heap_setCell _ ⟨B, 3, none⟩ _ k hk, Below.heap_setCell _ ⟨B, 2, none⟩ _ k hk, Below.heap_setCell _ ⟨B, 1, none⟩ _ k hk, Below.heap_setCell _ ⟨B, 0, none⟩ _ k hk]
theorem fill_size (w : World) (B W H dp ct : Nat) (il : Bool) (v5 v6 v7 v8 : Value) : (fillW w B W H dp ct il v5 v6 v7 v8).heap.size = w.heap.size := by simp [fillW, World.setCell]
theorem fill_below {w0 w : World} {C : Nat} (h : Below C w0 w) (B W H dp ct : Nat) (hB : C ≤ B) (il : Bool) (v5 v6 v7 v8 : Value) : Below C w0 (fillW w B W H dp ct il v5 v6 v7 v8) :=
  ((((((((h.setCell (p := ⟨B, 0, none⟩) hB _).setCell (p := ⟨B, 1, none⟩) hB _).setCell (p := ⟨B, 2, none⟩) hB _).setCell (p := ⟨B, 3, none⟩) hB _).setCell (p := ⟨B, 4, none⟩) hB _).setCell (p := ⟨B, 5, none⟩) hB _).setCell (p := ⟨B, 6, none⟩) hB _).setCell (p := ⟨B, 7, none⟩) hB _).setCell (p := ⟨B, 8, none⟩) hB _

/-- All blocks ahead of S but one are as they were. -/
def KeepBut (D S : Nat) (w w' : World) : Prop := ∀ k, k < S → k ≠ D → w'.heap[k]? = w.heap[k]?
theorem KeepBut.refl (D S : Nat) (w : World) : KeepBut D S w w := fun _ _ _ => rfl
theorem KeepBut.trans {D S : Nat} {a b c : World} (h : KeepBut D S a b) (k : KeepBut D S b c) : KeepBut D S a c := fun j h1 h2 => (k j h1 h2).trans (h j h1 h2)
theorem KeepBut.set (D S o : Nat) (w : World) (v : Value) : KeepBut D S w (w.setCell ⟨D, o, none⟩ v) := fun k _ h2 => by
  simp [World.setCell, Array.getElem?_modify]
  intro e
  exact absurd e.symm h2
theorem KeepBut.of_below {D S : Nat} {w w' : World} (h : Below S w w') : KeepBut D S w w' := fun k h1 _ => h.block k h1
theorem KeepBut.less {D S S' : Nat} {w w' : World} (h : KeepBut D S w w') (hs : S' ≤ S) : KeepBut D S' w w' := fun k h1 h2 => h k (Nat.lt_of_lt_of_le h1 hs) h2

set_option maxHeartbeats 8000000 in
set_option maxRecDepth 100000 in
theorem drawn_ok (kd a b sN scap pN pcap cN ccap : Nat) (il : Bool) (ps pp pc : Option Addr) (X C R G U A : Nat → Nat) (w : World) (hkd : kd < 256) (ha : a < 256) (hb : b < 256) (hs : U16s w ps sN X) (hp : Pal w pp pN R G U A) (hc : U16s w pc cN C)
    (hsN : sN ≤ 2147483647) (hpN : pN ≤ 2147483647) (hcN : cN ≤ 2147483647) (hs1 : sN ≤ scap) (hs2 : scap ≤ 9223372036854775807) (hp1 : pN ≤ pcap) (hp2 : pcap ≤ 9223372036854775807) (hc1 : cN ≤ ccap) (hc2 : ccap ≤ 9223372036854775807) :
    Calls Tryz.prog 17 #[.int .u8 kd, .int .u8 a, .int .u8 b, .bool il, .slice ps sN scap, .slice pp pN pcap, .slice pc cN ccap] w fun e w' =>
      ∃ (W H ct dp sb ns scap' dN dcap kN kcap : Nat) (pd pk : Option Addr) (vd : Value) (zs : List Nat) (ds : List Q4) (cs : List Nat),
        e = .returned (.agg #[.int .i64 W, .int .i64 H, .int .i64 dp, .int .i64 ct, .bool il, .slice (some ⟨sb, 0, none⟩) ns scap', .slice pd dN dcap, .slice pk kN kcap, vd]) ∧
        Drawn w' W H ct dp sb ns scap' dN dcap kN kcap pd pk vd zs ds cs ∧ Below w.heap.size w w' := by
  have Hs := Lib.hid hs
  have Hp := Lib.hid hp
  have Hc := Lib.hid hc
  obtain ⟨W, hW⟩ : ∃ W, W = 1 + a % 40 := ⟨_, rfl⟩
  obtain ⟨H, hH⟩ : ∃ H, H = 1 + b % 40 := ⟨_, rfl⟩
  have HSh := Lib.hid (fun (ct dp : Nat) (w : World) => shapeOf_ok ct dp a b il ha hb w)
  rw [← hW, ← hH] at HSh
  have w1 : 1 ≤ W := by omega
  have w40 : W ≤ 40 := by omega
  have h1 : 1 ≤ H := by omega
  have h40 : H ≤ 40 := by omega
  clear hs hp hc hW hH
  obtain ⟨B, hB⟩ : ∃ B, w.heap.size = B := ⟨_, rfl⟩
  rw [hB]
  have HB := Lib.hid hB
  clear hB
  go_enter Tryz.func17, Tryz.ntmps17
  go_wp2_with fail
  have hZ0 : DBox (w.alloc (.cells #[.int .i64 0, .int .i64 0, .int .i64 0, .int .i64 0, .bool false, .slice none 0 0, .slice none 0 0, .slice none 0 0, .slice none 0 0] 30)) B 0 0 0 0 false (.slice none 0 0) (.slice none 0 0) (.slice none 0 0) (.slice none 0 0) := by rw [← HB.out]; exact Blk.new _ _ _
  have hF0 : Below B w (w.alloc (.cells #[.int .i64 0, .int .i64 0, .int .i64 0, .int .i64 0, .bool false, .slice none 0 0, .slice none 0 0, .slice none 0 0, .slice none 0 0] 30)) := (Below.refl _ _).alloc (Nat.le_of_eq HB.out.symm) _
  generalize hW0 : World.alloc w _ = W0
  rw [hW0] at hZ0 hF0
  have hS0 : W0.heap.size = B + 1 := by rw [← hW0]; simp [HB.out]
  have HZ0 := Lib.hid hZ0
  have HF0 := Lib.hid hF0
  have HS0 := Lib.hid hS0
  rw [HB.out]
  clear hZ0 hF0 hS0 hW0
  refine (lawKind_ok kd hkd _).mono ?_
  rintro e w1' ⟨ct, dp, rfl, hk, hDr⟩
  have hb1 : Below W0.heap.size W0 w1' := by obtain ⟨k, rfl⟩ := hDr; exact ⟨rfl, rfl, rfl, Nat.le_refl _, fun _ _ => rfl⟩
  have Hk := Lib.hid hk
  have Hb1 := Lib.hid hb1
  obtain ⟨hdp, hctb⟩ := hk.bounds
  have HC := Lib.hid (chan_ok ct hk.ct)
  have hcc := chan_le ct
  obtain ⟨hT1, hT2⟩ := hk.tops
  have hsh : Op.shift .shl .i64 1 .i64 (dp : Int) = pure (.int .i64 ((2 ^ dp : Nat) : Int)) := by
    rcases hk.dps with rfl | rfl | rfl | rfl | rfl <;> rfl
  have hsh2 : wrap64 ((2 : Int) ^ dp) = ((2 ^ dp : Nat) : Int) := by
    rcases hk.dps with rfl | rfl | rfl | rfl | rfl <;> (unfold wrap64; rfl)
  obtain ⟨T, hT⟩ : ∃ T, T = 2 ^ dp := ⟨_, rfl⟩
  rw [← hT] at hT1 hT2 hsh hsh2
  have HT := Lib.hid hT
  obtain ⟨c, hcc2⟩ : ∃ c, c = chan ct := ⟨_, rfl⟩
  rw [← hcc2] at HC hcc
  obtain ⟨hcc3, hcc4⟩ := hcc
  have Hcc := Lib.hid hcc2
  clear hDr hb1 hk hT hcc2
  go_wp2_with fail
  refine (HSh.out ct dp w1').mono ?_
  rintro e w2 ⟨rfl, hb2⟩
  have hb2' : Below (B + 1) W0 w2 := by rw [← HS0.out]; exact Hb1.out.trans (hb2.mono Hb1.out.size)
  obtain ⟨D, hD⟩ : ∃ D, w2.heap.size = D := ⟨_, rfl⟩
  have hBD : B < D := by have := hb2'.size; have := HS0.out; omega
  have hDB : DBox (w2.alloc (.cells #[.int .i64 W, .int .i64 H, .int .i64 dp, .int .i64 ct, .bool il, .slice none 0 0, .slice none 0 0, .slice none 0 0, .slice none 0 0] 30)) D W H dp ct il (.slice none 0 0) (.slice none 0 0) (.slice none 0 0) (.slice none 0 0) := by rw [← hD]; exact Blk.new _ _ _
  have hF3 : Below (B + 1) W0 (w2.alloc (.cells #[.int .i64 W, .int .i64 H, .int .i64 dp, .int .i64 ct, .bool il, .slice none 0 0, .slice none 0 0, .slice none 0 0, .slice none 0 0] 30)) := hb2'.alloc (by omega) _
  have hS3 : (w2.alloc (.cells #[.int .i64 W, .int .i64 H, .int .i64 dp, .int .i64 ct, .bool il, .slice none 0 0, .slice none 0 0, .slice none 0 0, .slice none 0 0] 30)).heap.size = D + 1 := by simp [hD]
  have HD := Lib.hid hD
  have HF3 := Lib.hid hF3
  have HS3 := Lib.hid hS3
  clear hb2 hb2' hD hF3 hS3
  go_upto_region 3 with (fail)
  have hF3 := HF3.out
  have hS3 := HS3.out
  rw [HD.out]
  generalize hw3 : World.alloc w2 _ = w3
  rw [hw3] at hDB hF3 hS3
  obtain ⟨d0, d1, d2, d3, d4, d5, d6, d7, d8, dfz, dhas⟩ := hDB.cells
  have HF3 := Lib.hid hF3
  have HS3 := Lib.hid hS3
  clear hw3 hF3 hS3 HD
  go_quiet ((go_at_call 36; exact calls_same (HC.out _)))
  go_upto_if 41 with (fail)
  generalize hw4 : World.drewN w3 _ = w4
  have hDB4 : DBox w4 D W H dp ct il (.slice none 0 0) (.slice none 0 0) (.slice none 0 0) (.slice none 0 0) := by rw [← hw4]; exact hDB.drewN _
  have hF4 : Below (B + 1) W0 w4 := by rw [← hw4]; exact ⟨HF3.out.os, HF3.out.tape, HF3.out.output, HF3.out.size, HF3.out.block⟩
  have hS4 : w4.heap.size = D + 1 := by rw [← hw4]; exact HS3.out
  have hZ4 : DBox w4 B 0 0 0 0 false (.slice none 0 0) (.slice none 0 0) (.slice none 0 0) (.slice none 0 0) := HZ0.out.below hF4 (Nat.lt_succ_self B)
  have HF4 := Lib.hid hF4
  have HS4 := Lib.hid hS4
  clear hw4 hDB hF4 hS4 d0 d1 d2 d3 d4 d5 d6 d7 d8 dfz dhas HF3 HS3
  go_cut [19] (fun v wx => ∃ tp pd dN dcap ds, v = vInt tp ∧ (1 ≤ tp ∧ tp ≤ 65536) ∧ DBox wx D W H dp ct il (.slice none 0 0) (.slice pd dN dcap) (.slice none 0 0) (.slice none 0 0) ∧
    DBox wx B 0 0 0 0 false (.slice none 0 0) (.slice none 0 0) (.slice none 0 0) (.slice none 0 0) ∧ Below (B + 1) W0 wx ∧ (0 < dN → ∃ db, pd = some ⟨db, 0, none⟩ ∧ db < wx.heap.size ∧ D < db ∧ DotsAt wx db ds) ∧ ds.length = dN ∧ dN ≤ 256 ∧
    (∀ d ∈ ds, d.r ≤ 65535 ∧ d.g ≤ 65535 ∧ d.b ≤ 65535 ∧ d.a ≤ 65535) ∧ (ct = 3 → 0 < dN ∧ dN ≤ 2 ^ dp) ∧ (ct ≠ 3 → dN = 0))
  case first =>
    by_cases h3 : ct = 3
    · subst h3
      obtain rfl : 1 = c := Hcc.out.symm
      have hpal : Pal w4 pp pN R G U A := Hp.out.below (by rw [HB.out]; exact HF0.out.trans (HF4.out.mono (Nat.le_succ _)))
      have hbd : ∀ k, k < pN → R k < 256 ∧ G k < 256 ∧ U k < 256 ∧ A k < 256 := fun k hk => by
        rcases Hp.out with h | ⟨_, _, _, _, hs⟩
        · omega
        · exact (hs k hk).2.2.2.2
      have Hbd := Lib.hid hbd
      clear hbd
      go_wp2_with fail
      refine (pal_dots pp pN pcap R G U A w4 hpal hpN).mono ?_
      rintro e w5 ⟨q, qc, rfl, hO5, hb5⟩
      have HO5 := Lib.hid hO5
      have hD4 : D < w4.heap.size := by have := HS4.out; omega
      have hDB5 := hDB4.below hb5 hD4
      have hZ5 := hZ4.below hb5 (by omega)
      have HF5 := Lib.hid (HF4.out.trans (hb5.mono (by have := HF4.out.size; have := HS0.out; omega)))
      have Hb5 := Lib.hid hb5
      obtain ⟨d0, d1, d2, d3, d4, d5, d6, d7, d8, dfz, dhas⟩ := hDB5.cells
      clear hO5 hb5 hpal hDB4 hZ4
      go_upto_if 47 with (fail)
      have hne : ∀ k, q.map (·.block) = some k → k ≠ D := fun k hk => by have := (owns_lt HO5.out.2 k hk).1; omega
      have hDB6 := hDB5.set6 (.slice q pN qc)
      have hZ6 : DBox (w5.setCell ⟨D, 6, none⟩ (.slice q pN qc)) B 0 0 0 0 false (.slice none 0 0) (.slice none 0 0) (.slice none 0 0) (.slice none 0 0) := Blk.far hZ5 (p := ⟨D, 6, none⟩) (by show B ≠ D; omega) _
      have hO6 : Od (w5.setCell ⟨D, 6, none⟩ (.slice q pN qc)) w4.heap.size q pN qc (q4s R G U A pN) := HO5.out.keep fun k hk => Below.heap_setCell w5 ⟨D, 6, none⟩ _ k (hne k hk)
      have hF6 : Below (B + 1) W0 (w5.setCell ⟨D, 6, none⟩ (.slice q pN qc)) := HF5.out.setCell (p := ⟨D, 6, none⟩) (by show B + 1 ≤ D; omega) _
      have hS6 : w4.heap.size ≤ (w5.setCell ⟨D, 6, none⟩ (.slice q pN qc)).heap.size := by have := Hb5.out.size; simpa [World.setCell] using this
      generalize hw6 : World.setCell _ _ _ = w6
      rw [hw6] at hDB6 hZ6 hO6 hF6 hS6
      have HO6 := Lib.hid hO6
      have HF6 := Lib.hid hF6
      clear hw6 hDB5 hZ5 d0 d1 d2 d3 d4 d5 d6 d7 d8 dfz dhas hO6 hF6 HO5 HF5 Hb5
      obtain ⟨d0, d1, d2, d3, d4, d5, d6, d7, d8, dfz, dhas⟩ := hDB6.cells
      go_cut [] (fun wx => ∃ q n qc ds, DBox wx D W H dp 3 il (.slice none 0 0) (.slice q n qc) (.slice none 0 0) (.slice none 0 0) ∧
        DBox wx B 0 0 0 0 false (.slice none 0 0) (.slice none 0 0) (.slice none 0 0) (.slice none 0 0) ∧ Below (B + 1) W0 wx ∧ Od wx w4.heap.size q n qc ds ∧ 0 < n ∧ n ≤ 2147483647 ∧ (∀ d ∈ ds, d.r ≤ 65535 ∧ d.g ≤ 65535 ∧ d.b ≤ 65535 ∧ d.a ≤ 65535))
      case first =>
        by_cases hp0 : pN = 0
        · have hp0i : ((pN : Int) == 0) = true := by simp; omega
          have HP0 := Lib.hid hp0
          clear hp0
          have hD6 : D < w6.heap.size := by omega
          go_wp2
          go_meet
          case rel =>
            have hsz : (w6.setCell ⟨D, 6, none⟩ (.slice (some ⟨w6.heap.size, 0, none⟩) 1 1)).heap.size = w6.heap.size := by simp [World.setCell]
            have hO1 := Od.made1 (w6.setCell ⟨D, 6, none⟩ (.slice (some ⟨w6.heap.size, 0, none⟩) 1 1)) w4.heap.size ⟨65535, 0, 0, 65535⟩ (by rw [hsz]; exact hS6)
            rw [hsz] at hO1
            refine ⟨_, 1, 1, [⟨65535, 0, 0, 65535⟩], Blk.alloc (DBox.set6 hDB6 _) _, Blk.alloc (Blk.far hZ6 (p := ⟨D, 6, none⟩) (by show B ≠ D; omega) _) _, (HF6.out.setCell (p := ⟨D, 6, none⟩) (by show B + 1 ≤ D; omega) _).alloc (by rw [hsz]; omega) _, hO1, by decide, by decide, ?_⟩
            intro d hd
            simp at hd
            subst hd
            simp
        · have hp0i : ((pN : Int) == 0) = false := by simp; omega
          go_wp2
          go_meet
          case rel => exact ⟨q, pN, qc, _, hDB6, hZ6, HF6.out, HO6.out, by omega, hpN, q4s_bounds R G U A pN Hbd.out⟩
      case rest =>
        obtain ⟨w7, rfl⟩ : ∃ x : World, x = wc := ⟨_, rfl⟩
        clear d0 d1 d2 d3 d4 d5 d6 d7 d8 dfz dhas hDB6 hZ6 HO6 HF6
        obtain ⟨q, n, qc, ds, hDB7, hZ7, hF7, hO7, hn0, hn1, hbd⟩ := hcut
        obtain ⟨g, rfl, hg1, hg2, hg3, hg4⟩ := hO7.ptr hn0
        obtain ⟨d0, d1, d2, d3, d4, d5, d6, d7, d8, dfz, dhas⟩ := hDB7.cells
        have HO7 := Lib.hid hO7
        have HF7 := Lib.hid hF7
        have Hbd2 := Lib.hid hbd
        have hgD : ¬ g = D := by omega
        clear hO7 hF7 hbd
        have hmn : ∃ m, m ≤ n ∧ m ≤ T ∧ 1 ≤ m ∧ ((n ≤ T ∧ m = n) ∨ (T < n ∧ m = T)) := by
          by_cases h : n ≤ T
          · exact ⟨n, Nat.le_refl _, h, by omega, .inl ⟨h, rfl⟩⟩
          · exact ⟨T, by omega, Nat.le_refl _, by omega, .inr ⟨by omega, rfl⟩⟩
        obtain ⟨m, hm1, hm2, hm3, hm4⟩ := hmn
        have hm4i : ((n : Int) ≤ (T : Int) ∧ n = m) ∨ (¬ (n : Int) ≤ (T : Int) ∧ (T : Int) < (n : Int) ∧ T = m) := by omega
        clear hm4
        have hT256 : T ≤ 256 := by
          have hdp8 : dp ≤ 8 := by have := Hk.out; unfold Kinds at this; omega
          rw [HT.out]; exact Nat.le_trans (Nat.pow_le_pow_right (by decide) hdp8) (by decide)
        have FIN := Lib.hid (show ∀ m, 1 ≤ m → m ≤ n → m ≤ T → ∃ tp pd dN dcap ds', Value.int .i64 (m : Int) = vInt tp ∧ (1 ≤ tp ∧ tp ≤ 65536) ∧ DBox (w7.setCell ⟨D, 6, none⟩ (.slice (some ⟨g, 0, none⟩) m qc)) D W H dp 3 il (.slice none 0 0) (.slice pd dN dcap) (.slice none 0 0) (.slice none 0 0) ∧
            DBox (w7.setCell ⟨D, 6, none⟩ (.slice (some ⟨g, 0, none⟩) m qc)) B 0 0 0 0 false (.slice none 0 0) (.slice none 0 0) (.slice none 0 0) (.slice none 0 0) ∧ Below (B + 1) W0 (w7.setCell ⟨D, 6, none⟩ (.slice (some ⟨g, 0, none⟩) m qc)) ∧
            (0 < dN → ∃ db, pd = some ⟨db, 0, none⟩ ∧ db < (w7.setCell ⟨D, 6, none⟩ (.slice (some ⟨g, 0, none⟩) m qc)).heap.size ∧ D < db ∧ DotsAt (w7.setCell ⟨D, 6, none⟩ (.slice (some ⟨g, 0, none⟩) m qc)) db ds') ∧ ds'.length = dN ∧ dN ≤ 256 ∧
            (∀ d ∈ ds', d.r ≤ 65535 ∧ d.g ≤ 65535 ∧ d.b ≤ 65535 ∧ d.a ≤ 65535) ∧ (3 = 3 → 0 < dN ∧ dN ≤ 2 ^ dp) ∧ (3 ≠ 3 → dN = 0) from fun m h1 h2 h3 => by
          have hO8 := HO7.out.keep (w' := w7.setCell ⟨D, 6, none⟩ (.slice (some ⟨g, 0, none⟩) m qc)) fun k hk => Below.heap_setCell _ ⟨D, 6, none⟩ _ k (by have hgk : g = k := (by simpa using hk); subst hgk; exact hgD)
          refine ⟨m, some ⟨g, 0, none⟩, m, qc, ds.take m, rfl, ⟨h1, by omega⟩, hDB7.set6 _, Blk.far hZ7 (p := ⟨D, 6, none⟩) (by show B ≠ D; omega) _, HF7.out.setCell (p := ⟨D, 6, none⟩) (by show B + 1 ≤ D; omega) _, fun _ => ⟨g, rfl, ?_, by omega, hO8.at.take⟩, ?_, by omega, ?_, fun _ => ⟨by omega, by rw [← HT.out]; exact h3⟩, fun h => absurd rfl h⟩
          · simpa [World.setCell] using hg2
          · have := HO7.out.1
            simp; omega
          · exact fun d hd => Hbd2.out d (List.mem_of_mem_take hd))
        rcases hm4i with ⟨k1, rfl⟩ | ⟨k1, k2, rfl⟩
        all_goals
          go_wp2
          go_meet
          case rel => exact FIN.out _ hm3 hm1 hm2
    · have h3i : ¬ (ct : Int) = 3 := by omega
      go_wp2
      go_meet
      case rel =>
        exact ⟨T, none, 0, 0, [], by rw [hsh2]; rfl, ⟨by omega, hT2⟩, hDB4, hZ4, HF4.out, fun h => absurd h (by decide), rfl, by decide, (fun d hd => by cases hd), fun h => absurd h h3, fun _ => rfl⟩
  case rest =>
    obtain ⟨w10, rfl⟩ : ∃ x : World, x = wc := ⟨_, rfl⟩
    obtain ⟨tp, pd, dN, dcap, ds, hu, ⟨ht1, ht2⟩, hDB, hZ, hF, hdots, hdl, hdn, hdv, h3a, h3b⟩ := hcut
    subst hu
    rw [vInt_eq]
    have Hdots := Lib.hid hdots
    have Hdl := Lib.hid hdl
    have Hdv := Lib.hid hdv
    have H3a := Lib.hid h3a
    have H3b := Lib.hid h3b
    have HF10 := Lib.hid hF
    have HDB10 := Lib.hid hDB
    have HZ10 := Lib.hid hZ
    obtain ⟨p1, hp1e⟩ : ∃ p1, p1 = W * H := ⟨_, rfl⟩
    obtain ⟨ns, hnse⟩ : ∃ ns, ns = p1 * c := ⟨_, rfl⟩
    have e1 : (W : Int) * (H : Int) = (p1 : Int) := by rw [hp1e]; simp
    have e2 : (p1 : Int) * (c : Int) = (ns : Int) := by rw [hnse]; simp
    have hp16 : p1 ≤ 1600 := by rw [hp1e]; exact Nat.le_trans (Nat.mul_le_mul w40 h40) (by decide)
    have hns6 : ns ≤ 6400 := by rw [hnse]; exact Nat.le_trans (Nat.mul_le_mul hp16 hcc4) (by decide)
    have hns1 : 1 ≤ ns := by rw [hnse, hp1e]; exact Nat.mul_pos (Nat.mul_pos w1 h1) hcc3
    have Hp1 := Lib.hid hp1e
    have Hnse := Lib.hid hnse
    obtain ⟨S, hS⟩ : ∃ S, w10.heap.size = S := ⟨_, rfl⟩
    have hDS : D < S := by have := Blk.lt hDB; omega
    have HS := Lib.hid hS
    have htp0 : ¬ (tp : Int) = 0 := by omega
    obtain ⟨d0, d1, d2, d3, d4, d5, d6, d7, d8, dfz, dhas⟩ := hDB.cells
    clear hdots hdl hdv h3a h3b hF hDB hZ hp1e hnse hS
    go_wp2
    clear d0 d1 d2 d3 d4 d5 d6 d7 d8 dfz dhas e1 e2
    go_loopg [72] ns (fun g i wr => ∃ k p cp l, k + g = ns ∧ i = .int .i64 (k : Nat) ∧ DBox wr D W H dp ct il (.slice p k cp) (.slice pd dN dcap) (.slice none 0 0) (.slice none 0 0) ∧ DBox wr B 0 0 0 0 false (.slice none 0 0) (.slice none 0 0) (.slice none 0 0) (.slice none 0 0) ∧
      Below (B + 1) W0 wr ∧ Oi wr S p k cp l ∧ (∀ j, l.getD j 0 ≤ 65535) ∧ KeepBut D S w10 wr ∧ S ≤ wr.heap.size)
    case atStart => exact ⟨0, none, 0, [], by omega, rfl, HDB10.out, HZ10.out, HF10.out, Oi.none _ _, fun j => by simp, KeepBut.refl _ _ _, Nat.le_of_eq HS.out.symm⟩
    case round =>
      obtain ⟨k, p, cp, l, hk, rfl, hDBr, hZr, hFr, hO, hlv, hK, hSr⟩ := hrel
      have HO := Lib.hid hO
      have Hlv := Lib.hid hlv
      have HK := Lib.hid hK
      have HFr := Lib.hid hFr
      have Hk2 := Lib.hid hk
      have HDBr := Lib.hid hDBr
      have HZr := Lib.hid hZr
      obtain ⟨d0, d1, d2, d3, d4, d5, d6, d7, d8, dfz, dhas⟩ := hDBr.cells
      have hDw : D < wr.heap.size := by omega
      have hBS : B + 1 ≤ S := by omega
      have hBw2 : B + 1 ≤ wr.heap.size := by omega
      by_cases hlt : k < ns
      · have hki : (k : Int) < (ns : Int) := by omega
        have hk7 : k ≤ 6400 := by omega
        obtain ⟨m7, hm7⟩ : ∃ m7, m7 = k * 7 := ⟨_, rfl⟩
        have e7 : (k : Int) * 7 = (m7 : Int) := by omega
        have hm7b : m7 ≤ 44800 := by omega
        clear hO hlv hK hk hFr hDBr hZr hm7
        go_upto_if 79 with (fail)
        go_cut [21] (fun v wx => ∃ z, v = vInt z ∧ z ≤ 65535 ∧ wr = wx)
        case first =>
          by_cases h0 : 0 < sN
          · have h0i : (0 : Int) < (sN : Int) := by omega
            have hU : U16s wr ps sN X := Hs.out.below (by rw [HB.out]; exact HF0.out.trans (HFr.out.mono (Nat.le_succ _)))
            rcases hU with h | ⟨b, off, rfl, hbl, hcell⟩
            · omega
            · obtain ⟨r, hr⟩ : ∃ r, r = k % sN := ⟨_, rfl⟩
              have er : (k : Int).tmod (sN : Int) = (r : Int) := by rw [Int.tmod_eq_emod_of_nonneg (by omega), hr]; simp
              have hrs : r < sN := by rw [hr]; exact Nat.mod_lt _ h0
              have hri : (r : Int) < (sN : Int) := by omega
              have hs0 : ¬ (sN : Int) = 0 := by omega
              obtain ⟨c1, c2⟩ := hcell r hrs
              obtain ⟨x, hx⟩ : ∃ x, X r = x := ⟨_, rfl⟩
              rw [hx] at c1 c2
              clear hcell hr hx
              go_wp2
              go_meet
              case rel => exact ⟨x, rfl, by omega, rfl⟩
          · have h0i : ¬ (0 : Int) < (sN : Int) := by omega
            go_wp2
            go_meet
            case rel => exact ⟨m7, rfl, by omega, rfl⟩
        case rest =>
          obtain ⟨z, hu, hz, rfl⟩ := hcut
          subst hu
          rw [vInt_eq]
          obtain ⟨q, hq⟩ : ∃ q, q = z % tp := ⟨_, rfl⟩
          have eq1 : (z : Int).tmod (tp : Int) = (q : Int) := by rw [Int.tmod_eq_emod_of_nonneg (by omega), hq]; simp
          have hq6 : q ≤ 65535 := by have : z % tp ≤ z := Nat.mod_le _ _; omega
          have hqb : -9223372036854775808 ≤ (q : Int) ∧ (q : Int) ≤ 9223372036854775807 := ⟨Int.le_trans (by decide) (Int.natCast_nonneg q), Int.le_trans (Int.ofNat_le.2 hq6) (by decide)⟩
          have ew1 : wrap64 (q : Int) = (q : Int) := IntWalk.wrap64_in _ hqb
          have ew2 : IntKind.i64.wrap (q : Int) = (q : Int) := IntWalk.i64_in _ hqb
          have htpN : ¬ tp = 0 := Nat.ne_of_gt ht1
          clear hqb
          clear hq
          go_upto_region 16 with (fail)
          go_region_law (first
            | (refine step_appI rfl (.tmp 89) (.tmp 93) (by rfl) S k cp 1 1 p (some ⟨wr.heap.size, 0, none⟩) l [q] (by rfl) (by rfl) (Oi.alloc (w := wr.drew) HO.out _) (wr.heap.size + 1) (reads_new wr.drew _ 3 _ 1 1 _ (by rfl) (by simp [nvals]) (Nat.lt_succ_self _) _ (by rfl)) (Nat.le_trans (Nat.add_le_add_right hk7 1) (by decide)) (Nat.le_trans hSr (by simp)) ?_; intro p4 c4 w4 hO4 hG4 hL4; have HO4 := Lib.hid hO4; have HG4 := Lib.hid hG4; have HL4 := Lib.hid hL4; have HDB4 := Lib.hid (DBox.grown (Blk.alloc (w := wr.drew) HDBr.out _) hG4 (fun e => absurd (owns_lt HO.out.2 _ e.symm).1 (Nat.not_le_of_lt hDS))); have HZ4 := Lib.hid (DBox.grown (Blk.alloc (w := wr.drew) HZr.out _) hG4 (fun e => absurd (owns_lt HO.out.2 _ e.symm).1 (Nat.not_le_of_lt hBS))); have HF4' := Lib.hid ((Below.alloc (w := wr.drew) HFr.out.drew hBw2 _).grown hG4 (Nat.le_trans hBw2 (by simp)) (fun j hj => Nat.le_trans hBS (owns_lt HO.out.2 j hj).1)); have HK4 := Lib.hid (show KeepBut D S w10 w4 from fun j j1 j2 => (hG4.block j (Nat.lt_of_lt_of_le j1 (Nat.le_trans hSr (by simp))) (fun e => absurd (owns_lt HO.out.2 _ e.symm).1 (Nat.not_le_of_lt j1))).trans ((heap_alloc_old wr.drew _ (Nat.lt_of_lt_of_le j1 hSr)).trans (HK.out j j1 j2))); have hs4 : S ≤ w4.heap.size := Nat.le_trans (Nat.le_trans hSr (by simp)) hG4.size; obtain ⟨f0, f1, f2, f3, f4, f5, f6, f7, f8, ffz, fhas⟩ := HDB4.out.cells; clear hO4 hG4 hL4))
          all_goals
            go_wp2
            go_roundg (gk - 1)
            case measure => have := Hk2.out; omega
            case rel =>
              refine ⟨k + 1, p4, c4, l ++ [q], by have := Hk2.out; omega, by go_num, DBox.set5 HDB4.out _, Blk.far HZ4.out (p := ⟨D, 5, none⟩) (by show B ≠ D; omega) _, HF4'.out.setCell (p := ⟨D, 5, none⟩) (by show B + 1 ≤ D; omega) _,
                HO4.out.keep fun j hj => Below.heap_setCell _ ⟨D, 5, none⟩ _ j (Nat.ne_of_gt (Nat.lt_of_lt_of_le hDS (owns_lt HO4.out.2 j hj).1)), getD_app_le l q 65535 Hlv.out hq6, HK4.out.trans (KeepBut.set D S 5 _ _), by simpa [World.setCell] using hs4⟩
      · have hkn : ns = k := by omega
        subst hkn
        obtain ⟨sb, rfl, hsb1, hsb2, hcp1, hcp2⟩ := hO.ptr2 (by omega)
        obtain ⟨S2, hS2⟩ : ∃ S2, wr.heap.size = S2 := ⟨_, rfl⟩
        have HS2 := Lib.hid hS2
        have hUc : U16s wr pc cN C := Hc.out.below (by rw [HB.out]; exact HF0.out.trans (HFr.out.mono (Nat.le_succ _)))
        have HUc := Lib.hid hUc
        have hway : (((ct : Int) == 0) = true ∧ ct ≠ 3 ∧ c ≤ cN) ∨ (((ct : Int) == 0) = true ∧ ct ≠ 3 ∧ ¬ c ≤ cN) ∨ (((ct : Int) == 0) = false ∧ ((ct : Int) == 2) = true ∧ ct ≠ 3 ∧ c ≤ cN) ∨ (((ct : Int) == 0) = false ∧ ((ct : Int) == 2) = true ∧ ct ≠ 3 ∧ ¬ c ≤ cN) ∨ (((ct : Int) == 0) = false ∧ ((ct : Int) == 2) = false) := by
          by_cases q0 : ct = 0
          · by_cases q1 : c ≤ cN
            · exact .inl ⟨by simp; omega, by omega, q1⟩
            · exact .inr (.inl ⟨by simp; omega, by omega, q1⟩)
          · by_cases q2 : ct = 2
            · by_cases q1 : c ≤ cN
              · exact .inr (.inr (.inl ⟨by simp; omega, by simp; omega, by omega, q1⟩))
              · exact .inr (.inr (.inr (.inl ⟨by simp; omega, by simp; omega, by omega, q1⟩)))
            · exact .inr (.inr (.inr (.inr ⟨by simp; omega, by simp; omega⟩)))
        clear hO hlv hK hk hFr hDBr hZr hS2 hUc
        obtain ⟨wq, rfl⟩ : ∃ x : World, x = wr := ⟨_, rfl⟩
        rcases hway with ⟨g0, g3, g1⟩ | ⟨g0, g3, g1⟩ | ⟨g0, g2, g3, g1⟩ | ⟨g0, g2, g3, g1⟩ | ⟨g0, g2⟩
        · have g1i : (c : Int) ≤ (cN : Int) := Int.ofNat_le.2 g1
          go_upto_if 108 with (fail)
          go_cut [] (fun wx => ∃ pk kN kcap cs, DBox wx D W H dp ct il (.slice (some ⟨sb, 0, none⟩) ns cp) (.slice pd dN dcap) (.slice pk kN kcap) (.slice none 0 0) ∧ DBox wx B 0 0 0 0 false (.slice none 0 0) (.slice none 0 0) (.slice none 0 0) (.slice none 0 0) ∧ Below (B + 1) W0 wx ∧ KeepBut D S2 wq wx ∧ S2 ≤ wx.heap.size ∧
            (0 < kN → ∃ cb, pk = some ⟨cb, 0, none⟩ ∧ cb < wx.heap.size ∧ IntsAt wx cb cs ∧ D < cb) ∧ cs.length = kN ∧ kN ≤ 4 ∧ (∀ k, cs.getD k 0 ≤ 65535) ∧ (ct = 3 → kN = 0))
          case first =>
            rcases Hc.out with h | ⟨b, off, rfl, hbl, hcell⟩
            · omega
            · have Hcell := Lib.hid hcell
              have Hbl := Lib.hid hbl
              have hccap : c ≤ ccap := by omega
              clear hcell hbl
              go_wp2
              clear d0 d1 d2 d3 d4 d5 d6 d7 d8 dfz dhas
              go_loopg [113] c (fun g i wx => ∃ k p' cp' l', k + g = c ∧ i = .int .i64 (k : Nat) ∧ DBox wx D W H dp ct il (.slice (some ⟨sb, 0, none⟩) ns cp) (.slice pd dN dcap) (.slice p' k cp') (.slice none 0 0) ∧ DBox wx B 0 0 0 0 false (.slice none 0 0) (.slice none 0 0) (.slice none 0 0) (.slice none 0 0) ∧
                Below (B + 1) W0 wx ∧ Oi wx S2 p' k cp' l' ∧ (∀ j, l'.getD j 0 ≤ 65535) ∧ KeepBut D S2 wq wx ∧ S2 ≤ wx.heap.size)
              case atStart => exact ⟨0, none, 0, [], by omega, rfl, HDBr.out, HZr.out, HFr.out, Oi.none _ _, fun j => by simp, KeepBut.refl _ _ _, Nat.le_of_eq HS2.out.symm⟩
              case round =>
                obtain ⟨k, p', cp', l', hk, rfl, hDBx, hZx, hFx, hOx, hlx, hKx, hSx⟩ := hrel
                have HOx := Lib.hid hOx
                have Hlx := Lib.hid hlx
                have HKx := Lib.hid hKx
                have HFx := Lib.hid hFx
                have Hkx := Lib.hid hk
                have HDBx := Lib.hid hDBx
                have HZx := Lib.hid hZx
                obtain ⟨d0, d1, d2, d3, d4, d5, d6, d7, d8, dfz, dhas⟩ := hDBx.cells
                have hDS2 : D < S2 := by have := HS2.out; omega
                have hBS2 : B + 1 ≤ S2 := by omega
                have hDw2 : D < wr.heap.size := by omega
                have hBw3 : B + 1 ≤ wr.heap.size := by omega
                by_cases hlt2 : k < c
                · have hki : (k : Int) < (c : Int) := by omega
                  have hk4 : k ≤ 4 := by omega
                  obtain ⟨c1, c2⟩ := Hcell.out k (by omega)
                  have hbw : Below B w wr := HF0.out.trans (HFx.out.mono (Nat.le_succ _))
                  rw [← hbw.cell (p := ⟨b, off + k, none⟩) (by rw [← HB.out]; exact Hbl.out)] at c1
                  obtain ⟨x, hx⟩ : ∃ x, C k = x := ⟨_, rfl⟩
                  rw [hx] at c1 c2
                  obtain ⟨q, hq⟩ : ∃ q, q = x % tp := ⟨_, rfl⟩
                  have eq1 : (x : Int).tmod (tp : Int) = (q : Int) := by rw [Int.tmod_eq_emod_of_nonneg (by omega), hq]; simp
                  have hq6 : q ≤ 65535 := by have : x % tp ≤ x := Nat.mod_le _ _; omega
                  have hqb : -9223372036854775808 ≤ (q : Int) ∧ (q : Int) ≤ 9223372036854775807 := ⟨Int.le_trans (by decide) (Int.natCast_nonneg q), Int.le_trans (Int.ofNat_le.2 hq6) (by decide)⟩
                  have ew1 : wrap64 (q : Int) = (q : Int) := IntWalk.wrap64_in _ hqb
                  have ew2 : IntKind.i64.wrap (q : Int) = (q : Int) := IntWalk.i64_in _ hqb
                  have hxb : -9223372036854775808 ≤ (x : Int) ∧ (x : Int) ≤ 9223372036854775807 := ⟨Int.le_trans (by decide) (Int.natCast_nonneg x), Int.le_trans (Int.ofNat_le.2 (Nat.le_of_lt c2)) (by decide)⟩
                  have ew3 : IntKind.i64.wrap (x : Int) = (x : Int) := IntWalk.i64_in _ hxb
                  have htpN : ¬ tp = 0 := Nat.ne_of_gt ht1
                  clear hxb hqb hq hx hbw hOx hlx hKx hFx hk hDBx hZx
                  go_upto_region 22 with (fail)
                  go_region_law (first
                    | (refine step_appI rfl (.tmp 118) (.tmp 123) (by rfl) S2 k cp' 1 1 p' (some ⟨wr.heap.size, 0, none⟩) l' [q] (by rfl) (by rfl) (Oi.alloc (w := wr.drew) HOx.out _) (wr.heap.size + 1) (reads_new wr.drew _ 3 _ 1 1 _ (by rfl) (by simp [nvals]) (Nat.lt_succ_self _) _ (by rfl)) (Nat.le_trans (Nat.add_le_add_right hk4 1) (by decide)) (Nat.le_trans hSx (by simp)) ?_; intro p4 c4 w4 hO4 hG4 hL4; have HO4 := Lib.hid hO4; have HDB4 := Lib.hid (DBox.grown (Blk.alloc (w := wr.drew) HDBx.out _) hG4 (fun e => absurd (owns_lt HOx.out.2 _ e.symm).1 (Nat.not_le_of_lt hDS2))); have HZ4 := Lib.hid (DBox.grown (Blk.alloc (w := wr.drew) HZx.out _) hG4 (fun e => absurd (owns_lt HOx.out.2 _ e.symm).1 (Nat.not_le_of_lt hBS2))); have HF4' := Lib.hid ((Below.alloc (w := wr.drew) HFx.out.drew hBw3 _).grown hG4 (Nat.le_trans hBw3 (by simp)) (fun j hj => Nat.le_trans hBS2 (owns_lt HOx.out.2 j hj).1)); have HK4 := Lib.hid (show KeepBut D S2 wq w4 from fun j j1 j2 => (hG4.block j (Nat.lt_of_lt_of_le j1 (Nat.le_trans hSx (by simp))) (fun e => absurd (owns_lt HOx.out.2 _ e.symm).1 (Nat.not_le_of_lt j1))).trans ((heap_alloc_old wr.drew _ (Nat.lt_of_lt_of_le j1 hSx)).trans (HKx.out j j1 j2))); have hs4 : S2 ≤ w4.heap.size := Nat.le_trans (Nat.le_trans hSx (by simp)) hG4.size; obtain ⟨f0, f1, f2, f3, f4, f5, f6, f7, f8, ffz, fhas⟩ := HDB4.out.cells; clear hO4 hG4 hL4))
                  all_goals
                    go_wp2
                    go_roundg (gk - 1)
                    case measure => have := Hkx.out; omega
                    case rel =>
                      refine ⟨k + 1, p4, c4, l' ++ [q], by have := Hkx.out; omega, by go_num, DBox.set7 HDB4.out _, Blk.far HZ4.out (p := ⟨D, 7, none⟩) (by show B ≠ D; omega) _, HF4'.out.setCell (p := ⟨D, 7, none⟩) (by show B + 1 ≤ D; omega) _,
                        HO4.out.keep fun j hj => Below.heap_setCell _ ⟨D, 7, none⟩ _ j (Nat.ne_of_gt (Nat.lt_of_lt_of_le hDS2 (owns_lt HO4.out.2 j hj).1)), getD_app_le l' q 65535 Hlx.out hq6, HK4.out.trans (KeepBut.set D S2 7 _ _), by simpa [World.setCell] using hs4⟩
                · have hkc : c = k := by omega
                  subst hkc
                  obtain ⟨cb, rfl, hcb1, hcb2, hcb3, hcb4⟩ := hOx.ptr2 hcc3
                  clear hOx hlx hKx hFx hk hDBx hZx
                  go_wp2
                  go_meet
                  case rel => exact ⟨some ⟨cb, 0, none⟩, c, cp', l', HDBx.out, HZx.out, HFx.out, HKx.out, hSx, fun _ => ⟨cb, rfl, hcb2, HOx.out.ints, by omega⟩, HOx.out.1, hcc4, Hlx.out, fun e => absurd e g3⟩
          case rest =>
            obtain ⟨w20, rfl⟩ : ∃ x : World, x = wc := ⟨_, rfl⟩
            obtain ⟨pk, kN, kcap, cs, hDB2, hZ2, hF2, hK2, hS3, hclr, hcl, hcn, hcv, hk3⟩ := hcut
            have HDB2 := Lib.hid hDB2
            have hsD : sb ≠ D := by omega
            have hDS3 : D < S2 := by have := HS2.out; omega
            have hsS3 : sb < S2 := by have := HS2.out; omega
            have HI := Lib.hid (HO.out.ints.blk (hK2 sb hsS3 hsD))
            have HDo := Lib.hid (show 0 < dN → ∃ db, pd = some ⟨db, 0, none⟩ ∧ db < w20.heap.size ∧ DotsAt w20 db ds ∧ D < db from fun h => by
              obtain ⟨db, e, k1, k2, k3⟩ := Hdots.out h
              have k4 : db < S := by have := HS.out; omega
              have k5 : db < S2 := by have := HS2.out; omega
              exact ⟨db, e, by omega, k3.blk ((hK2 db k5 (Nat.ne_of_gt k2)).trans (HK.out db k4 (Nat.ne_of_gt k2))), k2⟩)
            have HKN := Lib.hid hclr
            have HKl := Lib.hid hcl
            have HKv := Lib.hid hcv
            have HK3 := Lib.hid hk3
            have HF2 := Lib.hid hF2
            have HZ2 := Lib.hid hZ2
            have hD20 : D < w20.heap.size := by omega
            clear hclr hcl hcv hk3 hF2 hZ2 hK2
            (first | clear d0 d1 d2 d3 d4 d5 d6 d7 d8 dfz dhas | skip)
            obtain ⟨d0, d1, d2, d3, d4, d5, d6, d7, d8, dfz, dhas⟩ := hDB2.cells
            go_wp2_with fail
            refine (dotsW_ok W H dp ct sb ns cp dN dcap kN kcap p1 il l ds cs pd pk w20 Hk.out hp16 HI.out (by omega) HO.out.1 (by rw [Hnse.out, Hcc.out]) hcp1 hcp2 Hlv.out (fun h => by obtain ⟨db, e, k1, k2, _⟩ := HDo.out h; exact ⟨db, e, k1, k2⟩) Hdl.out hdn (fun h => by obtain ⟨db, e, k1, k2, _⟩ := HKN.out h; exact ⟨db, e, k1, k2⟩) HKl.out hcn).mono ?_
            rintro e w21 ⟨pz, nz, cz, s, rfl, hb21⟩
            have hDB3 := HDB2.out.below hb21 hD20
            have hZ3 := HZ2.out.below hb21 (by omega)
            have HDB3 := Lib.hid hDB3
            have HZ3 := Lib.hid hZ3
            have Hb21 := Lib.hid hb21
            have hs21 := hb21.size
            clear d0 d1 d2 d3 d4 d5 d6 d7 d8 dfz dhas hDB2
            obtain ⟨d0, d1, d2, d3, d4, d5, d6, d7, d8, dfz, dhas⟩ := hDB3.cells
            obtain ⟨z0, z1, z2, z3, z4, z5, z6, z7, z8, zfz, zhas⟩ := hZ3.cells
            have hBnD : ¬ B = D := by omega
            have hDnB : ¬ D = B := by omega
            clear hb21 hDB3 hZ3
            go_wp2
            have hE := fill_box (Blk.far HZ3.out (p := ⟨D, 8, none⟩) hBnD (.slice pz nz cz)) W H dp ct il (.slice (some ⟨sb, 0, none⟩) ns cp) (.slice pd dN dcap) (.slice pk kN kcap) (.slice pz nz cz)
            have hEk : ∀ k, k ≠ B → k ≠ D → (fillW (w21.setCell ⟨D, 8, none⟩ (.slice pz nz cz)) B W H dp ct il (.slice (some ⟨sb, 0, none⟩) ns cp) (.slice pd dN dcap) (.slice pk kN kcap) (.slice pz nz cz)).heap[k]? = w21.heap[k]? := fun k q1 q2 => (fill_other _ _ _ _ _ _ _ _ _ _ _ k q1).trans (Below.heap_setCell w21 ⟨D, 8, none⟩ _ k q2)
            have hEs : (fillW (w21.setCell ⟨D, 8, none⟩ (.slice pz nz cz)) B W H dp ct il (.slice (some ⟨sb, 0, none⟩) ns cp) (.slice pd dN dcap) (.slice pk kN kcap) (.slice pz nz cz)).heap.size = w21.heap.size := by rw [fill_size]; simp [World.setCell]
            have hEb : Below B w (fillW (w21.setCell ⟨D, 8, none⟩ (.slice pz nz cz)) B W H dp ct il (.slice (some ⟨sb, 0, none⟩) ns cp) (.slice pd dN dcap) (.slice pk kN kcap) (.slice pz nz cz)) :=
              fill_below (((HF0.out.trans (HF2.out.mono (Nat.le_succ _))).trans (Hb21.out.mono (by omega))).setCell (p := ⟨D, 8, none⟩) (Nat.le_of_lt hBD) _) B W H dp ct (Nat.le_refl _) il _ _ _ _
            obtain ⟨WE, hWE⟩ : ∃ WE, fillW (w21.setCell ⟨D, 8, none⟩ (.slice pz nz cz)) B W H dp ct il (.slice (some ⟨sb, 0, none⟩) ns cp) (.slice pd dN dcap) (.slice pk kN kcap) (.slice pz nz cz) = WE := ⟨_, rfl⟩
            rw [hWE] at hE hEk hEs hEb
            unfold fillW at hWE
            rw [hWE]
            have HEk := Lib.hid hEk
            have HEs := Lib.hid hEs
            have HEb := Lib.hid hEb
            clear hWE hEk hEs hEb d0 d1 d2 d3 d4 d5 d6 d7 d8 dfz dhas z0 z1 z2 z3 z4 z5 z6 z7 z8 zfz zhas
            obtain ⟨z0, z1, z2, z3, z4, z5, z6, z7, z8, zfz, zhas⟩ := hE.cells
            refine bodyPost_ret (v := .agg #[.int .i64 W, .int .i64 H, .int .i64 dp, .int .i64 ct, .bool il, .slice (some ⟨sb, 0, none⟩) ns cp, .slice pd dN dcap, .slice pk kN kcap, .slice pz nz cz]) (by simp only [results, Tryz.results17]; go_simp) rfl ?_
            refine ⟨W, H, ct, dp, sb, ns, cp, dN, dcap, kN, kcap, pd, pk, .slice pz nz cz, l, ds, cs, rfl, ?_, HEb.out⟩
            have hmv : ∀ k, D < k → k < w20.heap.size → WE.heap[k]? = w20.heap[k]? := fun k q1 q2 => (HEk.out k (by omega) (by omega)).trans (Hb21.out.block k q2)
            have hsz : w20.heap.size ≤ WE.heap.size := by rw [HEs.out]; exact hs21
            exact {
              kinds := Hk.out
              w1 := w1
              w40 := w40
              h1 := h1
              h40 := h40
              ints := HI.out.blk (hmv sb (by omega) (by omega))
              sbl := by omega
              zl := HO.out.1
              nse := by rw [Hnse.out, Hp1.out, Hcc.out, Nat.mul_comm W H]
              cap := hcp1
              cap2 := hcp2
              zv := Hlv.out
              dots := fun h => by obtain ⟨db, e, k1, k2, k3⟩ := HDo.out h; exact ⟨db, e, Nat.lt_of_lt_of_le k1 hsz, k2.blk (hmv db k3 k1)⟩
              dl := Hdl.out
              dn := hdn
              dv := Hdv.out
              clr := fun h => by obtain ⟨db, e, k1, k2, k3⟩ := HKN.out h; exact ⟨db, e, Nat.lt_of_lt_of_le k1 hsz, k2.blk (hmv db k3 k1)⟩
              cl := HKl.out
              cn := hcn
              cv := HKv.out
              one := fun h => by
                by_cases e : ct = 3
                · exact HK3.out e
                · exact absurd (H3b.out e) (Nat.ne_of_gt h)
              three := H3a.out
              other := H3b.out
              vds := ⟨_, _, _, rfl⟩ }
        · have g1n : ¬ (c : Int) ≤ (cN : Int) := fun e => g1 (Int.ofNat_le.1 e)
          go_upto_if 108 with (fail)
          go_cut [] (fun wx => ∃ pk kN kcap cs, DBox wx D W H dp ct il (.slice (some ⟨sb, 0, none⟩) ns cp) (.slice pd dN dcap) (.slice pk kN kcap) (.slice none 0 0) ∧ DBox wx B 0 0 0 0 false (.slice none 0 0) (.slice none 0 0) (.slice none 0 0) (.slice none 0 0) ∧ Below (B + 1) W0 wx ∧ KeepBut D S2 wq wx ∧ S2 ≤ wx.heap.size ∧
            (0 < kN → ∃ cb, pk = some ⟨cb, 0, none⟩ ∧ cb < wx.heap.size ∧ IntsAt wx cb cs ∧ D < cb) ∧ cs.length = kN ∧ kN ≤ 4 ∧ (∀ k, cs.getD k 0 ≤ 65535) ∧ (ct = 3 → kN = 0))
          case first =>
            go_wp2
            go_meet
            case rel => exact ⟨none, 0, 0, [], HDBr.out, HZr.out, HFr.out, KeepBut.refl _ _ _, Nat.le_of_eq HS2.out.symm, fun h => absurd h (by decide), rfl, by decide, fun k => by simp, fun _ => rfl⟩
          case rest =>
            obtain ⟨w20, rfl⟩ : ∃ x : World, x = wc := ⟨_, rfl⟩
            obtain ⟨pk, kN, kcap, cs, hDB2, hZ2, hF2, hK2, hS3, hclr, hcl, hcn, hcv, hk3⟩ := hcut
            have HDB2 := Lib.hid hDB2
            have hsD : sb ≠ D := by omega
            have hDS3 : D < S2 := by have := HS2.out; omega
            have hsS3 : sb < S2 := by have := HS2.out; omega
            have HI := Lib.hid (HO.out.ints.blk (hK2 sb hsS3 hsD))
            have HDo := Lib.hid (show 0 < dN → ∃ db, pd = some ⟨db, 0, none⟩ ∧ db < w20.heap.size ∧ DotsAt w20 db ds ∧ D < db from fun h => by
              obtain ⟨db, e, k1, k2, k3⟩ := Hdots.out h
              have k4 : db < S := by have := HS.out; omega
              have k5 : db < S2 := by have := HS2.out; omega
              exact ⟨db, e, by omega, k3.blk ((hK2 db k5 (Nat.ne_of_gt k2)).trans (HK.out db k4 (Nat.ne_of_gt k2))), k2⟩)
            have HKN := Lib.hid hclr
            have HKl := Lib.hid hcl
            have HKv := Lib.hid hcv
            have HK3 := Lib.hid hk3
            have HF2 := Lib.hid hF2
            have HZ2 := Lib.hid hZ2
            have hD20 : D < w20.heap.size := by omega
            clear hclr hcl hcv hk3 hF2 hZ2 hK2
            (first | clear d0 d1 d2 d3 d4 d5 d6 d7 d8 dfz dhas | skip)
            obtain ⟨d0, d1, d2, d3, d4, d5, d6, d7, d8, dfz, dhas⟩ := hDB2.cells
            go_wp2_with fail
            refine (dotsW_ok W H dp ct sb ns cp dN dcap kN kcap p1 il l ds cs pd pk w20 Hk.out hp16 HI.out (by omega) HO.out.1 (by rw [Hnse.out, Hcc.out]) hcp1 hcp2 Hlv.out (fun h => by obtain ⟨db, e, k1, k2, _⟩ := HDo.out h; exact ⟨db, e, k1, k2⟩) Hdl.out hdn (fun h => by obtain ⟨db, e, k1, k2, _⟩ := HKN.out h; exact ⟨db, e, k1, k2⟩) HKl.out hcn).mono ?_
            rintro e w21 ⟨pz, nz, cz, s, rfl, hb21⟩
            have hDB3 := HDB2.out.below hb21 hD20
            have hZ3 := HZ2.out.below hb21 (by omega)
            have HDB3 := Lib.hid hDB3
            have HZ3 := Lib.hid hZ3
            have Hb21 := Lib.hid hb21
            have hs21 := hb21.size
            clear d0 d1 d2 d3 d4 d5 d6 d7 d8 dfz dhas hDB2
            obtain ⟨d0, d1, d2, d3, d4, d5, d6, d7, d8, dfz, dhas⟩ := hDB3.cells
            obtain ⟨z0, z1, z2, z3, z4, z5, z6, z7, z8, zfz, zhas⟩ := hZ3.cells
            have hBnD : ¬ B = D := by omega
            have hDnB : ¬ D = B := by omega
            clear hb21 hDB3 hZ3
            go_wp2
            have hE := fill_box (Blk.far HZ3.out (p := ⟨D, 8, none⟩) hBnD (.slice pz nz cz)) W H dp ct il (.slice (some ⟨sb, 0, none⟩) ns cp) (.slice pd dN dcap) (.slice pk kN kcap) (.slice pz nz cz)
            have hEk : ∀ k, k ≠ B → k ≠ D → (fillW (w21.setCell ⟨D, 8, none⟩ (.slice pz nz cz)) B W H dp ct il (.slice (some ⟨sb, 0, none⟩) ns cp) (.slice pd dN dcap) (.slice pk kN kcap) (.slice pz nz cz)).heap[k]? = w21.heap[k]? := fun k q1 q2 => (fill_other _ _ _ _ _ _ _ _ _ _ _ k q1).trans (Below.heap_setCell w21 ⟨D, 8, none⟩ _ k q2)
            have hEs : (fillW (w21.setCell ⟨D, 8, none⟩ (.slice pz nz cz)) B W H dp ct il (.slice (some ⟨sb, 0, none⟩) ns cp) (.slice pd dN dcap) (.slice pk kN kcap) (.slice pz nz cz)).heap.size = w21.heap.size := by rw [fill_size]; simp [World.setCell]
            have hEb : Below B w (fillW (w21.setCell ⟨D, 8, none⟩ (.slice pz nz cz)) B W H dp ct il (.slice (some ⟨sb, 0, none⟩) ns cp) (.slice pd dN dcap) (.slice pk kN kcap) (.slice pz nz cz)) :=
              fill_below (((HF0.out.trans (HF2.out.mono (Nat.le_succ _))).trans (Hb21.out.mono (by omega))).setCell (p := ⟨D, 8, none⟩) (Nat.le_of_lt hBD) _) B W H dp ct (Nat.le_refl _) il _ _ _ _
            obtain ⟨WE, hWE⟩ : ∃ WE, fillW (w21.setCell ⟨D, 8, none⟩ (.slice pz nz cz)) B W H dp ct il (.slice (some ⟨sb, 0, none⟩) ns cp) (.slice pd dN dcap) (.slice pk kN kcap) (.slice pz nz cz) = WE := ⟨_, rfl⟩
            rw [hWE] at hE hEk hEs hEb
            unfold fillW at hWE
            rw [hWE]
            have HEk := Lib.hid hEk
            have HEs := Lib.hid hEs
            have HEb := Lib.hid hEb
            clear hWE hEk hEs hEb d0 d1 d2 d3 d4 d5 d6 d7 d8 dfz dhas z0 z1 z2 z3 z4 z5 z6 z7 z8 zfz zhas
            obtain ⟨z0, z1, z2, z3, z4, z5, z6, z7, z8, zfz, zhas⟩ := hE.cells
            refine bodyPost_ret (v := .agg #[.int .i64 W, .int .i64 H, .int .i64 dp, .int .i64 ct, .bool il, .slice (some ⟨sb, 0, none⟩) ns cp, .slice pd dN dcap, .slice pk kN kcap, .slice pz nz cz]) (by simp only [results, Tryz.results17]; go_simp) rfl ?_
            refine ⟨W, H, ct, dp, sb, ns, cp, dN, dcap, kN, kcap, pd, pk, .slice pz nz cz, l, ds, cs, rfl, ?_, HEb.out⟩
            have hmv : ∀ k, D < k → k < w20.heap.size → WE.heap[k]? = w20.heap[k]? := fun k q1 q2 => (HEk.out k (by omega) (by omega)).trans (Hb21.out.block k q2)
            have hsz : w20.heap.size ≤ WE.heap.size := by rw [HEs.out]; exact hs21
            exact {
              kinds := Hk.out
              w1 := w1
              w40 := w40
              h1 := h1
              h40 := h40
              ints := HI.out.blk (hmv sb (by omega) (by omega))
              sbl := by omega
              zl := HO.out.1
              nse := by rw [Hnse.out, Hp1.out, Hcc.out, Nat.mul_comm W H]
              cap := hcp1
              cap2 := hcp2
              zv := Hlv.out
              dots := fun h => by obtain ⟨db, e, k1, k2, k3⟩ := HDo.out h; exact ⟨db, e, Nat.lt_of_lt_of_le k1 hsz, k2.blk (hmv db k3 k1)⟩
              dl := Hdl.out
              dn := hdn
              dv := Hdv.out
              clr := fun h => by obtain ⟨db, e, k1, k2, k3⟩ := HKN.out h; exact ⟨db, e, Nat.lt_of_lt_of_le k1 hsz, k2.blk (hmv db k3 k1)⟩
              cl := HKl.out
              cn := hcn
              cv := HKv.out
              one := fun h => by
                by_cases e : ct = 3
                · exact HK3.out e
                · exact absurd (H3b.out e) (Nat.ne_of_gt h)
              three := H3a.out
              other := H3b.out
              vds := ⟨_, _, _, rfl⟩ }
        · have g1i : (c : Int) ≤ (cN : Int) := Int.ofNat_le.2 g1
          go_upto_if 108 with (fail)
          go_cut [] (fun wx => ∃ pk kN kcap cs, DBox wx D W H dp ct il (.slice (some ⟨sb, 0, none⟩) ns cp) (.slice pd dN dcap) (.slice pk kN kcap) (.slice none 0 0) ∧ DBox wx B 0 0 0 0 false (.slice none 0 0) (.slice none 0 0) (.slice none 0 0) (.slice none 0 0) ∧ Below (B + 1) W0 wx ∧ KeepBut D S2 wq wx ∧ S2 ≤ wx.heap.size ∧
            (0 < kN → ∃ cb, pk = some ⟨cb, 0, none⟩ ∧ cb < wx.heap.size ∧ IntsAt wx cb cs ∧ D < cb) ∧ cs.length = kN ∧ kN ≤ 4 ∧ (∀ k, cs.getD k 0 ≤ 65535) ∧ (ct = 3 → kN = 0))
          case first =>
            rcases Hc.out with h | ⟨b, off, rfl, hbl, hcell⟩
            · omega
            · have Hcell := Lib.hid hcell
              have Hbl := Lib.hid hbl
              have hccap : c ≤ ccap := by omega
              clear hcell hbl
              go_wp2
              clear d0 d1 d2 d3 d4 d5 d6 d7 d8 dfz dhas
              go_loopg [113] c (fun g i wx => ∃ k p' cp' l', k + g = c ∧ i = .int .i64 (k : Nat) ∧ DBox wx D W H dp ct il (.slice (some ⟨sb, 0, none⟩) ns cp) (.slice pd dN dcap) (.slice p' k cp') (.slice none 0 0) ∧ DBox wx B 0 0 0 0 false (.slice none 0 0) (.slice none 0 0) (.slice none 0 0) (.slice none 0 0) ∧
                Below (B + 1) W0 wx ∧ Oi wx S2 p' k cp' l' ∧ (∀ j, l'.getD j 0 ≤ 65535) ∧ KeepBut D S2 wq wx ∧ S2 ≤ wx.heap.size)
              case atStart => exact ⟨0, none, 0, [], by omega, rfl, HDBr.out, HZr.out, HFr.out, Oi.none _ _, fun j => by simp, KeepBut.refl _ _ _, Nat.le_of_eq HS2.out.symm⟩
              case round =>
                obtain ⟨k, p', cp', l', hk, rfl, hDBx, hZx, hFx, hOx, hlx, hKx, hSx⟩ := hrel
                have HOx := Lib.hid hOx
                have Hlx := Lib.hid hlx
                have HKx := Lib.hid hKx
                have HFx := Lib.hid hFx
                have Hkx := Lib.hid hk
                have HDBx := Lib.hid hDBx
                have HZx := Lib.hid hZx
                obtain ⟨d0, d1, d2, d3, d4, d5, d6, d7, d8, dfz, dhas⟩ := hDBx.cells
                have hDS2 : D < S2 := by have := HS2.out; omega
                have hBS2 : B + 1 ≤ S2 := by omega
                have hDw2 : D < wr.heap.size := by omega
                have hBw3 : B + 1 ≤ wr.heap.size := by omega
                by_cases hlt2 : k < c
                · have hki : (k : Int) < (c : Int) := by omega
                  have hk4 : k ≤ 4 := by omega
                  obtain ⟨c1, c2⟩ := Hcell.out k (by omega)
                  have hbw : Below B w wr := HF0.out.trans (HFx.out.mono (Nat.le_succ _))
                  rw [← hbw.cell (p := ⟨b, off + k, none⟩) (by rw [← HB.out]; exact Hbl.out)] at c1
                  obtain ⟨x, hx⟩ : ∃ x, C k = x := ⟨_, rfl⟩
                  rw [hx] at c1 c2
                  obtain ⟨q, hq⟩ : ∃ q, q = x % tp := ⟨_, rfl⟩
                  have eq1 : (x : Int).tmod (tp : Int) = (q : Int) := by rw [Int.tmod_eq_emod_of_nonneg (by omega), hq]; simp
                  have hq6 : q ≤ 65535 := by have : x % tp ≤ x := Nat.mod_le _ _; omega
                  have hqb : -9223372036854775808 ≤ (q : Int) ∧ (q : Int) ≤ 9223372036854775807 := ⟨Int.le_trans (by decide) (Int.natCast_nonneg q), Int.le_trans (Int.ofNat_le.2 hq6) (by decide)⟩
                  have ew1 : wrap64 (q : Int) = (q : Int) := IntWalk.wrap64_in _ hqb
                  have ew2 : IntKind.i64.wrap (q : Int) = (q : Int) := IntWalk.i64_in _ hqb
                  have hxb : -9223372036854775808 ≤ (x : Int) ∧ (x : Int) ≤ 9223372036854775807 := ⟨Int.le_trans (by decide) (Int.natCast_nonneg x), Int.le_trans (Int.ofNat_le.2 (Nat.le_of_lt c2)) (by decide)⟩
                  have ew3 : IntKind.i64.wrap (x : Int) = (x : Int) := IntWalk.i64_in _ hxb
                  have htpN : ¬ tp = 0 := Nat.ne_of_gt ht1
                  clear hxb hqb hq hx hbw hOx hlx hKx hFx hk hDBx hZx
                  go_upto_region 22 with (fail)
                  go_region_law (first
                    | (refine step_appI rfl (.tmp 118) (.tmp 123) (by rfl) S2 k cp' 1 1 p' (some ⟨wr.heap.size, 0, none⟩) l' [q] (by rfl) (by rfl) (Oi.alloc (w := wr.drew) HOx.out _) (wr.heap.size + 1) (reads_new wr.drew _ 3 _ 1 1 _ (by rfl) (by simp [nvals]) (Nat.lt_succ_self _) _ (by rfl)) (Nat.le_trans (Nat.add_le_add_right hk4 1) (by decide)) (Nat.le_trans hSx (by simp)) ?_; intro p4 c4 w4 hO4 hG4 hL4; have HO4 := Lib.hid hO4; have HDB4 := Lib.hid (DBox.grown (Blk.alloc (w := wr.drew) HDBx.out _) hG4 (fun e => absurd (owns_lt HOx.out.2 _ e.symm).1 (Nat.not_le_of_lt hDS2))); have HZ4 := Lib.hid (DBox.grown (Blk.alloc (w := wr.drew) HZx.out _) hG4 (fun e => absurd (owns_lt HOx.out.2 _ e.symm).1 (Nat.not_le_of_lt hBS2))); have HF4' := Lib.hid ((Below.alloc (w := wr.drew) HFx.out.drew hBw3 _).grown hG4 (Nat.le_trans hBw3 (by simp)) (fun j hj => Nat.le_trans hBS2 (owns_lt HOx.out.2 j hj).1)); have HK4 := Lib.hid (show KeepBut D S2 wq w4 from fun j j1 j2 => (hG4.block j (Nat.lt_of_lt_of_le j1 (Nat.le_trans hSx (by simp))) (fun e => absurd (owns_lt HOx.out.2 _ e.symm).1 (Nat.not_le_of_lt j1))).trans ((heap_alloc_old wr.drew _ (Nat.lt_of_lt_of_le j1 hSx)).trans (HKx.out j j1 j2))); have hs4 : S2 ≤ w4.heap.size := Nat.le_trans (Nat.le_trans hSx (by simp)) hG4.size; obtain ⟨f0, f1, f2, f3, f4, f5, f6, f7, f8, ffz, fhas⟩ := HDB4.out.cells; clear hO4 hG4 hL4))
                  all_goals
                    go_wp2
                    go_roundg (gk - 1)
                    case measure => have := Hkx.out; omega
                    case rel =>
                      refine ⟨k + 1, p4, c4, l' ++ [q], by have := Hkx.out; omega, by go_num, DBox.set7 HDB4.out _, Blk.far HZ4.out (p := ⟨D, 7, none⟩) (by show B ≠ D; omega) _, HF4'.out.setCell (p := ⟨D, 7, none⟩) (by show B + 1 ≤ D; omega) _,
                        HO4.out.keep fun j hj => Below.heap_setCell _ ⟨D, 7, none⟩ _ j (Nat.ne_of_gt (Nat.lt_of_lt_of_le hDS2 (owns_lt HO4.out.2 j hj).1)), getD_app_le l' q 65535 Hlx.out hq6, HK4.out.trans (KeepBut.set D S2 7 _ _), by simpa [World.setCell] using hs4⟩
                · have hkc : c = k := by omega
                  subst hkc
                  obtain ⟨cb, rfl, hcb1, hcb2, hcb3, hcb4⟩ := hOx.ptr2 hcc3
                  clear hOx hlx hKx hFx hk hDBx hZx
                  go_wp2
                  go_meet
                  case rel => exact ⟨some ⟨cb, 0, none⟩, c, cp', l', HDBx.out, HZx.out, HFx.out, HKx.out, hSx, fun _ => ⟨cb, rfl, hcb2, HOx.out.ints, by omega⟩, HOx.out.1, hcc4, Hlx.out, fun e => absurd e g3⟩
          case rest =>
            obtain ⟨w20, rfl⟩ : ∃ x : World, x = wc := ⟨_, rfl⟩
            obtain ⟨pk, kN, kcap, cs, hDB2, hZ2, hF2, hK2, hS3, hclr, hcl, hcn, hcv, hk3⟩ := hcut
            have HDB2 := Lib.hid hDB2
            have hsD : sb ≠ D := by omega
            have hDS3 : D < S2 := by have := HS2.out; omega
            have hsS3 : sb < S2 := by have := HS2.out; omega
            have HI := Lib.hid (HO.out.ints.blk (hK2 sb hsS3 hsD))
            have HDo := Lib.hid (show 0 < dN → ∃ db, pd = some ⟨db, 0, none⟩ ∧ db < w20.heap.size ∧ DotsAt w20 db ds ∧ D < db from fun h => by
              obtain ⟨db, e, k1, k2, k3⟩ := Hdots.out h
              have k4 : db < S := by have := HS.out; omega
              have k5 : db < S2 := by have := HS2.out; omega
              exact ⟨db, e, by omega, k3.blk ((hK2 db k5 (Nat.ne_of_gt k2)).trans (HK.out db k4 (Nat.ne_of_gt k2))), k2⟩)
            have HKN := Lib.hid hclr
            have HKl := Lib.hid hcl
            have HKv := Lib.hid hcv
            have HK3 := Lib.hid hk3
            have HF2 := Lib.hid hF2
            have HZ2 := Lib.hid hZ2
            have hD20 : D < w20.heap.size := by omega
            clear hclr hcl hcv hk3 hF2 hZ2 hK2
            (first | clear d0 d1 d2 d3 d4 d5 d6 d7 d8 dfz dhas | skip)
            obtain ⟨d0, d1, d2, d3, d4, d5, d6, d7, d8, dfz, dhas⟩ := hDB2.cells
            go_wp2_with fail
            refine (dotsW_ok W H dp ct sb ns cp dN dcap kN kcap p1 il l ds cs pd pk w20 Hk.out hp16 HI.out (by omega) HO.out.1 (by rw [Hnse.out, Hcc.out]) hcp1 hcp2 Hlv.out (fun h => by obtain ⟨db, e, k1, k2, _⟩ := HDo.out h; exact ⟨db, e, k1, k2⟩) Hdl.out hdn (fun h => by obtain ⟨db, e, k1, k2, _⟩ := HKN.out h; exact ⟨db, e, k1, k2⟩) HKl.out hcn).mono ?_
            rintro e w21 ⟨pz, nz, cz, s, rfl, hb21⟩
            have hDB3 := HDB2.out.below hb21 hD20
            have hZ3 := HZ2.out.below hb21 (by omega)
            have HDB3 := Lib.hid hDB3
            have HZ3 := Lib.hid hZ3
            have Hb21 := Lib.hid hb21
            have hs21 := hb21.size
            clear d0 d1 d2 d3 d4 d5 d6 d7 d8 dfz dhas hDB2
            obtain ⟨d0, d1, d2, d3, d4, d5, d6, d7, d8, dfz, dhas⟩ := hDB3.cells
            obtain ⟨z0, z1, z2, z3, z4, z5, z6, z7, z8, zfz, zhas⟩ := hZ3.cells
            have hBnD : ¬ B = D := by omega
            have hDnB : ¬ D = B := by omega
            clear hb21 hDB3 hZ3
            go_wp2
            have hE := fill_box (Blk.far HZ3.out (p := ⟨D, 8, none⟩) hBnD (.slice pz nz cz)) W H dp ct il (.slice (some ⟨sb, 0, none⟩) ns cp) (.slice pd dN dcap) (.slice pk kN kcap) (.slice pz nz cz)
            have hEk : ∀ k, k ≠ B → k ≠ D → (fillW (w21.setCell ⟨D, 8, none⟩ (.slice pz nz cz)) B W H dp ct il (.slice (some ⟨sb, 0, none⟩) ns cp) (.slice pd dN dcap) (.slice pk kN kcap) (.slice pz nz cz)).heap[k]? = w21.heap[k]? := fun k q1 q2 => (fill_other _ _ _ _ _ _ _ _ _ _ _ k q1).trans (Below.heap_setCell w21 ⟨D, 8, none⟩ _ k q2)
            have hEs : (fillW (w21.setCell ⟨D, 8, none⟩ (.slice pz nz cz)) B W H dp ct il (.slice (some ⟨sb, 0, none⟩) ns cp) (.slice pd dN dcap) (.slice pk kN kcap) (.slice pz nz cz)).heap.size = w21.heap.size := by rw [fill_size]; simp [World.setCell]
            have hEb : Below B w (fillW (w21.setCell ⟨D, 8, none⟩ (.slice pz nz cz)) B W H dp ct il (.slice (some ⟨sb, 0, none⟩) ns cp) (.slice pd dN dcap) (.slice pk kN kcap) (.slice pz nz cz)) :=
              fill_below (((HF0.out.trans (HF2.out.mono (Nat.le_succ _))).trans (Hb21.out.mono (by omega))).setCell (p := ⟨D, 8, none⟩) (Nat.le_of_lt hBD) _) B W H dp ct (Nat.le_refl _) il _ _ _ _
            obtain ⟨WE, hWE⟩ : ∃ WE, fillW (w21.setCell ⟨D, 8, none⟩ (.slice pz nz cz)) B W H dp ct il (.slice (some ⟨sb, 0, none⟩) ns cp) (.slice pd dN dcap) (.slice pk kN kcap) (.slice pz nz cz) = WE := ⟨_, rfl⟩
            rw [hWE] at hE hEk hEs hEb
            unfold fillW at hWE
            rw [hWE]
            have HEk := Lib.hid hEk
            have HEs := Lib.hid hEs
            have HEb := Lib.hid hEb
            clear hWE hEk hEs hEb d0 d1 d2 d3 d4 d5 d6 d7 d8 dfz dhas z0 z1 z2 z3 z4 z5 z6 z7 z8 zfz zhas
            obtain ⟨z0, z1, z2, z3, z4, z5, z6, z7, z8, zfz, zhas⟩ := hE.cells
            refine bodyPost_ret (v := .agg #[.int .i64 W, .int .i64 H, .int .i64 dp, .int .i64 ct, .bool il, .slice (some ⟨sb, 0, none⟩) ns cp, .slice pd dN dcap, .slice pk kN kcap, .slice pz nz cz]) (by simp only [results, Tryz.results17]; go_simp) rfl ?_
            refine ⟨W, H, ct, dp, sb, ns, cp, dN, dcap, kN, kcap, pd, pk, .slice pz nz cz, l, ds, cs, rfl, ?_, HEb.out⟩
            have hmv : ∀ k, D < k → k < w20.heap.size → WE.heap[k]? = w20.heap[k]? := fun k q1 q2 => (HEk.out k (by omega) (by omega)).trans (Hb21.out.block k q2)
            have hsz : w20.heap.size ≤ WE.heap.size := by rw [HEs.out]; exact hs21
            exact {
              kinds := Hk.out
              w1 := w1
              w40 := w40
              h1 := h1
              h40 := h40
              ints := HI.out.blk (hmv sb (by omega) (by omega))
              sbl := by omega
              zl := HO.out.1
              nse := by rw [Hnse.out, Hp1.out, Hcc.out, Nat.mul_comm W H]
              cap := hcp1
              cap2 := hcp2
              zv := Hlv.out
              dots := fun h => by obtain ⟨db, e, k1, k2, k3⟩ := HDo.out h; exact ⟨db, e, Nat.lt_of_lt_of_le k1 hsz, k2.blk (hmv db k3 k1)⟩
              dl := Hdl.out
              dn := hdn
              dv := Hdv.out
              clr := fun h => by obtain ⟨db, e, k1, k2, k3⟩ := HKN.out h; exact ⟨db, e, Nat.lt_of_lt_of_le k1 hsz, k2.blk (hmv db k3 k1)⟩
              cl := HKl.out
              cn := hcn
              cv := HKv.out
              one := fun h => by
                by_cases e : ct = 3
                · exact HK3.out e
                · exact absurd (H3b.out e) (Nat.ne_of_gt h)
              three := H3a.out
              other := H3b.out
              vds := ⟨_, _, _, rfl⟩ }
        · have g1n : ¬ (c : Int) ≤ (cN : Int) := fun e => g1 (Int.ofNat_le.1 e)
          go_upto_if 108 with (fail)
          go_cut [] (fun wx => ∃ pk kN kcap cs, DBox wx D W H dp ct il (.slice (some ⟨sb, 0, none⟩) ns cp) (.slice pd dN dcap) (.slice pk kN kcap) (.slice none 0 0) ∧ DBox wx B 0 0 0 0 false (.slice none 0 0) (.slice none 0 0) (.slice none 0 0) (.slice none 0 0) ∧ Below (B + 1) W0 wx ∧ KeepBut D S2 wq wx ∧ S2 ≤ wx.heap.size ∧
            (0 < kN → ∃ cb, pk = some ⟨cb, 0, none⟩ ∧ cb < wx.heap.size ∧ IntsAt wx cb cs ∧ D < cb) ∧ cs.length = kN ∧ kN ≤ 4 ∧ (∀ k, cs.getD k 0 ≤ 65535) ∧ (ct = 3 → kN = 0))
          case first =>
            go_wp2
            go_meet
            case rel => exact ⟨none, 0, 0, [], HDBr.out, HZr.out, HFr.out, KeepBut.refl _ _ _, Nat.le_of_eq HS2.out.symm, fun h => absurd h (by decide), rfl, by decide, fun k => by simp, fun _ => rfl⟩
          case rest =>
            obtain ⟨w20, rfl⟩ : ∃ x : World, x = wc := ⟨_, rfl⟩
            obtain ⟨pk, kN, kcap, cs, hDB2, hZ2, hF2, hK2, hS3, hclr, hcl, hcn, hcv, hk3⟩ := hcut
            have HDB2 := Lib.hid hDB2
            have hsD : sb ≠ D := by omega
            have hDS3 : D < S2 := by have := HS2.out; omega
            have hsS3 : sb < S2 := by have := HS2.out; omega
            have HI := Lib.hid (HO.out.ints.blk (hK2 sb hsS3 hsD))
            have HDo := Lib.hid (show 0 < dN → ∃ db, pd = some ⟨db, 0, none⟩ ∧ db < w20.heap.size ∧ DotsAt w20 db ds ∧ D < db from fun h => by
              obtain ⟨db, e, k1, k2, k3⟩ := Hdots.out h
              have k4 : db < S := by have := HS.out; omega
              have k5 : db < S2 := by have := HS2.out; omega
              exact ⟨db, e, by omega, k3.blk ((hK2 db k5 (Nat.ne_of_gt k2)).trans (HK.out db k4 (Nat.ne_of_gt k2))), k2⟩)
            have HKN := Lib.hid hclr
            have HKl := Lib.hid hcl
            have HKv := Lib.hid hcv
            have HK3 := Lib.hid hk3
            have HF2 := Lib.hid hF2
            have HZ2 := Lib.hid hZ2
            have hD20 : D < w20.heap.size := by omega
            clear hclr hcl hcv hk3 hF2 hZ2 hK2
            (first | clear d0 d1 d2 d3 d4 d5 d6 d7 d8 dfz dhas | skip)
            obtain ⟨d0, d1, d2, d3, d4, d5, d6, d7, d8, dfz, dhas⟩ := hDB2.cells
            go_wp2_with fail
            refine (dotsW_ok W H dp ct sb ns cp dN dcap kN kcap p1 il l ds cs pd pk w20 Hk.out hp16 HI.out (by omega) HO.out.1 (by rw [Hnse.out, Hcc.out]) hcp1 hcp2 Hlv.out (fun h => by obtain ⟨db, e, k1, k2, _⟩ := HDo.out h; exact ⟨db, e, k1, k2⟩) Hdl.out hdn (fun h => by obtain ⟨db, e, k1, k2, _⟩ := HKN.out h; exact ⟨db, e, k1, k2⟩) HKl.out hcn).mono ?_
            rintro e w21 ⟨pz, nz, cz, s, rfl, hb21⟩
            have hDB3 := HDB2.out.below hb21 hD20
            have hZ3 := HZ2.out.below hb21 (by omega)
            have HDB3 := Lib.hid hDB3
            have HZ3 := Lib.hid hZ3
            have Hb21 := Lib.hid hb21
            have hs21 := hb21.size
            clear d0 d1 d2 d3 d4 d5 d6 d7 d8 dfz dhas hDB2
            obtain ⟨d0, d1, d2, d3, d4, d5, d6, d7, d8, dfz, dhas⟩ := hDB3.cells
            obtain ⟨z0, z1, z2, z3, z4, z5, z6, z7, z8, zfz, zhas⟩ := hZ3.cells
            have hBnD : ¬ B = D := by omega
            have hDnB : ¬ D = B := by omega
            clear hb21 hDB3 hZ3
            go_wp2
            have hE := fill_box (Blk.far HZ3.out (p := ⟨D, 8, none⟩) hBnD (.slice pz nz cz)) W H dp ct il (.slice (some ⟨sb, 0, none⟩) ns cp) (.slice pd dN dcap) (.slice pk kN kcap) (.slice pz nz cz)
            have hEk : ∀ k, k ≠ B → k ≠ D → (fillW (w21.setCell ⟨D, 8, none⟩ (.slice pz nz cz)) B W H dp ct il (.slice (some ⟨sb, 0, none⟩) ns cp) (.slice pd dN dcap) (.slice pk kN kcap) (.slice pz nz cz)).heap[k]? = w21.heap[k]? := fun k q1 q2 => (fill_other _ _ _ _ _ _ _ _ _ _ _ k q1).trans (Below.heap_setCell w21 ⟨D, 8, none⟩ _ k q2)
            have hEs : (fillW (w21.setCell ⟨D, 8, none⟩ (.slice pz nz cz)) B W H dp ct il (.slice (some ⟨sb, 0, none⟩) ns cp) (.slice pd dN dcap) (.slice pk kN kcap) (.slice pz nz cz)).heap.size = w21.heap.size := by rw [fill_size]; simp [World.setCell]
            have hEb : Below B w (fillW (w21.setCell ⟨D, 8, none⟩ (.slice pz nz cz)) B W H dp ct il (.slice (some ⟨sb, 0, none⟩) ns cp) (.slice pd dN dcap) (.slice pk kN kcap) (.slice pz nz cz)) :=
              fill_below (((HF0.out.trans (HF2.out.mono (Nat.le_succ _))).trans (Hb21.out.mono (by omega))).setCell (p := ⟨D, 8, none⟩) (Nat.le_of_lt hBD) _) B W H dp ct (Nat.le_refl _) il _ _ _ _
            obtain ⟨WE, hWE⟩ : ∃ WE, fillW (w21.setCell ⟨D, 8, none⟩ (.slice pz nz cz)) B W H dp ct il (.slice (some ⟨sb, 0, none⟩) ns cp) (.slice pd dN dcap) (.slice pk kN kcap) (.slice pz nz cz) = WE := ⟨_, rfl⟩
            rw [hWE] at hE hEk hEs hEb
            unfold fillW at hWE
            rw [hWE]
            have HEk := Lib.hid hEk
            have HEs := Lib.hid hEs
            have HEb := Lib.hid hEb
            clear hWE hEk hEs hEb d0 d1 d2 d3 d4 d5 d6 d7 d8 dfz dhas z0 z1 z2 z3 z4 z5 z6 z7 z8 zfz zhas
            obtain ⟨z0, z1, z2, z3, z4, z5, z6, z7, z8, zfz, zhas⟩ := hE.cells
            refine bodyPost_ret (v := .agg #[.int .i64 W, .int .i64 H, .int .i64 dp, .int .i64 ct, .bool il, .slice (some ⟨sb, 0, none⟩) ns cp, .slice pd dN dcap, .slice pk kN kcap, .slice pz nz cz]) (by simp only [results, Tryz.results17]; go_simp) rfl ?_
            refine ⟨W, H, ct, dp, sb, ns, cp, dN, dcap, kN, kcap, pd, pk, .slice pz nz cz, l, ds, cs, rfl, ?_, HEb.out⟩
            have hmv : ∀ k, D < k → k < w20.heap.size → WE.heap[k]? = w20.heap[k]? := fun k q1 q2 => (HEk.out k (by omega) (by omega)).trans (Hb21.out.block k q2)
            have hsz : w20.heap.size ≤ WE.heap.size := by rw [HEs.out]; exact hs21
            exact {
              kinds := Hk.out
              w1 := w1
              w40 := w40
              h1 := h1
              h40 := h40
              ints := HI.out.blk (hmv sb (by omega) (by omega))
              sbl := by omega
              zl := HO.out.1
              nse := by rw [Hnse.out, Hp1.out, Hcc.out, Nat.mul_comm W H]
              cap := hcp1
              cap2 := hcp2
              zv := Hlv.out
              dots := fun h => by obtain ⟨db, e, k1, k2, k3⟩ := HDo.out h; exact ⟨db, e, Nat.lt_of_lt_of_le k1 hsz, k2.blk (hmv db k3 k1)⟩
              dl := Hdl.out
              dn := hdn
              dv := Hdv.out
              clr := fun h => by obtain ⟨db, e, k1, k2, k3⟩ := HKN.out h; exact ⟨db, e, Nat.lt_of_lt_of_le k1 hsz, k2.blk (hmv db k3 k1)⟩
              cl := HKl.out
              cn := hcn
              cv := HKv.out
              one := fun h => by
                by_cases e : ct = 3
                · exact HK3.out e
                · exact absurd (H3b.out e) (Nat.ne_of_gt h)
              three := H3a.out
              other := H3b.out
              vds := ⟨_, _, _, rfl⟩ }
        · have g1n : True := trivial
          go_upto_if 108 with (fail)
          go_cut [] (fun wx => ∃ pk kN kcap cs, DBox wx D W H dp ct il (.slice (some ⟨sb, 0, none⟩) ns cp) (.slice pd dN dcap) (.slice pk kN kcap) (.slice none 0 0) ∧ DBox wx B 0 0 0 0 false (.slice none 0 0) (.slice none 0 0) (.slice none 0 0) (.slice none 0 0) ∧ Below (B + 1) W0 wx ∧ KeepBut D S2 wq wx ∧ S2 ≤ wx.heap.size ∧
            (0 < kN → ∃ cb, pk = some ⟨cb, 0, none⟩ ∧ cb < wx.heap.size ∧ IntsAt wx cb cs ∧ D < cb) ∧ cs.length = kN ∧ kN ≤ 4 ∧ (∀ k, cs.getD k 0 ≤ 65535) ∧ (ct = 3 → kN = 0))
          case first =>
            go_wp2
            go_meet
            case rel => exact ⟨none, 0, 0, [], HDBr.out, HZr.out, HFr.out, KeepBut.refl _ _ _, Nat.le_of_eq HS2.out.symm, fun h => absurd h (by decide), rfl, by decide, fun k => by simp, fun _ => rfl⟩
          case rest =>
            obtain ⟨w20, rfl⟩ : ∃ x : World, x = wc := ⟨_, rfl⟩
            obtain ⟨pk, kN, kcap, cs, hDB2, hZ2, hF2, hK2, hS3, hclr, hcl, hcn, hcv, hk3⟩ := hcut
            have HDB2 := Lib.hid hDB2
            have hsD : sb ≠ D := by omega
            have hDS3 : D < S2 := by have := HS2.out; omega
            have hsS3 : sb < S2 := by have := HS2.out; omega
            have HI := Lib.hid (HO.out.ints.blk (hK2 sb hsS3 hsD))
            have HDo := Lib.hid (show 0 < dN → ∃ db, pd = some ⟨db, 0, none⟩ ∧ db < w20.heap.size ∧ DotsAt w20 db ds ∧ D < db from fun h => by
              obtain ⟨db, e, k1, k2, k3⟩ := Hdots.out h
              have k4 : db < S := by have := HS.out; omega
              have k5 : db < S2 := by have := HS2.out; omega
              exact ⟨db, e, by omega, k3.blk ((hK2 db k5 (Nat.ne_of_gt k2)).trans (HK.out db k4 (Nat.ne_of_gt k2))), k2⟩)
            have HKN := Lib.hid hclr
            have HKl := Lib.hid hcl
            have HKv := Lib.hid hcv
            have HK3 := Lib.hid hk3
            have HF2 := Lib.hid hF2
            have HZ2 := Lib.hid hZ2
            have hD20 : D < w20.heap.size := by omega
            clear hclr hcl hcv hk3 hF2 hZ2 hK2
            (first | clear d0 d1 d2 d3 d4 d5 d6 d7 d8 dfz dhas | skip)
            obtain ⟨d0, d1, d2, d3, d4, d5, d6, d7, d8, dfz, dhas⟩ := hDB2.cells
            go_wp2_with fail
            refine (dotsW_ok W H dp ct sb ns cp dN dcap kN kcap p1 il l ds cs pd pk w20 Hk.out hp16 HI.out (by omega) HO.out.1 (by rw [Hnse.out, Hcc.out]) hcp1 hcp2 Hlv.out (fun h => by obtain ⟨db, e, k1, k2, _⟩ := HDo.out h; exact ⟨db, e, k1, k2⟩) Hdl.out hdn (fun h => by obtain ⟨db, e, k1, k2, _⟩ := HKN.out h; exact ⟨db, e, k1, k2⟩) HKl.out hcn).mono ?_
            rintro e w21 ⟨pz, nz, cz, s, rfl, hb21⟩
            have hDB3 := HDB2.out.below hb21 hD20
            have hZ3 := HZ2.out.below hb21 (by omega)
            have HDB3 := Lib.hid hDB3
            have HZ3 := Lib.hid hZ3
            have Hb21 := Lib.hid hb21
            have hs21 := hb21.size
            clear d0 d1 d2 d3 d4 d5 d6 d7 d8 dfz dhas hDB2
            obtain ⟨d0, d1, d2, d3, d4, d5, d6, d7, d8, dfz, dhas⟩ := hDB3.cells
            obtain ⟨z0, z1, z2, z3, z4, z5, z6, z7, z8, zfz, zhas⟩ := hZ3.cells
            have hBnD : ¬ B = D := by omega
            have hDnB : ¬ D = B := by omega
            clear hb21 hDB3 hZ3
            go_wp2
            have hE := fill_box (Blk.far HZ3.out (p := ⟨D, 8, none⟩) hBnD (.slice pz nz cz)) W H dp ct il (.slice (some ⟨sb, 0, none⟩) ns cp) (.slice pd dN dcap) (.slice pk kN kcap) (.slice pz nz cz)
            have hEk : ∀ k, k ≠ B → k ≠ D → (fillW (w21.setCell ⟨D, 8, none⟩ (.slice pz nz cz)) B W H dp ct il (.slice (some ⟨sb, 0, none⟩) ns cp) (.slice pd dN dcap) (.slice pk kN kcap) (.slice pz nz cz)).heap[k]? = w21.heap[k]? := fun k q1 q2 => (fill_other _ _ _ _ _ _ _ _ _ _ _ k q1).trans (Below.heap_setCell w21 ⟨D, 8, none⟩ _ k q2)
            have hEs : (fillW (w21.setCell ⟨D, 8, none⟩ (.slice pz nz cz)) B W H dp ct il (.slice (some ⟨sb, 0, none⟩) ns cp) (.slice pd dN dcap) (.slice pk kN kcap) (.slice pz nz cz)).heap.size = w21.heap.size := by rw [fill_size]; simp [World.setCell]
            have hEb : Below B w (fillW (w21.setCell ⟨D, 8, none⟩ (.slice pz nz cz)) B W H dp ct il (.slice (some ⟨sb, 0, none⟩) ns cp) (.slice pd dN dcap) (.slice pk kN kcap) (.slice pz nz cz)) :=
              fill_below (((HF0.out.trans (HF2.out.mono (Nat.le_succ _))).trans (Hb21.out.mono (by omega))).setCell (p := ⟨D, 8, none⟩) (Nat.le_of_lt hBD) _) B W H dp ct (Nat.le_refl _) il _ _ _ _
            obtain ⟨WE, hWE⟩ : ∃ WE, fillW (w21.setCell ⟨D, 8, none⟩ (.slice pz nz cz)) B W H dp ct il (.slice (some ⟨sb, 0, none⟩) ns cp) (.slice pd dN dcap) (.slice pk kN kcap) (.slice pz nz cz) = WE := ⟨_, rfl⟩
            rw [hWE] at hE hEk hEs hEb
            unfold fillW at hWE
            rw [hWE]
            have HEk := Lib.hid hEk
            have HEs := Lib.hid hEs
            have HEb := Lib.hid hEb
            clear hWE hEk hEs hEb d0 d1 d2 d3 d4 d5 d6 d7 d8 dfz dhas z0 z1 z2 z3 z4 z5 z6 z7 z8 zfz zhas
            obtain ⟨z0, z1, z2, z3, z4, z5, z6, z7, z8, zfz, zhas⟩ := hE.cells
            refine bodyPost_ret (v := .agg #[.int .i64 W, .int .i64 H, .int .i64 dp, .int .i64 ct, .bool il, .slice (some ⟨sb, 0, none⟩) ns cp, .slice pd dN dcap, .slice pk kN kcap, .slice pz nz cz]) (by simp only [results, Tryz.results17]; go_simp) rfl ?_
            refine ⟨W, H, ct, dp, sb, ns, cp, dN, dcap, kN, kcap, pd, pk, .slice pz nz cz, l, ds, cs, rfl, ?_, HEb.out⟩
            have hmv : ∀ k, D < k → k < w20.heap.size → WE.heap[k]? = w20.heap[k]? := fun k q1 q2 => (HEk.out k (by omega) (by omega)).trans (Hb21.out.block k q2)
            have hsz : w20.heap.size ≤ WE.heap.size := by rw [HEs.out]; exact hs21
            exact {
              kinds := Hk.out
              w1 := w1
              w40 := w40
              h1 := h1
              h40 := h40
              ints := HI.out.blk (hmv sb (by omega) (by omega))
              sbl := by omega
              zl := HO.out.1
              nse := by rw [Hnse.out, Hp1.out, Hcc.out, Nat.mul_comm W H]
              cap := hcp1
              cap2 := hcp2
              zv := Hlv.out
              dots := fun h => by obtain ⟨db, e, k1, k2, k3⟩ := HDo.out h; exact ⟨db, e, Nat.lt_of_lt_of_le k1 hsz, k2.blk (hmv db k3 k1)⟩
              dl := Hdl.out
              dn := hdn
              dv := Hdv.out
              clr := fun h => by obtain ⟨db, e, k1, k2, k3⟩ := HKN.out h; exact ⟨db, e, Nat.lt_of_lt_of_le k1 hsz, k2.blk (hmv db k3 k1)⟩
              cl := HKl.out
              cn := hcn
              cv := HKv.out
              one := fun h => by
                by_cases e : ct = 3
                · exact HK3.out e
                · exact absurd (H3b.out e) (Nat.ne_of_gt h)
              three := H3a.out
              other := H3b.out
              vds := ⟨_, _, _, rfl⟩ }
end Go.Proofs.YtnpkgmgedgcjmaaGreatDoor
