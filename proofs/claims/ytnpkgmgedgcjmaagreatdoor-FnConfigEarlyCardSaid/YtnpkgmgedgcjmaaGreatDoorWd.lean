/- The writer's words: its block, the bytes it owns, what a step of it may turn. -/
import Derived.Test.YtnpkgmgedgcjmaaGreatDoorWc
set_option linter.all false
namespace Go.Proofs.YtnpkgmgedgcjmaaGreatDoor
open Go Go.RowKit Png

/-- What steps of the writer may have turned: its block, its bytes' block; new blocks. -/
structure WF (w w' : World) (wb : Nat) (o o' : Option Nat) : Prop where
  os : w'.os = w.os
  tape : w'.tape = w.tape
  output : w'.output = w.output
  size : w.heap.size ≤ w'.heap.size
  block : ∀ k, k < w.heap.size → k ≠ wb → some k ≠ o → w'.heap[k]? = w.heap[k]?
  lies : o' = o ∨ ∃ k, o' = some k ∧ w.heap.size ≤ k

theorem WF.refl (w : World) (wb : Nat) (o : Option Nat) : WF w w wb o o := ⟨rfl, rfl, rfl, Nat.le_refl _, fun _ _ _ _ => rfl, .inl rfl⟩

theorem WF.trans {a b c : World} {wb : Nat} {o o' o2 : Option Nat} (h : WF a b wb o o') (k : WF b c wb o' o2) : WF a c wb o o2 := by
  refine ⟨k.os.trans h.os, k.tape.trans h.tape, k.output.trans h.output, Nat.le_trans h.size k.size, fun i hi hw ho => ?_, ?_⟩
  · refine (k.block i (Nat.lt_of_lt_of_le hi h.size) hw ?_).trans (h.block i hi hw ho)
    rcases h.lies with e | ⟨j, e, hj⟩
    · rw [e]; exact ho
    · rw [e]; intro e2; injection e2 with e2; omega
  · rcases k.lies with e | ⟨j, e, hj⟩
    · rw [e]; exact h.lies
    · exact .inr ⟨j, e, Nat.le_trans h.size hj⟩

theorem WF.below {w w' : World} {wb B : Nat} {o o' : Option Nat} (h : WF w w' wb o o') (hB : B ≤ w.heap.size) (hw : B ≤ wb) (ho : ∀ k, o = some k → B ≤ k) : Below B w w' :=
  ⟨h.os, h.tape, h.output, h.size, fun k hk => h.block k (by omega) (by omega) (fun e => by have := ho k e.symm; omega)⟩

theorem WF.from {w w' : World} {wb B : Nat} {o o' : Option Nat} (h : WF w w' wb o o') (hB : B ≤ w.heap.size) (ho : ∀ k, o = some k → B ≤ k) : ∀ k, o' = some k → B ≤ k := by
  intro k hk
  rcases h.lies with e | ⟨j, e, hj⟩
  · exact ho k (e ▸ hk)
  · rw [e] at hk; injection hk with hk; omega

theorem WF.drew {w w' : World} {wb : Nat} {o o' : Option Nat} (h : WF w w' wb o o') : WF w w'.drew wb o o' := ⟨h.os, h.tape, h.output, h.size, h.block, h.lies⟩
theorem WF.undrew {w w' : World} {wb : Nat} {o o' : Option Nat} (h : WF w.drew w' wb o o') : WF w w' wb o o' := ⟨h.os, h.tape, h.output, h.size, h.block, h.lies⟩
theorem WF.undrewN {w w' : World} {wb n : Nat} {o o' : Option Nat} (h : WF (w.drewN n) w' wb o o') : WF w w' wb o o' := ⟨h.os, h.tape, h.output, h.size, h.block, h.lies⟩
theorem WF.drewN {w w' : World} {wb : Nat} {o o' : Option Nat} (h : WF w w' wb o o') (n : Nat) : WF w (w'.drewN n) wb o o' := ⟨h.os, h.tape, h.output, h.size, h.block, h.lies⟩
theorem WF.alloc {w w' : World} {wb : Nat} {o o' : Option Nat} (h : WF w w' wb o o') (b : Obj) : WF w (w'.alloc b) wb o o' :=
  ⟨h.os, h.tape, h.output, by have := h.size; simp; omega, fun k hk hw ho => (heap_alloc_old w' b (by have := h.size; omega)).trans (h.block k hk hw ho), h.lies⟩
theorem WF.set {w w' : World} {wb : Nat} {o o' : Option Nat} (h : WF w w' wb o o') (x : Nat) (v : Value) : WF w (w'.setCell ⟨wb, x, none⟩ v) wb o o' :=
  ⟨h.os, h.tape, h.output, by simpa [World.setCell] using h.size, fun k hk hw ho => by
    rw [← h.block k hk hw ho]
    have hne : wb ≠ k := fun e => hw e.symm
    simp [World.setCell, Array.getElem?_modify, hne], h.lies⟩
theorem WF.setO {w w' : World} {wb g : Nat} {o : Option Nat} (h : WF w w' wb o (some g)) (x : Nat) (v : Value) : WF w (w'.setCell ⟨g, x, none⟩ v) wb o (some g) :=
  ⟨h.os, h.tape, h.output, by simpa [World.setCell] using h.size, fun k hk hw ho => by
    rw [← h.block k hk hw ho]
    have hne : g ≠ k := by
      rcases h.lies with e | ⟨j, e, hj⟩
      · rintro rfl; exact ho e
      · injection e with e; omega
    simp [World.setCell, Array.getElem?_modify, hne], h.lies⟩
theorem WF.grown {w w1 w2 : World} {wb : Nat} {o o1 o2 : Option Nat} (h : WF w w1 wb o o1) (hg : w1.grownBy w2 o1) (ho2 : o2 = o1 ∨ o2 = some w1.heap.size) : WF w w2 wb o o2 := by
  refine h.trans ⟨hg.os, hg.tape, hg.output, hg.size, fun k hk _ ho => hg.block k hk ho, ?_⟩
  rcases ho2 with e | e
  · exact .inl e
  · exact .inr ⟨_, e, Nat.le_refl _⟩

/-- A block that was laid just now reads as what was laid. -/
theorem reads_new (w : World) (cs : Array Value) (t : TypeId) (B size n : Nat) (xs : List Value) (hl : xs.length = n * size) (hcs : cs.toList = xs) (hB : w.heap.size < B) (g : Nat) (hg : g = w.heap.size) :
    Reads (w.alloc (.cells cs t)) B size (some ⟨g, 0, none⟩) n xs := by
  subst hg
  refine ⟨hl, fun _ => ⟨_, rfl, hB, fun j u hu => ?_⟩⟩
  rw [add_addr, Nat.zero_add]
  have := heap_alloc_new w (.cells cs t)
  unfold World.cell?
  simp only [this]
  rw [← hcs] at hu
  simpa using hu
/-- The writer: its block, its bytes, at which bit it is. -/
def WS (w : World) (wb at_ : Nat) (o : Option Nat) (l : List UInt8) : Prop :=
  ∃ p cap, Blk w wb 145 #[.slice p l.length cap, .int .i64 at_] ∧ Ob w 0 p l.length cap l ∧ p.map (·.block) = o ∧ l.length = (at_ + 7) / 8

theorem WS.drew {w : World} {wb at_ : Nat} {o : Option Nat} {l : List UInt8} (h : WS w wb at_ o l) : WS w.drew wb at_ o l := h
theorem WS.drewN {w : World} {wb at_ n : Nat} {o : Option Nat} {l : List UInt8} (h : WS w wb at_ o l) : WS (w.drewN n) wb at_ o l := h
theorem WS.keep {w w' : World} {wb at_ : Nat} {o : Option Nat} {l : List UInt8} (h : WS w wb at_ o l) (hb : ∀ k, k < w.heap.size → w'.heap[k]? = w.heap[k]?) : WS w' wb at_ o l := by
  obtain ⟨p, cap, h1, h2, h3, h4⟩ := h
  exact ⟨p, cap, (hb wb h1.lt).trans h1, h2.keep fun k hk => hb k (h2.lt k hk).2, h3, h4⟩
theorem WS.alloc {w : World} {wb at_ : Nat} {o : Option Nat} {l : List UInt8} (h : WS w wb at_ o l) (b : Obj) : WS (w.alloc b) wb at_ o l := h.keep fun k hk => heap_alloc_old w b hk
theorem WS.lt {w : World} {wb at_ : Nat} {o : Option Nat} {l : List UInt8} (h : WS w wb at_ o l) : wb < w.heap.size ∧ (∀ k, o = some k → k < w.heap.size) := by
  obtain ⟨p, cap, h1, h2, rfl, h4⟩ := h
  exact ⟨h1.lt, fun k hk => (h2.lt k hk).2⟩
theorem WS.ne {w : World} {wb at_ : Nat} {o : Option Nat} {l : List UInt8} (h : WS w wb at_ o l) : o ≠ some wb := by
  obtain ⟨p, cap, h1, h2, rfl, h4⟩ := h
  have := own_blk_ne h2.2 h1 (by decide)
  rwa [ownBlock_slice] at this

/-- What a step of the writer comes to: at most M bits more. -/
def Wpost (M : Nat) (w : World) (wb at_ : Nat) (o : Option Nat) (e : Ending) (w' : World) : Prop :=
  ∃ m o' l', e = .returned (.tuple #[]) ∧ m ≤ M ∧ WS w' wb (at_ + m) o' l' ∧ WF w w' wb o o'
end Go.Proofs.YtnpkgmgedgcjmaaGreatDoor
