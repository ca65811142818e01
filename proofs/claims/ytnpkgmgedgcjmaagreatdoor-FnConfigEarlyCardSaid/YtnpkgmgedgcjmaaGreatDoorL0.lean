/- What the statements' arguments are, in the words of the walks. -/
import Derived.Test.YtnpkgmgedgcjmaaGreatDoorD1
set_option linter.all false
namespace Go.Proofs.YtnpkgmgedgcjmaaGreatDoor
open Go Go.RowKit Png

/-- Numbers of 16 bits behind a slice's pointer. -/
def U16s (w : World) (p : Option Addr) (n : Nat) (X : Nat → Nat) : Prop := n = 0 ∨ ∃ b off, p = some ⟨b, off, none⟩ ∧ b < w.heap.size ∧ ∀ i, i < n → w.cell? ⟨b, off + i, none⟩ = some (.int .u16 (X i : Nat)) ∧ X i < 65536
/-- Colors behind a slice's pointer. -/
def Pal (w : World) (p : Option Addr) (n : Nat) (R G U A : Nat → Nat) : Prop := n = 0 ∨ ∃ b off, p = some ⟨b, off, none⟩ ∧ b < w.heap.size ∧ Shades w b off n R G U A

theorem U16s.below {w w' : World} {p : Option Addr} {n : Nat} {X : Nat → Nat} (h : U16s w p n X) (hb : Below w.heap.size w w') : U16s w' p n X := by
  rcases h with h | ⟨b, off, e, hlt, hc⟩
  · exact .inl h
  · refine .inr ⟨b, off, e, Nat.lt_of_lt_of_le hlt hb.size, fun i hi => ?_⟩
    rw [hb.cell (p := ⟨b, off + i, none⟩) hlt]
    exact hc i hi
theorem Pal.below {w w' : World} {p : Option Addr} {n : Nat} {R G U A : Nat → Nat} (h : Pal w p n R G U A) (hb : Below w.heap.size w w') : Pal w' p n R G U A := by
  rcases h with h | ⟨b, off, e, hlt, hc⟩
  · exact .inl h
  · exact .inr ⟨b, off, e, Nat.lt_of_lt_of_le hlt hb.size, hc.below hb hlt⟩

theorem cell_lt {w : World} {a : Addr} {v : Value} (h : w.cell? a = some v) : a.block < w.heap.size ∧ a.spot = none := by
  unfold World.cell? at h
  constructor
  · rcases Nat.lt_or_ge a.block w.heap.size with h' | h'
    · exact h'
    · rw [Array.getElem?_eq_none h'] at h; cases h
  · cases hs : a.spot with
    | none => rfl
    | some s => rw [hs] at h; split at h <;> simp at h
end Go.Proofs.YtnpkgmgedgcjmaaGreatDoor
