/- Words for the file's writer: pixels at a block's head, the box of how a file is cut. -/
import Derived.Test.YtnpkgmgedgcjmaaGreatDoorB5
import Derived.Test.YtnpkgmgedgcjmaaGreatDoorD1
import Derived.Deep.DeepCutAuto
set_option linter.all false
namespace Go.Proofs.YtnpkgmgedgcjmaaGreatDoor
open Go Go.RowKit Png

/-- Pixels lie at a block's head. -/
def DotsAt (w : World) (b : Nat) (ds : List Q4) : Prop := ∀ k (h : k < ds.length), w.cell? ⟨b, k * 4, none⟩ = some (.int .i64 (ds[k].r : Int)) ∧ w.cell? ⟨b, k * 4 + 1, none⟩ = some (.int .i64 (ds[k].g : Int)) ∧ w.cell? ⟨b, k * 4 + 2, none⟩ = some (.int .i64 (ds[k].b : Int)) ∧ w.cell? ⟨b, k * 4 + 3, none⟩ = some (.int .i64 (ds[k].a : Int))
theorem DotsAt.below {w w' : World} {B b : Nat} {ds : List Q4} (h : DotsAt w b ds) (hb : Below B w w') (hB : b < B) : DotsAt w' b ds := fun k hk => by
  obtain ⟨h0, h1, h2, h3⟩ := h k hk
  refine ⟨?_, ?_, ?_, ?_⟩
  · rw [hb.cell (p := ⟨b, k * 4, none⟩) hB]; exact h0
  · rw [hb.cell (p := ⟨b, k * 4 + 1, none⟩) hB]; exact h1
  · rw [hb.cell (p := ⟨b, k * 4 + 2, none⟩) hB]; exact h2
  · rw [hb.cell (p := ⟨b, k * 4 + 3, none⟩) hB]; exact h3

/-- The box of how the file is cut. -/
def CBox (w : World) (B : Nat) : Prop :=
  w.cell? ⟨B, 0, none⟩ = some (.slice none 0 0) ∧ w.cell? ⟨B, 1, none⟩ = some (.int .i64 1000) ∧ w.cell? ⟨B, 2, none⟩ = some (.int .i64 1) ∧ w.cell? ⟨B, 3, none⟩ = some (.slice none 0 0)
theorem CBox.below {w w' : World} {B C : Nat} (h : CBox w B) (hb : Below C w w') (hB : B < C) : CBox w' B :=
  ⟨by rw [hb.cell (p := ⟨B, 0, none⟩) hB]; exact h.1, by rw [hb.cell (p := ⟨B, 1, none⟩) hB]; exact h.2.1, by rw [hb.cell (p := ⟨B, 2, none⟩) hB]; exact h.2.2.1, by rw [hb.cell (p := ⟨B, 3, none⟩) hB]; exact h.2.2.2⟩
theorem CBox.new (w : World) (B : Nat) (hB : B = w.heap.size) : CBox (w.alloc (.cells #[.slice none 0 0, .int .i64 1000, .int .i64 1, .slice none 0 0] 81)) B := by
  subst hB
  have h := Blk.new w 81 #[.slice none 0 0, .int .i64 1000, .int .i64 1, .slice none 0 0]
  exact ⟨h.cell 0, h.cell 1, h.cell 2, h.cell 3⟩

theorem Box.four_ {w : World} {B W H dp ct : Nat} {il : Bool} (h : Box w B W H dp ct il) : w.cell? ⟨B, 0, none⟩ = some (.int .i64 W) ∧ w.cell? ⟨B, 1, none⟩ = some (.int .i64 H) ∧ w.cell? ⟨B, 2, none⟩ = some (.int .i64 dp) ∧ w.cell? ⟨B, 3, none⟩ = some (.int .i64 ct) := ⟨h.1, h.2.1, h.2.2.1, h.2.2.2.1⟩
theorem Reads.of_blk {w : World} {g n size : Nat} {t : TypeId} {cs : Array Value} {xs : List Value} (h : Blk w g t cs) (hl : xs.length = n * size) (hcs : cs.toList = xs) : Reads w w.heap.size size (some ⟨g, 0, none⟩) n xs := by
  refine ⟨hl, fun _ => ⟨_, rfl, h.lt, fun j u hu => ?_⟩⟩
  rw [add_addr, Nat.zero_add, h.cell j, ← hu, ← hcs, Array.getElem?_toList]
theorem four_any (n : Nat) (w : World) (hn : n < 4294967296) :
    Calls Tryz.prog 38 #[.int .u32 n] w fun e w' => ∃ g, e = .returned (.slice (some ⟨g, 0, none⟩) 4 4) ∧ Ob w' w.heap.size (some ⟨g, 0, none⟩) 4 4 (four n) ∧ Below w.heap.size w w' :=
  (four_ok n w hn).mono fun _ _ h => ⟨_, h.1, h.2.1, h.2.2⟩
theorem Kinds.bounds {ct dp : Nat} (hk : Kinds ct dp) : dp ≤ 16 ∧ ct ≤ 6 := by unfold Kinds at hk; omega

theorem Ob.grownN {w w' : World} {base n cap : Nat} {p : Option Addr} {l : List UInt8} {row : Option Nat} (h : Ob w base p n cap l) (hg : w.grownBy w' row) (hne : ∀ j, p.map (·.block) = some j → some j ≠ row) : Ob w' base p n cap l :=
  h.keep fun j hj => hg.block j (h.lt j hj).2 (hne j hj)
theorem Ob.alloc {w : World} {base n cap : Nat} {p : Option Addr} {l : List UInt8} (h : Ob w base p n cap l) (o : Obj) : Ob (w.alloc o) base p n cap l := h.keep fun j hj => heap_alloc_old w o (h.lt j hj).2
theorem Ob.capge {w : World} {base n cap : Nat} {p : Option Addr} {l : List UInt8} (h : Ob w base p n cap l) (h0 : 0 < n) : ∃ g, p = some ⟨g, 0, Option.none⟩ ∧ n ≤ cap ∧ cap ≤ 9223372036854775807 := by
  obtain ⟨g, c, hv, _⟩ := h.2.form h0
  injection hv with hv hn hc
  rcases h.2.2 with ⟨e, _⟩ | ⟨g', c', cur, e, hb, hh, h1, h2, h3⟩
  · cases e; omega
  · injection e with e1 e2 e3
    subst e3
    exact ⟨g, hv, h1, Nat.le_trans h2 (by decide)⟩
end Go.Proofs.YtnpkgmgedgcjmaaGreatDoor
