/- A part of the proof: W6, B1, B2, B4, B5, Pa, Db. -/
import Derived.Deep.DeepCutAuto
import Derived.Deep.LoopGhost
import Derived.Deep.OwnRows
import Derived.Deep.RegionHeld3
import Derived.IntWalk
import Derived.Laws.OwnMore
import Derived.Lib.ConvBytes
import Derived.StillTailTactics
import Derived.Test.YtnpkgmgedgcjmaaGreatDoorZCrc
import Derived.Test.YtnpkgmgedgcjmaaGreatDoorZHd
import Derived.Test.YtnpkgmgedgcjmaaGreatDoorZWc
set_option linter.all false
set_option maxRecDepth 100000
section
namespace Go.Proofs.YtnpkgmgedgcjmaaGreatDoor
open Go Go.RowKit Png
theorem sig_vals : bvals sig = [.int .u8 137, .int .u8 80, .int .u8 78, .int .u8 71, .int .u8 13, .int .u8 10, .int .u8 26, .int .u8 10] := rfl
set_option maxHeartbeats 1000000 in
theorem signature_ok (w : World) :
  Calls Tryz.prog 45 #[] w fun e w' => e = .returned (.slice (some ⟨w.heap.size, 0, none⟩) 8 8) ∧ Ob w' w.heap.size (some ⟨w.heap.size, 0, none⟩) 8 8 sig ∧ Below w.heap.size w w' := by
 go_enter Tryz.func45, Tryz.ntmps45
 go_wp2
 go_ret
 have hm := Ob.made w w.heap.size sig (Nat.le_refl _) (by simp [maxLen, sig])
 rw [sig_vals] at hm
 exact ⟨rfl, hm, (Below.refl _ _).alloc (Nat.le_refl _) _⟩
end Go.Proofs.YtnpkgmgedgcjmaaGreatDoor
end
section
namespace Go.Proofs.YtnpkgmgedgcjmaaGreatDoor
open Go Go.RowKit Png
theorem Seg.below {w w' : World} {B b off : Nat} {l : List UInt8} (h : Seg w b off l) (hb : Below B w w') (hB : b < B) : Seg w' b off l := fun k hk => by
 rw [hb.cell (p := ⟨b, off + k, none⟩) hB]; exact h k hk
end Go.Proofs.YtnpkgmgedgcjmaaGreatDoor
end
section
namespace Go.Proofs.YtnpkgmgedgcjmaaGreatDoor
open Go Go.RowKit Png
def IntsAt (w : World) (b : Nat) (zs : List Nat) : Prop := ∀ k, k < zs.length → w.cell? ⟨b, k, none⟩ = some (.int .i64 (zs.getD k 0 : Nat))
theorem IntsAt.below {w w' : World} {B b : Nat} {zs : List Nat} (h : IntsAt w b zs) (hb : Below B w w') (hB : b < B) : IntsAt w' b zs := fun k hk => by
 rw [hb.cell (p := ⟨b, k, none⟩) hB]; exact h k hk
end Go.Proofs.YtnpkgmgedgcjmaaGreatDoor
end
section
namespace Go.Proofs.YtnpkgmgedgcjmaaGreatDoor
open Go Go.RowKit Png
theorem Bsl.cellZ {w : World} {b : Nat} {l : List UInt8} (h : Bsl w (some ⟨b, 0, none⟩) l) {k : Nat} (hk : k < l.length) : w.cell? ⟨b, k, none⟩ = some (.int .u8 (nb l k : Int)) := by
 obtain ⟨b', off, he, hc⟩ := h.at hk
 injection he with he
 injection he with h1 h2
 subst h1
 subst h2
 rwa [Nat.zero_add] at hc
def Box (w : World) (B W H dp ct : Nat) (il : Bool) : Prop :=
 w.cell? ⟨B, 0, none⟩ = some (.int .i64 W) ∧ w.cell? ⟨B, 1, none⟩ = some (.int .i64 H) ∧ w.cell? ⟨B, 2, none⟩ = some (.int .i64 dp) ∧ w.cell? ⟨B, 3, none⟩ = some (.int .i64 ct) ∧ w.cell? ⟨B, 4, none⟩ = some (.bool il)
theorem Box.below {w w' : World} {B C W H dp ct : Nat} {il : Bool} (h : Box w B W H dp ct il) (hb : Below C w w') (hB : B < C) : Box w' B W H dp ct il :=
 ⟨by rw [hb.cell (p := ⟨B, 0, none⟩) hB]; exact h.1, by rw [hb.cell (p := ⟨B, 1, none⟩) hB]; exact h.2.1, by rw [hb.cell (p := ⟨B, 2, none⟩) hB]; exact h.2.2.1, by rw [hb.cell (p := ⟨B, 3, none⟩) hB]; exact h.2.2.2.1, by rw [hb.cell (p := ⟨B, 4, none⟩) hB]; exact h.2.2.2.2⟩
theorem Box.new (w : World) (B W H dp ct : Nat) (il : Bool) (hB : B = w.heap.size) : Box (w.alloc (.cells #[.int .i64 W, .int .i64 H, .int .i64 dp, .int .i64 ct, .bool il] 26)) B W H dp ct il := by
 subst hB
 have h := Blk.new w 26 #[.int .i64 W, .int .i64 H, .int .i64 dp, .int .i64 ct, .bool il]
 exact ⟨h.cell 0, h.cell 1, h.cell 2, h.cell 3, h.cell 4⟩
end Go.Proofs.YtnpkgmgedgcjmaaGreatDoor
end
section
namespace Go.Proofs.YtnpkgmgedgcjmaaGreatDoor
open Go Go.RowKit Png
theorem Kinds.dps {ct dp : Nat} (h : Kinds ct dp) : dp = 1 ∨ dp = 2 ∨ dp = 4 ∨ dp = 8 ∨ dp = 16 := by unfold Kinds at h; omega
end Go.Proofs.YtnpkgmgedgcjmaaGreatDoor
end
section
namespace Go.Proofs.YtnpkgmgedgcjmaaGreatDoor
open Go Go.RowKit Png
def DotsAt (w : World) (b : Nat) (ds : List Q4) : Prop := ∀ k (h : k < ds.length), w.cell? ⟨b, k * 4, none⟩ = some (.int .i64 (ds[k].r : Int)) ∧ w.cell? ⟨b, k * 4 + 1, none⟩ = some (.int .i64 (ds[k].g : Int)) ∧ w.cell? ⟨b, k * 4 + 2, none⟩ = some (.int .i64 (ds[k].b : Int)) ∧ w.cell? ⟨b, k * 4 + 3, none⟩ = some (.int .i64 (ds[k].a : Int))
theorem DotsAt.below {w w' : World} {B b : Nat} {ds : List Q4} (h : DotsAt w b ds) (hb : Below B w w') (hB : b < B) : DotsAt w' b ds := fun k hk => by
 obtain ⟨h0, h1, h2, h3⟩ := h k hk
 refine ⟨?_, ?_, ?_, ?_⟩
 ·
  rw [hb.cell (p := ⟨b, k * 4, none⟩) hB]; exact h0
 ·
  rw [hb.cell (p := ⟨b, k * 4 + 1, none⟩) hB]; exact h1
 ·
  rw [hb.cell (p := ⟨b, k * 4 + 2, none⟩) hB]; exact h2
 ·
  rw [hb.cell (p := ⟨b, k * 4 + 3, none⟩) hB]; exact h3
theorem Kinds.bounds {ct dp : Nat} (hk : Kinds ct dp) : dp ≤ 16 ∧ ct ≤ 6 := by unfold Kinds at hk; omega
end Go.Proofs.YtnpkgmgedgcjmaaGreatDoor
end
section
namespace Go.Proofs.YtnpkgmgedgcjmaaGreatDoor
open Go Go.RowKit Png
theorem Oi.cellAt {w : World} {base g n cap : Nat} {l : List Nat} (h : Oi w base (some ⟨g, 0, Option.none⟩) n cap l) {k : Nat} (hk : k < n) : ∃ v : Nat, w.cell? ⟨g, k, Option.none⟩ = some (.int .i64 v) := by
 have hl := h.1
 refine ⟨l[k]'(by omega), ?_⟩
 rw [h.2.cellAt k (by omega)]
 simp [nvals, List.getElem?_eq_getElem (show k < l.length by omega)]
theorem Oi.ptr {w : World} {base n cap : Nat} {p : Option Addr} {l : List Nat} (h : Oi w base p n cap l) (h0 : 0 < n) : ∃ g, p = some ⟨g, 0, Option.none⟩ := by
 obtain ⟨g, c, hv, _⟩ := h.2.form h0
 injection hv with hv
 exact ⟨g, hv⟩
theorem Oi.alloc {w : World} {base n cap : Nat} {p : Option Addr} {l : List Nat} (h : Oi w base p n cap l) (o : Obj) : Oi (w.alloc o) base p n cap l := h.keep fun j hj => heap_alloc_old w o (owns_lt h.2 j hj).2
theorem Od.alloc {w : World} {base n cap : Nat} {p : Option Addr} {l : List Q4} (h : Od w base p n cap l) (o : Obj) : Od (w.alloc o) base p n cap l := h.keep fun j hj => heap_alloc_old w o (owns_lt h.2 j hj).2
theorem Kinds.tops {ct dp : Nat} (h : Kinds ct dp) : 2 ≤ 2 ^ dp ∧ 2 ^ dp ≤ 65536 := by
 rcases h.dps with rfl | rfl | rfl | rfl | rfl <;> decide
def QBox (w : World) (D : Nat) (q : Q4) : Prop := Blk w D 75 #[.int .i64 (q.r : Int), .int .i64 (q.g : Int), .int .i64 (q.b : Int), .int .i64 (q.a : Int)]
theorem QBox.facts {w : World} {D : Nat} {q : Q4} (h : QBox w D q) : w.cell? ⟨D, 0, none⟩ = some (.int .i64 (q.r : Int)) ∧ w.cell? ⟨D, 1, none⟩ = some (.int .i64 (q.g : Int)) ∧ w.cell? ⟨D, 2, none⟩ = some (.int .i64 (q.b : Int)) ∧ w.cell? ⟨D, 3, none⟩ = some (.int .i64 (q.a : Int)) ∧
  (∀ o, w.frozen? ⟨D, o, none⟩ = false) ∧ (∀ o, o < 4 → hasCell w ⟨D, o, none⟩ = true) :=
 ⟨h.cell 0, h.cell 1, h.cell 2, h.cell 3, fun o => h.frozen o, fun o ho => by
  have : o = 0 ∨ o = 1 ∨ o = 2 ∨ o = 3 := by omega
  unfold hasCell
  rcases this with rfl | rfl | rfl | rfl
  all_goals rw [h.cell]; rfl⟩
theorem QBox.sets {w : World} {D : Nat} {q : Q4} (h : QBox w D q) (r g b a : Nat) : QBox ((((w.setCell ⟨D, 0, none⟩ (.int .i64 (r : Int))).setCell ⟨D, 1, none⟩ (.int .i64 (g : Int))).setCell ⟨D, 2, none⟩ (.int .i64 (b : Int))).setCell ⟨D, 3, none⟩ (.int .i64 (a : Int))) D ⟨r, g, b, a⟩ :=
 (((Blk.set_ h 0 (.int .i64 (r : Int))).set_ 1 (.int .i64 (g : Int))).set_ 2 (.int .i64 (b : Int))).set_ 3 (.int .i64 (a : Int))
theorem QBox.sets1 {w : World} {D : Nat} {q : Q4} (h : QBox w D q) (r g b : Nat) : QBox ((((w.setCell ⟨D, 0, none⟩ (.int .i64 (r : Int))).setCell ⟨D, 1, none⟩ (.int .i64 (g : Int))).setCell ⟨D, 2, none⟩ (.int .i64 (b : Int))).setCell ⟨D, 3, none⟩ (.int .i64 65535)) D ⟨r, g, b, 65535⟩ := h.sets r g b 65535
theorem QBox.setA {w : World} {D : Nat} {q : Q4} (h : QBox w D q) : QBox (w.setCell ⟨D, 3, none⟩ (.int .i64 0)) D ⟨q.r, q.g, q.b, 0⟩ := Blk.set_ h 3 (.int .i64 0)
theorem below_sets {w0 w : World} {D : Nat} (h : Below D w0 w) (r g b a : Value) : Below D w0 ((((w.setCell ⟨D, 0, none⟩ r).setCell ⟨D, 1, none⟩ g).setCell ⟨D, 2, none⟩ b).setCell ⟨D, 3, none⟩ a) :=
 (((h.setCell (p := ⟨D, 0, none⟩) (Nat.le_refl _) r).setCell (p := ⟨D, 1, none⟩) (Nat.le_refl _) g).setCell (p := ⟨D, 2, none⟩) (Nat.le_refl _) b).setCell (p := ⟨D, 3, none⟩) (Nat.le_refl _) a
end Go.Proofs.YtnpkgmgedgcjmaaGreatDoor
end
