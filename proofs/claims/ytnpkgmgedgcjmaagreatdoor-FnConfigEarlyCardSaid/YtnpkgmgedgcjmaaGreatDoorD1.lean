/- Colors made into pixels; lists of pixels held against each other. -/
import Derived.Test.YtnpkgmgedgcjmaaGreatDoorDd
set_option linter.all false
namespace Go.Proofs.YtnpkgmgedgcjmaaGreatDoor
open Go Go.RowKit Png

/-- A color as a pixel of 16 bits. -/
def q4of (R G U A : Nat → Nat) (k : Nat) : Q4 := ⟨257 * R k, 257 * G k, 257 * U k, 257 * A k⟩
def q4s (R G U A : Nat → Nat) (n : Nat) : List Q4 := (List.range n).map (q4of R G U A)
theorem q4s_succ (R G U A : Nat → Nat) (n : Nat) : q4s R G U A (n + 1) = q4s R G U A n ++ [q4of R G U A n] := by simp [q4s, List.range_succ]
theorem q4s_length (R G U A : Nat → Nat) (n : Nat) : (q4s R G U A n).length = n := by simp [q4s]

/-- Colors lie from a place of a block on. -/
def Shades (w : World) (b off n : Nat) (R G U A : Nat → Nat) : Prop :=
  ∀ k, k < n → w.cell? ⟨b, off + k * 4, none⟩ = some (.int .u8 (R k : Nat)) ∧ w.cell? ⟨b, off + k * 4 + 1, none⟩ = some (.int .u8 (G k : Nat)) ∧ w.cell? ⟨b, off + k * 4 + 2, none⟩ = some (.int .u8 (U k : Nat)) ∧ w.cell? ⟨b, off + k * 4 + 3, none⟩ = some (.int .u8 (A k : Nat)) ∧
    R k < 256 ∧ G k < 256 ∧ U k < 256 ∧ A k < 256
theorem Shades.below {w w' : World} {B b off n : Nat} {R G U A : Nat → Nat} (h : Shades w b off n R G U A) (hb : Below B w w') (hB : b < B) : Shades w' b off n R G U A := fun k hk => by
  obtain ⟨h0, h1, h2, h3, h4⟩ := h k hk
  refine ⟨?_, ?_, ?_, ?_, h4⟩
  · rw [hb.cell (p := ⟨b, off + k * 4, none⟩) hB]; exact h0
  · rw [hb.cell (p := ⟨b, off + k * 4 + 1, none⟩) hB]; exact h1
  · rw [hb.cell (p := ⟨b, off + k * 4 + 2, none⟩) hB]; exact h2
  · rw [hb.cell (p := ⟨b, off + k * 4 + 3, none⟩) hB]; exact h3

set_option maxHeartbeats 4000000 in
set_option maxRecDepth 100000 in
theorem dots_ok (b off n cap : Nat) (R G U A : Nat → Nat) (w : World) (hs : Shades w b off n R G U A) (hb : b < w.heap.size) (hn : n ≤ 2147483647) :
    Calls Tryz.prog 30 #[.slice (some ⟨b, off, none⟩) n cap] w fun e w' => ∃ p c, e = .returned (.slice p n c) ∧ Od w' w.heap.size p n c (q4s R G U A n) ∧ Below w.heap.size w w' := by
  have Hs := Lib.hid hs
  clear hs
  obtain ⟨B, hB⟩ : ∃ B, w.heap.size = B := ⟨_, rfl⟩
  rw [hB] at hb ⊢
  have HB := Lib.hid hB
  have hO0 : Od (w.alloc (.cells #[] 75)) B (some ⟨w.heap.size, 0, none⟩) 0 0 [] := ⟨rfl, World.ownsRow_made w #[] 0 (by omega) (by simp) rfl⟩
  have hBw : B ≤ w.heap.size := by omega
  clear hB
  go_enter Tryz.func30, Tryz.ntmps30
  go_wp2
  go_loopg [3, 9] n (fun g v i wr => ∃ k p cp, k + g = n ∧ i = .int .i64 (k : Nat) ∧ v = .slice p k cp ∧ Od wr B p k cp (q4s R G U A k) ∧ Below B w wr)
  case atStart => exact ⟨0, _, _, by omega, rfl, rfl, hO0, (Below.refl _ _).alloc hBw _⟩
  case round =>
    obtain ⟨k, p, cp, hk, rfl, rfl, hO, hbl⟩ := hrel
    have HO := Lib.hid hO
    have Hb := Lib.hid hbl
    have Hk := Lib.hid hk
    by_cases hlt : k < n
    · obtain ⟨c0, c1, c2, c3, r1, r2, r3, r4⟩ := Hs.out.below hbl hb k hlt
      have hki : (k : Int) < (n : Int) := by omega
      have hbw : B ≤ wr.heap.size := by have := hbl.size; omega
      obtain ⟨r, hr⟩ : ∃ r, r = R k := ⟨_, rfl⟩
      obtain ⟨g, hg⟩ : ∃ g, g = G k := ⟨_, rfl⟩
      obtain ⟨u, hu⟩ : ∃ u, u = U k := ⟨_, rfl⟩
      obtain ⟨a, ha⟩ : ∃ a, a = A k := ⟨_, rfl⟩
      rw [← hr] at c0 r1
      rw [← hg] at c1 r2
      rw [← hu] at c2 r3
      rw [← ha] at c3 r4
      have HQ := Lib.hid (show q4of R G U A k = ⟨257 * r, 257 * g, 257 * u, 257 * a⟩ by rw [hr, hg, hu, ha]; rfl)
      clear hO hbl hk hr hg hu ha
      go_wp2_with (at_builtin; go_must (refine wp_appD rfl (.tmp 13) (.tmp 31) rfl B k cp 1 1 p (some ⟨wr.heap.size + 1, 0, none⟩) (q4s R G U A k) [⟨257 * r, 257 * g, 257 * u, 257 * a⟩] rfl rfl ((HO.out.keep fun j hj => (heap_alloc_old (wr.alloc _) _ (by have := (owns_lt HO.out.2 j hj).2; simp; omega)).trans (heap_alloc_old wr _ (owns_lt HO.out.2 j hj).2))) (wr.heap.size + 2) (reads_new (wr.alloc _) _ 75 _ 4 1 _ rfl (by simp [dvals, dval]) (by simp) _ (by simp)) (by omega) (by simp; omega) ?_); intro p1 cap1 w1 hO1 hG hL; have HO1 := Lib.hid hO1; have Hb1 := Lib.hid (((Hb.out.alloc hbw _).alloc (by simp; omega) _).grown hG (by simp; omega) (fun j hj => (owns_lt HO.out.2 j hj).1)); clear hO1 hG hL)
      go_roundg (gk - 1)
      case measure => have := Hk.out; omega
      case rel =>
        have := Hk.out
        exact ⟨k + 1, p1, cap1, by omega, by go_num, rfl, by rw [q4s_succ, HQ.out]; exact HO1.out, Hb1.out⟩
    · have hkn : k = n := by omega
      subst hkn
      clear hO hbl hk
      go_wp2
      go_ret
      exact ⟨p, cp, rfl, HO.out, Hb.out⟩

set_option maxHeartbeats 1000000 in
set_option maxRecDepth 100000 in
theorem dots_nil (w : World) :
    Calls Tryz.prog 30 #[.slice none 0 0] w fun e w' => ∃ p c, e = .returned (.slice p 0 c) ∧ Od w' w.heap.size p 0 c [] ∧ Below w.heap.size w w' := by
  go_enter Tryz.func30, Tryz.ntmps30
  go_wp2
  refine wp_loop_rounds 1 ?_
  rw [rounds_succ]
  go_wp2
  go_ret
  exact ⟨_, _, rfl, ⟨rfl, World.ownsRow_made w #[] 0 (Nat.le_refl _) (by simp) rfl⟩, (Below.refl _ _).alloc (Nat.le_refl _) _⟩

/-- Pixels lie from a block's head on. -/
theorem Od.cells {w : World} {base g n cap : Nat} {l : List Q4} (h : Od w base (some ⟨g, 0, Option.none⟩) n cap l) {k : Nat} (hk : k < l.length) :
    w.cell? ⟨g, k * 4, Option.none⟩ = some (.int .i64 (l[k].r : Int)) ∧ w.cell? ⟨g, k * 4 + 1, Option.none⟩ = some (.int .i64 (l[k].g : Int)) ∧ w.cell? ⟨g, k * 4 + 2, Option.none⟩ = some (.int .i64 (l[k].b : Int)) ∧ w.cell? ⟨g, k * 4 + 3, Option.none⟩ = some (.int .i64 (l[k].a : Int)) := by
  obtain ⟨g0, g1, g2, g3⟩ := dvals_get l k hk
  have hl := h.1
  refine ⟨?_, ?_, ?_, ?_⟩
  · rw [h.2.cellAt _ (by omega)]; exact g0
  · rw [h.2.cellAt _ (by omega)]; exact g1
  · rw [h.2.cellAt _ (by omega)]; exact g2
  · rw [h.2.cellAt _ (by omega)]; exact g3
end Go.Proofs.YtnpkgmgedgcjmaaGreatDoor
