/- Rows under no filter; how great a part is. -/
import Derived.Test.YtnpkgmgedgcjmaaGreatDoorW6
import Derived.Test.YtnpkgmgedgcjmaaGreatDoorDd
set_option linter.all false
namespace Go.Proofs.YtnpkgmgedgcjmaaGreatDoor
open Go Go.RowKit Png

set_option maxHeartbeats 4000000 in
set_option maxRecDepth 100000 in
theorem predicted_ok (rb ab n c1 c2 at_ st : Nat) (rl al : List UInt8) (w : World) (hr : Seg w rb 0 rl) (ha : Seg w ab 0 al) (hrl : rl.length = n) (hal : al.length = n) (hat : at_ < n) (hn : n ≤ 1073741824) (hst : st ≤ 64) (hst1 : 1 ≤ st) :
    Calls Tryz.prog 102 #[.int .i64 0, .slice (some ⟨rb, 0, none⟩) n c1, .slice (some ⟨ab, 0, none⟩) n c2, .int .i64 at_, .int .i64 st] w fun e w' => e = .returned (.int .i64 0) ∧ Dr w w' := by
  have a1 := ha at_ (by rw [hal]; exact hat)
  rw [Nat.zero_add] at a1
  have hati : (at_ : Int) < (n : Int) := by omega
  have b1 := nb_lt al at_
  by_cases hs : st ≤ at_
  · obtain ⟨y, hy⟩ : ∃ y, y = at_ - st := ⟨_, rfl⟩
    have e1 : IntKind.i64.wrap ((at_ : Int) - (st : Int)) = (y : Int) := by rw [IntWalk.i64_in _ (by omega)]; omega
    have hyn : (y : Int) < (n : Int) := by omega
    have a2 := ha y (by omega)
    have a3 := hr y (by omega)
    rw [Nat.zero_add] at a2 a3
    have b2 := nb_lt al y
    have b3 := nb_lt rl y
    clear hy hr ha hrl hal
    go_enter Tryz.func102, Tryz.ntmps102
    go_wp2
    go_quiet (fail)
    go_wp2
    go_quiet (fail)
    go_wp2
    go_ret
    exact ⟨rfl, by first | exact (Dr.refl w).drewN _ | exact ((Dr.refl w).drewN _).drewN _⟩
  · clear hr ha hrl hal
    go_enter Tryz.func102, Tryz.ntmps102
    go_wp2
    go_quiet (fail)
    go_wp2
    go_ret
    exact ⟨rfl, (Dr.refl w).drewN _⟩

theorem Seg.below {w w' : World} {B b off : Nat} {l : List UInt8} (h : Seg w b off l) (hb : Below B w w') (hB : b < B) : Seg w' b off l := fun k hk => by
  rw [hb.cell (p := ⟨b, off + k, none⟩) hB]; exact h k hk

set_option maxHeartbeats 4000000 in
set_option maxRecDepth 100000 in
theorem filtered_ok (rb ab n c1 c2 st : Nat) (rl al : List UInt8) (w : World) (hr : Seg w rb 0 rl) (ha : Seg w ab 0 al) (hrb : rb < w.heap.size) (hab : ab < w.heap.size) (hrl : rl.length = n) (hal : al.length = n) (hn : n ≤ 1073741824) (hst : st ≤ 64) (hst1 : 1 ≤ st) :
    Calls Tryz.prog 77 #[.int .i64 0, .slice (some ⟨rb, 0, none⟩) n c1, .slice (some ⟨ab, 0, none⟩) n c2, .int .i64 st] w fun e w' =>
      ∃ p c l, e = .returned (.slice p n c) ∧ Ob w' w.heap.size p n c l ∧ Below w.heap.size w w' := by
  have Hr := Lib.hid hr
  have Ha := Lib.hid ha
  have Hrl := Lib.hid hrl
  have Hal := Lib.hid hal
  clear hr ha hrl hal
  obtain ⟨B, hB⟩ : ∃ B, B = w.heap.size := ⟨_, rfl⟩
  have HB := Lib.hid hB
  rw [← hB] at hrb hab ⊢
  have hBe : B ≤ w.heap.size := by omega
  clear hB
  go_enter Tryz.func77, Tryz.ntmps77
  go_wp2
  go_loopg [9, 15] n (fun g v i wr => ∃ k p cp l, k + g = n ∧ i = .int .i64 (k : Nat) ∧ v = .slice p k cp ∧ Ob wr B p k cp l ∧ Below B w wr)
  case atStart => exact ⟨0, some ⟨w.heap.size, 0, none⟩, 0, [], by omega, rfl, rfl, Ob.made w B [] hBe (by simp), (Below.refl _ _).alloc hBe _⟩
  case round =>
    obtain ⟨k, p, cp, l, hk, rfl, rfl, hO, hb⟩ := hrel
    have HO := Lib.hid hO
    have Hb := Lib.hid hb
    have Hk := Lib.hid hk
    by_cases hlt : k < n
    · have r1 := (Hr.out.below hb hrb) k (by rw [Hrl.out]; exact hlt)
      rw [Nat.zero_add] at r1
      have hb1 := nb_lt rl k
      have hki : (k : Int) < (n : Int) := by omega
      have hbw : B ≤ wr.heap.size := Nat.le_trans hBe hb.size
      clear hO hb hk
      go_wp2_with fail
      refine (predicted_ok rb ab n c1 c2 k st rl al _ (Hr.out.below Hb.out hrb) (Ha.out.below Hb.out hab) Hrl.out Hal.out hlt hn hst hst1).mono ?_
      rintro e w1 ⟨rfl, hD1⟩
      obtain ⟨dn, rfl⟩ := hD1
      clear r1
      go_wp2_with (at_builtin; refine wp_app rfl (.tmp 20) (.tmp 30) rfl B k cp 1 1 p (some ⟨wr.heap.size, 0, none⟩) l [rl.getD k 0] rfl rfl (HO.out.keep fun j hj => heap_alloc_old (wr.drewN dn) _ (HO.out.lt j hj).2) (wr.heap.size + 1) (reads_new (wr.drewN dn) _ 5 _ 1 1 _ rfl rfl (by simp) _ rfl) (by omega) (by simp; omega) ?_; intro p1 cap1 w1 hO1 hG hL; have HO1 := Lib.hid hO1; have Hb1 := Lib.hid (((Below.refl B (wr.drewN dn)).alloc hbw _).grown hG (by simp; omega) (fun j hj => (HO.out.lt j hj).1)); clear hO1 hG hL)
      go_roundg (gk - 1)
      case measure => have := Hk.out; omega
      case rel =>
        have := Hk.out
        exact ⟨k + 1, p1, cap1, _, by omega, by go_num, rfl, HO1.out, (show Below B w (wr.drewN dn) from ⟨Hb.out.os, Hb.out.tape, Hb.out.output, Hb.out.size, Hb.out.block⟩).trans Hb1.out⟩
    · have hkn : k = n := by omega
      subst hkn
      clear hO hb hk
      go_wp2
      go_ret
      exact ⟨p, cp, l, rfl, HO.out, Hb.out⟩

set_option maxHeartbeats 4000000 in
set_option maxRecDepth 100000 in
theorem size_ok (X Y DX DY W H : Nat) (hX : X ≤ 8) (hY : Y ≤ 8) (hDX : 1 ≤ DX) (hDX2 : DX ≤ 8) (hDY : 1 ≤ DY) (hDY2 : DY ≤ 8) (hW : W ≤ 40) (hH : H ≤ 40) (w : World) :
    Calls Tryz.prog 74 #[.agg #[.int .i64 X, .int .i64 Y, .int .i64 DX, .int .i64 DY], .int .i64 W, .int .i64 H] w fun e w' =>
      ∃ a b : Nat, e = .returned (.tuple #[.int .i64 a, .int .i64 b]) ∧ a ≤ 40 ∧ b ≤ 40 ∧ (0 < b → 0 < a) ∧ (X < W → Y < H → 0 < b) ∧ (∀ x, x < a → X + x * DX < W) ∧ (∀ y, y < b → Y + y * DY < H) ∧ Below w.heap.size w w' := by
  go_enter Tryz.func74, Tryz.ntmps74
  go_wp2
  go_loop [8, 10] (fun c i => ∃ k x : Nat, k ≤ x ∧ x ≤ 60 ∧ k ≤ 40 ∧ Hid (x = X + k * DX ∧ ∀ j, j < k → X + j * DX < W) ∧ c = .int .i64 (k : Nat) ∧ i = .int .i64 (x : Nat)) (fun c _ => 100 - (intOf c).toNat)
  case atStart => exact ⟨0, X, by omega, by omega, by omega, Lib.hid ⟨by simp, fun j h => by omega⟩, rfl, rfl⟩
  case round =>
    obtain ⟨k, x, hkx, hx60, hk40, Hx, rfl, rfl⟩ := hrel
    by_cases hlt : x < W
    · go_wp2
      go_round
      case rel =>
        refine ⟨k + 1, x + DX, by omega, by omega, by omega, Lib.hid ⟨?_, fun j hj => ?_⟩, by go_num, by go_num⟩
        · rw [Nat.add_mul, Nat.one_mul]; have := Hx.out.1; omega
        · by_cases hjk : j = k
          · subst hjk; rw [← Hx.out.1]; exact hlt
          · exact Hx.out.2 j (by omega)
      case measure => simp [intOf]; omega
    · go_wp2
      go_loop [9, 11] (fun c i => ∃ k x : Nat, k ≤ x ∧ x ≤ 60 ∧ k ≤ 40 ∧ Hid (x = Y + k * DY ∧ ∀ j, j < k → Y + j * DY < H) ∧ c = .int .i64 (k : Nat) ∧ i = .int .i64 (x : Nat)) (fun c _ => 100 - (intOf c).toNat)
      case atStart => exact ⟨0, Y, by omega, by omega, by omega, Lib.hid ⟨by simp, fun j h => by omega⟩, rfl, rfl⟩
      case round =>
        obtain ⟨k2, x2, hkx2, hx602, hk402, Hx2, rfl, rfl⟩ := hrel
        by_cases hlt2 : x2 < H
        · go_wp2
          go_round
          case rel =>
            refine ⟨k2 + 1, x2 + DY, by omega, by omega, by omega, Lib.hid ⟨?_, fun j hj => ?_⟩, by go_num, by go_num⟩
            · rw [Nat.add_mul, Nat.one_mul]; have := Hx2.out.1; omega
            · by_cases hjk : j = k2
              · subst hjk; rw [← Hx2.out.1]; exact hlt2
              · exact Hx2.out.2 j (by omega)
          case measure => simp [intOf]; omega
        · by_cases hk0 : k = 0
          · have z1 : ((k : Int) == 0) = true := by simp; omega
            go_wp2
            go_ret2
            exact ⟨0, 0, rfl, by omega, by omega, by omega, fun h _ => by have := Hx.out.1; rw [hk0] at this; simp at this; omega, fun x h => by omega, fun y h => by omega, (Below.refl _ _).alloc (Nat.le_refl _) _⟩
          · have z1 : ((k : Int) == 0) = false := by simp; omega
            by_cases hk20 : k2 = 0
            · have z2 : ((k2 : Int) == 0) = true := by simp; omega
              go_wp2
              go_ret2
              exact ⟨0, 0, rfl, by omega, by omega, by omega, fun _ h => by have := Hx2.out.1; rw [hk20] at this; simp at this; omega, fun x h => by omega, fun y h => by omega, (Below.refl _ _).alloc (Nat.le_refl _) _⟩
            · have z2 : ((k2 : Int) == 0) = false := by simp; omega
              go_wp2
              go_ret2
              exact ⟨k, k2, rfl, hk40, hk402, by omega, fun _ _ => by omega, Hx.out.2, Hx2.out.2, (Below.refl _ _).alloc (Nat.le_refl _) _⟩
end Go.Proofs.YtnpkgmgedgcjmaaGreatDoor
