/- Samples put into bytes. -/
import Derived.Test.YtnpkgmgedgcjmaaGreatDoorB1
set_option linter.all false
namespace Go.Proofs.YtnpkgmgedgcjmaaGreatDoor
open Go Go.RowKit Png

/-- A row of ints at a block's head. -/
def IntsAt (w : World) (b : Nat) (zs : List Nat) : Prop := ∀ k, k < zs.length → w.cell? ⟨b, k, none⟩ = some (.int .i64 (zs.getD k 0 : Nat))
theorem IntsAt.below {w w' : World} {B b : Nat} {zs : List Nat} (h : IntsAt w b zs) (hb : Below B w w') (hB : b < B) : IntsAt w' b zs := fun k hk => by
  rw [hb.cell (p := ⟨b, k, none⟩) hB]; exact h k hk

set_option maxHeartbeats 8000000 in
set_option maxRecDepth 100000 in
theorem row_whole (b n cap dp : Nat) (zs : List Nat) (w : World) (hz : IntsAt w b zs) (hb : b < w.heap.size) (hl : zs.length = n) (hn : n ≤ 100000) (hv : ∀ k, zs.getD k 0 ≤ 65535) (hd : dp = 8 ∨ dp = 16) :
    Calls Tryz.prog 76 #[.slice (some ⟨b, 0, none⟩) n cap, .int .i64 dp] w fun e w' =>
      ∃ p m c l, e = .returned (.slice p m c) ∧ m = (n * dp + 7) / 8 ∧ Ob w' w.heap.size p m c l ∧ Below w.heap.size w w' := by
  have Hz := Lib.hid hz
  have Hl := Lib.hid hl
  have Hv := Lib.hid hv
  clear hz hl hv
  obtain ⟨B, hB⟩ : ∃ B, B = w.heap.size := ⟨_, rfl⟩
  rw [← hB] at hb ⊢
  have hBe : B ≤ w.heap.size := by omega
  clear hB
  rcases hd with rfl | rfl
  · go_enter Tryz.func76, Tryz.ntmps76
    go_wp2
    go_loopg [5, 12] n (fun g v i wr => ∃ k m p cp l, k + g = n ∧ m = k ∧ i = .int .i64 (k : Nat) ∧ v = .slice p m cp ∧ Ob wr B p m cp l ∧ Below B w wr)
    case atStart => exact ⟨0, 0, some ⟨w.heap.size, 0, none⟩, 0, [], by omega, by omega, rfl, rfl, Ob.made w B [] hBe (by simp), (Below.refl _ _).alloc hBe _⟩
    case round =>
      obtain ⟨k, m, p, cp, l, hk, hm, rfl, rfl, hO, hbl⟩ := hrel
      have HO := Lib.hid hO
      have Hb := Lib.hid hbl
      have Hk := Lib.hid hk
      have Hm := Lib.hid hm
      have hmb : m ≤ 200000 := by omega
      have hmn : m ≤ n := by omega
      by_cases hlt : k < n
      · have z1 := (Hz.out.below hbl hb) k (by rw [Hl.out]; exact hlt)
        have hb1 := Hv.out k
        obtain ⟨z, hzz⟩ : ∃ z, z = zs.getD k 0 := ⟨_, rfl⟩
        rw [← hzz] at z1 hb1
        have hki : (k : Int) < (n : Int) := by omega
        have hbw : B ≤ wr.heap.size := Nat.le_trans hBe hbl.size
        clear hO hbl hk hm hzz
        go_wp2_with (at_builtin; refine wp_app rfl (.tmp 44) (.tmp 47) rfl B m cp 1 1 p (some ⟨wr.heap.size, 0, none⟩) l [UInt8.ofNat z] rfl rfl (HO.out.keep fun j hj => heap_alloc_old wr _ (HO.out.lt j hj).2) (wr.heap.size + 1) (reads_new wr _ 5 _ 1 1 _ rfl (by simp [bvals]) (by omega) _ rfl) (by omega) (by simp; omega) ?_; intro p1 cap1 w1 hO1 hG hL; have HO1 := Lib.hid hO1; have Hb1 := Lib.hid ((Hb.out.alloc hbw _).grown hG (by simp; omega) (fun j hj => (HO.out.lt j hj).1)); clear hO1 hG hL)
        go_roundg (gk - 1)
        case measure => have := Hk.out; omega
        case rel =>
          have := Hk.out
          have := Hm.out
          exact ⟨k + 1, m + 1, p1, cap1, _, by omega, by omega, by go_num, rfl, HO1.out, Hb1.out⟩
      · clear hO hbl hk hm
        go_wp2
        go_ret
        have := Hk.out
        have := Hm.out
        exact ⟨p, m, cp, l, rfl, by omega, HO.out, Hb.out⟩
  · go_enter Tryz.func76, Tryz.ntmps76
    go_wp2
    go_loopg [5, 12] n (fun g v i wr => ∃ k m p cp l, k + g = n ∧ m = 2 * k ∧ i = .int .i64 (k : Nat) ∧ v = .slice p m cp ∧ Ob wr B p m cp l ∧ Below B w wr)
    case atStart => exact ⟨0, 0, some ⟨w.heap.size, 0, none⟩, 0, [], by omega, by omega, rfl, rfl, Ob.made w B [] hBe (by simp), (Below.refl _ _).alloc hBe _⟩
    case round =>
      obtain ⟨k, m, p, cp, l, hk, hm, rfl, rfl, hO, hbl⟩ := hrel
      have HO := Lib.hid hO
      have Hb := Lib.hid hbl
      have Hk := Lib.hid hk
      have Hm := Lib.hid hm
      have hmb : m ≤ 200000 := by omega
      have hmn : m ≤ 2 * n := by omega
      by_cases hlt : k < n
      · have z1 := (Hz.out.below hbl hb) k (by rw [Hl.out]; exact hlt)
        have hb1 := Hv.out k
        obtain ⟨z, hzz⟩ : ∃ z, z = zs.getD k 0 := ⟨_, rfl⟩
        rw [← hzz] at z1 hb1
        have hki : (k : Int) < (n : Int) := by omega
        have hbw : B ≤ wr.heap.size := Nat.le_trans hBe hbl.size
        clear hO hbl hk hm hzz
        go_wp2_with (at_builtin; refine wp_app rfl (.tmp 51) (.tmp 57) rfl B m cp 2 2 p (some ⟨wr.heap.size, 0, none⟩) l [UInt8.ofNat (z / 256), UInt8.ofNat z] rfl rfl (HO.out.keep fun j hj => heap_alloc_old wr _ (HO.out.lt j hj).2) (wr.heap.size + 1) (reads_new wr _ 5 _ 1 2 _ rfl (by simp [bvals]; omega) (by omega) _ rfl) (by omega) (by simp; omega) ?_; intro p1 cap1 w1 hO1 hG hL; have HO1 := Lib.hid hO1; have Hb1 := Lib.hid ((Hb.out.alloc hbw _).grown hG (by simp; omega) (fun j hj => (HO.out.lt j hj).1)); clear hO1 hG hL)
        go_roundg (gk - 1)
        case measure => have := Hk.out; omega
        case rel =>
          have := Hk.out
          have := Hm.out
          exact ⟨k + 1, m + 2, p1, cap1, _, by omega, by omega, by go_num, rfl, HO1.out, Hb1.out⟩
      · clear hO hbl hk hm
        go_wp2
        go_ret
        have := Hk.out
        have := Hm.out
        exact ⟨p, m, cp, l, rfl, by omega, HO.out, Hb.out⟩
end Go.Proofs.YtnpkgmgedgcjmaaGreatDoor
