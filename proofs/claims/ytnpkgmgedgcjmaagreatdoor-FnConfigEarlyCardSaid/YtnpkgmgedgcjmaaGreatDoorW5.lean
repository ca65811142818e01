/- A block of symbols. -/
import Derived.Test.YtnpkgmgedgcjmaaGreatDoorW3
import Derived.Test.YtnpkgmgedgcjmaaGreatDoorW4
set_option linter.all false
namespace Go.Proofs.YtnpkgmgedgcjmaaGreatDoor
open Go Go.RowKit Png

theorem Bsl.below {w w' : World} {B : Nat} {p : Option Addr} {d : List UInt8} (h : Bsl w p d) (hb : Below B w w') (hp : ∀ a, p = some a → a.block < B) : Bsl w' p d := by
  rcases h with h | ⟨b, off, rfl, hs⟩
  · exact .inl h
  · refine .inr ⟨b, off, rfl, fun k hk => ?_⟩
    rw [hb.cell (p := ⟨b, off + k, none⟩) (hp ⟨b, off, none⟩ rfl)]
    exact hs k hk

theorem Dr.ws {w w' : World} (h : Dr w w') {wb at_ : Nat} {o : Option Nat} {l : List UInt8} (hs : WS w wb at_ o l) : WS w' wb at_ o l := by
  obtain ⟨k, rfl⟩ := h; exact hs
theorem Dr.wf {w w' : World} (h : Dr w w') {w0 : World} {wb : Nat} {o o' : Option Nat} (hs : WF w0 w wb o o') : WF w0 w' wb o o' := by
  obtain ⟨k, rfl⟩ := h; exact hs.drewN k
theorem Dr.trans {a b c : World} (h : Dr a b) (k : Dr b c) : Dr a c := by
  obtain ⟨n, rfl⟩ := h; obtain ⟨m, rfl⟩ := k; exact ⟨n + m, by simp⟩

set_option maxHeartbeats 8000000 in
set_option maxRecDepth 100000 in
theorem block_ok (wb at_ fr to_ n cap fb B : Nat) (F : Nat → Nat) (p : Option Addr) (o : Option Nat) (l d : List UInt8) (w : World) (h : WS w wb at_ o l) (hd : d.length = n) (hs : Bsl w p d) (hp : ∀ a, p = some a → a.block < B)
    (hB : B ≤ wb) (hBo : ∀ k, o = some k → B ≤ k) (hBw : B ≤ w.heap.size) (hft : fr ≤ to_) (htn : to_ ≤ n) (hn : n ≤ 1073741824) (ha : at_ + 40 * n + 100 ≤ 1099511627776)
    (hF : ∀ j, j < 10 → w.cell? ⟨fb, j, none⟩ = some (.int .i64 (F j : Nat))) (hF1 : ∀ j, 1 ≤ F j ∧ F j ≤ 1000) (hfw : fb ≠ wb) (hfo : some fb ≠ o) (hfb : fb < w.heap.size) :
    Calls Tryz.prog 70 #[.pointer (some ⟨wb, 0, none⟩), .slice p n cap, .int .i64 fr, .int .i64 to_, .slice (some ⟨fb, 0, none⟩) 10 10] w (Wpost (40 * (to_ - fr) + 9) w wb at_ o) := by
  have H := Lib.hid h
  have Hd := Lib.hid hd
  have Hs := Lib.hid hs
  have Hp := Lib.hid hp
  have HBo := Lib.hid hBo
  have HF := Lib.hid hF
  have HF1 := Lib.hid hF1
  have Hfo := Lib.hid hfo
  clear h hd hs hp hBo hF hF1 hfo
  go_enter Tryz.func70, Tryz.ntmps70
  go_wp2
  go_loopg [10] (to_ - fr) (fun g i wr => ∃ a m o' l', fr ≤ a ∧ a + g = to_ ∧ m ≤ 40 * (a - fr) ∧ i = .int .i64 (a : Nat) ∧ WS wr wb (at_ + m) o' l' ∧ WF w wr wb o o')
  case atStart => exact ⟨fr, 0, o, l, by omega, by omega, by omega, rfl, H.out, WF.refl _ _ _⟩
  case round =>
    obtain ⟨a, m, o', l', ha1, ha2, hm, rfl, hS, hW⟩ := hrel
    obtain ⟨go, hgo⟩ : ∃ go, go = gk := ⟨_, rfl⟩
    have Ha2 := Lib.hid ha2
    have HS := Lib.hid hS
    have HW := Lib.hid hW
    have ha3 : a ≤ to_ := by omega
    have hFr : ∀ j, j < 10 → wr.cell? ⟨fb, j, none⟩ = some (.int .i64 (F j : Nat)) := fun j hj => by
      rw [← HF.out j hj]
      exact World.cell?_of_block (hW.block fb hfb hfw Hfo.out)
    have HFr := Lib.hid hFr
    have hBs : Bsl wr p d := Hs.out.below (hW.below hBw hB HBo.out) Hp.out
    have HBs := Lib.hid hBs
    clear hS hW hFr hBs ha2
    obtain ⟨wo, rfl⟩ : ∃ wo : World, wo = wr := ⟨_, rfl⟩
    by_cases hlt : a < to_
    · have hat : a < n := by omega
      go_wp2
      go_loopg [11, 12, 22] 10 (fun g nn dd i wx => ∃ j x y : Nat, j + g = 10 ∧ x ≤ to_ - a ∧ x ≤ 258 ∧ y ≤ 1000 ∧ nn = .int .i64 (x : Nat) ∧ dd = .int .i64 (y : Nat) ∧ i = .int .i64 (j : Nat) ∧ Dr wo wx)
      case atStart => exact ⟨0, 0, 0, by omega, by omega, by omega, by omega, rfl, rfl, rfl, Dr.refl _⟩
      case round =>
        obtain ⟨j, x, y, hj, hx1, hx2, hy, rfl, rfl, rfl, hD⟩ := hrel
        have HD := Lib.hid hD
        have Hj := Lib.hid hj
        by_cases hj10 : j < 10
        · have c1 := (hD.fr []).cell' (by simp) (HFr.out j hj10)
          have b1 := HF1.out j
          have HBx := Lib.hid (show Bsl wr p d from HBs.out.below (hD.fr [] |>.below (Nat.le_refl _) (by simp)) (fun a h => Nat.lt_of_lt_of_le (Hp.out a h) (Nat.le_trans hBw HW.out.size)))
          clear hD hj
          go_wp2_with (go_at_call 99; refine (repeats_ok p cap n a (F j) d _ Hd.out HBx.out (by omega) (by omega) (by omega) (by omega)).mono ?_; rintro e w1 ⟨r, hr, rfl, hD1⟩; have HD1 := Lib.hid hD1; clear hD1)
          all_goals
            go_roundg (gk - 1)
            case measure => have := Hj.out; omega
            case rel =>
              have := Hj.out
              first
                | exact ⟨j + 1, to_ - a, F j, by omega, by omega, by omega, by omega, by go_num, rfl, by go_num, HD.out.trans HD1.out⟩
                | exact ⟨j + 1, r, F j, by omega, by omega, by omega, by omega, rfl, rfl, by go_num, HD.out.trans HD1.out⟩
                | exact ⟨j + 1, x, y, by omega, by omega, by omega, by omega, rfl, rfl, by go_num, HD.out.trans HD1.out⟩
        · have HSx := Lib.hid (hD.ws HS.out)
          have HWx := Lib.hid (hD.wf HW.out)
          have HBx := Lib.hid (show Bsl wr p d from HBs.out.below (hD.fr [] |>.below (Nat.le_refl _) (by simp)) (fun a h => Nat.lt_of_lt_of_le (Hp.out a h) (Nat.le_trans hBw HW.out.size)))
          clear hD hj
          by_cases hx3 : x < 3
          · obtain ⟨b, off, rfl, c1⟩ := HBx.out.at (k := a) (by rw [Hd.out]; exact hat)
            have hb1 := nb_lt d a
            go_wp2_with fail
            refine (symbol_ok wb (at_ + m) (nb d a) o' l' _ HSx.out (by omega) (by omega)).mono ?_
            rintro e w1 ⟨m1, o1, l1, rfl, hm1, hS1, hF1⟩
            have HS1 := Lib.hid hS1
            have HF1 := Lib.hid hF1
            clear hS1 hF1
            go_wp2
            go_roundg (go - 1)
            case measure => have := Ha2.out; omega
            case rel =>
              have := Ha2.out
              exact ⟨a + 1, m + m1, o1, l1, by omega, by omega, by omega, by go_num, by rw [← Nat.add_assoc]; exact HS1.out, HWx.out.trans HF1.out⟩
          · go_wp2_with fail
            refine (again_ok wb (at_ + m) x y o' l' _ HSx.out (by omega) (by omega) (by omega)).mono ?_
            rintro e w1 ⟨m1, o1, l1, rfl, hm1, hS1, hF1⟩
            have HS1 := Lib.hid hS1
            have HF1 := Lib.hid hF1
            clear hS1 hF1
            go_wp2
            go_roundg (go - x)
            case measure => have := Ha2.out; omega
            case rel =>
              have := Ha2.out
              exact ⟨a + x, m + m1, o1, l1, by omega, by omega, by omega, by go_num, by rw [← Nat.add_assoc]; exact HS1.out, HWx.out.trans HF1.out⟩
    · go_wp2_with fail
      refine (symbol_ok wb (at_ + m) 256 o' l' _ HS.out (by omega) (by omega)).mono ?_
      rintro e w1 ⟨m1, o1, l1, rfl, hm1, hS1, hF1⟩
      have HS1 := Lib.hid hS1
      have HF1 := Lib.hid hF1
      clear hS1 hF1
      go_wp2
      go_end0
      have := Ha2.out
      exact ⟨m + m1, o1, l1, rfl, by omega, by rw [← Nat.add_assoc]; exact HS1.out, HW.out.trans HF1.out⟩
end Go.Proofs.YtnpkgmgedgcjmaaGreatDoor
