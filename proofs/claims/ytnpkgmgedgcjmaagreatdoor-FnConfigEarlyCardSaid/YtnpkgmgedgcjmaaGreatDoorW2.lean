/- The writer's numbers, words, symbols, and what is put again. -/
import Derived.Test.YtnpkgmgedgcjmaaGreatDoorW1
import Derived.Deep.LoopGhost
set_option linter.all false
namespace Go.Proofs.YtnpkgmgedgcjmaaGreatDoor
open Go Go.RowKit Png

set_option maxHeartbeats 4000000 in
set_option maxRecDepth 100000 in
theorem many_ok (wb at_ n : Nat) (o : Option Nat) (l : List UInt8) (v : Int) (w : World) (h : WS w wb at_ o l) (ha : at_ + n ≤ 1099511627776) (hn : n ≤ 64) :
    Calls Tryz.prog 69 #[.pointer (some ⟨wb, 0, none⟩), .int .i64 v, .int .i64 n] w (Wpost n w wb at_ o) := by
  have H := Lib.hid h
  clear h
  go_enter Tryz.func69, Tryz.ntmps69
  go_wp2
  go_loopg [8] n (fun g i wr => ∃ k m o' l', k + g = n ∧ m ≤ k ∧ i = .int .i64 (k : Nat) ∧ WS wr wb (at_ + m) o' l' ∧ WF w wr wb o o')
  case atStart => exact ⟨0, 0, o, l, by omega, by omega, rfl, H.out, WF.refl _ _ _⟩
  case round =>
    obtain ⟨k, m, o', l', hk, hm, rfl, hS, hF⟩ := hrel
    have Hk := Lib.hid hk
    have HS := Lib.hid hS
    have HF := Lib.hid hF
    clear hS hF
    by_cases hlt : k < n
    · clear hk
      go_wp2_with (go_at_call 68; refine (one_ok wb (at_ + m) o' l' _ _ HS.out (by omega)).mono ?_; rintro e w1 ⟨m2, o2, l2, rfl, hm2, hS2, hF2⟩; have HS2 := Lib.hid hS2; have HF2 := Lib.hid hF2; clear hS2 hF2)
      go_roundg (gk - 1)
      case measure => have := Hk.out; omega
      case rel =>
        have := Hk.out
        exact ⟨k + 1, m + m2, o2, l2, by omega, by omega, by go_num, by rw [← Nat.add_assoc]; exact HS2.out, HF.out.trans HF2.out⟩
    · have hkn : k = n := by omega
      subst hkn
      clear hk
      go_wp2
      go_end0
      exact ⟨m, o', l', rfl, hm, HS.out, HF.out⟩

set_option maxHeartbeats 4000000 in
set_option maxRecDepth 100000 in
theorem word_ok (wb at_ n : Nat) (o : Option Nat) (l : List UInt8) (v : Int) (w : World) (h : WS w wb at_ o l) (ha : at_ + n ≤ 1099511627776) (hn : n ≤ 64) :
    Calls Tryz.prog 112 #[.pointer (some ⟨wb, 0, none⟩), .int .i64 v, .int .i64 n] w (Wpost n w wb at_ o) := by
  have H := Lib.hid h
  clear h
  go_enter Tryz.func112, Tryz.ntmps112
  go_wp2
  go_loopg [6] n (fun g i wr => ∃ k m o' l', k = g ∧ k ≤ n ∧ m + k ≤ n ∧ i = .int .i64 ((k : Int) - 1) ∧ WS wr wb (at_ + m) o' l' ∧ WF w wr wb o o')
  case atStart => exact ⟨n, 0, o, l, rfl, Nat.le_refl _, by omega, rfl, H.out, WF.refl _ _ _⟩
  case round =>
    obtain ⟨k, m, o', l', hk, hkn, hm, rfl, hS, hF⟩ := hrel
    have Hk := Lib.hid hk
    have HS := Lib.hid hS
    have HF := Lib.hid hF
    clear hS hF hk
    by_cases hlt : 1 ≤ k
    · go_wp2_with (go_at_call 68; refine (one_ok wb (at_ + m) o' l' _ _ HS.out (by omega)).mono ?_; rintro e w1 ⟨m2, o2, l2, rfl, hm2, hS2, hF2⟩; have HS2 := Lib.hid hS2; have HF2 := Lib.hid hF2; clear hS2 hF2)
      go_roundg (gk - 1)
      case measure => have := Hk.out; omega
      case rel =>
        have := Hk.out
        exact ⟨k - 1, m + m2, o2, l2, by omega, by omega, by omega, by go_num, by rw [← Nat.add_assoc]; exact HS2.out, HF.out.trans HF2.out⟩
    · have hkn : k = 0 := by omega
      subst hkn
      go_wp2
      go_end0
      exact ⟨m, o', l', rfl, by omega, HS.out, HF.out⟩

set_option maxHeartbeats 4000000 in
set_option maxRecDepth 100000 in
theorem symbol_ok (wb at_ s : Nat) (o : Option Nat) (l : List UInt8) (w : World) (h : WS w wb at_ o l) (ha : at_ + 9 ≤ 1099511627776) (hs : s ≤ 285) :
    Calls Tryz.prog 100 #[.pointer (some ⟨wb, 0, none⟩), .int .i64 s] w (Wpost 9 w wb at_ o) := by
  have H := Lib.hid h
  clear h
  have fin : ∀ (k : Nat) (e : Ending) (w' : World), k ≤ 9 → Wpost k w wb at_ o e w' → Wpost 9 w wb at_ o e w' := by
    rintro k e w' hk ⟨m, o', l', h1, h2, h3, h4⟩
    exact ⟨m, o', l', h1, by omega, h3, h4⟩
  have Hfin := Lib.hid fin
  clear fin
  by_cases h1 : s < 144
  · go_enter Tryz.func100, Tryz.ntmps100
    go_wp2_with (go_at_call 112; refine (word_ok wb at_ 8 o l _ _ H.out (by omega) (by omega)).mono ?_; rintro e w1 ⟨m2, o2, l2, rfl, hm2, hS2, hF2⟩; have HS2 := Lib.hid hS2; have HF2 := Lib.hid hF2; clear hS2 hF2)
    go_end0
    exact Hfin.out 8 _ _ (by omega) ⟨m2, o2, l2, rfl, hm2, HS2.out, HF2.out⟩
  by_cases h2 : s < 256
  · go_enter Tryz.func100, Tryz.ntmps100
    go_wp2_with (go_at_call 112; refine (word_ok wb at_ 9 o l _ _ H.out (by omega) (by omega)).mono ?_; rintro e w1 ⟨m2, o2, l2, rfl, hm2, hS2, hF2⟩; have HS2 := Lib.hid hS2; have HF2 := Lib.hid hF2; clear hS2 hF2)
    go_end0
    exact Hfin.out 9 _ _ (by omega) ⟨m2, o2, l2, rfl, hm2, HS2.out, HF2.out⟩
  by_cases h3 : s < 280
  · go_enter Tryz.func100, Tryz.ntmps100
    go_wp2_with (go_at_call 112; refine (word_ok wb at_ 7 o l _ _ H.out (by omega) (by omega)).mono ?_; rintro e w1 ⟨m2, o2, l2, rfl, hm2, hS2, hF2⟩; have HS2 := Lib.hid hS2; have HF2 := Lib.hid hF2; clear hS2 hF2)
    go_end0
    exact Hfin.out 7 _ _ (by omega) ⟨m2, o2, l2, rfl, hm2, HS2.out, HF2.out⟩
  · go_enter Tryz.func100, Tryz.ntmps100
    go_wp2_with (go_at_call 112; refine (word_ok wb at_ 8 o l _ _ H.out (by omega) (by omega)).mono ?_; rintro e w1 ⟨m2, o2, l2, rfl, hm2, hS2, hF2⟩; have HS2 := Lib.hid hS2; have HF2 := Lib.hid hF2; clear hS2 hF2)
    go_end0
    exact Hfin.out 8 _ _ (by omega) ⟨m2, o2, l2, rfl, hm2, HS2.out, HF2.out⟩
end Go.Proofs.YtnpkgmgedgcjmaaGreatDoor
