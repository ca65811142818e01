/- What is put again: a length and a distance. -/
import Derived.Test.YtnpkgmgedgcjmaaGreatDoorW2
set_option linter.all false
namespace Go.Proofs.YtnpkgmgedgcjmaaGreatDoor
open Go Go.RowKit Png

set_option maxHeartbeats 4000000 in
set_option maxRecDepth 100000 in
theorem again_ok (wb at_ n d : Nat) (o : Option Nat) (l : List UInt8) (w : World) (h : WS w wb at_ o l) (ha : at_ + 40 ≤ 1099511627776) (hn : n ≤ 1000) (hd : d ≤ 100000) :
    Calls Tryz.prog 101 #[.pointer (some ⟨wb, 0, none⟩), .int .i64 n, .int .i64 d] w (Wpost 40 w wb at_ o) := by
  have H := Lib.hid h
  clear h
  go_enter Tryz.func101, Tryz.ntmps101
  go_wp2
  go_loop [6, 7] (fun s i => ∃ k t : Nat, 258 ≤ k ∧ k ≤ 286 ∧ 257 ≤ t ∧ t ≤ 285 ∧ i = .int .i64 (k : Nat) ∧ s = .int .i64 (t : Nat)) (fun _ i => 286 - (intOf i).toNat)
  case atStart => exact ⟨258, 257, by omega, by omega, by omega, by omega, rfl, rfl⟩
  case round =>
    obtain ⟨k, t, hk1, hk2, ht1, ht2, rfl, rfl⟩ := hrel
    by_cases hlt : k ≤ 285
    · go_wp2_with (go_at_call 113; refine (lengthOf_ok k (by omega) (by omega) _).mono ?_; rintro e w1 ⟨x, y, rfl, hx1, hx2, hy, rfl⟩)
      all_goals
        go_round
        case rel => first | exact ⟨k + 1, k, by omega, by omega, by omega, by omega, by go_num, rfl⟩ | exact ⟨k + 1, t, by omega, by omega, by omega, by omega, by go_num, rfl⟩
        case measure => simp [intOf]; omega
    · go_wp2_with fail
      refine (lengthOf_ok t (by omega) (by omega) _).mono ?_
      rintro e w1 ⟨x, y, rfl, hx1, hx2, hy, rfl⟩
      go_wp2_with fail
      refine (symbol_ok wb at_ t o l _ H.out (by omega) (by omega)).mono ?_
      rintro e w1 ⟨m1, o1, l1, rfl, hm1, hS1, hF1⟩
      have HS1 := Lib.hid hS1
      have HF1 := Lib.hid hF1
      clear hS1 hF1
      go_wp2_with fail
      refine (many_ok wb (at_ + m1) y o1 l1 _ _ HS1.out (by omega) (by omega)).mono ?_
      rintro e w2 ⟨m2, o2, l2, rfl, hm2, hS2, hF2⟩
      have HS2 := Lib.hid hS2
      have HF2 := Lib.hid hF2
      clear hS2 hF2
      go_wp2_with fail
      go_loop [6, 12] (fun s i => ∃ k t : Nat, k ≤ 30 ∧ t < 30 ∧ i = .int .i64 (k : Nat) ∧ s = .int .i64 (t : Nat)) (fun _ i => 30 - (intOf i).toNat)
      case atStart => exact ⟨1, 0, by omega, by omega, rfl, rfl⟩
      case round =>
        obtain ⟨k', t', hk1', ht1', rfl, rfl⟩ := hrel
        by_cases hlt' : k' < 30
        · go_wp2_with (go_at_call 114; refine (distanceOf_ok k' (by omega) _).mono ?_; rintro e w1 ⟨x', y', rfl, hx1', hx2', hy', rfl⟩)
          all_goals
            go_round
            case rel => first | exact ⟨k' + 1, k', by omega, by omega, by go_num, rfl⟩ | exact ⟨k' + 1, t', by omega, by omega, by go_num, rfl⟩
            case measure => simp [intOf]; omega
        · go_wp2_with fail
          refine (distanceOf_ok t' (by omega) _).mono ?_
          rintro e w3 ⟨x', y', rfl, hx1', hx2', hy', rfl⟩
          go_wp2_with fail
          refine (word_ok wb (at_ + m1 + m2) 5 o2 l2 _ _ HS2.out (by omega) (by omega)).mono ?_
          rintro e w4 ⟨m3, o3, l3, rfl, hm3, hS3, hF3⟩
          have HS3 := Lib.hid hS3
          have HF3 := Lib.hid hF3
          clear hS3 hF3
          go_wp2_with fail
          refine (many_ok wb (at_ + m1 + m2 + m3) y' o3 l3 _ _ HS3.out (by omega) (by omega)).mono ?_
          rintro e w5 ⟨m4, o4, l4, rfl, hm4, hS4, hF4⟩
          have HS4 := Lib.hid hS4
          have HF4 := Lib.hid hF4
          clear hS4 hF4
          go_wp2
          go_end0
          refine ⟨m1 + m2 + m3 + m4, o4, l4, rfl, by omega, ?_, ((HF1.out.trans HF2.out).trans HF3.out).trans HF4.out⟩
          rw [show at_ + (m1 + m2 + m3 + m4) = at_ + m1 + m2 + m3 + m4 by omega]
          exact HS4.out
end Go.Proofs.YtnpkgmgedgcjmaaGreatDoor
