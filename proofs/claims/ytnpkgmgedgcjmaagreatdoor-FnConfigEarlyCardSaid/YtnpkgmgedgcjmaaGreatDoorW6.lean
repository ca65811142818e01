/- The sum of all bytes; a number in four bytes; the signature; a chunk. -/
import Derived.Test.YtnpkgmgedgcjmaaGreatDoorW5
import Derived.Test.YtnpkgmgedgcjmaaGreatDoorMk
import Derived.Test.YtnpkgmgedgcjmaaGreatDoorHd
set_option linter.all false
namespace Go.Proofs.YtnpkgmgedgcjmaaGreatDoor
open Go Go.RowKit Png

theorem wrap_u32_nat (x : Int) : ∃ z : Nat, z < 4294967296 ∧ IntKind.u32.wrap x = (z : Int) := by
  rw [IntKind.wrap_u32']
  have h1 : 0 ≤ x % 4294967296 := Int.emod_nonneg _ (by omega)
  have h2 : x % 4294967296 < 4294967296 := Int.emod_lt_of_pos _ (by omega)
  exact ⟨(x % 4294967296).toNat, by omega, by omega⟩
theorem bits_u32_nat (op : BinOp) (x y : Int) : ∃ z : Nat, z < 4294967296 ∧ bits op .u32 x y = (z : Int) := by
  unfold bits; exact wrap_u32_nat _

set_option maxHeartbeats 4000000 in
set_option maxRecDepth 100000 in
theorem adler_ok (p : Option Addr) (cap n : Nat) (l : List UInt8) (w : World) (hl : l.length = n) (hn : n ≤ 9223372036854775807) (hs : Bsl w p l) :
    Calls Tryz.prog 71 #[.slice p n cap] w fun e w' => ∃ x : Nat, x < 4294967296 ∧ e = .returned (.int .u32 (x : Nat)) ∧ w = w' := by
  have Hs := Lib.hid hs
  have Hl := Lib.hid hl
  clear hs hl
  go_enter Tryz.func71, Tryz.ntmps71
  go_wp2
  go_loop [3, 4, 9] (fun a b i => ∃ k x y : Nat, k ≤ n ∧ x < 65521 ∧ y < 65521 ∧ i = .int .i64 k ∧ a = .int .u32 (x : Nat) ∧ b = .int .u32 (y : Nat)) (fun _ _ i => n - (intOf i).toNat)
  case atStart => exact ⟨0, 1, 0, Nat.zero_le _, by omega, by omega, rfl, rfl, rfl⟩
  case round =>
    obtain ⟨k, x, y, hk, hx, hy, rfl, rfl, rfl⟩ := hrel
    by_cases hlt : k < n
    · obtain ⟨b, off, rfl, hc⟩ := Hs.out.at (k := k) (by rw [Hl.out]; exact hlt)
      have hb := nb_lt l k
      go_wp2
      go_round
      case rel => exact ⟨k + 1, (x + nb l k) % 65521, (y + (x + nb l k) % 65521) % 65521, by omega, by omega, by omega, by go_num, by go_num, by go_num⟩
      case measure => simp [intOf]; omega
    · have hk' : k = n := by omega
      go_wp2
      go_ret
      obtain ⟨z, hz1, hz2⟩ := bits_u32_nat .or ((y : Int) * 65536) (x : Int)
      exact ⟨z, hz1, ret_int hz2, rfl⟩

theorem four_vals (n : Nat) (hn : n < 4294967296) : bvals (four n) = [.int .u8 ((n : Int) / 16777216), .int .u8 ((n : Int) / 65536 % 256), .int .u8 ((n : Int) / 256 % 256), .int .u8 ((n : Int) % 256)] := by
  simp [bvals, four]
  omega

set_option maxHeartbeats 1000000 in
set_option maxRecDepth 100000 in
theorem four_ok (n : Nat) (w : World) (hn : n < 4294967296) :
    Calls Tryz.prog 38 #[.int .u32 n] w fun e w' => e = .returned (.slice (some ⟨w.heap.size, 0, none⟩) 4 4) ∧ Ob w' w.heap.size (some ⟨w.heap.size, 0, none⟩) 4 4 (four n) ∧ Below w.heap.size w w' := by
  go_enter Tryz.func38, Tryz.ntmps38
  go_wp2
  go_ret
  have hm := Ob.made w w.heap.size (four n) (Nat.le_refl _) (by simp [maxLen, four])
  rw [four_vals n hn] at hm
  exact ⟨rfl, hm, (Below.refl _ _).alloc (Nat.le_refl _) _⟩

theorem sig_vals : bvals sig = [.int .u8 137, .int .u8 80, .int .u8 78, .int .u8 71, .int .u8 13, .int .u8 10, .int .u8 26, .int .u8 10] := rfl

set_option maxHeartbeats 1000000 in
set_option maxRecDepth 100000 in
theorem signature_ok (w : World) :
    Calls Tryz.prog 45 #[] w fun e w' => e = .returned (.slice (some ⟨w.heap.size, 0, none⟩) 8 8) ∧ Ob w' w.heap.size (some ⟨w.heap.size, 0, none⟩) 8 8 sig ∧ Below w.heap.size w w' := by
  go_enter Tryz.func45, Tryz.ntmps45
  go_wp2
  go_ret
  have hm := Ob.made w w.heap.size sig (Nat.le_refl _) (by simp [maxLen, sig])
  rw [sig_vals] at hm
  exact ⟨rfl, hm, (Below.refl _ _).alloc (Nat.le_refl _) _⟩
end Go.Proofs.YtnpkgmgedgcjmaaGreatDoor
