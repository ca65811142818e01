/- The sum of a chunk: the table's way and the way bit by bit come to the same number (plain arithmetic, no program in sight). -/
import Derived.KernelRfl
set_option linter.all false
namespace Png

/-- One bit's step of the CRC-32 (reflected). -/
def crc1 (x : Nat) : Nat := if x % 2 = 1 then (x / 2) ^^^ 3988292384 else x / 2

/-- Eight of them. -/
def crc8 (x : Nat) : Nat := crc1 (crc1 (crc1 (crc1 (crc1 (crc1 (crc1 (crc1 x)))))))

theorem crc1_xor (a b : Nat) : crc1 (a ^^^ b) = crc1 a ^^^ crc1 b := by
  have hd : (a ^^^ b) / 2 = a / 2 ^^^ b / 2 := by simpa using Nat.xor_div_two_pow (a := a) (b := b) (n := 1)
  have hm := Nat.xor_mod_two_eq_one (a := a) (b := b)
  unfold crc1
  rw [hd]
  by_cases ha : a % 2 = 1 <;> by_cases hb : b % 2 = 1 <;> simp only [ha, hb, if_true, if_false] at hm ⊢
  · rw [if_neg (by simpa using hm)]
    rw [show a / 2 ^^^ 3988292384 ^^^ (b / 2 ^^^ 3988292384) = a / 2 ^^^ b / 2 ^^^ (3988292384 ^^^ 3988292384) by
      ac_rfl]
    simp
  · rw [if_pos (by simpa using hm)]; ac_rfl
  · rw [if_pos (by simpa using hm)]; ac_rfl
  · rw [if_neg (by simpa using hm)]

theorem crc8_xor (a b : Nat) : crc8 (a ^^^ b) = crc8 a ^^^ crc8 b := by
  unfold crc8; simp only [crc1_xor]

theorem crc1_double (m : Nat) : crc1 (2 * m) = m := by
  unfold crc1; rw [if_neg (by omega)]; omega

theorem crc8_high (m : Nat) : crc8 (256 * m) = m := by
  unfold crc8
  have e : 256 * m = 2 * (2 * (2 * (2 * (2 * (2 * (2 * (2 * m))))))) := by omega
  rw [e]; simp only [crc1_double]

theorem split_low (x : Nat) : x = (x % 256) ^^^ (256 * (x / 256)) := by
  apply Nat.eq_of_testBit_eq
  intro i
  rw [Nat.testBit_xor, show (256 : Nat) = 2 ^ 8 from rfl, Nat.testBit_mod_two_pow, Nat.testBit_two_pow_mul]
  by_cases hi : i < 8
  · simp [hi, show ¬ 8 ≤ i by omega]
  · have e := Nat.testBit_div_two_pow (x := x) (n := 8) (i := i - 8)
    rw [show i - 8 + 8 = i by omega, show (2 : Nat) ^ 8 = 256 from rfl] at e
    simp [hi, show 8 ≤ i by omega, e]

theorem crc8_split (x : Nat) : crc8 x = crc8 (x % 256) ^^^ (x / 256) := by
  conv => lhs; rw [split_low x, crc8_xor, crc8_high]

theorem crc1_lt {x : Nat} (h : x < 4294967296) : crc1 x < 4294967296 := by
  unfold crc1; split
  · exact Nat.xor_lt_two_pow (n := 32) (by omega) (by omega)
  · omega

theorem crc8_lt {x : Nat} (h : x < 4294967296) : crc8 x < 4294967296 := by
  unfold crc8; exact crc1_lt (crc1_lt (crc1_lt (crc1_lt (crc1_lt (crc1_lt (crc1_lt (crc1_lt h)))))))

/-- A byte more. -/
def crcByte (x : Nat) (v : UInt8) : Nat := crc8 (x ^^^ v.toNat)

/-- Bytes more. -/
def crcRun (x : Nat) (l : List UInt8) : Nat := l.foldl crcByte x

theorem crcByte_lt {x : Nat} (v : UInt8) (h : x < 4294967296) : crcByte x v < 4294967296 :=
  crc8_lt (Nat.xor_lt_two_pow (n := 32) (by omega) (by have := v.toNat_lt; omega))

theorem crcRun_lt {x : Nat} (l : List UInt8) (h : x < 4294967296) : crcRun x l < 4294967296 := by
  unfold crcRun
  induction l generalizing x with
  | nil => exact h
  | cons v l ih => exact ih (crcByte_lt v h)

theorem crcRun_append (x : Nat) (l m : List UInt8) : crcRun x (l ++ m) = crcRun (crcRun x l) m := by
  unfold crcRun; rw [List.foldl_append]

/-- The table's step is the step. -/
theorem crcByte_tab (x : Nat) (v : UInt8) : crcByte x v = crc8 ((x % 256) ^^^ v.toNat) ^^^ (x / 256) := by
  have hv := v.toNat_lt
  unfold crcByte
  rw [crc8_split]
  have h1 : (x ^^^ v.toNat) % 256 = (x % 256) ^^^ v.toNat := by
    have := Nat.xor_mod_two_pow (a := x) (b := v.toNat) (n := 8)
    rw [show (2 : Nat) ^ 8 = 256 from rfl] at this
    rw [this, Nat.mod_eq_of_lt (a := v.toNat) (by omega)]
  have h2 : (x ^^^ v.toNat) / 256 = x / 256 := by
    have := Nat.xor_div_two_pow (a := x) (b := v.toNat) (n := 8)
    rw [show (2 : Nat) ^ 8 = 256 from rfl] at this
    rw [this, Nat.div_eq_of_lt (a := v.toNat) (by omega)]; simp
  rw [h1, h2]

/-- All bits turned. -/
def flip32 (x : Nat) : Nat := 4294967295 - x

/-- The sum of bytes. -/
def crc (l : List UInt8) : Nat := flip32 (crcRun 4294967295 l)

theorem crc_lt (l : List UInt8) : crc l < 4294967296 := by unfold crc flip32; omega

end Png
