/- A part of the proof: E1, E2, Eg. -/
import Derived.IntWalk
import Derived.Laws.BitsAllLaws
import Derived.Laws.BitsLemmas
import Derived.Test.YtnpkgmgedgcjmaaGreatDoorZCrc
import Derived.Test.YtnpkgmgedgcjmaaGreatDoorZPx0
import Derived.Test.YtnpkgmgedgcjmaaGreatDoorZPx5
set_option linter.all false
section
namespace Go.Proofs.YtnpkgmgedgcjmaaGreatDoor
open Go Go.RowKit Go.Proofs.YtnpkgmgedgcjmaaGreatDoorW.PrintWords Go.Proofs.YtnpkgmgedgcjmaaGreatDoorW.PrintMore Go.Proofs.YtnpkgmgedgcjmaaGreatDoor.Pr
def ints (l : List UInt8) : List Int := l.map fun b => (b.toNat : Int)
theorem ints_length (l : List UInt8) : (ints l).length = l.length := by simp [ints]
theorem rd_ints (l : List UInt8) (k : Nat) : rd (ints l) (k : Int) = (nb l k : Int) := by
 unfold rd nb ints
 simp only [Int.toNat_natCast, List.getD_eq_getElem?_getD, List.getElem?_map]
 cases l[k]? <;> simp
def Byt (s : List Int) : Prop := ∀ k : Nat, 0 ≤ s.getD k 0 ∧ s.getD k 0 < 256
theorem Byt_ints (l : List UInt8) : Byt (ints l) := fun k => by
 have h := rd_ints l k
 unfold rd at h
 simp only [Int.toNat_natCast] at h
 rw [h]
 have := nb_lt l k
 omega
theorem C_seg {w : World} {b off : Nat} {l : List UInt8} (h : Seg w b off l) (hl : l.length ≤ 9223372036854775807) : Kd.C (Kd.int .u8) w (some ⟨b, off, none⟩) (ints l).length (ints l) := by
 refine ⟨rfl, by rw [ints_length]; exact hl, fun _ => ⟨_, rfl, fun j p hj => ⟨[.int .u8 p], rfl, rfl, fun i u hu => ?_⟩⟩⟩
 have hi : i = 0 := by
  rcases i with _ | i
  ·
   rfl
  ·
   simp at hu
 subst hi
 have hu' : Value.int .u8 p = u := by simpa using hu
 subst hu'
 have hjl : j < l.length := by
  have := (List.getElem?_eq_some_iff.1 hj).1
  rwa [ints_length] at this
 rw [add_addr]
 have := h j hjl
 rw [show (Kd.int .u8).sz = 1 from rfl, Nat.mul_one, Nat.add_zero, this]
 have e := rd_ints l j
 unfold rd at e
 simp only [Int.toNat_natCast, List.getD_eq_getElem?_getD] at e
 rw [hj] at e
 simp only [Option.getD_some] at e
 rw [e]
theorem C_bsl {w : World} {p : Option Addr} {l : List UInt8} (h : Bsl w p l) (hl : l.length ≤ 9223372036854775807) : Kd.C (Kd.int .u8) w p (ints l).length (ints l) := by
 rcases h with rfl | ⟨b, off, rfl, hs⟩
 ·
  exact ⟨rfl, by simp [ints], fun h => absurd h (by simp [ints])⟩
 ·
  exact C_seg hs hl
def bitAt (s : List Int) (k : Nat) : Nat := (s.getD (k / 8) 0).toNat / 2 ^ (k % 8) % 2
theorem bitAt_le (s : List Int) (k : Nat) : bitAt s k ≤ 1 := by unfold bitAt; omega
def numAt (s : List Int) (at_ : Nat) : Nat → Nat
 | 0 => 0
 | n + 1 => numAt s at_ n + bitAt s (at_ + n) * 2 ^ n
theorem numAt_lt (s : List Int) (at_ n : Nat) : numAt s at_ n < 2 ^ n := by
 induction n with
 | zero => simp [numAt]
 | succ n ih =>
  have := bitAt_le s (at_ + n)
  have h2 : bitAt s (at_ + n) * 2 ^ n ≤ 1 * 2 ^ n := Nat.mul_le_mul_right _ this
  simp only [numAt]
  rw [Nat.pow_succ]
  omega
theorem tdiv8 (k : Nat) (hk : k ≤ 35184372088832) : wrap64 (Int.tdiv (k : Int) 8) = ((k / 8 : Nat) : Int) := by
 rw [Int.tdiv_eq_ediv_of_nonneg (by omega)]; unfold wrap64; omega
theorem wrap_nat (k : Nat) (hk : k ≤ 9223372036854775807) : wrap64 (k : Int) = (k : Int) := by unfold wrap64; omega
theorem wrap_add (a b : Nat) (h : a + b ≤ 9223372036854775807) : wrap64 ((a : Int) + (b : Int)) = ((a + b : Nat) : Int) := by rw [← Int.natCast_add]; exact wrap_nat _ h
theorem wrap_mulN (a b : Nat) (h : a * b ≤ 9223372036854775807) : wrap64 ((a : Int) * (b : Int)) = ((a * b : Nat) : Int) := by rw [← Int.natCast_mul]; exact wrap_nat _ h
theorem wrap_sub (a b : Nat) (ha : a ≤ 9223372036854775807) (hb : b ≤ 9223372036854775807) : wrap64 ((a : Int) - (b : Int)) = (a : Int) - (b : Int) := by unfold wrap64; omega
theorem wrap_subN (a b : Nat) (h : b ≤ a) (ha : a ≤ 9223372036854775807) : wrap64 ((a : Int) - (b : Int)) = ((a - b : Nat) : Int) := by unfold wrap64; omega
theorem wrap_succ (a : Nat) (h : a + 1 ≤ 9223372036854775807) : wrap64 ((a : Int) + 1) = ((a + 1 : Nat) : Int) := by unfold wrap64; omega
theorem and_one64 (a : Nat) (ha : a < 9223372036854775808) : Go.bits .and .i64 (a : Int) 1 = ((a % 2 : Nat) : Int) := by
 rw [← Nat.and_one_is_mod]
 have hx : a &&& 1 < 2 ^ 63 := Nat.and_lt_two_pow _ (by omega)
 have h1 : (BitVec.ofInt 64 (a : Int)).toNat = a := by rw [BitVec.ofInt_natCast, BitVec.toNat_ofNat]; exact Nat.mod_eq_of_lt (by omega)
 show IntKind.i64.wrap ((BitVec.ofInt 64 (a : Int) &&& BitVec.ofInt 64 1).toNat : Int) = _
 rw [BitVec.toNat_and, h1, IntKind.wrap_i64]
 have h2 : (BitVec.ofInt 64 1).toNat = 1 := by decide
 rw [h2]
 omega
theorem or64 (a b : Nat) (ha : a < 9223372036854775808) (hb : b < 9223372036854775808) : Go.bits .or .i64 (a : Int) (b : Int) = ((a ||| b : Nat) : Int) := by
 have hx : a ||| b < 2 ^ 63 := Nat.or_lt_two_pow (by omega) (by omega)
 have h1 : (BitVec.ofInt 64 (a : Int)).toNat = a := by rw [BitVec.ofInt_natCast, BitVec.toNat_ofNat]; exact Nat.mod_eq_of_lt (by omega)
 have h2 : (BitVec.ofInt 64 (b : Int)).toNat = b := by rw [BitVec.ofInt_natCast, BitVec.toNat_ofNat]; exact Nat.mod_eq_of_lt (by omega)
 show IntKind.i64.wrap ((BitVec.ofInt 64 (a : Int) ||| BitVec.ofInt 64 (b : Int)).toNat : Int) = _
 rw [BitVec.toNat_or, h1, h2, IntKind.wrap_i64]
 omega
theorem one_f (s : List Int) (hs : Byt s) (hl : s.length ≤ 1099511627776) (k : Nat) (hk : k ≤ 35184372088832) :
  spec_bits_one.f s (k : Int) = some (((bitAt s k : Nat) : Int), ((k + 1 : Nat) : Int)) := by
 unfold spec_bits_one.f
 have e2 : wrap64 ((k : Int) + 1) = ((k + 1 : Nat) : Int) := by unfold wrap64; omega
 have e3 : wrap64 (((k + 1 : Nat) : Int) - 1) = (k : Int) := by unfold wrap64; omega
 have e4 : Int.tmod (k : Int) 8 = ((k % 8 : Nat) : Int) := by rw [Int.tmod_eq_emod_of_nonneg (by omega)]; omega
 rw [tdiv8 k hk, e2, e3, e4]
 by_cases h : k / 8 < s.length
 ·
  obtain ⟨b0, b1⟩ := hs (k / 8)
  rw [if_neg (by omega), if_pos (by omega), if_pos (by omega), if_pos (by omega)]
  have hr : rd s ((k / 8 : Nat) : Int) = s.getD (k / 8) 0 := by unfold rd; rw [Int.toNat_natCast]
  rw [hr]
  unfold bitAt
  generalize s.getD (k / 8) 0 = x at b0 b1 ⊢
  obtain ⟨y, rfl⟩ := Int.eq_ofNat_of_zero_le b0
  rw [wrap_nat y (by omega)]
  have hsh : shr .i64 (y : Int) ((k % 8 : Nat) : Int) = ((y / 2 ^ (k % 8) : Nat) : Int) := by
   unfold shr
   rw [Int.toNat_natCast, show min (k % 8) IntKind.i64.bits = k % 8 from Nat.min_eq_left (by show k % 8 ≤ 64; omega)]
   simp
  rw [hsh, and_one64 _ (Nat.lt_of_le_of_lt (Nat.div_le_self _ _) (by omega)), Int.toNat_natCast]
 ·
  rw [if_pos (by omega)]
  have : s.getD (k / 8) 0 = 0 := by rw [List.getD_eq_getElem?_getD, List.getElem?_eq_none (by omega)]; rfl
  unfold bitAt
  rw [this]
  simp
theorem many_l0 (s : List Int) (hs : Byt s) (hl : s.length ≤ 1099511627776) (n at_ : Nat) (hn : n ≤ 32) (hk : at_ ≤ 17592186044416) : ∀ d i k : Nat, i + d = n → d < k →
  spec_bits_many.l0 k (numAt s at_ i : Nat) (n : Int) (i : Int) s ((at_ + i : Nat) : Int) = some (((numAt s at_ n : Nat) : Int), ((at_ + n : Nat) : Int)) := by
 intro d
 induction d with
 | zero =>
  intro i k hi hdk
  obtain ⟨k, rfl⟩ : ∃ m, k = m + 1 := ⟨k - 1, by omega⟩
  obtain rfl : i = n := by omega
  simp only [spec_bits_many.l0]
  rw [if_neg (by omega)]
 | succ d ih =>
  intro i k hi hdk
  obtain ⟨k, rfl⟩ : ∃ m, k = m + 1 := ⟨k - 1, by omega⟩
  simp only [spec_bits_many.l0]
  rw [if_pos (by omega), one_f s hs hl _ (by omega)]
  simp only [Option.bind_some]
  rw [if_pos (by omega)]
  have h1 := numAt_lt s at_ i
  have h2 := bitAt_le s (at_ + i)
  have h3 := numAt_lt s at_ (i + 1)
  have hp : 2 ^ (i + 1) ≤ 2 ^ 33 := Nat.pow_le_pow_right (by decide) (by omega)
  have hp1 : 2 ^ i ≤ 2 ^ 32 := Nat.pow_le_pow_right (by decide) (by omega)
  have hm : bitAt s (at_ + i) * 2 ^ i ≤ 2 ^ 32 := Nat.le_trans (Nat.mul_le_mul h2 hp1) (by omega)
  have hsh : shl .i64 (bitAt s (at_ + i) : Nat) (i : Int) = ((bitAt s (at_ + i) * 2 ^ i : Nat) : Int) := by
   unfold shl
   rw [Int.toNat_natCast, show min i IntKind.i64.bits = i from Nat.min_eq_left (by show i ≤ 64; omega), IntKind.wrap_i64]
   have e : ((bitAt s (at_ + i) : Nat) : Int) * 2 ^ i = ((bitAt s (at_ + i) * 2 ^ i : Nat) : Int) := by simp
   rw [e]
   generalize bitAt s (at_ + i) * 2 ^ i = y at hm
   omega
  rw [hsh, or64 _ _ (by omega) (by omega)]
  have ho : numAt s at_ i ||| bitAt s (at_ + i) * 2 ^ i = numAt s at_ (i + 1) := by
   have := Nat.two_pow_add_eq_or_of_lt h1 (bitAt s (at_ + i))
   rw [Nat.or_comm, Nat.mul_comm (bitAt s (at_ + i)) (2 ^ i), ← this]
   simp only [numAt]
   rw [Nat.mul_comm]
   omega
  rw [ho]
  have e1 : wrap64 ((i : Int) + 1) = ((i + 1 : Nat) : Int) := by unfold wrap64; omega
  rw [e1, show at_ + i + 1 = at_ + (i + 1) from rfl]
  exact ih (i + 1) k (by omega) (by omega)
theorem many_f (s : List Int) (hs : Byt s) (hl : s.length ≤ 1099511627776) (n at_ : Nat) (hn : n ≤ 32) (hk : at_ ≤ 17592186044416) :
  spec_bits_many.f (n + 1) s (at_ : Int) (n : Int) = some (((numAt s at_ n : Nat) : Int), ((at_ + n : Nat) : Int)) := by
 unfold spec_bits_many.f
 exact many_l0 s hs hl n at_ hn hk n 0 (n + 1) (by omega) (by omega)
theorem short_f (s : List Int) (hl : s.length ≤ 1099511627776) (at_ : Nat) : spec_bits_short.f s (at_ : Int) = some (decide (8 * s.length < at_), (at_ : Int)) := by
 unfold spec_bits_short.f
 have e : wrap64 (8 * (s.length : Int)) = 8 * (s.length : Int) := by unfold wrap64; omega
 rw [e]
 congr 2
 simp
 omega
section
variable {w0 w : World} {g : Nat} {s : List Int}
theorem one_c (hs : Byt s) (hl : s.length ≤ 1099511627776) (k : Nat) (hk : k ≤ 35184372088832) (hI : IsS229 w0 w g s (k : Int)) (hB : Below w0.heap.size w0 w) :
  Calls Tryz.prog 116 #[.pointer (some ⟨g, 0, none⟩)] w fun e w' => e = .returned (.int .i64 (bitAt s k : Nat)) ∧ IsS229 w0 w' g s ((k + 1 : Nat) : Int) ∧ Below w0.heap.size w0 w' ∧ KeepBut w w' g none :=
 spec_bits_one.calls g s k _ _ w0 w hI hB (one_f s hs hl k hk)
theorem many_c (hs : Byt s) (hl : s.length ≤ 1099511627776) (n at_ : Nat) (hn : n ≤ 32) (hk : at_ ≤ 17592186044416) (hI : IsS229 w0 w g s (at_ : Int)) (hB : Below w0.heap.size w0 w) :
  Calls Tryz.prog 117 #[.pointer (some ⟨g, 0, none⟩), .int .i64 (n : Int)] w fun e w' => e = .returned (.int .i64 (numAt s at_ n : Nat)) ∧ IsS229 w0 w' g s ((at_ + n : Nat) : Int) ∧ Below w0.heap.size w0 w' ∧ KeepBut w w' g none :=
 spec_bits_many.calls (n + 1) g s at_ n _ _ w0 w hI hB (many_f s hs hl n at_ hn hk)
theorem short_c (hl : s.length ≤ 1099511627776) (at_ : Nat) (hI : IsS229 w0 w g s (at_ : Int)) (hB : Below w0.heap.size w0 w) :
  Calls Tryz.prog 128 #[.pointer (some ⟨g, 0, none⟩)] w fun e w' => e = .returned (.bool (decide (8 * s.length < at_))) ∧ IsS229 w0 w' g s (at_ : Int) ∧ Below w0.heap.size w0 w' ∧ KeepBut w w' g none :=
 spec_bits_short.calls g s at_ _ _ w0 w hI hB (short_f s hl at_)
end
end Go.Proofs.YtnpkgmgedgcjmaaGreatDoor
end
section
namespace Go.Proofs.YtnpkgmgedgcjmaaGreatDoor
open Go Go.RowKit Go.Proofs.YtnpkgmgedgcjmaaGreatDoorW.PrintWords Go.Proofs.YtnpkgmgedgcjmaaGreatDoorW.PrintMore Go.Proofs.YtnpkgmgedgcjmaaGreatDoor.Pr
def nats (l : List Nat) : List Int := l.map fun n : Nat => (n : Int)
theorem nats_length (l : List Nat) : (nats l).length = l.length := by simp [nats]
theorem nats_append (l m : List Nat) : nats (l ++ m) = nats l ++ nats m := by simp [nats]
theorem rd_nats (l : List Nat) (k : Nat) : rd (nats l) (k : Int) = (l.getD k 0 : Nat) := by
 unfold rd nats
 simp only [Int.toNat_natCast, List.getD_eq_getElem?_getD, List.getElem?_map]
 cases l[k]? <;> simp
def idxOf (ls : List Nat) (m i : Nat) : List Nat := (List.range i).filter fun j => ls.getD j 0 == m
theorem idxOf_succ (ls : List Nat) (m i : Nat) : idxOf ls m (i + 1) = if ls.getD i 0 = m then idxOf ls m i ++ [i] else idxOf ls m i := by
 unfold idxOf
 rw [List.range_succ, List.filter_append]
 by_cases h : ls.getD i 0 = m
 ·
  rw [if_pos h]
  have e : (ls.getD i 0 == m) = true := by rw [beq_iff_eq]; exact h
  simp only [List.filter_cons, List.filter_nil, e, if_true]
 ·
  rw [if_neg h]
  have e : (ls.getD i 0 == m) = false := by rw [beq_eq_false_iff_ne]; exact h
  simp only [List.filter_cons, List.filter_nil, e, List.append_nil]
  simp
theorem idxOf_len (ls : List Nat) (m i : Nat) : (idxOf ls m i).length ≤ i := by
 unfold idxOf
 exact Nat.le_trans (List.length_filter_le _ _) (by simp)
theorem idxOf_lt (ls : List Nat) (m i : Nat) : ∀ x ∈ idxOf ls m i, x < i := fun x hx => by
 unfold idxOf at hx
 exact List.mem_range.1 (List.mem_filter.1 hx).1
def cntOf (ls : List Nat) (i : Nat) : List Nat := (List.range 16).map fun m => if m = 0 then 0 else (idxOf ls m i).length
theorem cntOf_len (ls : List Nat) (i : Nat) : (cntOf ls i).length = 16 := by simp [cntOf]
theorem cntOf_get (ls : List Nat) (i m : Nat) (hm : m < 16) : (cntOf ls i).getD m 0 = if m = 0 then 0 else (idxOf ls m i).length := by
 unfold cntOf
 rw [List.getD_eq_getElem?_getD, List.getElem?_map, List.getElem?_range hm]
 rfl
theorem cntOf_zero (ls : List Nat) : nats (cntOf ls 0) = List.replicate 16 0 := by
 unfold cntOf idxOf nats
 simp
 decide
theorem cntOf_step (ls : List Nat) (i : Nat) (h : ls.getD i 0 < 16) : cntOf ls (i + 1) = if ls.getD i 0 = 0 then cntOf ls i else (cntOf ls i).set (ls.getD i 0) ((cntOf ls i).getD (ls.getD i 0) 0 + 1) := by
 obtain ⟨v, hv⟩ : ∃ v, v = ls.getD i 0 := ⟨_, rfl⟩
 rw [← hv] at h ⊢
 by_cases h0 : v = 0
 ·
  rw [if_pos h0]
  unfold cntOf
  refine List.map_congr_left fun m hm => ?_
  by_cases hm0 : m = 0
  ·
   rw [if_pos hm0, if_pos hm0]
  ·
   rw [if_neg hm0, if_neg hm0, idxOf_succ, if_neg (by rw [← hv]; omega)]
 ·
  rw [if_neg h0]
  apply List.ext_getElem?
  intro m
  rw [List.getElem?_set]
  by_cases hm : m < 16
  ·
   unfold cntOf
   simp only [List.getElem?_map, List.getElem?_range hm, Option.map_some, List.length_map, List.length_range]
   by_cases hmv : v = m
   ·
    subst hmv
    rw [if_pos rfl, if_pos h]
    rw [if_neg h0, idxOf_succ, if_pos hv.symm]
    have := cntOf_get ls i v h
    unfold cntOf at this
    rw [this, if_neg h0]
    simp
   ·
    rw [if_neg hmv]
    by_cases hm0 : m = 0
    ·
     rw [if_pos hm0, if_pos hm0]
    ·
     rw [if_neg hm0, if_neg hm0, idxOf_succ, if_neg (by rw [← hv]; exact hmv)]
  ·
   have e1 : (cntOf ls (i + 1))[m]? = none := List.getElem?_eq_none (by rw [cntOf_len]; omega)
   have e2 : (cntOf ls i)[m]? = none := List.getElem?_eq_none (by rw [cntOf_len]; omega)
   rw [e1, e2]
   split
   ·
    rw [if_neg (by rw [cntOf_len]; omega)]
   ·
    rfl
def listTo (ls : List Nat) : Nat → List Nat
 | 0 => []
 | m + 1 => listTo ls m ++ idxOf ls (m + 1) ls.length
def leftTo (ls : List Nat) : Nat → Int
 | 0 => 1
 | m + 1 => leftTo ls m * 2 - (idxOf ls (m + 1) ls.length).length
theorem leftTo_le (ls : List Nat) (m : Nat) : leftTo ls m ≤ 2 ^ m := by
 induction m with
 | zero => simp [leftTo]
 | succ m ih =>
  simp only [leftTo]
  have : (2 : Int) ^ (m + 1) = 2 ^ m * 2 := by rw [Int.pow_succ]
  omega
theorem listTo_len (ls : List Nat) (m : Nat) : (listTo ls m).length ≤ m * ls.length := by
 induction m with
 | zero => simp [listTo]
 | succ m ih =>
  have := idxOf_len ls (m + 1) ls.length
  simp only [listTo, List.length_append]
  rw [Nat.add_mul]
  omega
theorem listTo_lt (ls : List Nat) (m : Nat) : ∀ x ∈ listTo ls m, x < ls.length := by
 induction m with
 | zero => intro x hx; simp [listTo] at hx
 | succ m ih =>
  intro x hx
  simp only [listTo, List.mem_append] at hx
  rcases hx with h | h
  ·
   exact ih x h
  ·
   exact idxOf_lt _ _ _ x h
theorem nats_set (l : List Nat) (i v : Nat) : (nats l).set i (v : Int) = nats (l.set i v) := by simp [nats, List.map_set]
section
variable {ls : List Nat}
theorem pre_l2 (hL : ls.length ≤ 1000) (hv : ∀ j, ls.getD j 0 < 16) {r : List Int × List Int × Int} (m : Nat) (hm : m < 15) (left : Int) (cs : List Int) (hn : Ev (fun k => spec_prefixOf.l1 k (nats ls) left ((m + 2 : Nat) : Int) cs (nats (listTo ls (m + 1)))) r) : ∀ d i : Nat, i + d = ls.length →
  Ev (fun k => spec_prefixOf.l2 k (nats ls) left ((m + 1 : Nat) : Int) (nats ls) (ls.length : Int) (i : Int) cs (nats (listTo ls m ++ idxOf ls (m + 1) i))) r := by
 intro d
 induction d with
 | zero =>
  intro i hi
  obtain rfl : i = ls.length := by omega
  refine Ev.step (f := fun k => spec_prefixOf.l1 k (nats ls) left ((m + 2 : Nat) : Int) cs (nats (listTo ls (m + 1)))) (fun k => ?_) hn
  simp only [spec_prefixOf.l2]
  rw [if_neg (by omega)]
  have e1 : wrap64 (((m + 1 : Nat) : Int) + 1) = ((m + 2 : Nat) : Int) := by unfold wrap64; omega
  rw [e1]
  rfl
 | succ d ih =>
  intro i hi
  have h1 := ih (i + 1) (by omega)
  have hll := listTo_len ls m
  have hil := idxOf_len ls (m + 1) i
  have hml : m * ls.length ≤ 15 * 1000 := Nat.mul_le_mul (by omega) hL
  refine Ev.step (fun k => ?_) h1
  simp only [spec_prefixOf.l2]
  have e1 : wrap64 ((i : Int) + 1) = ((i + 1 : Nat) : Int) := by unfold wrap64; omega
  rw [if_pos (by omega), if_pos (by omega), if_pos (by rw [nats_length]; omega), rd_nats, e1, idxOf_succ]
  by_cases h : ls.getD i 0 = m + 1
  ·
   rw [if_pos (by omega), if_pos (by rw [nats_length, List.length_append]; omega), if_pos h, ← List.append_assoc, nats_append (listTo ls m ++ _) [i]]
   rfl
  ·
   rw [if_neg (by omega), if_neg h]
theorem pre_l1 (hL : ls.length ≤ 1000) (hv : ∀ j, ls.getD j 0 < 16) (cs : List Int) (hcs : cs = nats (cntOf ls ls.length)) : ∀ d m : Nat, m + d = 15 → 0 ≤ leftTo ls m →
  ∃ li left, Ev (fun k => spec_prefixOf.l1 k (nats ls) (leftTo ls m) ((m + 1 : Nat) : Int) cs (nats (listTo ls m))) (cs, li, left) ∧
   ((left = -1 ∧ (∃ j, m ≤ j ∧ j < 15 ∧ leftTo ls (j + 1) < 0) ∧ ∃ j, li = nats (listTo ls j)) ∨ (li = nats (listTo ls 15) ∧ left = leftTo ls 15 ∧ ∀ j, m ≤ j → j ≤ 15 → 0 ≤ leftTo ls j)) := by
 intro d
 induction d with
 | zero =>
  intro m hm h0
  obtain rfl : m = 15 := by omega
  refine ⟨_, _, ?_, .inr ⟨rfl, rfl, fun j h1 h2 => (show j = 15 by omega) ▸ h0⟩⟩
  refine Ev.step (f := fun _ => some (cs, nats (listTo ls 15), leftTo ls 15)) (fun k => ?_) (Ev.now _)
  simp only [spec_prefixOf.l1]
  rw [if_neg (by omega)]
 | succ d ih =>
  intro m hm h0
  have hle := leftTo_le ls m
  have hp : (2 : Int) ^ m ≤ 2 ^ 15 := by
   have : (2 : Nat) ^ m ≤ 2 ^ 15 := Nat.pow_le_pow_right (by decide) (by omega)
   exact_mod_cast this
  have hil := idxOf_len ls (m + 1) ls.length
  have hc : rd cs ((m + 1 : Nat) : Int) = ((idxOf ls (m + 1) ls.length).length : Nat) := by
   rw [hcs, rd_nats, cntOf_get ls _ _ (by omega), if_neg (by omega)]
  have hcl : cs.length = 16 := by rw [hcs, nats_length, cntOf_len]
  have e1 : wrap64 (wrap64 (leftTo ls m * 2) - ((idxOf ls (m + 1) ls.length).length : Nat)) = leftTo ls (m + 1) := by
   simp only [leftTo]
   have : wrap64 (leftTo ls m * 2) = leftTo ls m * 2 := by unfold wrap64; omega
   rw [this]
   unfold wrap64
   omega
  by_cases hneg : leftTo ls (m + 1) < 0
  ·
   refine ⟨_, _, ?_, .inl ⟨rfl, ⟨m, Nat.le_refl _, by omega, hneg⟩, m, rfl⟩⟩
   refine Ev.step (f := fun _ => some (cs, nats (listTo ls m), -1)) (fun k => ?_) (Ev.now _)
   simp only [spec_prefixOf.l1]
   rw [if_pos (by omega), if_pos (by omega), if_pos (by rw [hcl]; omega), hc, e1, if_pos hneg]
  ·
   obtain ⟨li, left, hE, hcase⟩ := ih (m + 1) (by omega) (by omega)
   refine ⟨li, left, ?_, ?_⟩
   ·
    have h2 := pre_l2 hL hv m (by omega) (leftTo ls (m + 1)) cs hE ls.length 0 (by omega)
    refine Ev.step (fun k => ?_) h2
    simp only [spec_prefixOf.l1]
    rw [if_pos (by omega), if_pos (by omega), if_pos (by rw [hcl]; omega), hc, e1, if_neg hneg, nats_length]
    have : listTo ls m ++ idxOf ls (m + 1) 0 = listTo ls m := by simp [idxOf]
    rw [this]
    rfl
   ·
    rcases hcase with ⟨a, ⟨j, j1, j2, j3⟩, b⟩ | ⟨a, b, c⟩
    ·
     exact .inl ⟨a, ⟨j, by omega, j2, j3⟩, b⟩
    ·
     refine .inr ⟨a, b, fun j h1 h2 => ?_⟩
     rcases Nat.eq_or_lt_of_le h1 with h | h
     ·
      subst h; exact h0
     ·
      exact c j h h2
theorem pre_l0 (hL : ls.length ≤ 1000) (hv : ∀ j, ls.getD j 0 < 16) {r : List Int × List Int × Int} (hn : Ev (fun k => spec_prefixOf.l1 k (nats ls) 1 1 (nats (cntOf ls ls.length)) []) r) : ∀ d i : Nat, i + d = ls.length →
  Ev (fun k => spec_prefixOf.l0 k (nats ls) (nats ls) (ls.length : Int) (i : Int) (nats (cntOf ls i))) r := by
 intro d
 induction d with
 | zero =>
  intro i hi
  obtain rfl : i = ls.length := by omega
  refine Ev.step (fun k => ?_) hn
  simp only [spec_prefixOf.l0]
  rw [if_neg (by omega)]
 | succ d ih =>
  intro i hi
  refine Ev.step (fun k => ?_) (ih (i + 1) (by omega))
  have hvi := hv i
  have e1 : wrap64 ((i : Int) + 1) = ((i + 1 : Nat) : Int) := by unfold wrap64; omega
  simp only [spec_prefixOf.l0]
  rw [if_pos (by omega), if_pos (by omega), if_pos (by rw [nats_length]; omega), rd_nats, e1, cntOf_step ls i hvi]
  by_cases h0 : ls.getD i 0 = 0
  ·
   rw [if_neg (by omega), if_pos h0]
  ·
   have hcl : ((cntOf ls i).getD (ls.getD i 0) 0) ≤ 1000 := by
    rw [cntOf_get ls i _ hvi]
    have := idxOf_len ls (ls.getD i 0) i
    split <;> omega
   rw [if_pos (by omega), if_pos (by omega), if_pos (by rw [nats_length, cntOf_len]; omega), if_neg h0, rd_nats, ← nats_set, Int.toNat_natCast]
   have e2 : wrap64 (((cntOf ls i).getD (ls.getD i 0) 0 : Nat) + 1) = (((cntOf ls i).getD (ls.getD i 0) 0 + 1 : Nat) : Int) := by unfold wrap64; omega
   rw [e2]
theorem prefixOf_f (hL : ls.length ≤ 1000) (hv : ∀ j, ls.getD j 0 < 16) : ∃ k li left, spec_prefixOf.f k (nats ls) = some (nats (cntOf ls ls.length), nats li, left) ∧
  ((left = -1 ∧ (∃ j, j < 15 ∧ leftTo ls (j + 1) < 0) ∧ ∃ j, li = listTo ls j) ∨ (li = listTo ls 15 ∧ left = leftTo ls 15 ∧ ∀ j, j ≤ 15 → 0 ≤ leftTo ls j)) := by
 obtain ⟨li, left, hE, hc⟩ := pre_l1 hL hv _ rfl 15 0 (by omega) (by simp [leftTo])
 have h0 := pre_l0 hL hv (r := (nats (cntOf ls ls.length), li, left)) (by exact hE) ls.length 0 (by omega)
 obtain ⟨k, hk⟩ := h0.rounds
 rw [cntOf_zero] at hk
 refine ⟨k, ?_⟩
 have hf : spec_prefixOf.f k (nats ls) = some (nats (cntOf ls ls.length), li, left) := by
  unfold spec_prefixOf.f
  rw [if_pos (by decide), nats_length]
  exact hk
 rcases hc with ⟨a, ⟨j, j1, j2, j3⟩, i, rfl⟩ | ⟨rfl, b, c⟩
 ·
  exact ⟨_, left, hf, .inl ⟨a, ⟨j, j2, j3⟩, i, rfl⟩⟩
 ·
  exact ⟨_, left, hf, .inr ⟨rfl, b, fun j hj => c j (by omega) hj⟩⟩
end
def sumC (cs : List Nat) : Nat → Nat
 | 0 => 0
 | n + 1 => sumC cs n + cs.getD (n + 1) 0
structure Code (cs li : List Nat) (M : Nat) : Prop where
 len : cs.length = 16
 sum : sumC cs 15 ≤ li.length
 small : li.length ≤ 100000
 lt : ∀ x ∈ li, x < M
theorem sumC_mono (cs : List Nat) {a b : Nat} (h : a ≤ b) : sumC cs a ≤ sumC cs b := by
 induction b with
 | zero => rw [show a = 0 by omega]; exact Nat.le_refl _
 | succ b ih =>
  rcases Nat.eq_or_lt_of_le h with h | h
  ·
   subst h; exact Nat.le_refl _
  ·
   simp only [sumC]
   have := ih (by omega)
   omega
theorem code_of (ls : List Nat) (hL : ls.length ≤ 1000) : Code (cntOf ls ls.length) (listTo ls 15) ls.length := by
 have key : ∀ n, n ≤ 15 → sumC (cntOf ls ls.length) n = (listTo ls n).length := by
  intro n
  induction n with
  | zero => intro _; rfl
  | succ n ih =>
   intro hn
   simp only [sumC, listTo, List.length_append]
   rw [ih (by omega), cntOf_get ls _ _ (by omega), if_neg (by omega)]
 refine ⟨cntOf_len _ _, Nat.le_of_eq (key 15 (Nat.le_refl _)), ?_, listTo_lt ls 15⟩
 have := listTo_len ls 15
 omega
theorem Code.more {cs li : List Nat} {M M' : Nat} (h : Code cs li M) (hM : M ≤ M') : Code cs li M' := ⟨h.len, h.sum, h.small, fun x hx => Nat.lt_of_lt_of_le (h.lt x hx) hM⟩
def readM (cs li : List Nat) (s : List Int) : Nat → Nat → Nat → Nat → Nat → Nat → Option Nat × Nat
 | 0, _, _, _, _, at_ => (none, at_)
 | d + 1, n, word, first, index, at_ =>
  if word + bitAt s at_ < first + cs.getD n 0 then (some (li.getD (index + (word + bitAt s at_) - first) 0), at_ + 1)
  else readM cs li s d (n + 1) (2 * (word + bitAt s at_)) (2 * (first + cs.getD n 0)) (index + cs.getD n 0) (at_ + 1)
def readC (cs li : List Nat) (s : List Int) (at_ : Nat) : Option Nat × Nat := readM cs li s 15 1 0 0 0 at_
def symI : Option Nat → Int
 | none => -1
 | some x => (x : Int)
theorem readM_at (cs li : List Nat) (s : List Int) : ∀ d n word first index at_, at_ ≤ (readM cs li s d n word first index at_).2 ∧ (readM cs li s d n word first index at_).2 ≤ at_ + d := by
 intro d
 induction d with
 | zero => intro n word first index at_; simp [readM]
 | succ d ih =>
  intro n word first index at_
  simp only [readM]
  split
  ·
   exact ⟨Nat.le_succ _, by simp⟩
  ·
   have := ih (n + 1) (2 * (word + bitAt s at_)) (2 * (first + cs.getD n 0)) (index + cs.getD n 0) (at_ + 1)
   omega
theorem readM_at1 (cs li : List Nat) (s : List Int) (d n word first index at_ : Nat) : at_ + 1 ≤ (readM cs li s (d + 1) n word first index at_).2 := by
 simp only [readM]
 split
 ·
  exact Nat.le_refl _
 ·
  exact (readM_at cs li s d (n + 1) _ _ _ (at_ + 1)).1
theorem readC_at (cs li : List Nat) (s : List Int) (at_ : Nat) : at_ + 1 ≤ (readC cs li s at_).2 ∧ (readC cs li s at_).2 ≤ at_ + 15 :=
 ⟨readM_at1 cs li s 14 1 0 0 0 at_, (readM_at cs li s 15 1 0 0 0 at_).2⟩
theorem readM_lt {cs li : List Nat} {M : Nat} (h : Code cs li M) (s : List Int) : ∀ d n word first index at_, d + n = 16 → 1 ≤ n → first ≤ word → index = sumC cs (n - 1) → ∀ x, (readM cs li s d n word first index at_).1 = some x → x < M := by
 intro d
 induction d with
 | zero => intro n word first index at_ _ _ _ _ x hx; simp [readM] at hx
 | succ d ih =>
  intro n word first index at_ hd hn hfw hix x hx
  obtain ⟨n', rfl⟩ : ∃ n', n = n' + 1 := ⟨n - 1, by omega⟩
  simp only [Nat.add_sub_cancel] at hix
  simp only [readM] at hx
  by_cases hc : word + bitAt s at_ < first + cs.getD (n' + 1) 0
  ·
   rw [if_pos hc] at hx
   have hsum : sumC cs (n' + 1) ≤ li.length := Nat.le_trans (sumC_mono cs (by omega)) h.sum
   simp only [sumC] at hsum
   have hl : index + (word + bitAt s at_) - first < li.length := by omega
   simp only [Option.some.injEq] at hx
   rw [← hx, List.getD_eq_getElem?_getD, List.getElem?_eq_getElem hl]
   exact h.lt _ (List.getElem_mem hl)
  ·
   rw [if_neg hc] at hx
   exact ih (n' + 1 + 1) _ _ _ _ (by omega) (by omega) (by omega) (by simp only [Nat.add_sub_cancel, sumC]; omega) x hx
theorem readC_lt {cs li : List Nat} {M : Nat} (h : Code cs li M) (s : List Int) (at_ : Nat) : ∀ x, (readC cs li s at_).1 = some x → x < M :=
 readM_lt h s 15 1 0 0 0 at_ (by omega) (by omega) (by omega) rfl
end Go.Proofs.YtnpkgmgedgcjmaaGreatDoor
end
section
namespace Go.Proofs.YtnpkgmgedgcjmaaGreatDoor
open Go Go.RowKit Go.Proofs.YtnpkgmgedgcjmaaGreatDoorW.PrintWords Go.Proofs.YtnpkgmgedgcjmaaGreatDoorW.PrintMore Go.Proofs.YtnpkgmgedgcjmaaGreatDoor.Pr
theorem read_l0 {cs li : List Nat} {M : Nat} (h : Code cs li M) (s : List Int) (hs : Byt s) (hl : s.length ≤ 1099511627776) : ∀ d n word first index at_ k : Nat, d + n = 16 → 1 ≤ n → d < k → first ≤ word → word + 2 ≤ 2 ^ n → index = sumC cs (n - 1) → at_ + d ≤ 17592186044416 →
  spec_prefix_read.l0 k (word : Int) (first : Int) (index : Int) (n : Int) s (at_ : Int) (nats cs) (nats li) = some (symI (readM cs li s d n word first index at_).1, (((readM cs li s d n word first index at_).2 : Nat) : Int)) := by
 intro d
 induction d with
 | zero =>
  intro n word first index at_ k hd hn hk hfw hw hix hat
  obtain ⟨k, rfl⟩ : ∃ m, k = m + 1 := ⟨k - 1, by omega⟩
  simp only [spec_prefix_read.l0]
  rw [if_neg (by omega)]
  rfl
 | succ d ih =>
  intro n word first index at_ k hd hn hk hfw hw hix hat
  obtain ⟨k, rfl⟩ : ∃ m, k = m + 1 := ⟨k - 1, by omega⟩
  obtain ⟨n', rfl⟩ : ∃ n', n = n' + 1 := ⟨n - 1, by omega⟩
  simp only [Nat.add_sub_cancel] at hix
  have hb := bitAt_le s at_
  have hp : 2 ^ (n' + 1) ≤ 2 ^ 15 := Nat.pow_le_pow_right (by decide) (by omega)
  have hsum : sumC cs (n' + 1) ≤ li.length := Nat.le_trans (sumC_mono cs (by omega)) h.sum
  have hsm := h.small
  simp only [sumC] at hsum
  simp only [spec_prefix_read.l0]
  rw [if_pos (by omega), one_f s hs hl at_ (by omega)]
  simp only [Option.bind_some]
  rw [if_pos (by omega), if_pos (by rw [nats_length, h.len]; omega), rd_nats]
  simp only [readM]
  obtain ⟨c, hc⟩ : ∃ c, c = cs.getD (n' + 1) 0 := ⟨_, rfl⟩
  rw [← hc] at hsum ⊢
  obtain ⟨b, hbe⟩ : ∃ b, b = bitAt s at_ := ⟨_, rfl⟩
  rw [← hbe] at hb ⊢
  obtain ⟨S, hS⟩ : ∃ S, S = sumC cs n' := ⟨_, rfl⟩
  rw [← hS] at hsum hix
  obtain ⟨N, hN⟩ : ∃ N, N = li.length := ⟨_, rfl⟩
  rw [← hN] at hsum hsm
  obtain ⟨P, hP⟩ : ∃ P, P = 2 ^ (n' + 1) := ⟨_, rfl⟩
  rw [← hP] at hw hp
  have HP := Lib.hid (show 2 ^ (n' + 1 + 1) = P * 2 by rw [hP, Nat.pow_succ])
  have HN := Lib.hid hN
  have HS := Lib.hid (show S + c = sumC cs (n' + 1 + 1 - 1) by simp only [Nat.add_sub_cancel, sumC]; rw [← hc, ← hS])
  have IH := Lib.hid ih
  clear hS hN hP hc hbe ih
  have hf2 : first ≤ 65536 := by omega
  have hc2 : c ≤ 100000 := by omega
  have hi2 : index ≤ 100000 := by omega
  have e1 : wrap64 ((word : Int) + (b : Nat)) = ((word + b : Nat) : Int) := wrap_add _ _ (by omega)
  have e2 : wrap64 (((word + b : Nat) : Int) - (c : Nat)) = ((word + b : Nat) : Int) - (c : Nat) := (fun h1 h2 => wrap_sub (word + b) c h1 h2) (by clear e1; omega) (by clear e1; omega)
  rw [e1, e2]
  clear e1 e2
  by_cases hlt : word + b < first + c
  ·
   have g1 : ((word + b : Nat) : Int) - (c : Nat) < (first : Int) := by omega
   have hl2 : index + (word + b) - first < N := by omega
   have e3 : wrap64 (wrap64 ((index : Int) + ((word + b : Nat) : Int)) - (first : Int)) = ((index + (word + b) - first : Nat) : Int) := by
    rw [wrap_add index (word + b) (by omega)]; exact wrap_subN _ _ (by omega) (by omega)
   rw [if_pos g1, if_pos hlt, e3, if_pos (Int.natCast_nonneg _), if_pos (by rw [nats_length, ← HN.out]; exact Int.ofNat_lt.2 hl2), rd_nats]
   rfl
  ·
   have g1 : ¬ ((word + b : Nat) : Int) - (c : Nat) < (first : Int) := by omega
   have hp2 : (word + b) * 2 + 2 ≤ P * 2 := by omega
   have k1 : d + (n' + 1 + 1) = 16 := by omega
   have k2 : (first + c) * 2 ≤ (word + b) * 2 := by omega
   have k3 : at_ + 1 + d ≤ 17592186044416 := by omega
   have e4 : wrap64 (((word + b : Nat) : Int) * 2) = (((word + b) * 2 : Nat) : Int) := wrap_mulN _ 2 (by omega)
   have e5 : wrap64 (wrap64 ((first : Int) + (c : Nat)) * 2) = (((first + c) * 2 : Nat) : Int) := by
    clear e4; rw [wrap_add first c (by omega)]; exact wrap_mulN _ 2 (by omega)
   have e6 : wrap64 ((index : Int) + (c : Nat)) = ((index + c : Nat) : Int) := by clear e4 e5; exact wrap_add _ _ (by omega)
   have e7 : wrap64 (((n' + 1 : Nat) : Int) + 1) = ((n' + 1 + 1 : Nat) : Int) := by clear e4 e5 e6; exact wrap_succ _ (by omega)
   rw [if_neg g1, if_neg hlt, e4, e5, e6, e7, Nat.mul_comm 2 (word + b), Nat.mul_comm 2 (first + c)]
   exact IH.out (n' + 1 + 1) _ _ _ _ k k1 (Nat.succ_le_succ (Nat.zero_le _)) (Nat.lt_of_succ_lt_succ hk) k2 (by rw [HP.out]; exact hp2) (by rw [hix]; exact HS.out) k3
theorem read_f {cs li : List Nat} {M : Nat} (h : Code cs li M) (s : List Int) (hs : Byt s) (hl : s.length ≤ 1099511627776) (at_ : Nat) (hat : at_ ≤ 8796093022208) :
  spec_prefix_read.f 16 (nats cs) (nats li) s (at_ : Int) = some (symI (readC cs li s at_).1, (((readC cs li s at_).2 : Nat) : Int)) := by
 unfold spec_prefix_read.f readC
 have h := read_l0 h s hs hl 15 1 0 0 0 at_ 16 (by omega) (by omega) (by omega) (by omega) (by decide) rfl (by omega)
 exact h
def CodeAt (w : World) (g base : Nat) (vc vl : Value) (cs li : List Nat) : Prop :=
 Kd.R (Kd.int .i64) 3 w base (fun k => k ≠ g) vc (nats cs) ∧ Kd.R (Kd.int .i64) 3 w base (fun k => k ≠ g) vl (nats li)
theorem CodeAt.keep {w w' : World} {g base : Nat} {vc vl : Value} {cs li : List Nat} (h : CodeAt w g base vc vl cs li) (hk : KeepBut w w' g none) : CodeAt w' g base vc vl cs li :=
 ⟨Kd.R_keep h.1 hk (fun _ h => h), Kd.R_keep h.2 hk (fun _ h => h)⟩
theorem CodeAt.below {w w' : World} {g base : Nat} {vc vl : Value} {cs li : List Nat} (h : CodeAt w g base vc vl cs li) (hk : Below w.heap.size w w') : CodeAt w' g base vc vl cs li :=
 ⟨Kd.R_below h.1 hk, Kd.R_below h.2 hk⟩
theorem CodeAt.slices {w : World} {g base : Nat} {vc vl : Value} {cs li : List Nat} (h : CodeAt w g base vc vl cs li) :
  ∃ A c B d, vc = .slice A (nats cs).length c ∧ vl = .slice B (nats li).length d ∧ (nats cs).length ≤ c ∧ (nats li).length ≤ d ∧ Kd.C (Kd.int .i64) w A (nats cs).length (nats cs) ∧ Kd.C (Kd.int .i64) w B (nats li).length (nats li) ∧
   (∀ ad, A = some ad → 0 < (nats cs).length → ad.block ≠ g) ∧ (∀ ad, B = some ad → 0 < (nats li).length → ad.block ≠ g) := by
 obtain ⟨A, c, rfl, h1, h2⟩ := Kd.R_reads h.1
 obtain ⟨B, d, rfl, h3, h4⟩ := Kd.R_reads h.2
 exact ⟨A, c, B, d, rfl, rfl, h1, h3, h2, h4, fun ad ha _ => h.1.1 ad.block (by rw [ha]; rfl), fun ad ha _ => h.2.1 ad.block (by rw [ha]; rfl)⟩
theorem read_c {w0 w : World} {g : Nat} {s : List Int} {cs li : List Nat} {M base : Nat} {vc vl : Value} (hc : Code cs li M) (hs : Byt s) (hl : s.length ≤ 1099511627776) (at_ : Nat) (hat : at_ ≤ 8796093022208) (hI : IsS229 w0 w g s (at_ : Int)) (hB : Below w0.heap.size w0 w) (hC : CodeAt w g base vc vl cs li) :
  Calls Tryz.prog 130 #[.agg #[vc, vl], .pointer (some ⟨g, 0, none⟩)] w fun e w' => e = .returned (.int .i64 (symI (readC cs li s at_).1)) ∧ IsS229 w0 w' g s (((readC cs li s at_).2 : Nat) : Int) ∧ Below w0.heap.size w0 w' ∧ KeepBut w w' g none := by
 obtain ⟨A, c, B, d, rfl, rfl, h1, h2, h3, h4, h5, h6⟩ := hC.slices
 exact spec_prefix_read.calls 16 A c (nats cs) B d (nats li) g s at_ _ _ w0 w hI hB h3 h1 h5 h4 h2 h6 (read_f hc s hs hl at_ hat)
end Go.Proofs.YtnpkgmgedgcjmaaGreatDoor
end
