/- A part of the proof: E8, Ez. -/
import Derived.Test.YtnpkgmgedgcjmaaGreatDoorZE1
import Derived.Test.YtnpkgmgedgcjmaaGreatDoorZHd
import Derived.Test.YtnpkgmgedgcjmaaGreatDoorZPx0
import Derived.Test.YtnpkgmgedgcjmaaGreatDoorZPx13
set_option linter.all false
section
namespace Go.Proofs.YtnpkgmgedgcjmaaGreatDoor
open Go Go.RowKit Png Go.Proofs.YtnpkgmgedgcjmaaGreatDoorW.PrintWords Go.Proofs.YtnpkgmgedgcjmaaGreatDoorW.PrintMore Go.Proofs.YtnpkgmgedgcjmaaGreatDoor.Pr
def adS (p : Nat × Nat) (v : Nat) : Nat × Nat := ((p.1 + v) % 65521, (p.2 + (p.1 + v) % 65521) % 65521)
def adl (p : Nat × Nat) (l : List UInt8) : Nat × Nat := l.foldl (fun p v => adS p v.toNat) p
def adler (l : List UInt8) : Nat := (adl (1, 0) l).2 * 65536 + (adl (1, 0) l).1
theorem adl_lt (p : Nat × Nat) (l : List UInt8) (h : p.1 < 65521 ∧ p.2 < 65521) : (adl p l).1 < 65521 ∧ (adl p l).2 < 65521 := by
 unfold adl
 induction l generalizing p with
 | nil => exact h
 | cons v l ih => exact ih _ ⟨Nat.mod_lt _ (by omega), Nat.mod_lt _ (by omega)⟩
theorem adl_append (p : Nat × Nat) (l m : List UInt8) : adl p (l ++ m) = adl (adl p l) m := by unfold adl; rw [List.foldl_append]
theorem adl_take (p : Nat × Nat) (l : List UInt8) (k : Nat) (hk : k < l.length) : adl p (l.take (k + 1)) = adS (adl p (l.take k)) (nb l k) := by
 rw [List.take_succ_eq_append_getElem hk, adl_append]
 show adS _ _ = _
 unfold nb
 simp [List.getD_eq_getElem?_getD, List.getElem?_eq_getElem hk]
theorem or_u32 (a b : Nat) (ha : a < 65536) (hb : b < 65536) : Go.bits .or .u32 (((a * 65536 : Nat) : Int)) (b : Int) = ((a * 65536 + b : Nat) : Int) := by
 rw [u32_or_nat (a * 65536) b (by omega) (by omega)]
 have := Nat.two_pow_add_eq_or_of_lt (show b < 2 ^ 16 by omega) a
 rw [show a * 65536 = 2 ^ 16 * a by omega, ← this]
theorem adler_ev (l : List UInt8) (hl : l.length ≤ 1099511627776) : Ev (fun k => spec_Adler.f k (ints l)) ((adler l : Nat) : Int) := by
 have key : ∀ d i : Nat, i + d = l.length → Ev (fun k => spec_Adler.l0 k (((adl (1, 0) (l.take i)).1 : Nat) : Int) (((adl (1, 0) (l.take i)).2 : Nat) : Int) (ints l) (l.length : Int) (i : Int)) ((adler l : Nat) : Int) := by
  intro d
  induction d with
  | zero =>
   intro i hi
   obtain rfl : i = l.length := by omega
   have hb := adl_lt (1, 0) l (by decide)
   refine Ev.step (f := fun _ => some ((adler l : Nat) : Int)) (fun k => ?_) (Ev.now _)
   simp only [spec_Adler.l0]
   rw [if_neg (by omega), List.take_length]
   have e : (((adl (1, 0) l).2 : Nat) : Int) * 65536 % 4294967296 = (((adl (1, 0) l).2 * 65536 : Nat) : Int) := by omega
   rw [e, or_u32 _ _ (by omega) (by omega)]
   rfl
  | succ d ih =>
   intro i hi
   have hb := adl_lt (1, 0) (l.take i) (by decide)
   have hv := nb_lt l i
   refine Ev.step (fun k => ?_) (ih (i + 1) (by omega))
   have e1 : wrap64 ((i : Int) + 1) = ((i + 1 : Nat) : Int) := by unfold wrap64; omega
   simp only [spec_Adler.l0]
   rw [if_pos (by omega), if_pos (by omega), if_pos (by rw [ints_length]; omega), rd_ints, e1, adl_take (1, 0) l i (by omega)]
   unfold adS
   generalize adl (1, 0) (l.take i) = p at hb ⊢
   obtain ⟨a, b⟩ := p
   simp only at hb ⊢
   generalize nb l i = v at hv ⊢
   congr 1 <;> omega
 refine Ev.congr (fun k => ?_) (key l.length 0 (by omega))
 unfold spec_Adler.f
 rw [ints_length]
 rfl
theorem adler_c (l : List UInt8) (hl : l.length ≤ 1099511627776) (A : Option Addr) (c : Nat) (hc : l.length ≤ c) (w : World) (h : Kd.C (Kd.int .u8) w A (ints l).length (ints l)) :
  Calls Tryz.prog 71 #[.slice A l.length c] w fun e w' => e = .returned (.int .u32 ((adler l : Nat) : Int)) ∧ Dr w w' := by
 obtain ⟨k, hk⟩ := (adler_ev l hl).rounds
 have := spec_Adler.calls k A c (ints l) _ w h (by rw [ints_length]; exact hc) hk
 rw [ints_length] at this
 refine this.mono ?_
 rintro e w' ⟨rfl, ⟨n, rfl⟩⟩
 exact ⟨rfl, n, rfl⟩
theorem four_f (l : List UInt8) (k : Nat) (hk : k + 4 ≤ l.length) (hl : l.length ≤ 1099511627776) : spec_four.f (ints l) (k : Int) = some ((be4 l k : Nat) : Int) := by
 have b0 := nb_lt l k
 have b1 := nb_lt l (k + 1)
 have b2 := nb_lt l (k + 2)
 have b3 := nb_lt l (k + 3)
 unfold spec_four.f
 have e1 : wrap64 ((k : Int) + 1) = ((k + 1 : Nat) : Int) := by unfold wrap64; omega
 have e2 : wrap64 ((k : Int) + 2) = ((k + 2 : Nat) : Int) := by unfold wrap64; omega
 have e3 : wrap64 ((k : Int) + 3) = ((k + 3 : Nat) : Int) := by unfold wrap64; omega
 rw [e1, e2, e3, ints_length, if_pos (by omega), if_pos (by omega), if_pos (by omega), if_pos (by omega), if_pos (by omega), if_pos (by omega), if_pos (by omega), if_pos (by omega), rd_ints, rd_ints, rd_ints, rd_ints]
 congr 1
 unfold be4
 generalize nb l k = a at b0 ⊢
 generalize nb l (k + 1) = b at b1 ⊢
 generalize nb l (k + 2) = c at b2 ⊢
 generalize nb l (k + 3) = d at b3 ⊢
 have f0 : ((a : Int) % 4294967296) * 16777216 % 4294967296 = ((2 ^ 24 * a : Nat) : Int) := by omega
 have f1 : ((b : Int) % 4294967296) * 65536 % 4294967296 = ((2 ^ 16 * b : Nat) : Int) := by omega
 have f2 : ((c : Int) % 4294967296) * 256 % 4294967296 = ((2 ^ 8 * c : Nat) : Int) := by omega
 have f3 : (d : Int) % 4294967296 = (d : Int) := by omega
 rw [f0, f1, f2, f3, u32_or_nat _ _ (by omega) (by omega), ← Nat.two_pow_add_eq_or_of_lt (show 2 ^ 16 * b < 2 ^ 24 by omega) a,
  u32_or_nat _ _ (by omega) (by omega)]
 have g1 : 2 ^ 24 * a + 2 ^ 16 * b = 2 ^ 16 * (2 ^ 8 * a + b) := by omega
 rw [g1, ← Nat.two_pow_add_eq_or_of_lt (show 2 ^ 8 * c < 2 ^ 16 by omega) (2 ^ 8 * a + b), u32_or_nat _ _ (by omega) (by omega)]
 have g2 : 2 ^ 16 * (2 ^ 8 * a + b) + 2 ^ 8 * c = 2 ^ 8 * (2 ^ 16 * a + 2 ^ 8 * b + c) := by omega
 rw [g2, ← Nat.two_pow_add_eq_or_of_lt (show d < 2 ^ 8 by omega) (2 ^ 16 * a + 2 ^ 8 * b + c)]
 omega
theorem four_c (l : List UInt8) (k : Nat) (hk : k + 4 ≤ l.length) (hl : l.length ≤ 1099511627776) (A : Option Addr) (c : Nat) (hc : l.length ≤ c) (w : World) (h : Kd.C (Kd.int .u8) w A (ints l).length (ints l)) :
  Calls Tryz.prog 44 #[.slice A l.length c, .int .i64 (k : Int)] w fun e w' => e = .returned (.int .u32 ((be4 l k : Nat) : Int)) ∧ Dr w w' := by
 have := spec_four.calls A c (ints l) k _ w h (by rw [ints_length]; exact hc) (four_f l k hk hl)
 rw [ints_length] at this
 refine this.mono ?_
 rintro e w' ⟨rfl, ⟨n, rfl⟩⟩
 exact ⟨rfl, n, rfl⟩
theorem isKind_f (ct dp : Nat) : ∃ b, spec_IsKind.f (ct : Int) (dp : Int) = some b ∧ (b = true ↔ Kinds ct dp) := by
 unfold spec_IsKind.f Kinds
 by_cases h0 : ct = 0
 ·
  rw [if_pos (by omega)]
  by_cases h1 : dp = 1
  ·
   rw [if_pos (by omega)]; exact ⟨_, rfl, by simp; omega⟩
  ·
   rw [if_neg (by omega)]
   by_cases h2 : dp = 2
   ·
    rw [if_pos (by omega)]; exact ⟨_, rfl, by simp; omega⟩
   ·
    rw [if_neg (by omega)]
    by_cases h4 : dp = 4
    ·
     rw [if_pos (by omega)]; exact ⟨_, rfl, by simp; omega⟩
    ·
     rw [if_neg (by omega)]
     by_cases h8 : dp = 8
     ·
      rw [if_pos (by omega)]; exact ⟨_, rfl, by simp; omega⟩
     ·
      rw [if_neg (by omega)]; exact ⟨_, rfl, by simp; omega⟩
 ·
  rw [if_neg (by omega)]
  by_cases h3 : ct = 3
  ·
   rw [if_pos (by omega)]
   by_cases h1 : dp = 1
   ·
    rw [if_pos (by omega)]; exact ⟨_, rfl, by simp; omega⟩
   ·
    rw [if_neg (by omega)]
    by_cases h2 : dp = 2
    ·
     rw [if_pos (by omega)]; exact ⟨_, rfl, by simp; omega⟩
    ·
     rw [if_neg (by omega)]
     by_cases h4 : dp = 4
     ·
      rw [if_pos (by omega)]; exact ⟨_, rfl, by simp; omega⟩
     ·
      rw [if_neg (by omega)]; exact ⟨_, rfl, by simp; omega⟩
  ·
   rw [if_neg (by omega)]
   by_cases h2 : ct = 2
   ·
    rw [if_pos (by omega)]
    by_cases h8 : dp = 8
    ·
     rw [if_pos (by omega)]; exact ⟨_, rfl, by simp; omega⟩
    ·
     rw [if_neg (by omega)]; exact ⟨_, rfl, by simp; omega⟩
   ·
    rw [if_neg (by omega)]
    by_cases h4 : ct = 4
    ·
     rw [if_pos (by omega)]
     by_cases h8 : dp = 8
     ·
      rw [if_pos (by omega)]; exact ⟨_, rfl, by simp; omega⟩
     ·
      rw [if_neg (by omega)]; exact ⟨_, rfl, by simp; omega⟩
    ·
     rw [if_neg (by omega)]
     by_cases h6 : ct = 6
     ·
      rw [if_pos (by omega)]
      by_cases h8 : dp = 8
      ·
       rw [if_pos (by omega)]; exact ⟨_, rfl, by simp; omega⟩
      ·
       rw [if_neg (by omega)]; exact ⟨_, rfl, by simp; omega⟩
     ·
      rw [if_neg (by omega)]; exact ⟨_, rfl, by simp; omega⟩
end Go.Proofs.YtnpkgmgedgcjmaaGreatDoor
end
section
namespace Go.Proofs.YtnpkgmgedgcjmaaGreatDoor
open Go Go.RowKit Png Go.Proofs.YtnpkgmgedgcjmaaGreatDoorW.PrintWords Go.Proofs.YtnpkgmgedgcjmaaGreatDoorW.PrintMore Go.Proofs.YtnpkgmgedgcjmaaGreatDoor.Pr
def SmallP (l : List UInt8) : Prop := l.length ≤ 262144 ∧ (24 ≤ l.length → be4 l 16 ≤ 16384 ∧ be4 l 20 ≤ 16384 ∧ be4 l 16 * be4 l 20 ≤ 16384)
theorem small_x (n x y : Nat) (hx : x < 4294967296) (hy : y < 4294967296) : ∃ b, (if (wrap64 (x : Int)) ≤ 16384 then (if (wrap64 (y : Int)) ≤ 16384 then (some (decide ((wrap64 ((wrap64 (x : Int)) * (wrap64 (y : Int)))) ≤ 16384))) else (some false)) else (some false)) = some b ∧ (b = true ↔ x ≤ 16384 ∧ y ≤ 16384 ∧ x * y ≤ 16384) := by
 rw [wrap_nat x (by omega), wrap_nat y (by omega)]
 by_cases h3 : x ≤ 16384
 ·
  rw [if_pos (by omega)]
  by_cases h4 : y ≤ 16384
  ·
   rw [if_pos (by omega)]
   have hm : x * y ≤ 16384 * 16384 := Nat.mul_le_mul h3 h4
   rw [wrap_mulN x y (by omega)]
   refine ⟨_, rfl, ?_⟩
   rw [decide_eq_true_eq]
   exact ⟨fun h => ⟨h3, h4, by omega⟩, fun h => by omega⟩
  ·
   rw [if_neg (by omega)]
   exact ⟨false, rfl, ⟨fun h => (by cases h), fun h => absurd h.2.1 h4⟩⟩
 ·
  rw [if_neg (by omega)]
  exact ⟨false, rfl, ⟨fun h => (by cases h), fun h => absurd h.1 h3⟩⟩
theorem small_f (l : List UInt8) (hl : l.length ≤ 1099511627776) : ∃ b, spec_Small.f (ints l) = some b ∧ (b = true ↔ SmallP l) := by
 obtain ⟨n, hn⟩ : ∃ n, n = l.length := ⟨_, rfl⟩
 unfold spec_Small.f SmallP
 rw [ints_length, ← hn]
 by_cases h1 : n > 262144
 ·
  rw [if_pos (show (n : Int) > 262144 by omega)]
  exact ⟨false, rfl, ⟨fun h => (by cases h), fun h => absurd h.1 (Nat.not_le.2 h1)⟩⟩
 ·
  rw [if_neg (show ¬ (n : Int) > 262144 by omega)]
  by_cases h2 : n < 24
  ·
   rw [if_pos (show (n : Int) < 24 by omega)]
   exact ⟨true, rfl, fun _ => ⟨Nat.not_lt.1 h1, fun h => absurd h (Nat.not_le.2 h2)⟩, fun _ => rfl⟩
  ·
   rw [if_neg (show ¬ (n : Int) < 24 by omega)]
   have f1 := four_f l 16 (by omega) hl
   have f2 := four_f l 20 (by omega) hl
   rw [show ((16 : Nat) : Int) = 16 from rfl] at f1
   rw [show ((20 : Nat) : Int) = 20 from rfl] at f2
   have b1 := be4_lt l 16
   have b2 := be4_lt l 20
   rw [f1, f2]
   clear f1 f2
   rw [Option.bind_some, Option.bind_some]
   generalize be4 l 16 = x at b1 ⊢
   generalize be4 l 20 = y at b2 ⊢
   obtain ⟨b, hb, hi⟩ := small_x n x y b1 b2
   refine ⟨b, hb, hi.trans ⟨fun h => ⟨Nat.not_lt.1 h1, fun _ => h⟩, fun h => h.2 (Nat.not_lt.1 h2)⟩⟩
end Go.Proofs.YtnpkgmgedgcjmaaGreatDoor
end
