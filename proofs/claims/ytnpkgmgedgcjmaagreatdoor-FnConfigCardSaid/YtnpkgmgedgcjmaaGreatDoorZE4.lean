/- A part of the proof: E4, E5, E6. -/
import Derived.Test.YtnpkgmgedgcjmaaGreatDoorZE3
import Derived.Test.YtnpkgmgedgcjmaaGreatDoorZPx10
import Derived.Test.YtnpkgmgedgcjmaaGreatDoorZPx11
import Derived.Test.YtnpkgmgedgcjmaaGreatDoorZPx12
import Derived.Test.YtnpkgmgedgcjmaaGreatDoorZPx8
import Derived.Test.YtnpkgmgedgcjmaaGreatDoorZW6
set_option linter.all false
section
namespace Go.Proofs.YtnpkgmgedgcjmaaGreatDoor
open Go Go.RowKit Go.Proofs.YtnpkgmgedgcjmaaGreatDoorW.PrintWords Go.Proofs.YtnpkgmgedgcjmaaGreatDoorW.PrintMore Go.Proofs.YtnpkgmgedgcjmaaGreatDoor.Pr
theorem chan_f (c : Nat) : spec_Channels.f (c : Int) = some ((chan c : Nat) : Int) := by
 unfold spec_Channels.f chan
 by_cases h2 : c = 2
 ·
  rw [if_pos (by omega), if_pos h2]; rfl
 ·
  rw [if_neg (by omega), if_neg h2]
  by_cases h4 : c = 4
  ·
   rw [if_pos (by omega), if_pos h4]; rfl
  ·
   rw [if_neg (by omega), if_neg h4]
   by_cases h6 : c = 6
   ·
    rw [if_pos (by omega), if_pos h6]; rfl
   ·
    rw [if_neg (by omega), if_neg h6]; rfl
def cntP (X D W : Nat) : Nat := (W - X + (D - 1)) / D
theorem cntP_lt {X D W j : Nat} (hD : 1 ≤ D) : j < cntP X D W ↔ X + j * D < W := by
 unfold cntP
 rw [Nat.lt_iff_add_one_le, Nat.le_div_iff_mul_le (by omega), Nat.add_mul, Nat.one_mul]
 omega
theorem cntP_le {X D W : Nat} (hD : 1 ≤ D) : cntP X D W ≤ W := by
 rcases Nat.lt_or_ge W (cntP X D W) with h | h
 ·
  have := (cntP_lt hD).1 h
  have : W * 1 ≤ W * D := Nat.mul_le_mul_left _ hD
  omega
 ·
  exact h
def sizeM (X Y DX DY W H : Nat) : Nat × Nat := if cntP X DX W = 0 ∨ cntP Y DY H = 0 then (0, 0) else (cntP X DX W, cntP Y DY H)
section
variable {X Y DX DY W H : Nat}
theorem size_l1 (hX : X ≤ 8) (hY : Y ≤ 8) (hDX : 1 ≤ DX) (hDX2 : DX ≤ 8) (hDY : 1 ≤ DY) (hDY2 : DY ≤ 8) (hW : W ≤ 16384) (hH : H ≤ 16384) : ∀ d j : Nat, j + d = cntP Y DY H →
  Ev (fun k => spec_Part_Size.l1 k (H : Int) ((cntP X DX W : Nat) : Int) (j : Int) ((Y + j * DY : Nat) : Int) (X : Int) (Y : Int) (DX : Int) (DY : Int)) (((sizeM X Y DX DY W H).1 : Int), ((sizeM X Y DX DY W H).2 : Int)) := by
 intro d
 induction d with
 | zero =>
  intro j hj
  obtain rfl : j = cntP Y DY H := by omega
  have hn : ¬ Y + cntP Y DY H * DY < H := fun h => Nat.lt_irrefl _ ((cntP_lt hDY).2 h)
  refine Ev.step (f := fun _ => some (((sizeM X Y DX DY W H).1 : Int), ((sizeM X Y DX DY W H).2 : Int))) (fun k => ?_) (Ev.now _)
  simp only [spec_Part_Size.l1]
  rw [if_neg (by omega)]
  unfold sizeM
  by_cases h1 : cntP X DX W = 0
  ·
   rw [if_pos (by omega), if_pos (.inl h1)]; rfl
  ·
   rw [if_neg (by omega)]
   by_cases h2 : cntP Y DY H = 0
   ·
    rw [if_pos (by omega), if_pos (.inr h2)]; rfl
   ·
    rw [if_neg (by omega), if_neg (by omega)]
 | succ d ih =>
  intro j hj
  have hlt : Y + j * DY < H := (cntP_lt hDY).1 (by omega)
  have hle := cntP_le (X := Y) (W := H) hDY
  refine Ev.step (fun k => ?_) (ih (j + 1) (by omega))
  have e1 : wrap64 ((j : Int) + 1) = ((j + 1 : Nat) : Int) := by unfold wrap64; omega
  have e2 : wrap64 (((Y + j * DY : Nat) : Int) + (DY : Int)) = ((Y + (j + 1) * DY : Nat) : Int) := by
   rw [Nat.add_mul, Nat.one_mul]; unfold wrap64; omega
  simp only [spec_Part_Size.l1]
  rw [if_pos (Int.ofNat_lt.2 hlt), e1, e2]
theorem size_l0 (hX : X ≤ 8) (hY : Y ≤ 8) (hDX : 1 ≤ DX) (hDX2 : DX ≤ 8) (hDY : 1 ≤ DY) (hDY2 : DY ≤ 8) (hW : W ≤ 16384) (hH : H ≤ 16384) : ∀ d j : Nat, j + d = cntP X DX W →
  Ev (fun k => spec_Part_Size.l0 k (W : Int) (H : Int) (j : Int) 0 ((X + j * DX : Nat) : Int) (X : Int) (Y : Int) (DX : Int) (DY : Int)) (((sizeM X Y DX DY W H).1 : Int), ((sizeM X Y DX DY W H).2 : Int)) := by
 intro d
 induction d with
 | zero =>
  intro j hj
  obtain rfl : j = cntP X DX W := by omega
  have hn : ¬ X + cntP X DX W * DX < W := fun h => Nat.lt_irrefl _ ((cntP_lt hDX).2 h)
  refine Ev.step (fun k => ?_) (size_l1 hX hY hDX hDX2 hDY hDY2 hW hH (cntP Y DY H) 0 (by omega))
  simp only [spec_Part_Size.l0]
  rw [if_neg (by omega)]
  congr 1
  simp
 | succ d ih =>
  intro j hj
  have hlt : X + j * DX < W := (cntP_lt hDX).1 (by omega)
  have hle := cntP_le (X := X) (W := W) hDX
  refine Ev.step (fun k => ?_) (ih (j + 1) (by omega))
  have e1 : wrap64 ((j : Int) + 1) = ((j + 1 : Nat) : Int) := by unfold wrap64; omega
  have e2 : wrap64 (((X + j * DX : Nat) : Int) + (DX : Int)) = ((X + (j + 1) * DX : Nat) : Int) := by
   rw [Nat.add_mul, Nat.one_mul]; unfold wrap64; omega
  simp only [spec_Part_Size.l0]
  rw [if_pos (Int.ofNat_lt.2 hlt), e1, e2]
theorem size_ev (hX : X ≤ 8) (hY : Y ≤ 8) (hDX : 1 ≤ DX) (hDX2 : DX ≤ 8) (hDY : 1 ≤ DY) (hDY2 : DY ≤ 8) (hW : W ≤ 16384) (hH : H ≤ 16384) : Ev (fun k => spec_Part_Size.f k (X : Int) (Y : Int) (DX : Int) (DY : Int) (W : Int) (H : Int)) (((sizeM X Y DX DY W H).1 : Int), ((sizeM X Y DX DY W H).2 : Int)) := by
 have := size_l0 hX hY hDX hDX2 hDY hDY2 hW hH (cntP X DX W) 0 (by omega)
 refine Ev.congr (fun k => ?_) this
 unfold spec_Part_Size.f
 simp
end
theorem sizeM_facts {X Y DX DY W H : Nat} (hDX : 1 ≤ DX) (hDY : 1 ≤ DY) : (sizeM X Y DX DY W H).1 ≤ W ∧ (sizeM X Y DX DY W H).2 ≤ H ∧ ((sizeM X Y DX DY W H).2 = 0 ↔ (sizeM X Y DX DY W H).1 = 0) ∧
  (∀ x, x < (sizeM X Y DX DY W H).1 → X + x * DX < W) ∧ (∀ y, y < (sizeM X Y DX DY W H).2 → Y + y * DY < H) := by
 have h1 := cntP_le (X := X) (W := W) hDX
 have h2 := cntP_le (X := Y) (W := H) hDY
 unfold sizeM
 by_cases h : cntP X DX W = 0 ∨ cntP Y DY H = 0
 ·
  rw [if_pos h]; simp
 ·
  rw [if_neg h]
  simp only
  exact ⟨h1, h2, by omega, fun x hx => (cntP_lt hDX).1 hx, fun y hy => (cntP_lt hDY).1 hy⟩
def partSize (il : Bool) (p W H : Nat) : Nat × Nat := sizeM (partX il p) (partY il p) (partDX il p) (partDY il p) W H
def npass (il : Bool) : Nat := if il then 7 else 1
theorem passes_f (il : Bool) : spec_passes.f il = some ((npass il : Nat) : Int) := by cases il <;> rfl
theorem part_bounds (il : Bool) (p : Nat) (hp : p < npass il) : partX il p ≤ 8 ∧ partY il p ≤ 8 ∧ 1 ≤ partDX il p ∧ partDX il p ≤ 8 ∧ 1 ≤ partDY il p ∧ partDY il p ≤ 8 := by
 cases il
 ·
  simp [npass] at hp; subst hp; decide
 ·
  simp [npass] at hp
  have : p = 0 ∨ p = 1 ∨ p = 2 ∨ p = 3 ∨ p = 4 ∨ p = 5 ∨ p = 6 := by omega
  rcases this with rfl | rfl | rfl | rfl | rfl | rfl | rfl <;> decide
theorem partOf_f (il : Bool) (p : Nat) (hp : p < npass il) : spec_PartOf.f il (p : Int) = some ((partX il p : Int), (partY il p : Int), (partDX il p : Int), (partDY il p : Int)) := by
 cases il
 ·
  simp [npass] at hp; subst hp; rfl
 ·
  simp [npass] at hp
  have : p = 0 ∨ p = 1 ∨ p = 2 ∨ p = 3 ∨ p = 4 ∨ p = 5 ∨ p = 6 := by omega
  rcases this with rfl | rfl | rfl | rfl | rfl | rfl | rfl <;> rfl
theorem partSize_ev (il : Bool) (p W H : Nat) (hp : p < npass il) (hW : W ≤ 16384) (hH : H ≤ 16384) :
  Ev (fun k => spec_Part_Size.f k (partX il p : Int) (partY il p : Int) (partDX il p : Int) (partDY il p : Int) (W : Int) (H : Int)) (((partSize il p W H).1 : Int), ((partSize il p W H).2 : Int)) := by
 obtain ⟨h1, h2, h3, h4, h5, h6⟩ := part_bounds il p hp
 exact size_ev h1 h2 h3 h4 h5 h6 hW hH
def rowB (ct dp n : Nat) : Nat := (n * chan ct * dp + 7) / 8
theorem rowB_le {ct dp n : Nat} (hd : dp ≤ 16) (hn : n ≤ 16384) : n * chan ct ≤ 65536 ∧ n * chan ct * dp ≤ 1048576 ∧ rowB ct dp n ≤ 131072 ∧ rowB ct dp n ≤ 8 * n + 1 := by
 have hc := (chan_le ct).2
 have h1 : n * chan ct ≤ 65536 := Nat.le_trans (Nat.mul_le_mul hn hc) (by omega)
 have h2 : n * chan ct * dp ≤ 1048576 := Nat.le_trans (Nat.mul_le_mul h1 hd) (by omega)
 have h3 : n * chan ct * dp ≤ n * 4 * 16 := Nat.mul_le_mul (Nat.mul_le_mul_left _ hc) hd
 unfold rowB
 exact ⟨h1, h2, by omega, by omega⟩
theorem rowBytes_f (W H dp ct n : Nat) (il : Bool) (hd : dp ≤ 16) (hn : n ≤ 16384) : spec_rowBytes.f (W : Int) (H : Int) (dp : Int) (ct : Int) il (n : Int) = some ((rowB ct dp n : Nat) : Int) := by
 obtain ⟨h1, h2, _, _⟩ := rowB_le (ct := ct) hd hn
 unfold spec_rowBytes.f
 rw [chan_f]
 simp only [Option.bind_some]
 have e1 : wrap64 ((n : Int) * ((chan ct : Nat) : Int)) = ((n * chan ct : Nat) : Int) := by
  rw [← Int.natCast_mul]; exact wrap_nat _ (by omega)
 have e2 : wrap64 (((n * chan ct : Nat) : Int) * (dp : Int)) = ((n * chan ct * dp : Nat) : Int) := by
  rw [← Int.natCast_mul]; exact wrap_nat _ (by omega)
 rw [e1, e2]
 have e3 : wrap64 (((n * chan ct * dp : Nat) : Int) + 7) = ((n * chan ct * dp + 7 : Nat) : Int) := by
  have := wrap_nat (n * chan ct * dp + 7) (by omega)
  rwa [Int.natCast_add] at this
 rw [e3, tdiv8 _ (by omega)]
 rfl
def partNeed (W H dp ct : Nat) (il : Bool) (p : Nat) : Nat := (partSize il p W H).2 * (1 + rowB ct dp (partSize il p W H).1)
theorem partSize_le (il : Bool) (p W H : Nat) (hp : p < npass il) : (partSize il p W H).1 ≤ W ∧ (partSize il p W H).2 ≤ H := by
 obtain ⟨_, _, h3, _, h5, _⟩ := part_bounds il p hp
 have := sizeM_facts (X := partX il p) (Y := partY il p) (W := W) (H := H) h3 h5
 exact ⟨this.1, this.2.1⟩
theorem partNeed_le (W H dp ct : Nat) (il : Bool) (p : Nat) (hp : p < npass il) (hd : dp ≤ 16) (hW : W ≤ 16384) (hH : H ≤ 16384) (hWH : W * H ≤ 16384) : partNeed W H dp ct il p ≤ 163840 := by
 obtain ⟨h1, h2⟩ := partSize_le il p W H hp
 obtain ⟨_, _, _, h4⟩ := rowB_le (ct := ct) hd (Nat.le_trans h1 hW)
 unfold partNeed
 have h5 : (partSize il p W H).2 * (1 + rowB ct dp (partSize il p W H).1) ≤ H * (8 * W + 2) := Nat.mul_le_mul h2 (by omega)
 have h6 : H * (8 * W + 2) = 8 * (W * H) + 2 * H := by rw [Nat.mul_add, ← Nat.mul_assoc, Nat.mul_comm H 8, Nat.mul_assoc, Nat.mul_comm H W, Nat.mul_comm H 2]
 omega
theorem partNeed_ev (W H dp ct : Nat) (il : Bool) (p : Nat) (hp : p < npass il) (hd : dp ≤ 16) (hW : W ≤ 16384) (hH : H ≤ 16384) (hWH : W * H ≤ 16384) :
  Ev (fun k => spec_PartNeed.f k (W : Int) (H : Int) (dp : Int) (ct : Int) il (p : Int)) ((partNeed W H dp ct il p : Nat) : Int) := by
 obtain ⟨h1, h2⟩ := partSize_le il p W H hp
 have h3 := partNeed_le W H dp ct il p hp hd hW hH hWH
 refine Ev.congr (f := fun k => (spec_Part_Size.f k (partX il p : Int) (partY il p : Int) (partDX il p : Int) (partDY il p : Int) (W : Int) (H : Int)).bind fun bt379 => ((spec_rowBytes.f (W : Int) (H : Int) (dp : Int) (ct : Int) il bt379.1).bind fun t381 => (some (wrap64 (bt379.2 * (wrap64 (1 + t381)))))) ) (fun k => ?_) ?_
 ·
  unfold spec_PartNeed.f
  rw [partOf_f il p hp]
  rfl
 ·
  refine Ev.bind (partSize_ev il p W H hp hW hH) ?_
  refine Ev.congr (f := fun _ => some ((partNeed W H dp ct il p : Nat) : Int)) (fun k => ?_) (Ev.now _)
  simp only
  rw [rowBytes_f W H dp ct _ il hd (by omega)]
  simp only [Option.bind_some]
  obtain ⟨_, _, h4, _⟩ := rowB_le (ct := ct) hd (Nat.le_trans h1 hW)
  have e1 : wrap64 (1 + ((rowB ct dp (partSize il p W H).1 : Nat) : Int)) = ((1 + rowB ct dp (partSize il p W H).1 : Nat) : Int) := by
   have := wrap_nat (1 + rowB ct dp (partSize il p W H).1) (by omega)
   rwa [Int.natCast_add] at this
  rw [e1, ← Int.natCast_mul]
  rw [wrap_nat _ (by unfold partNeed at h3; omega)]
  rfl
def needTo (W H dp ct : Nat) (il : Bool) : Nat → Nat
 | 0 => 0
 | p + 1 => needTo W H dp ct il p + partNeed W H dp ct il p
def needM (W H dp ct : Nat) (il : Bool) : Nat := needTo W H dp ct il (npass il)
theorem needTo_le (W H dp ct : Nat) (il : Bool) (hd : dp ≤ 16) (hW : W ≤ 16384) (hH : H ≤ 16384) (hWH : W * H ≤ 16384) : ∀ p, p ≤ npass il → needTo W H dp ct il p ≤ 163840 * p := by
 intro p
 induction p with
 | zero => intro _; simp [needTo]
 | succ p ih =>
  intro hp
  have h1 := ih (by omega)
  have h2 := partNeed_le W H dp ct il p (by omega) hd hW hH hWH
  simp only [needTo]
  omega
theorem npass_le (il : Bool) : 1 ≤ npass il ∧ npass il ≤ 7 := by cases il <;> decide
theorem needM_le (W H dp ct : Nat) (il : Bool) (hd : dp ≤ 16) (hW : W ≤ 16384) (hH : H ≤ 16384) (hWH : W * H ≤ 16384) : needM W H dp ct il ≤ 1146880 := by
 have := needTo_le W H dp ct il hd hW hH hWH (npass il) (Nat.le_refl _)
 have := npass_le il
 unfold needM
 omega
theorem need_ev (W H dp ct : Nat) (il : Bool) (hd : dp ≤ 16) (hW : W ≤ 16384) (hH : H ≤ 16384) (hWH : W * H ≤ 16384) :
  Ev (fun k => spec_Need.f k (W : Int) (H : Int) (dp : Int) (ct : Int) il) ((needM W H dp ct il : Nat) : Int) := by
 have hnp := npass_le il
 have key : ∀ d p : Nat, p + d = npass il → Ev (fun k => spec_Need.l0 k ((needTo W H dp ct il p : Nat) : Int) ((npass il : Nat) : Int) (p : Int) (W : Int) (H : Int) (dp : Int) (ct : Int) il) ((needM W H dp ct il : Nat) : Int) := by
  intro d
  induction d with
  | zero =>
   intro p hp
   obtain rfl : p = npass il := by omega
   refine Ev.step (f := fun _ => some ((needM W H dp ct il : Nat) : Int)) (fun k => ?_) (Ev.now _)
   simp only [spec_Need.l0]
   rw [if_neg (by omega)]
   rfl
  | succ d ih =>
   intro p hp
   have h1 := needTo_le W H dp ct il hd hW hH hWH p (by omega)
   have h2 := partNeed_le W H dp ct il p (by omega) hd hW hH hWH
   refine Ev.step (f := fun k => (spec_PartNeed.f k (W : Int) (H : Int) (dp : Int) (ct : Int) il (p : Int)).bind fun t384 => (spec_Need.l0 k (wrap64 (((needTo W H dp ct il p : Nat) : Int) + t384)) ((npass il : Nat) : Int) (wrap64 ((p : Int) + 1)) (W : Int) (H : Int) (dp : Int) (ct : Int) il)) (fun k => ?_) ?_
   ·
    simp only [spec_Need.l0]
    rw [if_pos (by omega)]
   ·
    refine Ev.bind (partNeed_ev W H dp ct il p (by omega) hd hW hH hWH) ?_
    have e1 : wrap64 ((p : Int) + 1) = ((p + 1 : Nat) : Int) := by unfold wrap64; omega
    have e2 : wrap64 (((needTo W H dp ct il p : Nat) : Int) + ((partNeed W H dp ct il p : Nat) : Int)) = ((needTo W H dp ct il (p + 1) : Nat) : Int) := by
     simp only [needTo]
     have := wrap_nat (needTo W H dp ct il p + partNeed W H dp ct il p) (by omega)
     rwa [Int.natCast_add] at this
    simp only [e1, e2]
    exact ih (p + 1) (by omega)
 refine Ev.congr (fun k => ?_) (key (npass il) 0 (by omega))
 unfold spec_Need.f
 rw [passes_f]
 rfl
def stepM (ct dp : Nat) : Nat := max 1 (chan ct * dp / 8)
theorem stepM_le {ct dp : Nat} (hd : dp ≤ 16) : 1 ≤ stepM ct dp ∧ stepM ct dp ≤ 8 := by
 have h : chan ct * dp ≤ 64 := Nat.le_trans (Nat.mul_le_mul (chan_le ct).2 hd) (by omega)
 unfold stepM
 omega
theorem step_f (W H dp ct : Nat) (il : Bool) (hd : dp ≤ 16) : spec_step.f (W : Int) (H : Int) (dp : Int) (ct : Int) il = some ((stepM ct dp : Nat) : Int) := by
 have h : chan ct * dp ≤ 64 := Nat.le_trans (Nat.mul_le_mul (chan_le ct).2 hd) (by omega)
 unfold spec_step.f
 rw [chan_f]
 simp only [Option.bind_some]
 have e1 : wrap64 (((chan ct : Nat) : Int) * (dp : Int)) = ((chan ct * dp : Nat) : Int) := by rw [← Int.natCast_mul]; exact wrap_nat _ (by omega)
 rw [e1, tdiv8 _ (by omega)]
 unfold mx stepM
 congr 1
 split <;> omega
end Go.Proofs.YtnpkgmgedgcjmaaGreatDoor
end
section
namespace Go.Proofs.YtnpkgmgedgcjmaaGreatDoor
open Go Go.RowKit Go.Proofs.YtnpkgmgedgcjmaaGreatDoorW.PrintWords Go.Proofs.YtnpkgmgedgcjmaaGreatDoorW.PrintMore Go.Proofs.YtnpkgmgedgcjmaaGreatDoor.Pr
theorem tdivN (a b : Nat) (ha : a ≤ 9223372036854775807) : wrap64 (Int.tdiv (a : Int) (b : Int)) = ((a / b : Nat) : Int) := by
 have h : Int.tdiv (a : Int) (b : Int) = ((a / b : Nat) : Int) := by rw [Int.tdiv_eq_ediv_of_nonneg (by omega)]; simp
 rw [h]
 exact wrap_nat _ (Nat.le_trans (Nat.div_le_self a b) ha)
theorem tmodN (a b : Nat) : Int.tmod (a : Int) (b : Int) = ((a % b : Nat) : Int) := by rw [Int.tmod_eq_emod_of_nonneg (by omega)]; simp
def distI (x y : Int) : Int := if x - y < y - x then y - x else x - y
def paethI (a b c : Int) : Int :=
 if distI (a + b - c) a ≤ distI (a + b - c) b ∧ distI (a + b - c) a ≤ distI (a + b - c) c then a else if distI (a + b - c) b ≤ distI (a + b - c) c then b else c
theorem distance_f (x y : Int) (hx : -10000 ≤ x ∧ x ≤ 10000) (hy : -10000 ≤ y ∧ y ≤ 10000) : spec_distance.f x y = some (distI x y) := by
 unfold spec_distance.f mx distI
 rw [show wrap64 (x - y) = x - y by unfold wrap64; omega, show wrap64 (y - x) = y - x by unfold wrap64; omega]
theorem paeth_ev (a b c : Int) (ha : 0 ≤ a ∧ a < 256) (hb : 0 ≤ b ∧ b < 256) (hc : 0 ≤ c ∧ c < 256) : Ev (fun k => spec_Paeth.f k a b c) (paethI a b c) := by
 have e : wrap64 (wrap64 (a + b) - c) = a + b - c := by
  have : wrap64 (a + b) = a + b := by unfold wrap64; omega
  rw [this]; unfold wrap64; omega
 have d1 := distance_f (a + b - c) a (by omega) (by omega)
 have d2 := distance_f (a + b - c) b (by omega) (by omega)
 have d3 := distance_f (a + b - c) c (by omega) (by omega)
 by_cases h1 : distI (a + b - c) a ≤ distI (a + b - c) b
 ·
  refine Ev.congr (f := fun k => spec_Paeth.j0 k a b c (a + b - c) (decide (distI (a + b - c) a ≤ distI (a + b - c) c))) (fun k => ?_) ?_
  ·
   unfold spec_Paeth.f
   simp only [e, d1, d2, d3, Option.bind_some]
   rw [if_pos h1]
  ·
   refine Ev.step (f := fun _ => some (paethI a b c)) (fun k => ?_) (Ev.now _)
   simp only [spec_Paeth.j0, d2, d3, Option.bind_some]
   unfold paethI
   by_cases h2 : distI (a + b - c) a ≤ distI (a + b - c) c
   ·
    rw [if_pos (by simpa using h2), if_pos ⟨h1, h2⟩]
   ·
    have hn : ¬ (distI (a + b - c) a ≤ distI (a + b - c) b ∧ distI (a + b - c) a ≤ distI (a + b - c) c) := fun h => h2 h.2
    rw [if_neg hn, if_neg (by simpa using h2)]
    split <;> rfl
 ·
  refine Ev.congr (f := fun k => spec_Paeth.j0 k a b c (a + b - c) false) (fun k => ?_) ?_
  ·
   unfold spec_Paeth.f
   simp only [e, d1, d2, d3, Option.bind_some]
   rw [if_neg h1]
  ·
   refine Ev.step (f := fun _ => some (paethI a b c)) (fun k => ?_) (Ev.now _)
   simp only [spec_Paeth.j0, d2, d3, Option.bind_some]
   unfold paethI
   have hn : ¬ (distI (a + b - c) a ≤ distI (a + b - c) b ∧ distI (a + b - c) a ≤ distI (a + b - c) c) := fun h => h1 h.1
   rw [if_neg hn, if_neg (by decide)]
   split <;> rfl
def predI (kind : Int) (r a : List Int) (at_ st : Nat) : Int :=
 let l := if st ≤ at_ then r.getD (at_ - st) 0 else 0
 let u := a.getD at_ 0
 let c := if st ≤ at_ then a.getD (at_ - st) 0 else 0
 if kind = 1 then l else if kind = 2 then u else if kind = 3 then (l + u) / 2 else if kind = 4 then paethI l u c else 0
theorem pred_j0 (kind l u c : Int) (hl : 0 ≤ l ∧ l < 256) (hu : 0 ≤ u ∧ u < 256) (hc : 0 ≤ c ∧ c < 256) :
  Ev (fun k => spec_predicted.j0 k kind l u c) (if kind = 1 then l else if kind = 2 then u else if kind = 3 then (l + u) / 2 else if kind = 4 then paethI l u c else 0) := by
 by_cases h1 : kind = 1
 ·
  rw [if_pos h1]
  refine Ev.step (f := fun _ => some l) (fun k => ?_) (Ev.now _)
  simp only [spec_predicted.j0]
  rw [if_pos h1]
 ·
  rw [if_neg h1]
  by_cases h2 : kind = 2
  ·
   rw [if_pos h2]
   refine Ev.step (f := fun _ => some u) (fun k => ?_) (Ev.now _)
   simp only [spec_predicted.j0]
   rw [if_neg h1, if_pos h2]
  ·
   rw [if_neg h2]
   by_cases h3 : kind = 3
   ·
    rw [if_pos h3]
    refine Ev.step (f := fun _ => some ((l + u) / 2)) (fun k => ?_) (Ev.now _)
    simp only [spec_predicted.j0]
    rw [if_neg h1, if_neg h2, if_pos h3]
    have e : wrap64 (Int.tdiv (wrap64 (l + u)) 2) = (l + u) / 2 := by
     have : wrap64 (l + u) = l + u := by unfold wrap64; omega
     rw [this, Int.tdiv_eq_ediv_of_nonneg (by omega)]; unfold wrap64; omega
    rw [e]
   ·
    rw [if_neg h3]
    by_cases h4 : kind = 4
    ·
     rw [if_pos h4]
     refine Ev.step (f := fun k => (spec_Paeth.f k l u c).bind fun t396 => some t396) (fun k => ?_) ?_
     ·
      simp only [spec_predicted.j0]
      rw [if_neg h1, if_neg h2, if_neg h3, if_pos h4]
     ·
      exact Ev.bind (paeth_ev l u c hl hu hc) (Ev.now _)
    ·
     rw [if_neg h4]
     refine Ev.step (f := fun _ => some 0) (fun k => ?_) (Ev.now _)
     simp only [spec_predicted.j0]
     rw [if_neg h1, if_neg h2, if_neg h3, if_neg h4]
theorem rd_nat (l : List Int) (k : Nat) : rd l (k : Int) = l.getD k 0 := by unfold rd; rw [Int.toNat_natCast]
theorem pred_ev (kind : Int) (r a : List Int) (hr : Byt r) (ha : Byt a) (hla : r.length = a.length) (at_ st : Nat) (hat : at_ < a.length) (hst : st ≤ 64) (hn : a.length ≤ 1000000000) :
  Ev (fun k => spec_predicted.f k kind r a (at_ : Int) (st : Int)) (predI kind r a at_ st) := by
 have hu := ha at_
 have wu : wrap64 (a.getD at_ 0) = a.getD at_ 0 := by unfold wrap64; omega
 by_cases hs : st ≤ at_
 ·
  have e1 : wrap64 ((at_ : Int) - (st : Int)) = ((at_ - st : Nat) : Int) := by unfold wrap64; omega
  have hl := hr (at_ - st)
  have hc := ha (at_ - st)
  have wl : wrap64 (r.getD (at_ - st) 0) = r.getD (at_ - st) 0 := by unfold wrap64; omega
  have wc : wrap64 (a.getD (at_ - st) 0) = a.getD (at_ - st) 0 := by unfold wrap64; omega
  have hp : predI kind r a at_ st = (if kind = 1 then r.getD (at_ - st) 0 else if kind = 2 then a.getD at_ 0 else if kind = 3 then (r.getD (at_ - st) 0 + a.getD at_ 0) / 2 else if kind = 4 then paethI (r.getD (at_ - st) 0) (a.getD at_ 0) (a.getD (at_ - st) 0) else 0) := by
   unfold predI
   simp only [if_pos hs]
  rw [hp]
  refine Ev.congr (fun k => ?_) (pred_j0 kind (r.getD (at_ - st) 0) (a.getD at_ 0) (a.getD (at_ - st) 0) hl hu hc)
  unfold spec_predicted.f
  clear hp hl hc hu
  rw [if_pos (Int.natCast_nonneg _), if_pos (by omega), if_pos (by omega), e1, if_pos (Int.natCast_nonneg _), if_pos (by omega), if_pos (by omega), rd_nat, rd_nat, rd_nat, wu, wl, wc]
 ·
  have hp : predI kind r a at_ st = (if kind = 1 then 0 else if kind = 2 then a.getD at_ 0 else if kind = 3 then (0 + a.getD at_ 0) / 2 else if kind = 4 then paethI 0 (a.getD at_ 0) 0 else 0) := by
   unfold predI
   simp only [if_neg hs]
  rw [hp]
  refine Ev.congr (fun k => ?_) (pred_j0 kind 0 (a.getD at_ 0) 0 (by omega) hu (by omega))
  unfold spec_predicted.f
  clear hp hu
  rw [if_pos (Int.natCast_nonneg _), if_pos (by omega), if_neg (by omega), rd_nat, wu]
def unfTo (kind : Int) (row a : List Int) (st : Nat) : Nat → List Int
 | 0 => row
 | i + 1 => (unfTo kind row a st i).set i (((unfTo kind row a st i).getD i 0 + predI kind (unfTo kind row a st i) a i st % 256) % 256)
def unfM (kind : Int) (row a : List Int) (st : Nat) : List Int := unfTo kind row a st row.length
theorem unfTo_len (kind : Int) (row a : List Int) (st i : Nat) : (unfTo kind row a st i).length = row.length := by
 induction i with
 | zero => rfl
 | succ i ih => simp [unfTo, ih]
theorem Byt.set {l : List Int} (h : Byt l) (i : Nat) (x : Int) (hx : 0 ≤ x ∧ x < 256) : Byt (l.set i x) := fun k => by
 rw [List.getD_eq_getElem?_getD, List.getElem?_set]
 split
 ·
  split
  ·
   exact hx
  ·
   simp
 ·
  have := h k
  rwa [List.getD_eq_getElem?_getD] at this
theorem Byt.take {l : List Int} (h : Byt l) (n : Nat) : Byt (l.take n) := fun k => by
 rw [List.getD_eq_getElem?_getD, List.getElem?_take]
 split
 ·
  have := h k
  rwa [List.getD_eq_getElem?_getD] at this
 ·
  simp
theorem Byt.drop {l : List Int} (h : Byt l) (n : Nat) : Byt (l.drop n) := fun k => by
 rw [List.getD_eq_getElem?_getD, List.getElem?_drop]
 have := h (n + k)
 rwa [List.getD_eq_getElem?_getD] at this
theorem Byt.zeros (n : Nat) : Byt (List.replicate n 0) := fun k => by
 rw [List.getD_eq_getElem?_getD, List.getElem?_replicate]
 split <;> simp
theorem unfTo_byt (kind : Int) (row a : List Int) (st i : Nat) (h : Byt row) : Byt (unfTo kind row a st i) := by
 induction i with
 | zero => exact h
 | succ i ih => exact ih.set _ _ ⟨Int.emod_nonneg _ (by omega), Int.emod_lt_of_pos _ (by omega)⟩
theorem unf_ev (kind : Int) (row a : List Int) (hr : Byt row) (ha : Byt a) (hla : row.length = a.length) (st : Nat) (hst : st ≤ 64) (hn : a.length ≤ 1000000000) :
  Ev (fun k => spec_Unfiltered.f k kind row a (st : Int)) (unfM kind row a st) := by
 have key : ∀ d i : Nat, i + d = row.length → Ev (fun k => spec_Unfiltered.l0 k kind a (st : Int) (unfTo kind row a st i) (row.length : Int) (i : Int)) (unfM kind row a st) := by
  intro d
  induction d with
  | zero =>
   intro i hi
   obtain rfl : i = row.length := by omega
   refine Ev.step (f := fun _ => some (unfM kind row a st)) (fun k => ?_) (Ev.now _)
   simp only [spec_Unfiltered.l0]
   rw [if_neg (by omega)]
   rfl
  | succ d ih =>
   intro i hi
   have hlen := unfTo_len kind row a st i
   have hE := pred_ev kind (unfTo kind row a st i) a (unfTo_byt kind row a st i hr) ha (by rw [hlen, hla]) i st (by omega) hst hn
   refine Ev.step (f := fun k => (spec_predicted.f k kind (unfTo kind row a st i) a (i : Int) (st : Int)).bind fun t404 => (spec_Unfiltered.l0 k kind a (st : Int) ((unfTo kind row a st i).set i (((unfTo kind row a st i).getD i 0 + (t404 % 256)) % 256)) (row.length : Int) ((i + 1 : Nat) : Int))) (fun k => ?_) ?_
   ·
    have e1 : wrap64 ((i : Int) + 1) = ((i + 1 : Nat) : Int) := by unfold wrap64; omega
    simp only [spec_Unfiltered.l0]
    rw [if_pos (by omega), if_pos (by omega), if_pos (by rw [hlen]; omega), e1, rd_nat, Int.toNat_natCast]
   ·
    exact Ev.bind hE (ih (i + 1) (by omega))
 refine Ev.congr (fun k => ?_) (key row.length 0 (by omega))
 unfold spec_Unfiltered.f
 simp only [Option.bind_some, List.nil_append, List.length_nil, Nat.zero_add]
 rw [if_pos (by omega)]
 rfl
def sampAt (row : List Int) (dp k : Nat) : Nat :=
 if dp = 8 then (row.getD k 0).toNat else if dp = 16 then (row.getD (2 * k) 0).toNat * 256 + (row.getD (2 * k + 1) 0).toNat
 else (row.getD (k * dp / 8) 0).toNat / 2 ^ (8 - dp - k * dp % 8) % 2 ^ dp
theorem and_mask64 (a n : Nat) (ha : a < 9223372036854775808) (hn : n ≤ 32) : Go.bits .and .i64 (a : Int) ((2 ^ n - 1 : Nat) : Int) = ((a % 2 ^ n : Nat) : Int) := by
 have hp : 2 ^ n ≤ 2 ^ 32 := Nat.pow_le_pow_right (by decide) hn
 have h1 : (BitVec.ofInt 64 (a : Int)).toNat = a := by rw [BitVec.ofInt_natCast, BitVec.toNat_ofNat]; exact Nat.mod_eq_of_lt (by omega)
 have h2 : (BitVec.ofInt 64 ((2 ^ n - 1 : Nat) : Int)).toNat = 2 ^ n - 1 := by rw [BitVec.ofInt_natCast, BitVec.toNat_ofNat]; exact Nat.mod_eq_of_lt (by omega)
 show IntKind.i64.wrap ((BitVec.ofInt 64 (a : Int) &&& BitVec.ofInt 64 ((2 ^ n - 1 : Nat) : Int)).toNat : Int) = _
 rw [BitVec.toNat_and, h1, h2, Nat.and_two_pow_sub_one_eq_mod, IntKind.wrap_i64]
 have := Nat.mod_lt a (show 0 < 2 ^ n from Nat.two_pow_pos n)
 omega
theorem sampAt_lt (row : List Int) (hr : Byt row) (dp k : Nat) (hd : dp = 1 ∨ dp = 2 ∨ dp = 4 ∨ dp = 8 ∨ dp = 16) : sampAt row dp k < 2 ^ dp := by
 unfold sampAt
 have h1 := hr k
 have h2 := hr (2 * k)
 have h3 := hr (2 * k + 1)
 rcases hd with rfl | rfl | rfl | rfl | rfl
 ·
  rw [if_neg (by decide), if_neg (by decide)]; exact Nat.mod_lt _ (by decide)
 ·
  rw [if_neg (by decide), if_neg (by decide)]; exact Nat.mod_lt _ (by decide)
 ·
  rw [if_neg (by decide), if_neg (by decide)]; exact Nat.mod_lt _ (by decide)
 ·
  rw [if_pos rfl]; omega
 ·
  rw [if_neg (by decide), if_pos rfl]; omega
theorem or16 (x y : Int) (hx : 0 ≤ x ∧ x < 256) (hy : 0 ≤ y ∧ y < 256) : Go.bits .or .i64 (wrap64 (wrap64 x * 256)) (wrap64 y) = ((x.toNat * 256 + y.toNat : Nat) : Int) := by
 obtain ⟨a, rfl⟩ := Int.eq_ofNat_of_zero_le hx.1
 obtain ⟨b, rfl⟩ := Int.eq_ofNat_of_zero_le hy.1
 have ha : a < 256 := by omega
 have hb : b < 256 := by omega
 clear hx hy
 rw [wrap_nat a (by omega), wrap_nat b (by omega)]
 have e4 : wrap64 ((a : Int) * 256) = ((a * 256 : Nat) : Int) := wrap_mulN a 256 (by omega)
 rw [e4, or64 _ _ (by omega) (by omega), Int.toNat_natCast, Int.toNat_natCast]
 have := Nat.two_pow_add_eq_or_of_lt (show b < 2 ^ 8 by omega) a
 rw [show a * 256 = 2 ^ 8 * a by omega, ← this]
theorem bitsN (x : Int) (dp r : Nat) (hx : 0 ≤ x ∧ x < 256) (hd : dp = 1 ∨ dp = 2 ∨ dp = 4) (hr : r ≤ 8) :
  Go.bits .and .i64 (shr .i64 (wrap64 x) (r : Int)) (wrap64 (shl .i64 1 (dp : Int) - 1)) = ((x.toNat / 2 ^ r % 2 ^ dp : Nat) : Int) := by
 obtain ⟨a, rfl⟩ := Int.eq_ofNat_of_zero_le hx.1
 have ha : a < 256 := by omega
 clear hx
 rw [wrap_nat a (by omega)]
 have hsh : shr .i64 (a : Int) (r : Int) = ((a / 2 ^ r : Nat) : Int) := by
  unfold shr
  rw [Int.toNat_natCast, show min r IntKind.i64.bits = r from Nat.min_eq_left (by show _ ≤ 64; omega)]
  simp
 have hmk : wrap64 (shl .i64 1 (dp : Int) - 1) = ((2 ^ dp - 1 : Nat) : Int) := by
  rcases hd with rfl | rfl | rfl <;> kernel_rfl
 have hdd : a / 2 ^ r ≤ a := Nat.div_le_self _ _
 rw [hsh, hmk, and_mask64 _ dp (by omega) (by omega), Int.toNat_natCast]
theorem samp_s8 (row : List Int) (i m : Nat) (hr : Byt row) (hi : i < m) (hl : m ≤ row.length) (hn : m ≤ 65536) (out : List Int) (ho : out.length < 17592186044416) (k : Nat) :
  spec_samplesOf.l0 (k + 1) row 8 out (m : Int) (i : Int) = spec_samplesOf.l0 k row 8 (out ++ [(((row.getD i 0).toNat : Nat) : Int)]) (m : Int) ((i + 1 : Nat) : Int) := by
 have h1 := hr i
 obtain ⟨x, hx⟩ : ∃ x, x = row.getD i 0 := ⟨_, rfl⟩
 simp only [spec_samplesOf.l0]
 rw [if_pos (Int.ofNat_lt.2 hi), if_pos trivial, if_pos (Int.natCast_nonneg _), if_pos (Int.ofNat_lt.2 (by omega)), if_pos ho, rd_nat, wrap_succ _ (by omega), ← hx]
 rw [← hx] at h1
 clear hx
 have : wrap64 x = ((x.toNat : Nat) : Int) := by unfold wrap64; omega
 rw [this]
theorem samp_s16 (row : List Int) (i m : Nat) (hr : Byt row) (hi : i < m) (hl : 2 * m ≤ row.length) (hn : m ≤ 65536) (out : List Int) (ho : out.length < 17592186044416) (k : Nat) :
  spec_samplesOf.l0 (k + 1) row 16 out (m : Int) (i : Int) = spec_samplesOf.l0 k row 16 (out ++ [(((row.getD (2 * i) 0).toNat * 256 + (row.getD (2 * i + 1) 0).toNat : Nat) : Int)]) (m : Int) ((i + 1 : Nat) : Int) := by
 have e2 : wrap64 (2 * (i : Int)) = ((2 * i : Nat) : Int) := wrap_mulN 2 i (by omega)
 have e3 : wrap64 (((2 * i : Nat) : Int) + 1) = ((2 * i + 1 : Nat) : Int) := wrap_succ _ (by omega)
 have e4 := or16 _ _ (hr (2 * i)) (hr (2 * i + 1))
 simp only [spec_samplesOf.l0]
 rw [if_pos (Int.ofNat_lt.2 hi), if_neg (by decide), if_pos trivial, e2, if_pos (Int.natCast_nonneg _), if_pos (Int.ofNat_lt.2 (by omega)), e3, if_pos (Int.natCast_nonneg _), if_pos (Int.ofNat_lt.2 (by omega)), if_pos ho, rd_nat, rd_nat, wrap_succ i (by omega), e4]
theorem samp_sb (row : List Int) (dp i m : Nat) (hd : dp = 1 ∨ dp = 2 ∨ dp = 4) (hr : Byt row) (hi : i < m) (hl : row.length = (m * dp + 7) / 8) (hn : m ≤ 65536) (out : List Int) (ho : out.length < 17592186044416) (k : Nat) :
  spec_samplesOf.l0 (k + 1) row (dp : Int) out (m : Int) (i : Int) = spec_samplesOf.l0 k row (dp : Int) (out ++ [(((row.getD (i * dp / 8) 0).toNat / 2 ^ (8 - dp - i * dp % 8) % 2 ^ dp : Nat) : Int)]) (m : Int) ((i + 1 : Nat) : Int) := by
 have hid : i * dp ≤ 65536 * 4 := Nat.mul_le_mul (by omega) (by omega)
 have hmid : (i + 1) * dp ≤ m * dp := Nat.mul_le_mul_right _ (by omega)
 rw [Nat.add_mul, Nat.one_mul] at hmid
 have hr8 : i * dp % 8 + dp ≤ 8 := by
  rcases hd with rfl | rfl | rfl <;> omega
 have hil : i * dp / 8 < row.length := by
  rw [hl]
  rcases hd with rfl | rfl | rfl <;> omega
 have e2 : wrap64 ((i : Int) * (dp : Int)) = ((i * dp : Nat) : Int) := wrap_mulN i dp (by omega)
 have e5 : Int.tmod ((i * dp : Nat) : Int) 8 = ((i * dp % 8 : Nat) : Int) := tmodN (i * dp) 8
 have e6 : wrap64 (8 - (dp : Int)) = ((8 - dp : Nat) : Int) := wrap_subN 8 dp (by omega) (by omega)
 have e3 : wrap64 (((8 - dp : Nat) : Int) - ((i * dp % 8 : Nat) : Int)) = ((8 - dp - i * dp % 8 : Nat) : Int) := wrap_subN _ _ (by omega) (by omega)
 have e7 : wrap64 (Int.tdiv ((i * dp : Nat) : Int) 8) = ((i * dp / 8 : Nat) : Int) := tdivN (i * dp) 8 (by omega)
 have n8 : ¬ (dp : Int) = 8 := by rcases hd with rfl | rfl | rfl <;> decide
 have n16 : ¬ (dp : Int) = 16 := by rcases hd with rfl | rfl | rfl <;> decide
 have e4 := bitsN _ dp (8 - dp - i * dp % 8) (hr (i * dp / 8)) hd (Nat.le_trans (Nat.sub_le _ _) (Nat.sub_le _ _))
 simp only [spec_samplesOf.l0]
 rw [if_pos (Int.ofNat_lt.2 hi), if_neg n8, if_neg n16, e2, e7, e5, e6, e3, if_pos (Int.natCast_nonneg _), if_pos (Int.ofNat_lt.2 hil), if_pos (Int.natCast_nonneg _), if_pos (Int.natCast_nonneg _), if_pos ho, rd_nat, wrap_succ i (by omega), e4]
theorem samp_s (row : List Int) (hr : Byt row) (dp m : Nat) (hd : dp = 1 ∨ dp = 2 ∨ dp = 4 ∨ dp = 8 ∨ dp = 16) (hm : m ≤ 65536) (hl : row.length = (m * dp + 7) / 8) (i : Nat) (hi : i < m) (out : List Int) (ho : out.length < 17592186044416) (k : Nat) :
  spec_samplesOf.l0 (k + 1) row (dp : Int) out (m : Int) (i : Int) = spec_samplesOf.l0 k row (dp : Int) (out ++ [((sampAt row dp i : Nat) : Int)]) (m : Int) ((i + 1 : Nat) : Int) := by
 unfold sampAt
 rcases hd with rfl | rfl | rfl | rfl | rfl
 ·
  rw [if_neg (by decide), if_neg (by decide)]; exact samp_sb row 1 i m (.inl rfl) hr hi hl hm out ho k
 ·
  rw [if_neg (by decide), if_neg (by decide)]; exact samp_sb row 2 i m (.inr (.inl rfl)) hr hi hl hm out ho k
 ·
  rw [if_neg (by decide), if_neg (by decide)]; exact samp_sb row 4 i m (.inr (.inr rfl)) hr hi hl hm out ho k
 ·
  rw [if_pos rfl]; exact samp_s8 row i m hr hi (by omega) hm out ho k
 ·
  rw [if_neg (by decide), if_pos rfl]; exact samp_s16 row i m hr hi (by omega) hm out ho k
theorem samp_ev (row : List Int) (hr : Byt row) (dp m : Nat) (hd : dp = 1 ∨ dp = 2 ∨ dp = 4 ∨ dp = 8 ∨ dp = 16) (hm : m ≤ 65536) (hl : row.length = (m * dp + 7) / 8) :
  Ev (fun k => spec_samplesOf.f k row (m : Int) (dp : Int)) (nats ((List.range m).map (sampAt row dp))) := by
 have key : ∀ d i : Nat, i + d = m → Ev (fun k => spec_samplesOf.l0 k row (dp : Int) (nats ((List.range i).map (sampAt row dp))) (m : Int) (i : Int)) (nats ((List.range m).map (sampAt row dp))) := by
  intro d
  induction d with
  | zero =>
   intro i hi
   obtain rfl : i = m := by omega
   refine Ev.step (f := fun _ => some (nats ((List.range i).map (sampAt row dp)))) (fun k => ?_) (Ev.now _)
   simp only [spec_samplesOf.l0]
   rw [if_neg (by omega)]
  | succ d ih =>
   intro i hi
   refine Ev.step (fun k => ?_) (ih (i + 1) (by omega))
   have hap : nats ((List.range (i + 1)).map (sampAt row dp)) = nats ((List.range i).map (sampAt row dp)) ++ [((sampAt row dp i : Nat) : Int)] := by
    rw [List.range_succ, List.map_append, nats_append]; rfl
   rw [hap]
   exact samp_s row hr dp m hd hm hl i (by omega) _ (by rw [nats_length, List.length_map, List.length_range]; omega) k
 refine Ev.congr (fun k => ?_) (key m 0 (by omega))
 unfold spec_samplesOf.f
 rfl
def psM (data : List Int) (n m st dp : Nat) : Nat → Nat → List Int → List Nat → List Nat × Nat
 | 0, _, _, out => (out, 0)
 | d + 1, y, above, out =>
  if data.length < y * (n + 1) + 1 + n ∨ 4 < data.getD (y * (n + 1)) 0 then ([], 1)
  else psM data n m st dp d (y + 1) (unfM (data.getD (y * (n + 1)) 0) ((data.drop (y * (n + 1) + 1)).take n) above st) (out ++ (List.range m).map (sampAt (unfM (data.getD (y * (n + 1)) 0) ((data.drop (y * (n + 1) + 1)).take n) above st) dp))
theorem psM_facts (data : List Int) (hD : Byt data) (n m st dp : Nat) (hd : dp = 1 ∨ dp = 2 ∨ dp = 4 ∨ dp = 8 ∨ dp = 16) : ∀ d y above out, (∀ x ∈ out, x < 2 ^ dp) → (psM data n m st dp d y above out).2 ≤ 1 ∧ ((psM data n m st dp d y above out).2 = 0 → (psM data n m st dp d y above out).1.length = out.length + d * m ∧ (0 < d → (y + d) * (n + 1) ≤ data.length) ∧ ∀ x ∈ (psM data n m st dp d y above out).1, x < 2 ^ dp) := by
 intro d
 induction d with
 | zero => intro y above out ho; simp only [psM]; exact ⟨by omega, fun _ => ⟨by omega, fun h => absurd h (by omega), ho⟩⟩
 | succ d ih =>
  intro y above out ho
  simp only [psM]
  by_cases h : data.length < y * (n + 1) + 1 + n ∨ 4 < data.getD (y * (n + 1)) 0
  ·
   rw [if_pos h]; simp
  ·
   rw [if_neg h]
   have hrb : Byt (unfM (data.getD (y * (n + 1)) 0) ((data.drop (y * (n + 1) + 1)).take n) above st) := unfTo_byt _ _ _ _ _ ((hD.drop _).take _)
   obtain ⟨i1, i2⟩ := ih (y + 1) (unfM (data.getD (y * (n + 1)) 0) ((data.drop (y * (n + 1) + 1)).take n) above st) (out ++ (List.range m).map (sampAt (unfM (data.getD (y * (n + 1)) 0) ((data.drop (y * (n + 1) + 1)).take n) above st) dp)) (by
    intro x hx
    rcases List.mem_append.1 hx with hx | hx
    ·
     exact ho x hx
    ·
     obtain ⟨j, _, rfl⟩ := List.mem_map.1 hx
     exact sampAt_lt _ hrb dp j hd)
   refine ⟨i1, fun h0 => ?_⟩
   obtain ⟨a, b, c⟩ := i2 h0
   refine ⟨?_, fun _ => ?_, c⟩
   ·
    rw [a]; simp [Nat.add_mul]; omega
   ·
    rcases Nat.eq_zero_or_pos d with h0 | h0
    ·
     subst h0; rw [Nat.add_mul]; omega
    ·
     have := b h0
     rw [show y + (d + 1) = y + 1 + d by omega]
     exact this
def partSamples (W H dp ct : Nat) (il : Bool) (p : Nat) (data : List Int) : List Nat × Nat :=
 psM data (rowB ct dp (partSize il p W H).1) ((partSize il p W H).1 * chan ct) (stepM ct dp) dp (partSize il p W H).2 0 (List.replicate (rowB ct dp (partSize il p W H).1) 0) []
theorem part_wraps (y n at_ : Nat) (hat : at_ = y * (n + 1)) (hb : at_ + 1 + n ≤ 9223372036854775807) :
  wrap64 ((n : Int) + 1) = ((n + 1 : Nat) : Int) ∧ wrap64 ((y : Int) * ((n + 1 : Nat) : Int)) = ((at_ : Nat) : Int) ∧ wrap64 ((at_ : Int) + 1) = ((at_ + 1 : Nat) : Int) ∧ wrap64 (((at_ + 1 : Nat) : Int) + (n : Int)) = ((at_ + 1 + n : Nat) : Int) := by
 refine ⟨wrap_succ n (by omega), ?_, wrap_succ at_ (by omega), wrap_add _ _ (by omega)⟩
 rw [wrap_mulN y (n + 1) (by omega), hat]
theorem part_bad (data : List Int) (w n : Nat) (above : List Int) (out : List Int) (h y : Nat) (W H dp ct : Int) (il : Bool) (hy : y < h) (hb1 : y * (n + 1) + 1 + n ≤ 9223372036854775807)
  (hbad : data.length < y * (n + 1) + 1 + n ∨ 4 < data.getD (y * (n + 1)) 0) (hdl : data.length ≤ 1000000000) :
  Ev (fun k => spec_PartSamples.l0 k data (w : Int) (n : Int) above out (h : Int) (y : Int) W H dp ct il) (([] : List Int), (1 : Int)) := by
 obtain ⟨at_, hat⟩ : ∃ at_, at_ = y * (n + 1) := ⟨_, rfl⟩
 rw [← hat] at hbad hb1
 obtain ⟨e0, e1, e3, e4⟩ := part_wraps y n at_ hat hb1
 clear hat
 have hj : Ev (fun k => spec_PartSamples.j1 k data (w : Int) (n : Int) above out (at_ : Int) (h : Int) (y : Int) true W H dp ct il) (([] : List Int), (1 : Int)) := by
  refine Ev.step (f := fun _ => some (([] : List Int), (1 : Int))) (fun k => ?_) (Ev.now _)
  simp only [spec_PartSamples.j1]
  rw [if_pos trivial]
 refine Ev.step (fun k => ?_) hj
 simp only [spec_PartSamples.l0]
 rw [if_pos (Int.ofNat_lt.2 hy), e0, e1, e3, e4]
 by_cases hsh : data.length < at_ + 1 + n
 ·
  rw [if_pos (Int.ofNat_lt.2 hsh)]
 ·
  have hc : ¬ ((at_ + 1 + n : Nat) : Int) > (data.length : Int) := fun hh => hsh (Int.ofNat_lt.1 hh)
  have h4 : data.getD at_ 0 > 4 := by rcases hbad with hh | hh; exact absurd hh hsh; exact hh
  rw [if_neg hc, if_pos (Int.natCast_nonneg _), if_pos (Int.ofNat_lt.2 (by omega)), rd_nat, decide_eq_true h4]
theorem part_row (data : List Int) (hD : Byt data) (w n : Nat) (above u : List Int) (out news : List Int) (h y W H dp ct st : Nat) (il : Bool) (hdp : dp ≤ 16) (hst : stepM ct dp = st) (hw : w ≤ 16384) (hy : y < h) (hh : h ≤ 16384) (hb1 : y * (n + 1) + 1 + n ≤ data.length)
  (h4 : ¬ 4 < data.getD (y * (n + 1)) 0) (hdl : data.length ≤ 1000000000) (hout : out.length + news.length < 17592186044416) (hch : w * chan ct ≤ 65536)
  (E1 : Ev (fun k => spec_Unfiltered.f k (data.getD (y * (n + 1)) 0) ((data.drop (y * (n + 1) + 1)).take n) above (st : Int)) u)
  (E2 : Ev (fun k => spec_samplesOf.f k u ((w * chan ct : Nat) : Int) (dp : Int)) news) {r : List Int × Int}
  (E3 : Ev (fun k => spec_PartSamples.l0 k data (w : Int) (n : Int) u (out ++ news) (h : Int) ((y + 1 : Nat) : Int) (W : Int) (H : Int) (dp : Int) (ct : Int) il) r) :
  Ev (fun k => spec_PartSamples.l0 k data (w : Int) (n : Int) above out (h : Int) (y : Int) (W : Int) (H : Int) (dp : Int) (ct : Int) il) r := by
 obtain ⟨at_, hat⟩ : ∃ at_, at_ = y * (n + 1) := ⟨_, rfl⟩
 rw [← hat] at h4 hb1 E1
 have hb := hD at_
 obtain ⟨kd, hkd⟩ : ∃ kd, kd = data.getD at_ 0 := ⟨_, rfl⟩
 rw [← hkd] at E1 h4 hb
 have Hkd := Lib.hid hkd
 clear hkd
 have hwk : wrap64 kd = kd := by clear hat hb1; unfold wrap64; omega
 have g1 : at_ < data.length := by omega
 have hc : ¬ ((at_ + 1 + n : Nat) : Int) > (data.length : Int) := by omega
 have hrow : (data.take (at_ + 1 + n)).drop (at_ + 1) = (data.drop (at_ + 1)).take n := by rw [List.drop_take]; congr 1; omega
 have e5 : wrap64 ((y : Int) + 1) = ((y + 1 : Nat) : Int) := wrap_succ y (by omega)
 obtain ⟨e0, e1, e3, e4⟩ := part_wraps y n at_ hat (by omega)
 have e6 : wrap64 ((w : Int) * ((chan ct : Nat) : Int)) = ((w * chan ct : Nat) : Int) := wrap_mulN w (chan ct) (Nat.le_trans hch (by decide))
 have g2 : at_ + 1 ≤ at_ + 1 + n := Nat.le_add_right _ _
 have hkd := Hkd.out
 clear hat
 have hj : Ev (fun k => spec_PartSamples.j1 k data (w : Int) (n : Int) above out (at_ : Int) (h : Int) (y : Int) false (W : Int) (H : Int) (dp : Int) (ct : Int) il) r := by
  refine Ev.step (f := fun k => (spec_Unfiltered.f k kd ((data.drop (at_ + 1)).take n) above (st : Int)).bind fun t440 => (spec_samplesOf.f k t440 ((w * chan ct : Nat) : Int) (dp : Int)).bind fun t444 => (if out.length + t444.length < 17592186044416 then (spec_PartSamples.l0 k data (w : Int) (n : Int) t440 (out ++ t444) (h : Int) ((y + 1 : Nat) : Int) (W : Int) (H : Int) (dp : Int) (ct : Int) il) else none)) (fun k => ?_) ?_
  ·
   simp only [spec_PartSamples.j1]
   rw [if_neg (by decide), if_pos (Int.natCast_nonneg _), if_pos (Int.ofNat_lt.2 g1), e3, if_pos (Int.natCast_nonneg _), e4, if_pos (Int.ofNat_le.2 g2), if_pos (Int.ofNat_le.2 hb1), step_f W H dp ct il hdp, chan_f, rd_nat, ← hkd, hwk, Int.toNat_natCast, Int.toNat_natCast, hrow, e5, hst]
   simp only [Option.bind_some, e6]
  ·
   refine Ev.bind E1 (Ev.bind E2 ?_)
   refine Ev.congr (fun k => ?_) E3
   exact if_pos hout
 refine Ev.step (fun k => ?_) hj
 simp only [spec_PartSamples.l0]
 rw [if_pos (Int.ofNat_lt.2 hy), e0, e1, e3, e4, if_neg hc, if_pos (Int.natCast_nonneg _), if_pos (Int.ofNat_lt.2 g1), rd_nat, ← hkd, decide_eq_false h4]
theorem ps_ev (data : List Int) (hD : Byt data) (W H dp ct : Nat) (il : Bool) (w h n st : Nat) (hd : dp = 1 ∨ dp = 2 ∨ dp = 4 ∨ dp = 8 ∨ dp = 16) (hst : stepM ct dp = st) (hst2 : st ≤ 64) (hw : w ≤ 16384) (hh : h ≤ 16384) (hch : w * chan ct ≤ 65536) (hn : n ≤ 131072) (hdl : data.length ≤ 1000000000)
  (hnm : n = (w * chan ct * dp + 7) / 8) : ∀ d y above out, y + d = h → above.length = n → Byt above → out.length = y * (w * chan ct) →
  Ev (fun k => spec_PartSamples.l0 k data (w : Int) (n : Int) above (nats out) (h : Int) (y : Int) (W : Int) (H : Int) (dp : Int) (ct : Int) il) (nats (psM data n (w * chan ct) st dp d y above out).1, (((psM data n (w * chan ct) st dp d y above out).2 : Nat) : Int)) := by
 intro d
 induction d with
 | zero =>
  intro y above out hy _ _ _
  refine Ev.step (f := fun _ => some (nats out, ((0 : Nat) : Int))) (fun k => ?_) (Ev.now _)
  simp only [spec_PartSamples.l0]
  rw [if_neg (by omega)]
  rfl
 | succ d ih =>
  intro y above out hy hal hab hol
  have hyn : y * (n + 1) ≤ 16384 * 131073 := Nat.mul_le_mul (by omega) (by omega)
  have hom : y * (w * chan ct) ≤ 16384 * 65536 := Nat.mul_le_mul (by omega) hch
  simp only [psM]
  by_cases hbad : data.length < y * (n + 1) + 1 + n ∨ 4 < data.getD (y * (n + 1)) 0
  ·
   rw [if_pos hbad]
   exact part_bad data w n above (nats out) h y _ _ _ _ il (by omega) (by omega) hbad hdl
  ·
   rw [if_neg hbad]
   have hg1 : y * (n + 1) + 1 + n ≤ data.length := by
    rcases Nat.lt_or_ge data.length (y * (n + 1) + 1 + n) with hh | hh
    ·
     exact absurd (.inl hh) hbad
    ·
     exact hh
   have hg2 : ¬ 4 < data.getD (y * (n + 1)) 0 := fun hh => hbad (.inr hh)
   clear hbad
   have hrl : ((data.drop (y * (n + 1) + 1)).take n).length = n := by rw [List.length_take, List.length_drop]; omega
   have hrb : Byt ((data.drop (y * (n + 1) + 1)).take n) := (hD.drop _).take _
   have hub : Byt (unfM (data.getD (y * (n + 1)) 0) ((data.drop (y * (n + 1) + 1)).take n) above st) := unfTo_byt _ _ _ _ _ hrb
   have hul : (unfM (data.getD (y * (n + 1)) 0) ((data.drop (y * (n + 1) + 1)).take n) above st).length = n := by unfold unfM; rw [unfTo_len]; exact hrl
   have E1 := unf_ev (data.getD (y * (n + 1)) 0) _ above hrb hab (by rw [hrl, hal]) st hst2 (by rw [hal]; omega)
   generalize unfM (data.getD (y * (n + 1)) 0) ((data.drop (y * (n + 1) + 1)).take n) above st = u at hub hul E1 ⊢
   have E2 := samp_ev u hub dp (w * chan ct) hd hch (by rw [hul, hnm])
   have E3 := ih (y + 1) u (out ++ (List.range (w * chan ct)).map (sampAt u dp)) (by omega) hul hub (by rw [List.length_append, List.length_map, List.length_range, hol, Nat.add_mul, Nat.one_mul])
   rw [nats_append] at E3
   exact part_row data hD w n above u (nats out) _ h y W H dp ct st il (by omega) hst hw (by omega) hh hg1 hg2 hdl (by rw [nats_length, nats_length, List.length_map, List.length_range]; omega) hch E1 E2 E3
theorem part_ev (W H dp ct : Nat) (il : Bool) (p : Nat) (data : List Int) (hD : Byt data) (hp : p < npass il) (hd : dp = 1 ∨ dp = 2 ∨ dp = 4 ∨ dp = 8 ∨ dp = 16) (hW : W ≤ 16384) (hH : H ≤ 16384) (hdl : data.length ≤ 1000000000) :
  Ev (fun k => spec_PartSamples.f k (W : Int) (H : Int) (dp : Int) (ct : Int) il (p : Int) data) (nats (partSamples W H dp ct il p data).1, (((partSamples W H dp ct il p data).2 : Nat) : Int)) := by
 have hd16 : dp ≤ 16 := by omega
 obtain ⟨s1, s2⟩ := partSize_le il p W H hp
 have hE := partSize_ev il p W H hp hW hH
 unfold partSamples
 generalize partSize il p W H = wh at s1 s2 hE ⊢
 obtain ⟨w, h⟩ := wh
 simp only at s1 s2 hE ⊢
 obtain ⟨b1, b2, b3, b4⟩ := rowB_le (ct := ct) hd16 (show w ≤ 16384 by omega)
 have hstep := stepM_le (ct := ct) hd16
 have hfn := rowBytes_f W H dp ct w il hd16 (by omega)
 have hnm : rowB ct dp w = (w * chan ct * dp + 7) / 8 := rfl
 generalize rowB ct dp w = n at b3 b4 hfn hnm ⊢
 have key := ps_ev data hD W H dp ct il w h n (stepM ct dp) hd rfl (by omega) (by omega) (by omega) b1 (by omega) hdl hnm h 0 (List.replicate n 0) [] (by omega) (by simp) (Byt.zeros n) (by simp)
 refine Ev.congr (f := fun k => (spec_Part_Size.f k (partX il p : Int) (partY il p : Int) (partDX il p : Int) (partDY il p : Int) (W : Int) (H : Int)).bind fun bt427 => ((spec_rowBytes.f (W : Int) (H : Int) (dp : Int) (ct : Int) il bt427.1).bind fun t429 => (if 0 ≤ t429 then (if (t429 : Int).toNat ≤ 281474976710656 then (spec_PartSamples.l0 k data bt427.1 t429 (List.replicate (t429 : Int).toNat 0) (([] : List Int)) bt427.2 0 (W : Int) (H : Int) (dp : Int) (ct : Int) il) else (none)) else (none)))) (fun k => ?_) ?_
 ·
  unfold spec_PartSamples.f
  rw [partOf_f il p hp]
  rfl
 ·
  refine Ev.bind hE ?_
  refine Ev.congr (fun k => ?_) key
  simp only [hfn, Option.bind_some]
  rw [if_pos (Int.natCast_nonneg _), Int.toNat_natCast, if_pos (by omega)]
  rfl
end Go.Proofs.YtnpkgmgedgcjmaaGreatDoor
end
section
namespace Go.Proofs.YtnpkgmgedgcjmaaGreatDoor
open Go Go.RowKit Go.Proofs.YtnpkgmgedgcjmaaGreatDoorW.PrintWords Go.Proofs.YtnpkgmgedgcjmaaGreatDoorW.PrintMore Go.Proofs.YtnpkgmgedgcjmaaGreatDoor.Pr
def scatIx (W c w X Y DX DY i : Nat) : Nat := ((Y + i / c / max w 1 * DY) * W + (X + i / c % max w 1 * DX)) * c + i % c
def scatTo (W c w X Y DX DY : Nat) (list out : List Nat) : Nat → List Nat
 | 0 => out
 | i + 1 => (scatTo W c w X Y DX DY list out i).set (scatIx W c w X Y DX DY i) (list.getD i 0)
theorem scatTo_len (W c w X Y DX DY : Nat) (list out : List Nat) (i : Nat) : (scatTo W c w X Y DX DY list out i).length = out.length := by
 induction i with
 | zero => rfl
 | succ i ih => simp [scatTo, ih]
def scatM (W H ct : Nat) (il : Bool) (p : Nat) (list out : List Nat) : List Nat :=
 scatTo W (chan ct) (partSize il p W H).1 (partX il p) (partY il p) (partDX il p) (partDY il p) list out list.length
def samM (W H dp ct : Nat) (il : Bool) : Nat → Nat → List Int → List Nat → List Nat × Nat
 | 0, _, _, out => (out, 0)
 | d + 1, p, data, out =>
  if (partSamples W H dp ct il p data).2 = 0 then samM W H dp ct il d (p + 1) (data.drop (partNeed W H dp ct il p)) (scatM W H ct il p (partSamples W H dp ct il p data).1 out)
  else ([], (partSamples W H dp ct il p data).2)
def samplesM (W H dp ct : Nat) (il : Bool) (data : List Int) : List Nat × Nat := samM W H dp ct il (npass il) 0 data (List.replicate (W * H * chan ct) 0)
theorem nats_zeros (n : Nat) : nats (List.replicate n 0) = List.replicate n 0 := by simp [nats]
theorem scat_ix_lt {W H c w h X Y DX DY i : Nat} (hc : 1 ≤ c) (hi : i < h * w * c) (hx : ∀ x, x < w → X + x * DX < W) (hy : ∀ y, y < h → Y + y * DY < H) :
  i / c / max w 1 < h ∧ i / c % max w 1 < w ∧ Y + i / c / max w 1 * DY < H ∧ X + i / c % max w 1 * DX < W ∧ scatIx W c w X Y DX DY i < H * W * c := by
 have hw : 0 < w := by
  rcases Nat.eq_zero_or_pos w with h0 | h0
  ·
   subst h0; simp at hi
  ·
   exact h0
 have hm : max w 1 = w := by omega
 rw [hm]
 have h1 : i / c < h * w := (Nat.div_lt_iff_lt_mul (by omega)).2 hi
 have h2 : i / c / w < h := (Nat.div_lt_iff_lt_mul hw).2 h1
 have h3 : i / c % w < w := Nat.mod_lt _ hw
 have h4 := hy _ h2
 have h5 := hx _ h3
 refine ⟨h2, h3, h4, h5, ?_⟩
 unfold scatIx
 rw [hm]
 obtain ⟨a, ha⟩ : ∃ a, a = Y + i / c / w * DY := ⟨_, rfl⟩
 obtain ⟨b, hb⟩ : ∃ b, b = X + i / c % w * DX := ⟨_, rfl⟩
 rw [← ha] at h4 ⊢
 rw [← hb] at h5 ⊢
 have h6 : i % c < c := Nat.mod_lt _ (by omega)
 have h7 : (a + 1) * W ≤ H * W := Nat.mul_le_mul_right _ h4
 rw [Nat.add_mul, Nat.one_mul] at h7
 have h8 : (a * W + b + 1) * c ≤ H * W * c := Nat.mul_le_mul_right _ (by omega)
 rw [Nat.add_mul, Nat.one_mul] at h8
 omega
theorem scat_num (W c w X Y DX DY i : Nat) (hc : c ≤ 4) (hi : i ≤ 1152921504606846976) (hW : W ≤ 16384) (hyy : Y + i / c / max w 1 * DY ≤ 16384) (hxx : X + i / c % max w 1 * DX ≤ 16384) (hm : i % c ≤ 4) :
  wrap64 ((wrap64 ((wrap64 ((wrap64 ((wrap64 ((Y : Int) + (wrap64 ((wrap64 (Int.tdiv (wrap64 (Int.tdiv (i : Int) (c : Int))) ((max w 1 : Nat) : Int))) * (DY : Int))))) * (W : Int))) + (wrap64 ((X : Int) + (wrap64 ((Int.tmod (wrap64 (Int.tdiv (i : Int) (c : Int))) ((max w 1 : Nat) : Int)) * (DX : Int))))))) * (c : Int))) + (Int.tmod (i : Int) (c : Int))) = ((scatIx W c w X Y DX DY i : Nat) : Int) := by
 unfold scatIx
 have hq : i / c ≤ i := Nat.div_le_self _ _
 rw [tdivN i c (by omega), tmodN i c]
 generalize i % c = z at hm ⊢
 generalize i / c = q at hq hyy hxx ⊢
 generalize max w 1 = m at hyy hxx ⊢
 rw [tdivN q m (by omega), tmodN q m]
 generalize q / m = y at hyy ⊢
 generalize q % m = x at hxx ⊢
 clear hq
 have by1 : y * DY ≤ 16384 := by omega
 have bx1 : x * DX ≤ 16384 := by omega
 rw [wrap_mulN y DY (by omega), wrap_mulN x DX (by omega)]
 generalize y * DY = yd at hyy by1 ⊢
 generalize x * DX = xd at hxx bx1 ⊢
 rw [wrap_add Y yd (by omega), wrap_add X xd (by omega)]
 generalize Y + yd = a at hyy ⊢
 generalize X + xd = b at hxx ⊢
 clear by1 bx1
 have haW : a * W ≤ 16384 * 16384 := Nat.mul_le_mul hyy hW
 rw [wrap_mulN a W (by omega)]
 generalize a * W = e at haW ⊢
 rw [wrap_add e b (by omega)]
 have hec : (e + b) * c ≤ (16384 * 16384 + 16384) * 4 := Nat.mul_le_mul (by omega) hc
 rw [wrap_mulN (e + b) c (by omega)]
 generalize (e + b) * c = f at hec ⊢
 exact wrap_add f z (by omega)
theorem mx_max (w : Nat) : mx (w : Int) 1 = ((max w 1 : Nat) : Int) := by unfold mx; split <;> omega
theorem scat_step (W c w X Y DX DY i H np p : Nat) (dp ct : Int) (il : Bool) (data out list : List Int) (hc : 1 ≤ c ∧ c ≤ 4) (hi : i < list.length) (hll : list.length ≤ 1152921504606846976) (hW : W ≤ 16384) (hyy : Y + i / c / max w 1 * DY ≤ 16384) (hxx : X + i / c % max w 1 * DX ≤ 16384)
  (hix : scatIx W c w X Y DX DY i < out.length) (k : Nat) :
  spec_Samples.l1 (k + 1) data (c : Int) out (w : Int) (np : Int) (p : Int) list (list.length : Int) (i : Int) (W : Int) (H : Int) dp ct il (X : Int) (Y : Int) (DX : Int) (DY : Int) =
   spec_Samples.l1 k data (c : Int) (out.set (scatIx W c w X Y DX DY i) (rd list (i : Int))) (w : Int) (np : Int) (p : Int) list (list.length : Int) ((i + 1 : Nat) : Int) (W : Int) (H : Int) dp ct il (X : Int) (Y : Int) (DX : Int) (DY : Int) := by
 have hn := scat_num W c w X Y DX DY i hc.2 (by omega) hW hyy hxx (Nat.le_trans (Nat.le_of_lt (Nat.mod_lt _ (by omega))) hc.2)
 have n1 : ¬ (c : Int) = 0 := by have := hc.1; clear hn hix; omega
 have n2 : ¬ ((max w 1 : Nat) : Int) = 0 := by clear hn hix hyy hxx; omega
 simp only [spec_Samples.l1]
 rw [if_pos (Int.ofNat_lt.2 hi), if_pos (Int.natCast_nonneg _), if_pos (Int.ofNat_lt.2 hi), if_neg n1, mx_max, if_neg n2, hn, if_pos (Int.natCast_nonneg _), if_pos (Int.ofNat_lt.2 hix), Int.toNat_natCast, wrap_succ i (by clear hn; omega)]
theorem scat_go {r : List Int × Int} (W c w h X Y DX DY H np p : Nat) (dp ct : Int) (il : Bool) (data : List Int) (list out : List Nat) (hc : 1 ≤ c ∧ c ≤ 4) (hW : W ≤ 16384) (hH : H ≤ 16384) (hol : out.length = W * H * c) (hll : list.length = h * (w * c)) (hlb : list.length ≤ 1152921504606846976) (hp : p ≤ 7)
  (hsx : ∀ x, x < w → X + x * DX < W) (hsy : ∀ y, y < h → Y + y * DY < H)
  (hE : Ev (fun k => spec_Samples.l0 k data (c : Int) (nats (scatTo W c w X Y DX DY list out list.length)) (np : Int) ((p + 1 : Nat) : Int) (W : Int) (H : Int) dp ct il) r) :
  Ev (fun k => spec_Samples.l1 k data (c : Int) (nats out) (w : Int) (np : Int) (p : Int) (nats list) (list.length : Int) 0 (W : Int) (H : Int) dp ct il (X : Int) (Y : Int) (DX : Int) (DY : Int)) r := by
 have key : ∀ d i : Nat, i + d = list.length → Ev (fun k => spec_Samples.l1 k data (c : Int) (nats (scatTo W c w X Y DX DY list out i)) (w : Int) (np : Int) (p : Int) (nats list) (list.length : Int) (i : Int) (W : Int) (H : Int) dp ct il (X : Int) (Y : Int) (DX : Int) (DY : Int)) r := by
  intro d
  induction d with
  | zero =>
   intro i hi
   obtain rfl : i = list.length := by omega
   refine Ev.step (fun k => ?_) hE
   simp only [spec_Samples.l1]
   rw [if_neg (Int.lt_irrefl _), wrap_succ p (by omega)]
  | succ d ih =>
   intro i hi
   refine Ev.step (fun k => ?_) (ih (i + 1) (by omega))
   have hil : i < h * w * c := by rw [Nat.mul_assoc, ← hll]; omega
   obtain ⟨k1, k2, k3, k4, k5⟩ := scat_ix_lt hc.1 hil hsx hsy
   have hlen := scatTo_len W c w X Y DX DY list out i
   have := scat_step W c w X Y DX DY i H np p dp ct il data (nats (scatTo W c w X Y DX DY list out i)) (nats list) hc (by rw [nats_length]; omega) (by rw [nats_length]; exact hlb) hW (by omega) (by omega) (by rw [nats_length, hlen, hol, Nat.mul_comm W H]; exact k5) k
   rw [nats_length] at this
   rw [this, rd_nats, nats_set]
   rfl
 exact key list.length 0 (by omega)
theorem scat_ev {r : List Int × Int} (W H dp ct : Nat) (il : Bool) (p : Nat) (data : List Int) (list out : List Nat) (hp : p < npass il) (hW : W ≤ 16384) (hH : H ≤ 16384) (hol : out.length = W * H * chan ct) (hll : list.length = (partSize il p W H).2 * ((partSize il p W H).1 * chan ct))
  (h : Ev (fun k => spec_Samples.l0 k data ((chan ct : Nat) : Int) (nats (scatM W H ct il p list out)) ((npass il : Nat) : Int) ((p + 1 : Nat) : Int) (W : Int) (H : Int) (dp : Int) (ct : Int) il) r) :
  Ev (fun k => spec_Samples.l1 k data ((chan ct : Nat) : Int) (nats out) (((partSize il p W H).1 : Nat) : Int) ((npass il : Nat) : Int) (p : Int) (nats list) (list.length : Int) 0 (W : Int) (H : Int) (dp : Int) (ct : Int) il (partX il p : Int) (partY il p : Int) (partDX il p : Int) (partDY il p : Int)) r := by
 obtain ⟨a1, a2, a3, a4, a5, a6⟩ := part_bounds il p hp
 have hcl := chan_le ct
 have hnp := npass_le il
 obtain ⟨s1, s2⟩ := partSize_le il p W H hp
 have hsf := sizeM_facts (X := partX il p) (Y := partY il p) (W := W) (H := H) a3 a5
 have hsx : ∀ x, x < (partSize il p W H).1 → partX il p + x * partDX il p < W := hsf.2.2.2.1
 have hsy : ∀ y, y < (partSize il p W H).2 → partY il p + y * partDY il p < H := hsf.2.2.2.2
 unfold scatM at h
 refine scat_go W (chan ct) (partSize il p W H).1 (partSize il p W H).2 _ _ _ _ H (npass il) p _ _ il data list out hcl hW hH hol hll ?_ (by omega) hsx hsy h
 rw [hll]
 exact Nat.le_trans (Nat.mul_le_mul (Nat.le_trans s2 hH) (Nat.mul_le_mul (Nat.le_trans s1 hW) hcl.2)) (by decide)
theorem partSamples_facts (W H dp ct : Nat) (il : Bool) (p : Nat) (data : List Int) (hD : Byt data) (hd : dp = 1 ∨ dp = 2 ∨ dp = 4 ∨ dp = 8 ∨ dp = 16) : (partSamples W H dp ct il p data).2 ≤ 1 ∧ ((partSamples W H dp ct il p data).2 = 0 → (partSamples W H dp ct il p data).1.length = (partSize il p W H).2 * ((partSize il p W H).1 * chan ct) ∧
  (0 < (partSize il p W H).2 → (partSize il p W H).2 * (rowB ct dp (partSize il p W H).1 + 1) ≤ data.length) ∧ ∀ x ∈ (partSamples W H dp ct il p data).1, x < 2 ^ dp) := by
 unfold partSamples
 have := psM_facts data hD (rowB ct dp (partSize il p W H).1) ((partSize il p W H).1 * chan ct) (stepM ct dp) dp hd (partSize il p W H).2 0 (List.replicate (rowB ct dp (partSize il p W H).1) 0) [] (fun x h => by cases h)
 rw [List.length_nil, Nat.zero_add, Nat.zero_add] at this
 exact this
theorem samples_ev (W H dp ct : Nat) (il : Bool) (data : List Int) (hD : Byt data) (hd : dp = 1 ∨ dp = 2 ∨ dp = 4 ∨ dp = 8 ∨ dp = 16) (hW : W ≤ 16384) (hH : H ≤ 16384) (hWH : W * H ≤ 16384) (hdl : data.length ≤ 1000000000) :
  Ev (fun k => spec_Samples.f k (W : Int) (H : Int) (dp : Int) (ct : Int) il data) (nats (samplesM W H dp ct il data).1, (((samplesM W H dp ct il data).2 : Nat) : Int)) := by
 have hcl := chan_le ct
 have hnp := npass_le il
 have hd16 : dp ≤ 16 := by omega
 have key : ∀ d p : Nat, ∀ (data : List Int) (out : List Nat), p + d = npass il → Byt data → data.length ≤ 1000000000 → out.length = W * H * chan ct →
   Ev (fun k => spec_Samples.l0 k data ((chan ct : Nat) : Int) (nats out) ((npass il : Nat) : Int) (p : Int) (W : Int) (H : Int) (dp : Int) (ct : Int) il) (nats (samM W H dp ct il d p data out).1, (((samM W H dp ct il d p data out).2 : Nat) : Int)) := by
  intro d
  induction d with
  | zero =>
   intro p data out hp _ _ _
   refine Ev.step (f := fun _ => some (nats out, ((0 : Nat) : Int))) (fun k => ?_) (Ev.now _)
   simp only [spec_Samples.l0]
   rw [if_neg (by omega)]
   rfl
  | succ d ih =>
   intro p data out hp hD hdl hol
   have E1 := part_ev W H dp ct il p data hD (by omega) hd hW hH hdl
   obtain ⟨hf1, hf2⟩ := partSamples_facts W H dp ct il p data hD hd
   simp only [samM]
   refine Ev.step (f := fun k => (spec_PartSamples.f k (W : Int) (H : Int) (dp : Int) (ct : Int) il (p : Int) data).bind fun bt461 => (if bt461.2 = 0 then ((spec_PartNeed.f k (W : Int) (H : Int) (dp : Int) (ct : Int) il (p : Int)).bind fun t465 => (if 0 ≤ t465 then (if t465 ≤ (data.length : Int) then ((spec_Part_Size.f k (partX il p : Int) (partY il p : Int) (partDX il p : Int) (partDY il p : Int) (W : Int) (H : Int)).bind fun bt471 => (spec_Samples.l1 k (data.drop (t465 : Int).toNat) ((chan ct : Nat) : Int) (nats out) bt471.1 ((npass il : Nat) : Int) (p : Int) bt461.1 (bt461.1.length : Int) 0 (W : Int) (H : Int) (dp : Int) (ct : Int) il (partX il p : Int) (partY il p : Int) (partDX il p : Int) (partDY il p : Int))) else (none)) else (none))) else (some (([] : List Int), bt461.2)))) (fun k => ?_) ?_
   ·
    simp only [spec_Samples.l0]
    rw [if_pos (Int.ofNat_lt.2 (by omega)), partOf_f il p (by omega), Option.bind_some]
   ·
    refine Ev.bind E1 ?_
    by_cases h0 : (partSamples W H dp ct il p data).2 = 0
    ·
     rw [if_pos h0]
     obtain ⟨g1, g2, g3⟩ := hf2 h0
     have E2 := partNeed_ev W H dp ct il p (by omega) hd16 hW hH hWH
     have E3 := partSize_ev il p W H (by omega) hW hH
     have hneed : partNeed W H dp ct il p ≤ data.length := by
      unfold partNeed
      rcases Nat.eq_zero_or_pos (partSize il p W H).2 with hz | hz
      ·
       rw [hz]; omega
      ·
       have := g2 hz
       rw [Nat.add_comm _ 1] at this
       exact this
     refine Ev.congr (f := fun k => (spec_PartNeed.f k (W : Int) (H : Int) (dp : Int) (ct : Int) il (p : Int)).bind fun t465 => (if 0 ≤ t465 then (if t465 ≤ (data.length : Int) then ((spec_Part_Size.f k (partX il p : Int) (partY il p : Int) (partDX il p : Int) (partDY il p : Int) (W : Int) (H : Int)).bind fun bt471 => (spec_Samples.l1 k (data.drop (t465 : Int).toNat) ((chan ct : Nat) : Int) (nats out) bt471.1 ((npass il : Nat) : Int) (p : Int) (nats (partSamples W H dp ct il p data).1) ((nats (partSamples W H dp ct il p data).1).length : Int) 0 (W : Int) (H : Int) (dp : Int) (ct : Int) il (partX il p : Int) (partY il p : Int) (partDX il p : Int) (partDY il p : Int))) else (none)) else (none))) (fun k => ?_) ?_
     ·
      rw [show (((partSamples W H dp ct il p data).2 : Nat) : Int) = 0 by rw [h0]; rfl]
      exact if_pos rfl
     ·
      refine Ev.bind E2 ?_
      refine Ev.congr (f := fun k => (spec_Part_Size.f k (partX il p : Int) (partY il p : Int) (partDX il p : Int) (partDY il p : Int) (W : Int) (H : Int)).bind fun bt471 => (spec_Samples.l1 k (data.drop (partNeed W H dp ct il p)) ((chan ct : Nat) : Int) (nats out) bt471.1 ((npass il : Nat) : Int) (p : Int) (nats (partSamples W H dp ct il p data).1) ((partSamples W H dp ct il p data).1.length : Int) 0 (W : Int) (H : Int) (dp : Int) (ct : Int) il (partX il p : Int) (partY il p : Int) (partDX il p : Int) (partDY il p : Int))) (fun k => ?_) ?_
      ·
       rw [if_pos (Int.natCast_nonneg _), if_pos (Int.ofNat_le.2 hneed), Int.toNat_natCast, nats_length]
      ·
       refine Ev.bind E3 ?_
       refine scat_ev W H dp ct il p (data.drop (partNeed W H dp ct il p)) (partSamples W H dp ct il p data).1 out (by omega) hW hH hol g1 ?_
       refine ih (p + 1) (data.drop (partNeed W H dp ct il p)) _ (by omega) (hD.drop _) (by simp; omega) ?_
       unfold scatM
       rw [scatTo_len]
       exact hol
    ·
     rw [if_neg h0]
     refine Ev.congr (f := fun _ => some (([] : List Int), (((partSamples W H dp ct il p data).2 : Nat) : Int))) (fun k => ?_) (Ev.now _)
     exact if_neg (fun h => h0 (Int.ofNat_inj.1 h))
 have e1 : wrap64 ((W : Int) * (H : Int)) = ((W * H : Nat) : Int) := wrap_mulN W H (by omega)
 have hWHc : W * H * chan ct ≤ 65536 := Nat.le_trans (Nat.mul_le_mul hWH hcl.2) (by omega)
 have e2 : wrap64 (((W * H : Nat) : Int) * ((chan ct : Nat) : Int)) = ((W * H * chan ct : Nat) : Int) := wrap_mulN _ _ (by omega)
 refine Ev.congr (fun k => ?_) (key (npass il) 0 data (List.replicate (W * H * chan ct) 0) (by omega) hD hdl (by simp))
 unfold spec_Samples.f
 rw [chan_f, Option.bind_some, e1, e2, if_pos (Int.natCast_nonneg _), Int.toNat_natCast, if_pos (Nat.le_trans hWHc (by decide)), passes_f, Option.bind_some, nats_zeros]
 rfl
end Go.Proofs.YtnpkgmgedgcjmaaGreatDoor
end
