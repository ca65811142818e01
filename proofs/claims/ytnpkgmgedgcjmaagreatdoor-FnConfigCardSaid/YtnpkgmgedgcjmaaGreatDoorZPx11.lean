/- A part of the proof: Px11. -/
import Derived.Test.YtnpkgmgedgcjmaaGreatDoorZPx0
import Derived.Test.YtnpkgmgedgcjmaaGreatDoorZPx10
import Derived.Test.YtnpkgmgedgcjmaaGreatDoorZPx7
import Derived.Test.YtnpkgmgedgcjmaaGreatDoorZPx8
set_option linter.all false
set_option maxRecDepth 100000
section
namespace Go.Proofs.YtnpkgmgedgcjmaaGreatDoor.Pr
open Go.RowKit Go.Proofs.YtnpkgmgedgcjmaaGreatDoorW.PrintWords Go.Proofs.YtnpkgmgedgcjmaaGreatDoorW.PrintLast Go.Proofs.YtnpkgmgedgcjmaaGreatDoorW.PrintMore
attribute [local go_sem] max2_int max_two
mutual
def spec_PartSamples.l0 : Nat → List Int → Int → Int → List Int → List Int → Int → Int → Int → Int → Int → Int → Bool → Option (List Int × Int)
 | 0, _, _, _, _, _, _, _, _, _, _, _, _ => none
 | k + 1, x2, x8, x10, x11, x12, x33, x34, x423000, x423001, x423002, x423003, x423004 => if x34 < x33 then (if (wrap64 ((wrap64 ((wrap64 (x34 * (wrap64 (x10 + 1)))) + 1)) + x10)) > (x2.length : Int) then (spec_PartSamples.j1 k x2 x8 x10 x11 x12 (wrap64 (x34 * (wrap64 (x10 + 1)))) x33 x34 true x423000 x423001 x423002 x423003 x423004) else (if 0 ≤ (wrap64 (x34 * (wrap64 (x10 + 1)))) then (if (wrap64 (x34 * (wrap64 (x10 + 1)))) < (x2.length : Int) then (spec_PartSamples.j1 k x2 x8 x10 x11 x12 (wrap64 (x34 * (wrap64 (x10 + 1)))) x33 x34 (decide ((rd x2 (wrap64 (x34 * (wrap64 (x10 + 1))))) > 4)) x423000 x423001 x423002 x423003 x423004) else (none)) else (none))) else (some (x12, 0))
def spec_PartSamples.j1 : Nat → List Int → Int → Int → List Int → List Int → Int → Int → Int → Bool → Int → Int → Int → Int → Bool → Option (List Int × Int)
 | 0, _, _, _, _, _, _, _, _, _, _, _, _, _, _ => none
 | k + 1, x2, x8, x10, x11, x12, x14, x33, x34, x54, x423000, x423001, x423002, x423003, x423004 => if x54 = true then (some (([] : List Int), 1)) else (if 0 ≤ x14 then (if x14 < (x2.length : Int) then (if 0 ≤ (wrap64 (x14 + 1)) then (if (wrap64 (x14 + 1)) ≤ (wrap64 ((wrap64 (x14 + 1)) + x10)) then (if (wrap64 ((wrap64 (x14 + 1)) + x10)) ≤ (x2.length : Int) then ((spec_step.f x423000 x423001 x423002 x423003 x423004).bind fun t439 => ((spec_Unfiltered.f k (wrap64 (rd x2 x14)) ((x2.take ((wrap64 ((wrap64 (x14 + 1)) + x10)) : Int).toNat).drop ((wrap64 (x14 + 1)) : Int).toNat) x11 t439).bind fun t440 => ((spec_Channels.f x423003).bind fun t443 => ((spec_samplesOf.f k t440 (wrap64 (x8 * t443)) x423002).bind fun t444 => (if x12.length + t444.length < 17592186044416 then (spec_PartSamples.l0 k x2 x8 x10 t440 (x12 ++ t444) x33 (wrap64 (x34 + 1)) x423000 x423001 x423002 x423003 x423004) else (none)))))) else (none)) else (none)) else (none)) else (none)) else (none))
end
def spec_PartSamples.f (k : Nat) (a0_0 : Int) (a0_1 : Int) (a0_2 : Int) (a0_3 : Int) (a0_4 : Bool) (a1 : Int) (l2 : List Int) : Option (List Int × Int) := (spec_PartOf.f a0_4 a1).bind fun bt423 => ((spec_Part_Size.f k bt423.1 bt423.2.1 bt423.2.2.1 bt423.2.2.2 a0_0 a0_1).bind fun bt427 => ((spec_rowBytes.f a0_0 a0_1 a0_2 a0_3 a0_4 bt427.1).bind fun t429 => (if 0 ≤ t429 then (if (t429 : Int).toNat ≤ 281474976710656 then (spec_PartSamples.l0 k l2 bt427.1 t429 (List.replicate (t429 : Int).toNat 0) (([] : List Int)) bt427.2 0 a0_0 a0_1 a0_2 a0_3 a0_4) else (none)) else (none))))
def spec_PartSamples.T1 : Bool × List (List Nat × List Nat) := (true, [([], []), ([0], [0]), ([], []), ([1, 2], [1, 2]), ([], []), ([4], [4]), ([], []), ([6], [6]), ([3, 5, 7, 3], [3, 5, 7]), ([8], [8]), ([9], [9]), ([9], [9]), ([10, 8, 0, 1, 2, 3, 4, 5, 6, 7, 8, 9, 10], [10]), ([11, 12, 0, 1, 2, 3, 4, 5, 6, 7, 8, 9, 10, 11, 12], [11])])
def spec_PartSamples.B1 : List Nat := [0, 1, 0, 7, 0, 16, 0, 64, 255, 511, 1023, 1023, 2047, 8191]
theorem spec_PartSamples.tab1 : rtab .any (opsOf Tryz.f105 1) = spec_PartSamples.T1 := by kernel_rfl
theorem spec_PartSamples.bits1 : waitsOk spec_PartSamples.T1.2 spec_PartSamples.B1 = true := by kernel_rfl
def spec_PartSamples.T11 : Bool × List (List Nat × List Nat) := (true, [([], []), ([], []), ([0, 1], [0, 1]), ([2], [2]), ([3], [3]), ([], []), ([], []), ([6], [6]), ([], []), ([8], [8]), ([], []), ([9, 10], [9, 10]), ([5, 7, 11], [5, 7, 11]), ([], []), ([], []), ([14], [14]), ([4, 12, 13, 15, 15], [4, 12, 13, 15]), ([16, 16, 0, 1, 2, 3, 4, 5, 6, 7, 8, 9, 10, 11, 12, 13, 14, 15, 16], [13, 16])])
def spec_PartSamples.B11 : List Nat := [0, 0, 3, 7, 15, 0, 0, 64, 0, 256, 0, 1792, 4064, 0, 0, 16384, 65535, 131071]
theorem spec_PartSamples.tab11 : rtab .any (opsOf Tryz.f105 11) = spec_PartSamples.T11 := by kernel_rfl
theorem spec_PartSamples.bits11 : waitsOk spec_PartSamples.T11.2 spec_PartSamples.B11 = true := by kernel_rfl
def spec_PartSamples.T12 : Bool × List (List Nat × List Nat) := (true, [([], []), ([], []), ([], []), ([], []), ([3], [3]), ([4], [4]), ([2, 5], [2, 5]), ([], []), ([7], [7]), ([1, 6, 8, 5], [1, 6, 8]), ([0, 9, 9], [0, 9]), ([10, 10, 0, 1, 2, 3, 4, 5, 6, 7, 8, 9, 10], [0, 10])])
def spec_PartSamples.B12 : List Nat := [0, 0, 0, 0, 8, 24, 60, 0, 128, 510, 1023, 2047]
theorem spec_PartSamples.tab12 : rtab .any (opsOf Tryz.f105 12) = spec_PartSamples.T12 := by kernel_rfl
theorem spec_PartSamples.bits12 : waitsOk spec_PartSamples.T12.2 spec_PartSamples.B12 = true := by kernel_rfl
set_option maxHeartbeats 8000000 in
theorem spec_PartSamples.calls (k : Nat) (a0_0 : Int) (a0_1 : Int) (a0_2 : Int) (a0_3 : Int) (a0_4 : Bool) (a1 : Int) (A2 : Option Addr) (c2 : Nat) (l2 : List Int) (r1 : List Int) (r2 : Int) (w : World) (hr2 : Kd.C (Kd.int .u8) w A2 l2.length l2) (hc2 : l2.length ≤ c2) (h : spec_PartSamples.f k a0_0 a0_1 a0_2 a0_3 a0_4 a1 l2 = some (r1, r2)) :
  Calls Tryz.prog 105 #[.agg #[.int .i64 a0_0, .int .i64 a0_1, .int .i64 a0_2, .int .i64 a0_3, .bool a0_4], .int .i64 a1, .slice A2 l2.length c2] w fun e w' => ∃ v0_ : Value, e = .returned (.tuple #[v0_, .int .i64 r2]) ∧ Kd.R (Kd.int .i64) 3 w' w.heap.size (fun _ => True) v0_ r1 ∧ Below w.heap.size w w' := by
 have hu26 := Tryz.underlying26
 have HR2 := Aside0.mk hr2
 have HC2 := Aside0.mk hc2
 clear hr2 hc2
 have HB := Aside0.mk (Below.refl w.heap.size w)
 have H : ((spec_PartOf.f a0_4 a1).bind fun bt423 => ((spec_Part_Size.f k bt423.1 bt423.2.1 bt423.2.2.1 bt423.2.2.2 a0_0 a0_1).bind fun bt427 => ((spec_rowBytes.f a0_0 a0_1 a0_2 a0_3 a0_4 bt427.1).bind fun t429 => (if 0 ≤ t429 then (if (t429 : Int).toNat ≤ 281474976710656 then (spec_PartSamples.l0 k l2 bt427.1 t429 (List.replicate (t429 : Int).toNat 0) (([] : List Int)) bt427.2 0 a0_0 a0_1 a0_2 a0_3 a0_4) else (none)) else (none))))) = some (r1, r2) := h
 clear h
 replace H := Option.bind_eq_some_iff.mp H
 obtain ⟨⟨t423, t424, t425, t426⟩, A40, H⟩ := H
 replace H : ((spec_Part_Size.f k t423 t424 t425 t426 a0_0 a0_1).bind fun bt427 => ((spec_rowBytes.f a0_0 a0_1 a0_2 a0_3 a0_4 bt427.1).bind fun t429 => (if 0 ≤ t429 then (if (t429 : Int).toNat ≤ 281474976710656 then (spec_PartSamples.l0 k l2 bt427.1 t429 (List.replicate (t429 : Int).toNat 0) (([] : List Int)) bt427.2 0 a0_0 a0_1 a0_2 a0_3 a0_4) else (none)) else (none)))) = some (r1, r2) := H
 have A4 := Aside0.mk A40
 clear A40
 replace H := Option.bind_eq_some_iff.mp H
 obtain ⟨⟨t427, t428⟩, A50, H⟩ := H
 replace H : ((spec_rowBytes.f a0_0 a0_1 a0_2 a0_3 a0_4 t427).bind fun t429 => (if 0 ≤ t429 then (if (t429 : Int).toNat ≤ 281474976710656 then (spec_PartSamples.l0 k l2 t427 t429 (List.replicate (t429 : Int).toNat 0) (([] : List Int)) t428 0 a0_0 a0_1 a0_2 a0_3 a0_4) else (none)) else (none))) = some (r1, r2) := H
 have A5 := Aside0.mk A50
 clear A50
 replace H := Option.bind_eq_some_iff.mp H
 obtain ⟨t429, A60, H⟩ := H
 replace H : (if 0 ≤ t429 then (if (t429 : Int).toNat ≤ 281474976710656 then (spec_PartSamples.l0 k l2 t427 t429 (List.replicate (t429 : Int).toNat 0) (([] : List Int)) t428 0 a0_0 a0_1 a0_2 a0_3 a0_4) else (none)) else (none)) = some (r1, r2) := H
 have A6 := Aside0.mk A60
 clear A60
 by_cases c7 : 0 ≤ t429
 ·
  rw [if_pos c7] at H
  have c7b0 := eq_true c7
  have c7b1 : decide (0 ≤ t429) = true := decide_eq_true c7
  clear c7
  by_cases c8 : (t429 : Int).toNat ≤ 281474976710656
  ·
   rw [if_pos c8] at H
   have c8b0 := eq_true c8
   have c8b1 : decide ((t429 : Int).toNat ≤ 281474976710656) = true := decide_eq_true c8
   clear c8
   obtain ⟨y430, hy430⟩ : ∃ y_ : List Int, y_ = (List.replicate (t429 : Int).toNat 0) := ⟨_, rfl⟩
   replace H : (spec_PartSamples.l0 k l2 t427 t429 y430 (([] : List Int)) t428 0 a0_0 a0_1 a0_2 a0_3 a0_4) = some (r1, r2) := by first | (rw [hy430]; with_reducible exact H) | (have H2_ := (Option.bind_some _ _).symm.trans H; rw [hy430]; with_reducible exact H2_) | (have H2_ := (Option.bind_some _ _).symm.trans H; with_reducible exact H2_) | with_reducible exact H | (rw [hy430]; exact H) | exact H
   have Ny430 := Aside0.mk hy430
   clear hy430
   obtain ⟨y433, hy433⟩ : ∃ y_ : List Int, y_ = (([] : List Int)) := ⟨_, rfl⟩
   replace H : (spec_PartSamples.l0 k l2 t427 t429 y430 y433 t428 0 a0_0 a0_1 a0_2 a0_3 a0_4) = some (r1, r2) := by first | (rw [hy433]; with_reducible exact H) | (have H2_ := (Option.bind_some _ _).symm.trans H; rw [hy433]; with_reducible exact H2_) | (have H2_ := (Option.bind_some _ _).symm.trans H; with_reducible exact H2_) | with_reducible exact H | (rw [hy433]; exact H) | exact H
   have Ny433 := Aside0.mk hy433
   clear hy433
   have H' := Aside0.mk H
   clear H
   go_enter Tryz.func105, Tryz.ntmps105
   try go_wp2_with (first | ((with_reducible refine gate_dst (N := 3) rfl ?_); refine box_event ?hg (N := 3) ?hd (cs := #[.int .i64 a0_0, .int .i64 a0_1, .int .i64 a0_2, .int .i64 a0_3, .bool a0_4]) (t := 26) ?hr ?_; (case hd => rfl); (case hg => rfl); (case hr => first | (go_simp; done) | (go_simp; rfl)); intro gb422 hg w9 hbox hb; have n0_ := Aside0.mk (below_step (by repeat (first | (with_reducible first | exact HB.out | apply below_alloc | apply pw_below_drewN | apply below_drew1) | exact HB.out)) hb); have n1_ := Aside0.mk (hbox); have n2_ := Aside0.mk ((by rw [hg]; exact (below_size (by repeat (first | (with_reducible first | exact HB.out | apply below_alloc | apply pw_below_drewN | apply below_drew1) | exact HB.out))) : w.heap.size ≤ gb422)); have n3_ := Aside0.mk ((by rw [hg]; exact (below_size (by repeat (first | (with_reducible first | exact HB.out | apply below_alloc | apply pw_below_drewN | apply below_drew1) | exact HB.out))) : w.heap.size ≤ gb422)); clear HB; have HB := n0_; have BK422 := n1_; have GW422 := n2_; have GE422 := n3_; clear n0_ n1_ n2_ n3_; clear hb hbox hg))
   have n0_ := Aside0.mk (blk_drew BK422.out)
   have n1_ := Aside0.mk (below_drew1 HB.out)
   clear BK422
   clear HB
   have BK422 := n0_
   have HB := n1_
   clear n0_ n1_
   refine start_ (n := 14) (S := fun w' => w'.cell? ⟨gb422, 0, none⟩ = some (.int .i64 a0_0) ∧ w'.cell? ⟨gb422, 1, none⟩ = some (.int .i64 a0_1) ∧ w'.cell? ⟨gb422, 2, none⟩ = some (.int .i64 a0_2) ∧ w'.cell? ⟨gb422, 3, none⟩ = some (.int .i64 a0_3) ∧ w'.cell? ⟨gb422, 4, none⟩ = some (.bool a0_4)) (ds := []) #[false, false, false, false, false, false, false, false, false, false, false, false, false, false] (by kernel_rfl) rfl rfl ⟨(blk_cell BK422.out 0).trans rfl, (blk_cell BK422.out 1).trans rfl, (blk_cell BK422.out 2).trans rfl, (blk_cell BK422.out 3).trans rfl, (blk_cell BK422.out 4).trans rfl⟩ (fun hHeld => ?_); refine with_tabW spec_PartSamples.tab1 spec_PartSamples.bits1 (fun HT_ HW_ => ?_)
   generalize w9.drew = w10 at BK422 HB hHeld ⊢
   refine pure_ (i := 0) (N := some 16) (v := ?_) (a' := ?_) #[true, false, false, false, false, false, false, false, false, false, false, false, false, false] rfl rfl (any_of HT_.out (by kernel_rfl)) (fun _ _ _ h => h) (Or.inl ⟨by rfl, ?_⟩) ?_ ?_
   rotate_left
   ·
    intro w'
    go_simp
    with_reducible rfl
   rotate_left
   ·
    simp only [Act.put, List.setIfInBounds_toArray, List.set_cons_zero, List.set_cons_succ, i64_w, i32_w]
    rfl
   refine pure_ (i := 2) (N := some 18) (v := ?_) (a' := ?_) #[true, false, true, false, false, false, false, false, false, false, false, false, false, false] rfl rfl (any_of HT_.out (by kernel_rfl)) (fun _ _ _ h => h) (Or.inl ⟨by rfl, ?_⟩) ?_ ?_
   rotate_left
   ·
    intro w'
    go_simp
    with_reducible rfl
   rotate_left
   ·
    simp only [Act.put, List.setIfInBounds_toArray, List.set_cons_zero, List.set_cons_succ, i64_w, i32_w]
    rfl
   refine pure_ (i := 4) (N := some 20) (v := ?_) (a' := ?_) #[true, false, true, false, true, false, false, false, false, false, false, false, false, false] rfl rfl (any_of HT_.out (by kernel_rfl)) (fun _ _ _ h => h) (Or.inl ⟨by rfl, ?_⟩) ?_ ?_
   rotate_left
   ·
    intro w'
    go_simp
    with_reducible rfl
   rotate_left
   ·
    simp only [Act.put, List.setIfInBounds_toArray, List.set_cons_zero, List.set_cons_succ, i64_w, i32_w]
    rfl
   refine pure_ (i := 6) (N := some 22) (v := ?_) (a' := ?_) #[true, false, true, false, true, false, true, false, false, false, false, false, false, false] rfl rfl (any_of HT_.out (by kernel_rfl)) (fun _ _ _ h => h) (Or.inl ⟨by rfl, ?_⟩) ?_ ?_
   rotate_left
   ·
    intro w'
    go_simp
    with_reducible rfl
   rotate_left
   ·
    simp only [Act.put, List.setIfInBounds_toArray, List.set_cons_zero, List.set_cons_succ, i64_w, i32_w]
    rfl
   refine take_ (i := 1) (N := some 17) (v := ?_) (a' := ?_) #[true, true, true, false, true, false, true, false, false, false, false, false, false, false] rfl rfl (take_ofW HT_.out HW_.out (by kernel_rfl)) (fun _ _ _ h => h) (Or.inl ⟨by rfl, ?_⟩) hHeld ?_ ?_
   rotate_left
   ·
    rintro w' ⟨s0, s1, s2, s3, s4⟩
    go_simp
    with_reducible rfl
   rotate_left
   ·
    simp only [Act.put, List.setIfInBounds_toArray, List.set_cons_zero, List.set_cons_succ, i64_w, i32_w]
    rfl
   refine take_ (i := 5) (N := some 21) (v := ?_) (a' := ?_) #[true, true, true, false, true, true, true, false, false, false, false, false, false, false] rfl rfl (take_ofW HT_.out HW_.out (by kernel_rfl)) (fun _ _ _ h => h) (Or.inl ⟨by rfl, ?_⟩) hHeld ?_ ?_
   rotate_left
   ·
    rintro w' ⟨s0, s1, s2, s3, s4⟩
    go_simp
    with_reducible rfl
   rotate_left
   ·
    simp only [Act.put, List.setIfInBounds_toArray, List.set_cons_zero, List.set_cons_succ, i64_w, i32_w]
    rfl
   refine take_ (i := 7) (N := some 23) (v := ?_) (a' := ?_) #[true, true, true, false, true, true, true, true, false, false, false, false, false, false] rfl rfl (take_ofW HT_.out HW_.out (by kernel_rfl)) (fun _ _ _ h => h) (Or.inl ⟨by rfl, ?_⟩) hHeld ?_ ?_
   rotate_left
   ·
    rintro w' ⟨s0, s1, s2, s3, s4⟩
    go_simp
    with_reducible rfl
   rotate_left
   ·
    simp only [Act.put, List.setIfInBounds_toArray, List.set_cons_zero, List.set_cons_succ, i64_w, i32_w]
    rfl
   refine one_ (i := 3) (N := some 19) #[true, true, true, true, true, true, true, true, false, false, false, false, false, false] rfl rfl (one_of HT_.out (by kernel_rfl)) (by decide) (fun K hK => ?_)
   refine goes_ Tryz.func73 (by kernel_rfl) rfl #[.bool a0_4, .int .i64 a1] (by rfl) rfl rfl (by (try simp only [List.map_toArray, List.map_cons, List.map_nil]); first | done | rfl | (simp only [List.length_drop, List.length_take]; rfl)) ?_
   with_reducible refine (spec_PartOf.calls a0_4 a1 t423 t424 t425 t426 _ A4.out).mono ?_
   rintro e w11 ⟨rfl, hb⟩
   refine ⟨_, rfl, ?_⟩
   have n0_ := Aside0.mk (blk_below (g := gb422) (o := .cells #[.int .i64 a0_0, .int .i64 a0_1, .int .i64 a0_2, .int .i64 a0_3, .bool a0_4] 26 (0, 0)) (by (with_reducible repeat (first | refine blk_drewN ?_ _ | refine blk_drew ?_ | refine blk_alloc ?_ _)); exact BK422.out) hb)
   have n1_ := Aside0.mk (below_step (by repeat (first | (with_reducible first | exact HB.out | apply below_alloc | apply pw_below_drewN | apply below_drew1 | refine below_set ?_ GE422.out) | exact HB.out)) hb)
   clear BK422
   clear HB
   have BK422 := n0_
   have HB := n1_
   clear n0_ n1_
   (try clear hb)
   (try clear hb2)
   (try clear hk)
   (try clear hi)
   refine hK.out _ _ ⟨(blk_cell BK422.out 0).trans rfl, (blk_cell BK422.out 1).trans rfl, (blk_cell BK422.out 2).trans rfl, (blk_cell BK422.out 3).trans rfl, (blk_cell BK422.out 4).trans rfl⟩ (fun hHeld => ?_)
   clear hK K
   refine norm_ (a' := ?_) ?_ ?_
   rotate_left
   ·
    show Act.put _ (some 19) _ = _
    simp only [Act.put, List.setIfInBounds_toArray, List.set_cons_zero, List.set_cons_succ, i64_w, i32_w]
    rfl
   refine one_ (i := 8) (N := some 24) #[true, true, true, true, true, true, true, true, true, false, false, false, false, false] rfl rfl (one_of HT_.out (by kernel_rfl)) (by decide) (fun K hK => ?_)
   refine goes_ Tryz.func74 (by kernel_rfl) rfl #[.agg #[.int .i64 t423, .int .i64 t424, .int .i64 t425, .int .i64 t426], .int .i64 a0_0, .int .i64 a0_1] (by rfl) rfl rfl (by (try simp only [List.map_toArray, List.map_cons, List.map_nil]); first | done | rfl | (simp only [List.length_drop, List.length_take]; rfl)) ?_
   with_reducible refine (spec_Part_Size.calls k t423 t424 t425 t426 a0_0 a0_1 t427 t428 _ A5.out).mono ?_
   rintro e w12 ⟨rfl, hb⟩
   refine ⟨_, rfl, ?_⟩
   have n0_ := Aside0.mk (blk_below (g := gb422) (o := .cells #[.int .i64 a0_0, .int .i64 a0_1, .int .i64 a0_2, .int .i64 a0_3, .bool a0_4] 26 (0, 0)) (by (with_reducible repeat (first | refine blk_drewN ?_ _ | refine blk_drew ?_ | refine blk_alloc ?_ _)); exact BK422.out) hb)
   have n1_ := Aside0.mk (below_step (by repeat (first | (with_reducible first | exact HB.out | apply below_alloc | apply pw_below_drewN | apply below_drew1 | refine below_set ?_ GE422.out) | exact HB.out)) hb)
   clear BK422
   clear HB
   have BK422 := n0_
   have HB := n1_
   clear n0_ n1_
   (try clear hb)
   (try clear hb2)
   (try clear hk)
   (try clear hi)
   refine hK.out _ _ ⟨(blk_cell BK422.out 0).trans rfl, (blk_cell BK422.out 1).trans rfl, (blk_cell BK422.out 2).trans rfl, (blk_cell BK422.out 3).trans rfl, (blk_cell BK422.out 4).trans rfl⟩ (fun hHeld => ?_)
   clear hK K
   refine norm_ (a' := ?_) ?_ ?_
   rotate_left
   ·
    show Act.put _ (some 24) _ = _
    simp only [Act.put, List.setIfInBounds_toArray, List.set_cons_zero, List.set_cons_succ, i64_w, i32_w]
    rfl
   refine pure_ (i := 9) (N := some 15) (v := ?_) (a' := ?_) #[true, true, true, true, true, true, true, true, true, true, false, false, false, false] rfl rfl (any_of HT_.out (by kernel_rfl)) (fun _ _ _ h => h) (Or.inl ⟨by rfl, ?_⟩) ?_ ?_
   rotate_left
   ·
    intro w'
    go_simp
    with_reducible rfl
   rotate_left
   ·
    simp only [Act.put, List.setIfInBounds_toArray, List.set_cons_zero, List.set_cons_succ, i64_w, i32_w]
    rfl
   refine pure_ (i := 10) (N := some 25) (v := ?_) (a' := ?_) #[true, true, true, true, true, true, true, true, true, true, true, false, false, false] rfl rfl (any_of HT_.out (by kernel_rfl)) (fun _ _ _ h => h) (Or.inl ⟨by rfl, ?_⟩) ?_ ?_
   rotate_left
   ·
    intro w'
    go_simp
    with_reducible rfl
   rotate_left
   ·
    simp only [Act.put, List.setIfInBounds_toArray, List.set_cons_zero, List.set_cons_succ, i64_w, i32_w]
    rfl
   refine pure_ (i := 11) (N := some 26) (v := ?_) (a' := ?_) #[true, true, true, true, true, true, true, true, true, true, true, true, false, false] rfl rfl (any_of HT_.out (by kernel_rfl)) (fun _ _ _ h => h) (Or.inl ⟨by rfl, ?_⟩) ?_ ?_
   rotate_left
   ·
    intro w'
    go_simp
    with_reducible rfl
   rotate_left
   ·
    simp only [Act.put, List.setIfInBounds_toArray, List.set_cons_zero, List.set_cons_succ, i64_w, i32_w]
    rfl
   refine pure_ (i := 12) (N := some 8) (v := ?_) (a' := ?_) #[true, true, true, true, true, true, true, true, true, true, true, true, true, false] rfl rfl (any_of HT_.out (by kernel_rfl)) (fun _ _ _ h => h) (Or.inl ⟨by rfl, ?_⟩) ?_ ?_
   rotate_left
   ·
    intro w'
    go_simp
    with_reducible rfl
   rotate_left
   ·
    simp only [Act.put, List.setIfInBounds_toArray, List.set_cons_zero, List.set_cons_succ, i64_w, i32_w]
    rfl
   refine pure_ (i := 13) (N := some 9) (v := ?_) (a' := ?_) #[true, true, true, true, true, true, true, true, true, true, true, true, true, true] rfl rfl (any_of HT_.out (by kernel_rfl)) (fun _ _ _ h => h) (Or.inl ⟨by rfl, ?_⟩) ?_ ?_
   rotate_left
   ·
    intro w'
    go_simp
    with_reducible rfl
   rotate_left
   ·
    simp only [Act.put, List.setIfInBounds_toArray, List.set_cons_zero, List.set_cons_succ, i64_w, i32_w]
    rfl
   refine done_ (done_of HT_.out (by kernel_rfl)) ?_
   have hcz13_0 : w12.cell? ⟨gb422, 0, none⟩ = some (.int .i64 a0_0) := (blk_cell BK422.out 0).trans rfl
   have hcz13_1 : w12.cell? ⟨gb422, 1, none⟩ = some (.int .i64 a0_1) := (blk_cell BK422.out 1).trans rfl
   have hcz13_2 : w12.cell? ⟨gb422, 2, none⟩ = some (.int .i64 a0_2) := (blk_cell BK422.out 2).trans rfl
   have hcz13_3 : w12.cell? ⟨gb422, 3, none⟩ = some (.int .i64 a0_3) := (blk_cell BK422.out 3).trans rfl
   have hcz13_4 : w12.cell? ⟨gb422, 4, none⟩ = some (.bool a0_4) := (blk_cell BK422.out 4).trans rfl
   have hfz13_0 := blk_frozen BK422.out 0
   have hfz13_1 := blk_frozen BK422.out 1
   have hfz13_2 := blk_frozen BK422.out 2
   have hfz13_3 := blk_frozen BK422.out 3
   have hfz13_4 := blk_frozen BK422.out 4
   try go_wp2_with (first | ((with_reducible refine gate_callee (f := 75) rfl ?_); refine goesL_ (some 29) rfl rfl Tryz.func75 (by kernel_rfl) rfl #[.agg #[.int .i64 a0_0, .int .i64 a0_1, .int .i64 a0_2, .int .i64 a0_3, .bool a0_4], .int .i64 t427] rfl (by (try simp only [List.map_toArray, List.map_cons, List.map_nil]); first | done | rfl | (simp only [List.length_drop, List.length_take]; rfl)) ?_; (with_reducible refine (spec_rowBytes.calls a0_0 a0_1 a0_2 a0_3 a0_4 t427 t429 _ A6.out).mono ?_); rintro e w14 ⟨rfl, hb⟩; refine ⟨_, rfl, ?_⟩; have n0_ := Aside0.mk (blk_below (g := gb422) (o := .cells #[.int .i64 a0_0, .int .i64 a0_1, .int .i64 a0_2, .int .i64 a0_3, .bool a0_4] 26 (0, 0)) (by (with_reducible repeat (first | refine blk_drewN ?_ _ | refine blk_drew ?_ | refine blk_alloc ?_ _)); exact BK422.out) hb); have n1_ := Aside0.mk (below_step (by repeat (first | (with_reducible first | exact HB.out | apply below_alloc | apply pw_below_drewN | apply below_drew1 | refine below_set ?_ GE422.out) | exact HB.out)) hb); clear BK422; clear HB; have BK422 := n0_; have HB := n1_; clear n0_ n1_; (try clear hb); (try clear hb2); (try clear hk); (try clear hi)) | ((with_reducible refine gate_dst (N := 31) rfl ?_); refine Kd.R_make (Kd.int .u8) _ 5 rfl (N := 31) rfl 24 _ _ rfl t429 rfl rfl Tryz.underlying24 (.int .u8 0) 1 info5 rfl (by decide) (by omega) 0 (ok := fun _ => True) (okp := fun _ => True) rfl (fun _ hk => hk) trivial (of_decide_eq_true (by first | (with_reducible assumption) | assumption)) (Nat.le_trans (Nat.mul_le_mul_right _ (of_decide_eq_true (by first | (with_reducible assumption) | assumption) : t429.toNat ≤ 281474976710656)) (by omega)) (Below.refl _ _) (Nat.le_refl _) ?_; intro v431 w15 ho16 hb hg_ hnew_; clear hg_ hnew_; (first | rw [← Ny430.out] at ho16 | (simp only [Int.reduceToNat] at ho16; rw [← Ny430.out] at ho16)); have n0_ := Aside0.mk (Kd.R_lower ho16 (below_size (by repeat (first | (with_reducible first | exact HB.out | apply below_alloc | apply pw_below_drewN | apply below_drew1 | refine below_set ?_ GE422.out) | exact HB.out)))); have n1_ := Aside0.mk (blk_below (g := gb422) (o := .cells #[.int .i64 a0_0, .int .i64 a0_1, .int .i64 a0_2, .int .i64 a0_3, .bool a0_4] 26 (0, 0)) (by (with_reducible repeat (first | refine blk_drewN ?_ _ | refine blk_drew ?_ | refine blk_alloc ?_ _)); exact BK422.out) hb); have n2_ := Aside0.mk (below_step (by repeat (first | (with_reducible first | exact HB.out | apply below_alloc | apply pw_below_drewN | apply below_drew1 | refine below_set ?_ GE422.out) | exact HB.out)) hb); clear BK422; clear HB; have HO432 := n0_; have BK422 := n1_; have HB := n2_; clear n0_ n1_ n2_; clear hb ho16) | ((with_reducible refine gate_dst (N := 32) rfl ?_); refine Kd.R_lit (Kd.int .i64) _ 3 ?hg (N := 32) ?hd (xs := ([] : List Int)) (inner := []) (ok := fun _ => True) (okp := fun _ => True) ?hr ?hp (fun _ hk => hk) trivial (Below.refl _ _) (Nat.le_refl _) (by simp) ?_; (case hd => rfl); (case hg => rfl); (case hr => first | (go_simp; done) | (go_simp; rfl)); (case hp => exact (Reps.none _ _)); intro v434 w17 ho18 hb hg_ hnew_; clear hg_ hnew_; (first | rw [← Ny433.out] at ho18 | (simp only [Int.reduceToNat] at ho18; rw [← Ny433.out] at ho18)); have n0_ := Aside0.mk (Kd.R_below (by (with_reducible repeat (first | apply Kd.R_alloc | apply Kd.R_drewN | apply Kd.R_drew)); exact HO432.out) hb); have n1_ := Aside0.mk (Kd.R_lower ho18 (below_size (by repeat (first | (with_reducible first | exact HB.out | apply below_alloc | apply pw_below_drewN | apply below_drew1 | refine below_set ?_ GE422.out) | exact HB.out)))); have n2_ := Aside0.mk (blk_below (g := gb422) (o := .cells #[.int .i64 a0_0, .int .i64 a0_1, .int .i64 a0_2, .int .i64 a0_3, .bool a0_4] 26 (0, 0)) (by (with_reducible repeat (first | refine blk_drewN ?_ _ | refine blk_drew ?_ | refine blk_alloc ?_ _)); exact BK422.out) hb); have n3_ := Aside0.mk (below_step (by repeat (first | (with_reducible first | exact HB.out | apply below_alloc | apply pw_below_drewN | apply below_drew1 | refine below_set ?_ GE422.out) | exact HB.out)) hb); clear HO432; clear BK422; clear HB; have HO432 := n0_; have HO435 := n1_; have BK422 := n2_; have HB := n3_; clear n0_ n1_ n2_ n3_; clear hb ho18))
   go_loopg [11, 12, 34] k (fun kq v11 v12 v34 w' => ∃ (x11_1 : List Int) (x12_1 : List Int) (x34_1 : Int), v34 = .int .i64 x34_1 ∧ Aside0 (spec_PartSamples.l0 kq l2 t427 t429 x11_1 x12_1 t428 x34_1 a0_0 a0_1 a0_2 a0_3 a0_4 = some (r1, r2)) ∧ Aside0 (kq ≤ k) ∧ Aside0 (Kd.R (Kd.int .u8) 5 w' w.heap.size (fun _ => True) v11 x11_1) ∧ Aside0 (Kd.R (Kd.int .i64) 3 w' w.heap.size (fun _ => True) v12 x12_1) ∧ Aside0 (w'.heap[gb422]? = some (.cells #[.int .i64 a0_0, .int .i64 a0_1, .int .i64 a0_2, .int .i64 a0_3, .bool a0_4] 26 (0, 0))) ∧ Aside0 (Below w.heap.size w w'))
   case atStart => exact ⟨(y430), (y433), (0), (by first | rfl | (simp; done) | (simp [*]; done)), H', ⟨Nat.le_refl _⟩, ⟨by (with_reducible repeat (first | apply Kd.R_alloc | apply Kd.R_drewN | apply Kd.R_drew)); exact HO432.out⟩, ⟨by (with_reducible repeat (first | apply Kd.R_alloc | apply Kd.R_drewN | apply Kd.R_drew)); exact HO435.out⟩, ⟨by (with_reducible repeat (first | refine blk_drewN ?_ _ | refine blk_drew ?_ | refine blk_alloc ?_ _)); exact BK422.out⟩, ⟨by repeat (first | (with_reducible first | exact HB.out | apply below_alloc | apply pw_below_drewN | apply below_drew1 | refine below_set ?_ GE422.out) | exact HB.out)⟩⟩
   case round =>
    clear H'
    (try clear c1); (try clear c2); (try clear p2); (try clear c7); (try clear c7b0); (try clear c7b1); (try clear c8); (try clear c8b0); (try clear c8b1); (try clear c10); (try clear hcz13_0); (try clear hcz13_1); (try clear hcz13_2); (try clear hcz13_3); (try clear hcz13_4); (try clear hfz13_0); (try clear hfz13_1); (try clear hfz13_2); (try clear hfz13_3); (try clear hfz13_4)
    obtain ⟨x11_1, x12_1, x34_1, rfl, HA, HK1, HO_11, HO_12, BK422, HB⟩ := hrel
    cases gk with
    | zero => exact absurd HA.out (by simp [spec_PartSamples.l0])
    | succ k1 =>
     have H := HA.out
     clear HA
     simp only [spec_PartSamples.l0] at H
     by_cases c19 : x34_1 < t428
     ·
      rw [if_pos c19] at H
      have c19b0 : decide (x34_1 < t428) = true := decide_eq_true c19
      clear c19
      have HC20 := Aside0.mk H
      clear H
      go_upto_region 9 with (fail)
      go_cut [54] (fun v54 wc => ∃ (kq : Nat) (x54_19 : Bool), v54 = .bool x54_19 ∧ Aside0 (spec_PartSamples.j1 kq l2 t427 t429 x11_1 x12_1 (wrap64 (x34_1 * (wrap64 (t429 + 1)))) t428 x34_1 x54_19 a0_0 a0_1 a0_2 a0_3 a0_4 = some (r1, r2)) ∧ Aside0 (kq ≤ k1) ∧ Aside0 (Kd.R (Kd.int .u8) 5 wc w.heap.size (fun _ => True) u11 x11_1) ∧ Aside0 (Kd.R (Kd.int .i64) 3 wc w.heap.size (fun _ => True) u12 x12_1) ∧ Aside0 (wc.heap[gb422]? = some (.cells #[.int .i64 a0_0, .int .i64 a0_1, .int .i64 a0_2, .int .i64 a0_3, .bool a0_4] 26 (0, 0))) ∧ Aside0 (Below w.heap.size w wc))
      case first =>
       have H := HC20.out
       clear HC20
       by_cases c21 : (wrap64 ((wrap64 ((wrap64 (x34_1 * (wrap64 (t429 + 1)))) + 1)) + t429)) > (l2.length : Int)
       ·
        rw [if_pos c21] at H
        have c21b0 : decide ((l2.length : Int) < (wrap64 ((wrap64 ((wrap64 (x34_1 * (wrap64 (t429 + 1)))) + 1)) + t429))) = true := decide_eq_true c21
        clear c21
        (first | rw [c21b0] | (simp only [i64_w, i32_w]; rw [c21b0]) | skip)
        have H' := Aside0.mk H
        clear H
        go_wp2
        go_meet
        case rel => exact ⟨_, (true), (by first | rfl | (simp; done) | (simp [*]; done)), H', ⟨by have := HK1.out; first | omega | exact Nat.le_refl _⟩, ⟨by (with_reducible repeat (first | apply Kd.R_alloc | apply Kd.R_drewN | apply Kd.R_drew)); exact HO_11.out⟩, ⟨by (with_reducible repeat (first | apply Kd.R_alloc | apply Kd.R_drewN | apply Kd.R_drew)); exact HO_12.out⟩, ⟨by (with_reducible repeat (first | refine blk_drewN ?_ _ | refine blk_drew ?_ | refine blk_alloc ?_ _)); exact BK422.out⟩, ⟨by repeat (first | (with_reducible first | exact HB.out | apply below_alloc | apply pw_below_drewN | apply below_drew1 | refine below_set ?_ GE422.out) | exact HB.out)⟩⟩
       ·
        rw [if_neg c21] at H
        have c21b0 : decide ((l2.length : Int) < (wrap64 ((wrap64 ((wrap64 (x34_1 * (wrap64 (t429 + 1)))) + 1)) + t429))) = false := decide_eq_false c21
        clear c21
        (first | rw [c21b0] | (simp only [i64_w, i32_w]; rw [c21b0]) | skip)
        obtain ⟨ji22, hji22⟩ : ∃ j_ : Int, (wrap64 (x34_1 * (wrap64 (t429 + 1)))) = j_ := ⟨_, rfl⟩
        replace H : (if 0 ≤ (ji22) then (if (ji22) < (l2.length : Int) then (spec_PartSamples.j1 k1 l2 t427 t429 x11_1 x12_1 ji22 t428 x34_1 (decide ((rd l2 (ji22)) > 4)) a0_0 a0_1 a0_2 a0_3 a0_4) else (none)) else (none)) = some (r1, r2) := by first | (rw [hji22] at H; exact H) | (simp only [hji22] at H ⊢; exact H)
        (try rw [hji22] at c21b0)
        have hji22w : (IntKind.i64.wrap (x34_1 * (wrap64 (t429 + 1)))) = ji22 := (i64_w _).trans hji22
        by_cases c23 : 0 ≤ (ji22)
        ·
         rw [if_pos c23] at H
         have c23b0 : decide (0 ≤ (ji22)) = true := decide_eq_true c23
         clear c23
         by_cases c24 : (ji22) < (l2.length : Int)
         ·
          rw [if_pos c24] at H
          have c24b0 : decide ((ji22) < (l2.length : Int)) = true := decide_eq_true c24
          clear c24
          have H' := Aside0.mk H
          clear H
          have p436 : 0 ≤ ((ji22) : Int) := of_decide_eq_true (by first | (with_reducible assumption) | assumption)
          have q436 : (ji22) < (l2.length : Int) := of_decide_eq_true (by first | (with_reducible assumption) | assumption)
          obtain ⟨ad436, e436, hx436_0⟩ := Kd.at_int HR2.out (ji22) p436 q436
          cases e436
          replace hx436_0 := (HB.out.cell (World.block_lt_of_cell? w _ hx436_0)).trans hx436_0
          replace p436 := eq_true p436
          replace q436 := eq_true q436
          go_wp2
          subst hji22
          go_meet
          case rel => exact ⟨_, (decide ((rd l2 (wrap64 (x34_1 * (wrap64 (t429 + 1))))) > 4)), (by first | rfl | (simp; done) | (rfl) | (simp [*]; done)), H', ⟨by have := HK1.out; first | omega | exact Nat.le_refl _⟩, ⟨by (with_reducible repeat (first | apply Kd.R_alloc | apply Kd.R_drewN | apply Kd.R_drew)); exact HO_11.out⟩, ⟨by (with_reducible repeat (first | apply Kd.R_alloc | apply Kd.R_drewN | apply Kd.R_drew)); exact HO_12.out⟩, ⟨by (with_reducible repeat (first | refine blk_drewN ?_ _ | refine blk_drew ?_ | refine blk_alloc ?_ _)); exact BK422.out⟩, ⟨by repeat (first | (with_reducible first | exact HB.out | apply below_alloc | apply pw_below_drewN | apply below_drew1 | refine below_set ?_ GE422.out) | exact HB.out)⟩⟩
         ·
          rw [if_neg c24] at H
          exact absurd H (by simp)
        ·
         rw [if_neg c23] at H
         exact absurd H (by simp)
      case rest =>
       clear HC20
       (try clear c1); (try clear c2); (try clear p2); (try clear p4); (try clear q4); (try clear hx4); (try clear p6); (try clear c7); (try clear c7b0); (try clear c7b1); (try clear c8); (try clear c8b0); (try clear c8b1); (try clear c10); (try clear c19); (try clear c19b0); (try clear c21); (try clear c21b0); (try clear c23); (try clear c23b0); (try clear c24); (try clear c24b0); (try clear hcz13_0); (try clear hcz13_1); (try clear hcz13_2); (try clear hcz13_3); (try clear hcz13_4); (try clear hfz13_0); (try clear hfz13_1); (try clear hfz13_2); (try clear hfz13_3); (try clear hfz13_4); (try clear hx436_0); (try clear p2); (try clear p436); (try clear q436)
       obtain ⟨kq, x54_19, rfl, HA, HJ19, HO_11, HO_12, BK422, HB⟩ := hcut
       cases kq with
       | zero => exact absurd HA.out (by simp [spec_PartSamples.j1])
       | succ kj19 =>
        have H := HA.out
        clear HA
        simp only [spec_PartSamples.j1] at H
        by_cases c25 : x54_19 = true
        ·
         subst c25
         have H1 : (some (([] : List Int), 1)) = some (r1, r2) := by rw [if_pos rfl] at H; exact H
         clear H
         have H := H1
         clear H1
         simp only [Option.some.injEq, Prod.mk.injEq] at H
         obtain ⟨rfl, rfl⟩ := H
         go_wp2
         go_ret2
         exact ⟨_, by first | rfl | (simp <;> rfl) | (simp [*] <;> rfl), by first | exact Kd.R_nil _ _ _ _ _ | exact Kd.S_nil _ _ _ _ _, by repeat (first | (with_reducible first | exact HB.out | apply below_alloc | apply pw_below_drewN | apply below_drew1 | refine below_set ?_ GE422.out) | exact HB.out)⟩
        ·
         replace c25 := Bool.eq_false_iff.mpr c25
         subst c25
         have H1 : (if 0 ≤ (wrap64 (x34_1 * (wrap64 (t429 + 1)))) then (if (wrap64 (x34_1 * (wrap64 (t429 + 1)))) < (l2.length : Int) then (if 0 ≤ (wrap64 ((wrap64 (x34_1 * (wrap64 (t429 + 1)))) + 1)) then (if (wrap64 ((wrap64 (x34_1 * (wrap64 (t429 + 1)))) + 1)) ≤ (wrap64 ((wrap64 ((wrap64 (x34_1 * (wrap64 (t429 + 1)))) + 1)) + t429)) then (if (wrap64 ((wrap64 ((wrap64 (x34_1 * (wrap64 (t429 + 1)))) + 1)) + t429)) ≤ (l2.length : Int) then ((spec_step.f a0_0 a0_1 a0_2 a0_3 a0_4).bind fun t439 => ((spec_Unfiltered.f kj19 (wrap64 (rd l2 (wrap64 (x34_1 * (wrap64 (t429 + 1)))))) ((l2.take ((wrap64 ((wrap64 ((wrap64 (x34_1 * (wrap64 (t429 + 1)))) + 1)) + t429)) : Int).toNat).drop ((wrap64 ((wrap64 (x34_1 * (wrap64 (t429 + 1)))) + 1)) : Int).toNat) x11_1 t439).bind fun t440 => ((spec_Channels.f a0_3).bind fun t443 => ((spec_samplesOf.f kj19 t440 (wrap64 (t427 * t443)) a0_2).bind fun t444 => (if x12_1.length + t444.length < 17592186044416 then (spec_PartSamples.l0 kj19 l2 t427 t429 t440 (x12_1 ++ t444) t428 (wrap64 (x34_1 + 1)) a0_0 a0_1 a0_2 a0_3 a0_4) else (none)))))) else (none)) else (none)) else (none)) else (none)) else (none)) = some (r1, r2) := by rw [if_neg (show ¬ (false = true) by decide)] at H; exact H
         clear H
         have H := H1
         clear H1
         obtain ⟨ji26, hji26⟩ : ∃ j_ : Int, (wrap64 (x34_1 * (wrap64 (t429 + 1)))) = j_ := ⟨_, rfl⟩
         replace H : (if 0 ≤ (ji26) then (if (ji26) < (l2.length : Int) then (if 0 ≤ (wrap64 ((ji26) + 1)) then (if (wrap64 ((ji26) + 1)) ≤ (wrap64 ((wrap64 ((ji26) + 1)) + t429)) then (if (wrap64 ((wrap64 ((ji26) + 1)) + t429)) ≤ (l2.length : Int) then ((spec_step.f a0_0 a0_1 a0_2 a0_3 a0_4).bind fun t439 => ((spec_Unfiltered.f kj19 (wrap64 (rd l2 (ji26))) ((l2.take ((wrap64 ((wrap64 ((ji26) + 1)) + t429)) : Int).toNat).drop ((wrap64 ((ji26) + 1)) : Int).toNat) x11_1 t439).bind fun t440 => ((spec_Channels.f a0_3).bind fun t443 => ((spec_samplesOf.f kj19 t440 (wrap64 (t427 * t443)) a0_2).bind fun t444 => (if x12_1.length + t444.length < 17592186044416 then (spec_PartSamples.l0 kj19 l2 t427 t429 t440 (x12_1 ++ t444) t428 (wrap64 (x34_1 + 1)) a0_0 a0_1 a0_2 a0_3 a0_4) else (none)))))) else (none)) else (none)) else (none)) else (none)) else (none)) = some (r1, r2) := by first | (rw [hji26] at H; exact H) | (simp only [hji26] at H ⊢; exact H)
         have hji26w : (IntKind.i64.wrap (x34_1 * (wrap64 (t429 + 1)))) = ji26 := (i64_w _).trans hji26
         by_cases c27 : 0 ≤ (ji26)
         ·
          rw [if_pos c27] at H
          have c27b0 : decide (0 ≤ (ji26)) = true := decide_eq_true c27
          clear c27
          by_cases c28 : (ji26) < (l2.length : Int)
          ·
           rw [if_pos c28] at H
           have c28b0 : decide ((ji26) < (l2.length : Int)) = true := decide_eq_true c28
           clear c28
           obtain ⟨ji29, hji29⟩ : ∃ j_ : Int, (wrap64 ((ji26) + 1)) = j_ := ⟨_, rfl⟩
           replace H : (if 0 ≤ (ji29) then (if (ji29) ≤ (wrap64 ((ji29) + t429)) then (if (wrap64 ((ji29) + t429)) ≤ (l2.length : Int) then ((spec_step.f a0_0 a0_1 a0_2 a0_3 a0_4).bind fun t439 => ((spec_Unfiltered.f kj19 (wrap64 (rd l2 (ji26))) ((l2.take ((wrap64 ((ji29) + t429)) : Int).toNat).drop ((ji29) : Int).toNat) x11_1 t439).bind fun t440 => ((spec_Channels.f a0_3).bind fun t443 => ((spec_samplesOf.f kj19 t440 (wrap64 (t427 * t443)) a0_2).bind fun t444 => (if x12_1.length + t444.length < 17592186044416 then (spec_PartSamples.l0 kj19 l2 t427 t429 t440 (x12_1 ++ t444) t428 (wrap64 (x34_1 + 1)) a0_0 a0_1 a0_2 a0_3 a0_4) else (none)))))) else (none)) else (none)) else (none)) = some (r1, r2) := by first | (rw [hji29] at H; exact H) | (simp only [hji29] at H ⊢; exact H)
           have hji29w : (IntKind.i64.wrap ((ji26) + 1)) = ji29 := (i64_w _).trans hji29
           by_cases c30 : 0 ≤ (ji29)
           ·
            rw [if_pos c30] at H
            have c30b0 := eq_true c30
            have c30b1 : decide (0 ≤ (ji29)) = true := decide_eq_true c30
            clear c30
            by_cases c31 : (ji29) ≤ (wrap64 ((ji29) + t429))
            ·
             rw [if_pos c31] at H
             have c31b0 := eq_true c31
             have c31b1 : decide ((ji29) ≤ (wrap64 ((ji29) + t429))) = true := decide_eq_true c31
             by_cases c32 : (wrap64 ((ji29) + t429)) ≤ (l2.length : Int)
             ·
              rw [if_pos c32] at H
              have c32b0 := eq_true c32
              have c32b1 : decide ((wrap64 ((ji29) + t429)) ≤ (l2.length : Int)) = true := decide_eq_true c32
              replace H := Option.bind_eq_some_iff.mp H
              obtain ⟨t439, A330, H⟩ := H
              replace H : ((spec_Unfiltered.f kj19 (wrap64 (rd l2 (ji26))) ((l2.take ((wrap64 ((ji29) + t429)) : Int).toNat).drop ((ji29) : Int).toNat) x11_1 t439).bind fun t440 => ((spec_Channels.f a0_3).bind fun t443 => ((spec_samplesOf.f kj19 t440 (wrap64 (t427 * t443)) a0_2).bind fun t444 => (if x12_1.length + t444.length < 17592186044416 then (spec_PartSamples.l0 kj19 l2 t427 t429 t440 (x12_1 ++ t444) t428 (wrap64 (x34_1 + 1)) a0_0 a0_1 a0_2 a0_3 a0_4) else (none))))) = some (r1, r2) := H
              have A33 := Aside0.mk A330
              clear A330
              replace H := Option.bind_eq_some_iff.mp H
              obtain ⟨t440, A340, H⟩ := H
              replace H : ((spec_Channels.f a0_3).bind fun t443 => ((spec_samplesOf.f kj19 t440 (wrap64 (t427 * t443)) a0_2).bind fun t444 => (if x12_1.length + t444.length < 17592186044416 then (spec_PartSamples.l0 kj19 l2 t427 t429 t440 (x12_1 ++ t444) t428 (wrap64 (x34_1 + 1)) a0_0 a0_1 a0_2 a0_3 a0_4) else (none)))) = some (r1, r2) := H
              have A34 := Aside0.mk A340
              clear A340
              replace H := Option.bind_eq_some_iff.mp H
              obtain ⟨t443, A350, H⟩ := H
              replace H : ((spec_samplesOf.f kj19 t440 (wrap64 (t427 * t443)) a0_2).bind fun t444 => (if x12_1.length + t444.length < 17592186044416 then (spec_PartSamples.l0 kj19 l2 t427 t429 t440 (x12_1 ++ t444) t428 (wrap64 (x34_1 + 1)) a0_0 a0_1 a0_2 a0_3 a0_4) else (none))) = some (r1, r2) := H
              have A35 := Aside0.mk A350
              clear A350
              replace H := Option.bind_eq_some_iff.mp H
              obtain ⟨t444, A360, H⟩ := H
              replace H : (if x12_1.length + t444.length < 17592186044416 then (spec_PartSamples.l0 kj19 l2 t427 t429 t440 (x12_1 ++ t444) t428 (wrap64 (x34_1 + 1)) a0_0 a0_1 a0_2 a0_3 a0_4) else (none)) = some (r1, r2) := H
              have A36 := Aside0.mk A360
              clear A360
              by_cases c37 : x12_1.length + t444.length < 17592186044416
              ·
               rw [if_pos c37] at H
               have LMc37 := Aside0.mk c37
               clear c37
               obtain ⟨y447, hy447⟩ : ∃ y_ : List Int, y_ = (x12_1 ++ t444) := ⟨_, rfl⟩
               replace H : (spec_PartSamples.l0 kj19 l2 t427 t429 t440 y447 t428 (wrap64 (x34_1 + 1)) a0_0 a0_1 a0_2 a0_3 a0_4) = some (r1, r2) := by first | (rw [hy447]; with_reducible exact H) | (have H2_ := (Option.bind_some _ _).symm.trans H; rw [hy447]; with_reducible exact H2_) | (have H2_ := (Option.bind_some _ _).symm.trans H; with_reducible exact H2_) | with_reducible exact H | (rw [hy447]; exact H) | exact H
               have Ny447 := Aside0.mk hy447
               clear hy447
               have H' := Aside0.mk H
               clear H
               try go_wp2
               have n0_ := Aside0.mk (Kd.R_drew HO_11.out)
               have n1_ := Aside0.mk (Kd.R_drew HO_12.out)
               have n2_ := Aside0.mk (blk_drew BK422.out)
               have n3_ := Aside0.mk (below_drew1 HB.out)
               clear HO_11
               clear HO_12
               clear BK422
               clear HB
               have HO_11 := n0_
               have HO_12 := n1_
               have BK422 := n2_
               have HB := n3_
               clear n0_ n1_ n2_ n3_
               have p437 : 0 ≤ ((ji26) : Int) := of_decide_eq_true (by first | (with_reducible assumption) | assumption)
               have q437 : (ji26) < (l2.length : Int) := of_decide_eq_true (by first | (with_reducible assumption) | assumption)
               obtain ⟨ad437, e437, hx437_0⟩ := Kd.at_int HR2.out (ji26) p437 q437
               have hw437_0 := hx437_0
               cases e437
               replace hx437_0 := (HB.out.cell (World.block_lt_of_cell? w _ hx437_0)).trans hx437_0
               replace p437 := eq_true p437
               replace q437 := eq_true q437
               obtain ⟨i039, hi039, _, hsz39, _⟩ := info_parts info5
               obtain ⟨A39, hcut39, hA39, hC39⟩ := print_mid_of (P := Tryz.prog) (Value.int .u8) 0 24 5 .i64 .i64 Tryz.underlying24 hi039 hsz39 (some ad437) c2 l2 (ji29) (wrap64 ((ji29) + t429)) (of_decide_eq_true (by first | (with_reducible assumption) | assumption)) (by first | omega | exact of_decide_eq_true (by first | (with_reducible assumption) | assumption)) (of_decide_eq_true (by first | (with_reducible assumption) | assumption)) HC2.out
               have HR438 := Aside0.mk (Kd.C_of_reads (h1 := fun _ => rfl) (hA39 _ (Kd.reads_of_C HR2.out)))
               have HC438 := Aside0.mk hC39
               clear hA39 hC39 hi039 hsz39
               refine start_ (n := 18) (S := fun w' => w'.cell? ⟨gb422, 0, none⟩ = some (.int .i64 a0_0) ∧ w'.cell? ⟨gb422, 1, none⟩ = some (.int .i64 a0_1) ∧ w'.cell? ⟨gb422, 2, none⟩ = some (.int .i64 a0_2) ∧ w'.cell? ⟨gb422, 3, none⟩ = some (.int .i64 a0_3) ∧ w'.cell? ⟨gb422, 4, none⟩ = some (.bool a0_4) ∧ w'.cell? (ad437.add ((ji26)).toNat) = some (.int .u8 (rd l2 (ji26)))) (ds := []) #[false, false, false, false, false, false, false, false, false, false, false, false, false, false, false, false, false, false] (by kernel_rfl) rfl rfl ⟨(blk_cell BK422.out 0).trans rfl, (blk_cell BK422.out 1).trans rfl, (blk_cell BK422.out 2).trans rfl, (blk_cell BK422.out 3).trans rfl, (blk_cell BK422.out 4).trans rfl, ((HB.out.cell (World.block_lt_of_cell? w _ hw437_0)).trans hw437_0)⟩ (fun hHeld => ?_); refine with_tabW spec_PartSamples.tab11 spec_PartSamples.bits11 (fun HT_ HW_ => ?_)
               generalize wc.drew = w38 at HO_11 HO_12 BK422 HB HR438 hx437_0 hHeld ⊢
               refine pure_ (i := 0) (N := some 55) (v := ?_) (a' := ?_) #[true, false, false, false, false, false, false, false, false, false, false, false, false, false, false, false, false, false] rfl rfl (any_of HT_.out (by kernel_rfl)) (fun _ _ _ h => h) (Or.inl ⟨by rfl, ?_⟩) ?_ ?_
               rotate_left
               ·
                intro w'
                go_simp
                with_reducible rfl
               rotate_left
               ·
                simp only [Act.put, List.setIfInBounds_toArray, List.set_cons_zero, List.set_cons_succ, i64_w, i32_w]
                rfl
               refine pure_ (i := 1) (N := some 56) (v := ?_) (a' := ?_) #[true, true, false, false, false, false, false, false, false, false, false, false, false, false, false, false, false, false] rfl rfl (any_of HT_.out (by kernel_rfl)) (fun _ _ _ h => h) (Or.inl ⟨by rfl, ?_⟩) ?_ ?_
               rotate_left
               ·
                intro w'
                go_simp
                with_reducible rfl
               rotate_left
               ·
                simp only [Act.put, List.setIfInBounds_toArray, List.set_cons_zero, List.set_cons_succ, i64_w, i32_w]
                rfl
               refine pure_ (i := 2) (N := some 57) (v := ?_) (a' := ?_) #[true, true, true, false, false, false, false, false, false, false, false, false, false, false, false, false, false, false] rfl rfl (any_of HT_.out (by kernel_rfl)) (fun _ _ _ h => h) (Or.inl ⟨by rfl, ?_⟩) ?_ ?_
               rotate_left
               ·
                intro w'
                go_simp
                with_reducible rfl
               rotate_left
               ·
                simp only [Act.put, List.setIfInBounds_toArray, List.set_cons_zero, List.set_cons_succ, i64_w, i32_w]
                rfl
               refine pure_ (i := 5) (N := some 60) (v := ?_) (a' := ?_) #[true, true, true, false, false, true, false, false, false, false, false, false, false, false, false, false, false, false] rfl rfl (any_of HT_.out (by kernel_rfl)) (fun _ _ _ h => h) (Or.inl ⟨by rfl, ?_⟩) ?_ ?_
               rotate_left
               ·
                intro w'
                go_simp
                with_reducible rfl
               rotate_left
               ·
                simp only [Act.put, List.setIfInBounds_toArray, List.set_cons_zero, List.set_cons_succ, i64_w, i32_w]
                rfl
               refine pure_ (i := 6) (N := some 61) (v := ?_) (a' := ?_) #[true, true, true, false, false, true, true, false, false, false, false, false, false, false, false, false, false, false] rfl rfl (any_of HT_.out (by kernel_rfl)) (fun _ _ _ h => h) (Or.inl ⟨by rfl, ?_⟩) ?_ ?_
               rotate_left
               ·
                intro w'
                go_simp
                with_reducible rfl
               rotate_left
               ·
                simp only [Act.put, List.setIfInBounds_toArray, List.set_cons_zero, List.set_cons_succ, i64_w, i32_w]
                rfl
               refine pure_ (i := 7) (N := some 62) (v := ?_) (a' := ?_) #[true, true, true, false, false, true, true, true, false, false, false, false, false, false, false, false, false, false] rfl rfl (any_of HT_.out (by kernel_rfl)) (fun _ _ _ h => h) (Or.inl ⟨by rfl, ?_⟩) ?_ ?_
               rotate_left
               ·
                intro w'
                go_simp
                with_reducible rfl
               rotate_left
               ·
                simp only [Act.put, List.setIfInBounds_toArray, List.set_cons_zero, List.set_cons_succ, i64_w, i32_w]
                rfl
               refine pure_ (i := 8) (N := some 63) (v := ?_) (a' := ?_) #[true, true, true, false, false, true, true, true, true, false, false, false, false, false, false, false, false, false] rfl rfl (any_of HT_.out (by kernel_rfl)) (fun _ _ _ h => h) (Or.inl ⟨by rfl, ?_⟩) ?_ ?_
               rotate_left
               ·
                intro w'
                go_simp
                with_reducible rfl
               rotate_left
               ·
                simp only [Act.put, List.setIfInBounds_toArray, List.set_cons_zero, List.set_cons_succ, i64_w, i32_w]
                rfl
               refine pure_ (i := 9) (N := some 64) (v := ?_) (a' := ?_) #[true, true, true, false, false, true, true, true, true, true, false, false, false, false, false, false, false, false] rfl rfl (any_of HT_.out (by kernel_rfl)) (fun _ _ _ h => h) (Or.inl ⟨by rfl, ?_⟩) ?_ ?_
               rotate_left
               ·
                intro w'
                go_simp
                with_reducible rfl
               rotate_left
               ·
                simp only [Act.put, List.setIfInBounds_toArray, List.set_cons_zero, List.set_cons_succ, i64_w, i32_w]
                rfl
               refine pure_ (i := 10) (N := some 65) (v := ?_) (a' := ?_) #[true, true, true, false, false, true, true, true, true, true, true, false, false, false, false, false, false, false] rfl rfl (any_of HT_.out (by kernel_rfl)) (fun _ _ _ h => h) (Or.inl ⟨by rfl, ?_⟩) ?_ ?_
               rotate_left
               ·
                intro w'
                go_simp
                with_reducible rfl
               rotate_left
               ·
                simp only [Act.put, List.setIfInBounds_toArray, List.set_cons_zero, List.set_cons_succ, i64_w, i32_w]
                rfl
               refine pure_ (i := 11) (N := some 66) (v := ?_) (a' := ?_) #[true, true, true, false, false, true, true, true, true, true, true, true, false, false, false, false, false, false] rfl rfl (any_of HT_.out (by kernel_rfl)) (fun _ _ _ h => h) (Or.inl ⟨by rfl, ?_⟩) ?_ ?_
               rotate_left
               ·
                intro w'
                go_simp
                with_reducible rfl
               rotate_left
               ·
                simp only [Act.put, List.setIfInBounds_toArray, List.set_cons_zero, List.set_cons_succ, i64_w, i32_w]
                rfl
               refine pure_ (i := 12) (N := some 67) (v := ?_) (a' := ?_) #[true, true, true, false, false, true, true, true, true, true, true, true, true, false, false, false, false, false] rfl rfl (any_of HT_.out (by kernel_rfl)) (fun _ _ _ h => h) (Or.inl ⟨by rfl, ?_⟩) ?_ ?_
               rotate_left
               ·
                intro w'
                go_simp
                with_reducible rfl
               rotate_left
               ·
                simp only [Act.put, List.setIfInBounds_toArray, List.set_cons_zero, List.set_cons_succ, i64_w, i32_w]
                rfl
               refine pure_ (i := 13) (N := some 68) (v := ?_) (a' := ?_) #[true, true, true, false, false, true, true, true, true, true, true, true, true, true, false, false, false, false] rfl rfl (any_of HT_.out (by kernel_rfl)) (fun _ _ _ h => h) (Or.inl ⟨by rfl, ?_⟩) ?_ ?_
               rotate_left
               ·
                intro w'
                go_simp
                with_reducible rfl
               rotate_left
               ·
                simp only [Act.put, List.setIfInBounds_toArray, List.set_cons_zero, List.set_cons_succ, i64_w, i32_w]
                rfl
               refine take_ (i := 3) (N := some 58) (v := ?_) (a' := ?_) #[true, true, true, true, false, true, true, true, true, true, true, true, true, true, false, false, false, false] rfl rfl (take_ofW HT_.out HW_.out (by kernel_rfl)) (fun _ _ _ h => h) (Or.inl ⟨by rfl, ?_⟩) hHeld ?_ ?_
               rotate_left
               ·
                rintro w' ⟨s0, s1, s2, s3, s4, s5⟩
                go_simp
                with_reducible rfl
               rotate_left
               ·
                simp only [Act.put, List.setIfInBounds_toArray, List.set_cons_zero, List.set_cons_succ, i64_w, i32_w]
                rfl
               refine pure_ (i := 4) (N := some 59) (v := ?_) (a' := ?_) #[true, true, true, true, true, true, true, true, true, true, true, true, true, true, false, false, false, false] rfl rfl (any_of HT_.out (by kernel_rfl)) (fun _ _ _ h => h) (Or.inl ⟨by rfl, ?_⟩) ?_ ?_
               rotate_left
               ·
                intro w'
                go_simp
                with_reducible rfl
               rotate_left
               ·
                simp only [Act.put, List.setIfInBounds_toArray, List.set_cons_zero, List.set_cons_succ, i64_w, i32_w]
                rfl
               refine take_ (i := 14) (N := some 69) (v := ?_) (a' := ?_) #[true, true, true, true, true, true, true, true, true, true, true, true, true, true, true, false, false, false] rfl rfl (take_ofW HT_.out HW_.out (by kernel_rfl)) (fun _ _ _ h => h) (Or.inl ⟨by rfl, ?_⟩) hHeld ?_ ?_
               rotate_left
               ·
                rintro w' ⟨s0, s1, s2, s3, s4, s5⟩
                go_simp
                with_reducible rfl
               rotate_left
               ·
                simp only [Act.put, List.setIfInBounds_toArray, List.set_cons_zero, List.set_cons_succ, i64_w, i32_w]
                rfl
               refine one_ (i := 15) (N := some 70) #[true, true, true, true, true, true, true, true, true, true, true, true, true, true, true, true, false, false] rfl rfl (one_of HT_.out (by kernel_rfl)) (by decide) (fun K hK => ?_)
               refine goes_ Tryz.func78 (by kernel_rfl) rfl #[.agg #[.int .i64 a0_0, .int .i64 a0_1, .int .i64 a0_2, .int .i64 a0_3, .bool a0_4]] (by rfl) rfl rfl (by (try simp only [List.map_toArray, List.map_cons, List.map_nil]); first | done | rfl | (simp only [List.length_drop, List.length_take]; rfl)) ?_
               with_reducible refine (spec_step.calls a0_0 a0_1 a0_2 a0_3 a0_4 t439 _ A33.out).mono ?_
               rintro e w40 ⟨rfl, hb⟩
               refine ⟨_, rfl, ?_⟩
               have n0_ := Aside0.mk (Kd.R_below (by (with_reducible repeat (first | apply Kd.R_alloc | apply Kd.R_drewN | apply Kd.R_drew)); exact HO_11.out) hb)
               have n1_ := Aside0.mk (Kd.R_below (by (with_reducible repeat (first | apply Kd.R_alloc | apply Kd.R_drewN | apply Kd.R_drew)); exact HO_12.out) hb)
               have n2_ := Aside0.mk (blk_below (g := gb422) (o := .cells #[.int .i64 a0_0, .int .i64 a0_1, .int .i64 a0_2, .int .i64 a0_3, .bool a0_4] 26 (0, 0)) (by (with_reducible repeat (first | refine blk_drewN ?_ _ | refine blk_drew ?_ | refine blk_alloc ?_ _)); exact BK422.out) hb)
               have n3_ := Aside0.mk (below_step (by repeat (first | (with_reducible first | exact HB.out | apply below_alloc | apply pw_below_drewN | apply below_drew1 | refine below_set ?_ GE422.out) | exact HB.out)) hb)
               clear HO_11
               clear HO_12
               clear BK422
               clear HB
               have HO_11 := n0_
               have HO_12 := n1_
               have BK422 := n2_
               have HB := n3_
               clear n0_ n1_ n2_ n3_
               (try clear hb)
               (try clear hb2)
               (try clear hk)
               (try clear hi)
               obtain ⟨Ao41, co41, eo41⟩ := Kd.R_slice HO_11.out
               (first | subst eo41 | (injection eo41 with f1_ f2_ f3_; have f4_ := f1_.symm; have f5_ := f3_.symm; clear f1_ f2_ f3_; subst f4_; subst f5_))
               refine hK.out _ _ ⟨(blk_cell BK422.out 0).trans rfl, (blk_cell BK422.out 1).trans rfl, (blk_cell BK422.out 2).trans rfl, (blk_cell BK422.out 3).trans rfl, (blk_cell BK422.out 4).trans rfl, ((HB.out.cell (World.block_lt_of_cell? w _ hw437_0)).trans hw437_0)⟩ (fun hHeld => ?_)
               clear hK K
               refine norm_ (a' := ?_) ?_ ?_
               rotate_left
               ·
                show Act.put _ (some 70) _ = _
                simp only [Act.put, List.setIfInBounds_toArray, List.set_cons_zero, List.set_cons_succ, i64_w, i32_w]
                rfl
               refine one_ (i := 16) (N := some 71) #[true, true, true, true, true, true, true, true, true, true, true, true, true, true, true, true, true, false] rfl rfl (one_of HT_.out (by kernel_rfl)) (by decide) (fun K hK => ?_)
               refine goes_ Tryz.func122 (by kernel_rfl) rfl #[.int .i64 (wrap64 (rd l2 (ji26))), .slice A39 ((l2.take ((wrap64 ((ji29) + t429)) : Int).toNat).drop ((ji29) : Int).toNat).length (c2 - (ji29).toNat), .slice Ao41 x11_1.length co41, .int .i64 t439] (by rfl) rfl rfl (by (try simp only [List.map_toArray, List.map_cons, List.map_nil]); first | done | (rw [show ((l2.take ((wrap64 ((ji29) + t429)) : Int).toNat).drop ((ji29) : Int).toNat).length = ((wrap64 ((ji29) + t429)).toNat - (ji29).toNat) from (by rw [List.length_drop, List.length_take]; have h_ : ((wrap64 ((ji29) + t429)) : Int) ≤ (l2.length : Int) := of_decide_eq_true (by first | (with_reducible assumption) | assumption); omega)] <;> rfl) | (simp only [hji26, hji29]; rfl) | rfl | (simp only [List.length_drop, List.length_take]; rfl)) ?_
               with_reducible refine (spec_Unfiltered.calls kj19 (wrap64 (rd l2 (ji26))) _ _ ((l2.take ((wrap64 ((ji29) + t429)) : Int).toNat).drop ((ji29) : Int).toNat) _ _ x11_1 t439 t440 _ ?side1 ?side2 ?side3 ?side4 A34.out).mono ?_
               (case side1 => repeat (first | exact (Kd.C_below HR438.out HB.out) | (with_reducible refine Kd.C_alloc ?_ _) | (with_reducible refine Kd.C_drewN ?_ _) | (with_reducible refine Kd.C_drew ?_)))
               (case side2 => exact HC438.out)
               (case side3 => repeat (first | exact (Kd.R_reads' HO_11.out).2.2 | (with_reducible refine Kd.C_alloc ?_ _) | (with_reducible refine Kd.C_drewN ?_ _) | (with_reducible refine Kd.C_drew ?_)))
               (case side4 => exact (Kd.R_reads' HO_11.out).2.1)
               rintro e w42 ⟨v441, rfl, ho0, hb⟩
               refine ⟨_, rfl, ?_⟩
               have n0_ := Aside0.mk (Kd.R_elder' (by (with_reducible repeat (first | apply Kd.R_alloc | apply Kd.R_drewN | apply Kd.R_drew)); exact HO_11.out) (Kd.R_base ho0) hb)
               have n1_ := Aside0.mk (Kd.R_below (by (with_reducible repeat (first | apply Kd.R_alloc | apply Kd.R_drewN | apply Kd.R_drew)); exact HO_12.out) hb)
               have n2_ := Aside0.mk (Kd.R_lower (Kd.R_new' ho0 (Kd.R_lt (by (with_reducible repeat (first | apply Kd.R_alloc | apply Kd.R_drewN | apply Kd.R_drew)); exact HO_11.out))) (below_size (by repeat (first | (with_reducible first | exact HB.out | apply below_alloc | apply pw_below_drewN | apply below_drew1 | refine below_set ?_ GE422.out) | exact HB.out))))
               have n3_ := Aside0.mk (blk_below (g := gb422) (o := .cells #[.int .i64 a0_0, .int .i64 a0_1, .int .i64 a0_2, .int .i64 a0_3, .bool a0_4] 26 (0, 0)) (by (with_reducible repeat (first | refine blk_drewN ?_ _ | refine blk_drew ?_ | refine blk_alloc ?_ _)); exact BK422.out) hb)
               have n4_ := Aside0.mk (below_step (by repeat (first | (with_reducible first | exact HB.out | apply below_alloc | apply pw_below_drewN | apply below_drew1 | refine below_set ?_ GE422.out) | exact HB.out)) hb)
               clear HO_11
               clear HO_12
               clear BK422
               clear HB
               have HO_11 := n0_
               have HO_12 := n1_
               have HO442 := n2_
               have BK422 := n3_
               have HB := n4_
               clear n0_ n1_ n2_ n3_ n4_
               (try clear hb)
               (try clear hb2)
               (try clear hk)
               (try clear hi)
               (try clear ho0)
               refine hK.out _ _ ⟨(blk_cell BK422.out 0).trans rfl, (blk_cell BK422.out 1).trans rfl, (blk_cell BK422.out 2).trans rfl, (blk_cell BK422.out 3).trans rfl, (blk_cell BK422.out 4).trans rfl, ((HB.out.cell (World.block_lt_of_cell? w _ hw437_0)).trans hw437_0)⟩ (fun hHeld => ?_)
               clear hK K
               refine norm_ (a' := ?_) ?_ ?_
               rotate_left
               ·
                show Act.put _ (some 71) _ = _
                simp only [Act.put, List.setIfInBounds_toArray, List.set_cons_zero, List.set_cons_succ, i64_w, i32_w]
                rfl
               refine pure_ (i := 17) (N := some 11) (v := ?_) (a' := ?_) #[true, true, true, true, true, true, true, true, true, true, true, true, true, true, true, true, true, true] rfl rfl (any_of HT_.out (by kernel_rfl)) (fun _ _ _ h => h) (Or.inl ⟨by rfl, ?_⟩) ?_ ?_
               rotate_left
               ·
                intro w'
                go_simp
                with_reducible rfl
               rotate_left
               ·
                simp only [Act.put, List.setIfInBounds_toArray, List.set_cons_zero, List.set_cons_succ, i64_w, i32_w]
                rfl
               refine done_ (done_of HT_.out (by kernel_rfl)) ?_
               try go_wp2
               have n0_ := Aside0.mk (Kd.R_drew HO_11.out)
               have n1_ := Aside0.mk (Kd.R_drew HO_12.out)
               have n2_ := Aside0.mk (Kd.R_drew HO442.out)
               have n3_ := Aside0.mk (blk_drew BK422.out)
               have n4_ := Aside0.mk (below_drew1 HB.out)
               clear HO_11
               clear HO_12
               clear HO442
               clear BK422
               clear HB
               have HO_11 := n0_
               have HO_12 := n1_
               have HO442 := n2_
               have BK422 := n3_
               have HB := n4_
               clear n0_ n1_ n2_ n3_ n4_
               refine start_ (n := 12) (S := fun w' => w'.cell? ⟨gb422, 0, none⟩ = some (.int .i64 a0_0) ∧ w'.cell? ⟨gb422, 1, none⟩ = some (.int .i64 a0_1) ∧ w'.cell? ⟨gb422, 2, none⟩ = some (.int .i64 a0_2) ∧ w'.cell? ⟨gb422, 3, none⟩ = some (.int .i64 a0_3) ∧ w'.cell? ⟨gb422, 4, none⟩ = some (.bool a0_4)) (ds := []) #[false, false, false, false, false, false, false, false, false, false, false, false] (by kernel_rfl) rfl rfl ⟨(blk_cell BK422.out 0).trans rfl, (blk_cell BK422.out 1).trans rfl, (blk_cell BK422.out 2).trans rfl, (blk_cell BK422.out 3).trans rfl, (blk_cell BK422.out 4).trans rfl⟩ (fun hHeld => ?_); refine with_tabW spec_PartSamples.tab12 spec_PartSamples.bits12 (fun HT_ HW_ => ?_)
               generalize w42.drew = w43 at HO_11 HO_12 HO442 BK422 HB hHeld ⊢
               refine pure_ (i := 0) (N := some 72) (v := ?_) (a' := ?_) #[true, false, false, false, false, false, false, false, false, false, false, false] rfl rfl (any_of HT_.out (by kernel_rfl)) (fun _ _ _ h => h) (Or.inl ⟨by rfl, ?_⟩) ?_ ?_
               rotate_left
               ·
                intro w'
                go_simp
                with_reducible rfl
               rotate_left
               ·
                simp only [Act.put, List.setIfInBounds_toArray, List.set_cons_zero, List.set_cons_succ, i64_w, i32_w]
                rfl
               refine pure_ (i := 1) (N := some 73) (v := ?_) (a' := ?_) #[true, true, false, false, false, false, false, false, false, false, false, false] rfl rfl (any_of HT_.out (by kernel_rfl)) (fun _ _ _ h => h) (Or.inl ⟨by rfl, ?_⟩) ?_ ?_
               rotate_left
               ·
                intro w'
                go_simp
                with_reducible rfl
               rotate_left
               ·
                simp only [Act.put, List.setIfInBounds_toArray, List.set_cons_zero, List.set_cons_succ, i64_w, i32_w]
                rfl
               refine pure_ (i := 2) (N := some 74) (v := ?_) (a' := ?_) #[true, true, true, false, false, false, false, false, false, false, false, false] rfl rfl (any_of HT_.out (by kernel_rfl)) (fun _ _ _ h => h) (Or.inl ⟨by rfl, ?_⟩) ?_ ?_
               rotate_left
               ·
                intro w'
                go_simp
                with_reducible rfl
               rotate_left
               ·
                simp only [Act.put, List.setIfInBounds_toArray, List.set_cons_zero, List.set_cons_succ, i64_w, i32_w]
                rfl
               refine pure_ (i := 3) (N := some 75) (v := ?_) (a' := ?_) #[true, true, true, true, false, false, false, false, false, false, false, false] rfl rfl (any_of HT_.out (by kernel_rfl)) (fun _ _ _ h => h) (Or.inl ⟨by rfl, ?_⟩) ?_ ?_
               rotate_left
               ·
                intro w'
                go_simp
                with_reducible rfl
               rotate_left
               ·
                simp only [Act.put, List.setIfInBounds_toArray, List.set_cons_zero, List.set_cons_succ, i64_w, i32_w]
                rfl
               refine pure_ (i := 7) (N := some 79) (v := ?_) (a' := ?_) #[true, true, true, true, false, false, false, true, false, false, false, false] rfl rfl (any_of HT_.out (by kernel_rfl)) (fun _ _ _ h => h) (Or.inl ⟨by rfl, ?_⟩) ?_ ?_
               rotate_left
               ·
                intro w'
                go_simp
                with_reducible rfl
               rotate_left
               ·
                simp only [Act.put, List.setIfInBounds_toArray, List.set_cons_zero, List.set_cons_succ, i64_w, i32_w]
                rfl
               refine take_ (i := 4) (N := some 76) (v := ?_) (a' := ?_) #[true, true, true, true, true, false, false, true, false, false, false, false] rfl rfl (take_ofW HT_.out HW_.out (by kernel_rfl)) (fun _ _ _ h => h) (Or.inl ⟨by rfl, ?_⟩) hHeld ?_ ?_
               rotate_left
               ·
                rintro w' ⟨s0, s1, s2, s3, s4⟩
                go_simp
                with_reducible rfl
               rotate_left
               ·
                simp only [Act.put, List.setIfInBounds_toArray, List.set_cons_zero, List.set_cons_succ, i64_w, i32_w]
                rfl
               refine take_ (i := 8) (N := some 80) (v := ?_) (a' := ?_) #[true, true, true, true, true, false, false, true, true, false, false, false] rfl rfl (take_ofW HT_.out HW_.out (by kernel_rfl)) (fun _ _ _ h => h) (Or.inl ⟨by rfl, ?_⟩) hHeld ?_ ?_
               rotate_left
               ·
                rintro w' ⟨s0, s1, s2, s3, s4⟩
                go_simp
                with_reducible rfl
               rotate_left
               ·
                simp only [Act.put, List.setIfInBounds_toArray, List.set_cons_zero, List.set_cons_succ, i64_w, i32_w]
                rfl
               refine one_ (i := 5) (N := some 77) #[true, true, true, true, true, true, false, true, true, false, false, false] rfl rfl (one_of HT_.out (by kernel_rfl)) (by decide) (fun K hK => ?_)
               refine goes_ Tryz.func36 (by kernel_rfl) rfl #[.int .i64 a0_3] (by rfl) rfl rfl (by (try simp only [List.map_toArray, List.map_cons, List.map_nil]); first | done | rfl | (simp only [List.length_drop, List.length_take]; rfl)) ?_
               with_reducible refine (spec_Channels.calls a0_3 t443 _ A35.out).mono ?_
               rintro e w' ⟨rfl, ⟨nd, rfl⟩⟩
               refine ⟨_, rfl, ?_⟩
               obtain ⟨Ao44, co44, eo44⟩ := Kd.R_slice HO442.out
               (first | subst eo44 | (injection eo44 with f1_ f2_ f3_; have f4_ := f1_.symm; have f5_ := f3_.symm; clear f1_ f2_ f3_; subst f4_; subst f5_))
               refine hK.out _ _ ⟨(blk_cell BK422.out 0).trans rfl, (blk_cell BK422.out 1).trans rfl, (blk_cell BK422.out 2).trans rfl, (blk_cell BK422.out 3).trans rfl, (blk_cell BK422.out 4).trans rfl⟩ (fun hHeld => ?_)
               clear hK K
               refine norm_ (a' := ?_) ?_ ?_
               rotate_left
               ·
                show Act.put _ (some 77) _ = _
                simp only [Act.put, List.setIfInBounds_toArray, List.set_cons_zero, List.set_cons_succ, i64_w, i32_w]
                rfl
               refine pure_ (i := 6) (N := some 78) (v := ?_) (a' := ?_) #[true, true, true, true, true, true, true, true, true, false, false, false] rfl rfl (any_of HT_.out (by kernel_rfl)) (fun _ _ _ h => h) (Or.inl ⟨by rfl, ?_⟩) ?_ ?_
               rotate_left
               ·
                intro w'
                go_simp
                with_reducible rfl
               rotate_left
               ·
                simp only [Act.put, List.setIfInBounds_toArray, List.set_cons_zero, List.set_cons_succ, i64_w, i32_w]
                rfl
               refine one_ (i := 9) (N := some 81) #[true, true, true, true, true, true, true, true, true, true, false, false] rfl rfl (one_of HT_.out (by kernel_rfl)) (by decide) (fun K hK => ?_)
               refine goes_ Tryz.func123 (by kernel_rfl) rfl #[.slice Ao44 t440.length co44, .int .i64 (wrap64 (t427 * t443)), .int .i64 a0_2] (by rfl) rfl rfl (by (try simp only [List.map_toArray, List.map_cons, List.map_nil]); first | done | rfl | (simp only [List.length_drop, List.length_take]; rfl)) ?_
               with_reducible refine (spec_samplesOf.calls kj19 _ _ t440 (wrap64 (t427 * t443)) a0_2 t444 _ ?side1 ?side2 A36.out).mono ?_
               (case side1 => repeat (first | exact (Kd.R_reads' HO442.out).2.2 | (with_reducible refine Kd.C_alloc ?_ _) | (with_reducible refine Kd.C_drewN ?_ _) | (with_reducible refine Kd.C_drew ?_)))
               (case side2 => exact (Kd.R_reads' HO442.out).2.1)
               rintro e w45 ⟨v445, rfl, ho0, hb⟩
               refine ⟨_, rfl, ?_⟩
               have n0_ := Aside0.mk (Kd.R_below (by (with_reducible repeat (first | apply Kd.R_alloc | apply Kd.R_drewN | apply Kd.R_drew)); exact HO_11.out) hb)
               have n1_ := Aside0.mk (Kd.R_elder' (by (with_reducible repeat (first | apply Kd.R_alloc | apply Kd.R_drewN | apply Kd.R_drew)); exact HO_12.out) (Kd.R_base ho0) hb)
               have n2_ := Aside0.mk (Kd.R_below (by (with_reducible repeat (first | apply Kd.R_alloc | apply Kd.R_drewN | apply Kd.R_drew)); exact HO442.out) hb)
               have n3_ := Aside0.mk (Kd.R_lower (Kd.R_new' ho0 (Kd.R_lt (by (with_reducible repeat (first | apply Kd.R_alloc | apply Kd.R_drewN | apply Kd.R_drew)); exact HO_12.out))) (below_size (by repeat (first | (with_reducible first | exact HB.out | apply below_alloc | apply pw_below_drewN | apply below_drew1 | refine below_set ?_ GE422.out) | exact HB.out))))
               have n4_ := Aside0.mk (blk_below (g := gb422) (o := .cells #[.int .i64 a0_0, .int .i64 a0_1, .int .i64 a0_2, .int .i64 a0_3, .bool a0_4] 26 (0, 0)) (by (with_reducible repeat (first | refine blk_drewN ?_ _ | refine blk_drew ?_ | refine blk_alloc ?_ _)); exact BK422.out) hb)
               have n5_ := Aside0.mk (below_step (by repeat (first | (with_reducible first | exact HB.out | apply below_alloc | apply pw_below_drewN | apply below_drew1 | refine below_set ?_ GE422.out) | exact HB.out)) hb)
               clear HO_11
               clear HO_12
               clear HO442
               clear BK422
               clear HB
               have HO_11 := n0_
               have HO_12 := n1_
               have HO442 := n2_
               have HO446 := n3_
               have BK422 := n4_
               have HB := n5_
               clear n0_ n1_ n2_ n3_ n4_ n5_
               (try clear hb)
               (try clear hb2)
               (try clear hk)
               (try clear hi)
               (try clear ho0)
               obtain ⟨Ao47, co47, eo47⟩ := Kd.R_slice HO446.out
               (first | subst eo47 | (injection eo47 with f1_ f2_ f3_; have f4_ := f1_.symm; have f5_ := f3_.symm; clear f1_ f2_ f3_; subst f4_; subst f5_))
               refine hK.out _ _ ⟨(blk_cell BK422.out 0).trans rfl, (blk_cell BK422.out 1).trans rfl, (blk_cell BK422.out 2).trans rfl, (blk_cell BK422.out 3).trans rfl, (blk_cell BK422.out 4).trans rfl⟩ (fun hHeld => ?_)
               clear hK K
               refine norm_ (a' := ?_) ?_ ?_
               rotate_left
               ·
                show Act.put _ (some 81) _ = _
                simp only [Act.put, List.setIfInBounds_toArray, List.set_cons_zero, List.set_cons_succ, i64_w, i32_w]
                rfl
               refine one_ (i := 10) (N := some 82) #[true, true, true, true, true, true, true, true, true, true, true, false] rfl rfl (one_of HT_.out (by kernel_rfl)) (by decide) (fun K hK => ?_)
               refine Kd.R_append_rows_step (Kd.int .i64) (w0 := w) w.heap.size (by rfl) (.tmp 72) (.tmp 81) 27 3 (.int .i64 0) 8 rfl Tryz.underlying27 info3 rfl (by decide) (by omega) u12 x12_1 t444 _ _ _ (fun k_ => some k_ ≠ (.slice Ao47 t444.length co47 : Value).ownBlock) (fun _ => False) rfl rfl ?aO ?aR (fun _ _ h => h) (fun _ h => h.elim) ?aF ?aB ?aS ?aL ?_
               (case aR => repeat (first | exact (Kd.R_reads' HO446.out).2.2 | (with_reducible refine Kd.C_alloc ?_ _) | (with_reducible refine Kd.C_drewN ?_ _) | (with_reducible refine Kd.C_drew ?_)))
               (case aB => exact (by repeat (first | (with_reducible first | exact HB.out | apply below_alloc | apply pw_below_drewN | apply below_drew1 | refine below_set ?_ GE422.out) | exact HB.out)))
               (case aF => exact (fun k_ hk => Kd.fresh' (Kd.R_lt (by (with_reducible repeat (first | apply Kd.R_alloc | apply Kd.R_drewN | apply Kd.R_drew)); exact HO446.out)) k_ hk))
               (case aO => exact (by (with_reducible repeat (first | apply Kd.R_alloc | apply Kd.R_drewN | apply Kd.R_drew)); exact Kd.R_mono HO_12.out (fun _ hk => hk.2)))
               (case aS => exact (below_size (by repeat (first | (with_reducible first | exact HB.out | apply below_alloc | apply pw_below_drewN | apply below_drew1 | refine below_set ?_ GE422.out) | exact HB.out))))
               (case aL => have := LMc37.out; omega)
               intro v448 w46 ho hb hg hat
               rw [← Ny447.out] at ho
               have n0_ := Aside0.mk (Kd.R_over' (by (with_reducible repeat (first | apply Kd.R_alloc | apply Kd.R_drewN | apply Kd.R_drew)); exact HO_11.out) (Kd.R_typed (by (with_reducible repeat (first | apply Kd.R_alloc | apply Kd.R_drewN | apply Kd.R_drew)); exact HO_12.out)) (by decide) hg)
               have n1_ := Aside0.mk (blk_grown (g := gb422) (o := .cells #[.int .i64 a0_0, .int .i64 a0_1, .int .i64 a0_2, .int .i64 a0_3, .bool a0_4] 26 (0, 0)) (by (with_reducible repeat (first | refine blk_drewN ?_ _ | refine blk_drew ?_ | refine blk_alloc ?_ _)); exact BK422.out) hg (Kd.R_ne HO_12.out BK422.out (by decide)))
               have n2_ := Aside0.mk (Kd.R_over' (by (with_reducible repeat (first | apply Kd.R_alloc | apply Kd.R_drewN | apply Kd.R_drew)); exact HO442.out) (Kd.R_typed (by (with_reducible repeat (first | apply Kd.R_alloc | apply Kd.R_drewN | apply Kd.R_drew)); exact HO_12.out)) (by decide) hg)
               have n3_ := Aside0.mk (Kd.R_after (ok := (fun _ => True)) (by (with_reducible repeat (first | apply Kd.R_alloc | apply Kd.R_drewN | apply Kd.R_drew)); exact HO446.out) hg hat)
               have n4_ := Aside0.mk (hb)
               have n5_ := Aside0.mk (ho)
               clear HO_11
               clear BK422
               clear HO442
               clear HO446
               clear HB
               clear HO_12
               have HO_11 := n0_
               have BK422 := n1_
               have HO442 := n2_
               have HO446 := n3_
               have HB := n4_
               have HO449 := n5_
               clear n0_ n1_ n2_ n3_ n4_ n5_
               clear ho hb hg hat
               refine hK.out _ _ ⟨(blk_cell BK422.out 0).trans rfl, (blk_cell BK422.out 1).trans rfl, (blk_cell BK422.out 2).trans rfl, (blk_cell BK422.out 3).trans rfl, (blk_cell BK422.out 4).trans rfl⟩ (fun hHeld => ?_)
               clear hK K
               refine norm_ (a' := ?_) ?_ ?_
               rotate_left
               ·
                show Act.put _ (some 82) _ = _
                simp only [Act.put, List.setIfInBounds_toArray, List.set_cons_zero, List.set_cons_succ, i64_w, i32_w]
                rfl
               refine pure_ (i := 11) (N := some 12) (v := ?_) (a' := ?_) #[true, true, true, true, true, true, true, true, true, true, true, true] rfl rfl (any_of HT_.out (by kernel_rfl)) (fun _ _ _ h => h) (Or.inl ⟨by rfl, ?_⟩) ?_ ?_
               rotate_left
               ·
                intro w'
                go_simp
                with_reducible rfl
               rotate_left
               ·
                simp only [Act.put, List.setIfInBounds_toArray, List.set_cons_zero, List.set_cons_succ, i64_w, i32_w]
                rfl
               refine done_ (done_of HT_.out (by kernel_rfl)) ?_
               try go_wp2
               go_roundg kj19
               case measure => have := HK1.out; have := HJ19.out; omega
               case rel => exact ⟨(t440), (y447), (wrap64 (x34_1 + 1)), (by first | rfl | (simp; done) | (simp [*]; done)), H', ⟨by have := HK1.out; have := HJ19.out; omega⟩, ⟨by (with_reducible repeat (first | apply Kd.R_alloc | apply Kd.R_drewN | apply Kd.R_drew)); exact Kd.R_mono HO442.out (fun _ hk => trivial)⟩, ⟨by (with_reducible repeat (first | apply Kd.R_alloc | apply Kd.R_drewN | apply Kd.R_drew)); exact Kd.R_mono HO449.out (fun _ hk => trivial)⟩, ⟨by (with_reducible repeat (first | refine blk_drewN ?_ _ | refine blk_drew ?_ | refine blk_alloc ?_ _)); exact BK422.out⟩, ⟨by repeat (first | (with_reducible first | exact HB.out | apply below_alloc | apply pw_below_drewN | apply below_drew1 | refine below_set ?_ GE422.out) | exact HB.out)⟩⟩
              ·
               rw [if_neg c37] at H
               exact absurd H (by simp)
             ·
              rw [if_neg c32] at H
              exact absurd H (by simp)
            ·
             rw [if_neg c31] at H
             exact absurd H (by simp)
           ·
            rw [if_neg c30] at H
            exact absurd H (by simp)
          ·
           rw [if_neg c28] at H
           exact absurd H (by simp)
         ·
          rw [if_neg c27] at H
          exact absurd H (by simp)
     ·
      rw [if_neg c19] at H
      have c19b0 : decide (x34_1 < t428) = false := decide_eq_false c19
      clear c19
      simp only [Option.some.injEq, Prod.mk.injEq] at H
      obtain ⟨rfl, rfl⟩ := H
      go_wp2
      go_ret2
      exact ⟨_, by first | rfl | (simp <;> rfl) | (simp [*] <;> rfl), by (with_reducible repeat (first | apply Kd.R_alloc | apply Kd.R_drewN | apply Kd.R_drew)); exact HO_12.out, by repeat (first | (with_reducible first | exact HB.out | apply below_alloc | apply pw_below_drewN | apply below_drew1 | refine below_set ?_ GE422.out) | exact HB.out)⟩
  ·
   rw [if_neg c8] at H
   exact absurd H (by simp)
 ·
  rw [if_neg c7] at H
  exact absurd H (by simp)
end Go.Proofs.YtnpkgmgedgcjmaaGreatDoor.Pr
end
