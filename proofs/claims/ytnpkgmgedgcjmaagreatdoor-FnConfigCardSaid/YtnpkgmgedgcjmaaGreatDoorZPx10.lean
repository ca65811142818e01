/- A part of the proof: Px10. -/
import Derived.Test.YtnpkgmgedgcjmaaGreatDoorZPx0
set_option linter.all false
set_option maxRecDepth 100000
section
namespace Go.Proofs.YtnpkgmgedgcjmaaGreatDoor.Pr
open Go.RowKit Go.Proofs.YtnpkgmgedgcjmaaGreatDoorW.PrintWords Go.Proofs.YtnpkgmgedgcjmaaGreatDoorW.PrintLast Go.Proofs.YtnpkgmgedgcjmaaGreatDoorW.PrintMore
attribute [local go_sem] max2_int max_two
def spec_samplesOf.l0 : Nat → List Int → Int → List Int → Int → Int → Option (List Int)
 | 0, _, _, _, _, _ => none
 | k + 1, x0, x2, x7, x11, x12 => if x12 < x11 then (if x2 = 8 then (if 0 ≤ x12 then (if x12 < (x0.length : Int) then (if x7.length < 17592186044416 then (spec_samplesOf.l0 k x0 x2 (x7 ++ [wrap64 (rd x0 x12)]) x11 (wrap64 (x12 + 1))) else (none)) else (none)) else (none)) else (if x2 = 16 then (if 0 ≤ (wrap64 (2 * x12)) then (if (wrap64 (2 * x12)) < (x0.length : Int) then (if 0 ≤ (wrap64 ((wrap64 (2 * x12)) + 1)) then (if (wrap64 ((wrap64 (2 * x12)) + 1)) < (x0.length : Int) then (if x7.length < 17592186044416 then (spec_samplesOf.l0 k x0 x2 (x7 ++ [Go.bits .or .i64 (wrap64 ((wrap64 (rd x0 (wrap64 (2 * x12)))) * 256)) (wrap64 (rd x0 (wrap64 ((wrap64 (2 * x12)) + 1))))]) x11 (wrap64 (x12 + 1))) else (none)) else (none)) else (none)) else (none)) else (none)) else (if 0 ≤ (wrap64 (Int.tdiv (wrap64 (x12 * x2)) 8)) then (if (wrap64 (Int.tdiv (wrap64 (x12 * x2)) 8)) < (x0.length : Int) then (if 0 ≤ (wrap64 ((wrap64 (8 - x2)) - (Int.tmod (wrap64 (x12 * x2)) 8))) then (if 0 ≤ x2 then (if x7.length < 17592186044416 then (spec_samplesOf.l0 k x0 x2 (x7 ++ [Go.bits .and .i64 (shr .i64 (wrap64 (rd x0 (wrap64 (Int.tdiv (wrap64 (x12 * x2)) 8)))) (wrap64 ((wrap64 (8 - x2)) - (Int.tmod (wrap64 (x12 * x2)) 8)))) (wrap64 ((shl .i64 1 x2) - 1))]) x11 (wrap64 (x12 + 1))) else (none)) else (none)) else (none)) else (none)) else (none)))) else (some x7)
def spec_samplesOf.f (k : Nat) (l0 : List Int) (a1 : Int) (a2 : Int) : Option (List Int) := spec_samplesOf.l0 k l0 a2 (([] : List Int)) a1 0
def spec_samplesOf.T7 : Bool × List (List Nat × List Nat) := (true, [([], []), ([], []), ([], []), ([2], [2]), ([1, 3], [1, 3]), ([4], [4]), ([5], [5]), ([], []), ([7], [7]), ([], []), ([9], [9]), ([8, 10], [8, 10]), ([6, 11], [6, 11]), ([], []), ([13], [13]), ([14], [14]), ([12, 15], [12, 15]), ([16], [16]), ([0, 17], [0, 17]), ([18, 18, 0, 1, 2, 3, 4, 5, 6, 7, 8, 9, 10, 11, 12, 13, 14, 15, 16, 17, 18], [0, 18])])
def spec_samplesOf.B7 : List Nat := [0, 0, 0, 4, 14, 30, 62, 0, 128, 0, 512, 1920, 4094, 0, 8192, 24576, 65534, 131070, 262143, 524287]
theorem spec_samplesOf.tab7 : rtab .any (opsOf Tryz.f123 7) = spec_samplesOf.T7 := by kernel_rfl
theorem spec_samplesOf.bits7 : waitsOk spec_samplesOf.T7.2 spec_samplesOf.B7 = true := by kernel_rfl
def spec_samplesOf.T11 : Bool × List (List Nat × List Nat) := (true, [([], []), ([], []), ([], []), ([2], [2]), ([1, 3], [1, 3]), ([4], [4]), ([5], [5]), ([6], [6]), ([], []), ([], []), ([9], [9]), ([10], [10]), ([8, 11], [8, 11]), ([12], [12]), ([13], [13]), ([7, 14], [7, 14]), ([15], [15]), ([0, 16], [0, 16]), ([17, 17, 0, 1, 2, 3, 4, 5, 6, 7, 8, 9, 10, 11, 12, 13, 14, 15, 16, 17], [0, 17])])
def spec_samplesOf.B11 : List Nat := [0, 0, 0, 4, 14, 30, 62, 126, 0, 0, 512, 1536, 3840, 7936, 16128, 32766, 65534, 131071, 262143]
theorem spec_samplesOf.tab11 : rtab .any (opsOf Tryz.f123 11) = spec_samplesOf.T11 := by kernel_rfl
theorem spec_samplesOf.bits11 : waitsOk spec_samplesOf.T11.2 spec_samplesOf.B11 = true := by kernel_rfl
set_option maxHeartbeats 8000000 in
theorem spec_samplesOf.calls (k : Nat) (A0 : Option Addr) (c0 : Nat) (l0 : List Int) (a1 : Int) (a2 : Int) (r : List Int) (w : World) (hr0 : Kd.C (Kd.int .u8) w A0 l0.length l0) (hc0 : l0.length ≤ c0) (h : spec_samplesOf.f k l0 a1 a2 = some r) :
  Calls Tryz.prog 123 #[.slice A0 l0.length c0, .int .i64 a1, .int .i64 a2] w fun e w' => ∃ v0_ : Value, e = .returned (v0_) ∧ Kd.R (Kd.int .i64) 3 w' w.heap.size (fun _ => True) v0_ r ∧ Below w.heap.size w w' := by
 have HR0 := Aside0.mk hr0
 have HC0 := Aside0.mk hc0
 clear hr0 hc0
 have HB := Aside0.mk (Below.refl w.heap.size w)
 have H : (spec_samplesOf.l0 k l0 a2 (([] : List Int)) a1 0) = some r := h
 clear h
 obtain ⟨y406, hy406⟩ : ∃ y_ : List Int, y_ = (([] : List Int)) := ⟨_, rfl⟩
 replace H : (spec_samplesOf.l0 k l0 a2 y406 a1 0) = some r := by first | (rw [hy406]; with_reducible exact H) | (have H2_ := (Option.bind_some _ _).symm.trans H; rw [hy406]; with_reducible exact H2_) | (have H2_ := (Option.bind_some _ _).symm.trans H; with_reducible exact H2_) | with_reducible exact H | (rw [hy406]; exact H) | exact H
 have Ny406 := Aside0.mk hy406
 clear hy406
 have H' := Aside0.mk H
 clear H
 go_enter Tryz.func123, Tryz.ntmps123
 go_wp2_with (first | ((with_reducible refine gate_dst (N := 10) rfl ?_); refine Kd.R_lit (Kd.int .i64) _ 3 ?hg (N := 10) ?hd (xs := ([] : List Int)) (inner := []) (ok := fun _ => True) (okp := fun _ => True) ?hr ?hp (fun _ hk => hk) trivial (Below.refl _ _) (Nat.le_refl _) (by simp) ?_; (case hd => rfl); (case hg => rfl); (case hr => first | (go_simp; done) | (go_simp; rfl)); (case hp => exact (Reps.none _ _)); intro v407 w4 ho5 hb hg_ hnew_; clear hg_ hnew_; (first | rw [← Ny406.out] at ho5 | (simp only [Int.reduceToNat] at ho5; rw [← Ny406.out] at ho5)); have n0_ := Aside0.mk (Kd.R_lower ho5 (below_size (by repeat (first | (with_reducible first | exact HB.out | apply below_alloc | apply pw_below_drewN | apply below_drew1) | exact HB.out)))); have n1_ := Aside0.mk (below_step (by repeat (first | (with_reducible first | exact HB.out | apply below_alloc | apply pw_below_drewN | apply below_drew1) | exact HB.out)) hb); clear HB; have HO408 := n0_; have HB := n1_; clear n0_ n1_; clear hb ho5))
 go_loopg [7, 12] k (fun kq v7 v12 w' => ∃ (x7_1 : List Int) (x12_1 : Int), v12 = .int .i64 x12_1 ∧ Aside0 (spec_samplesOf.l0 kq l0 a2 x7_1 a1 x12_1 = some r) ∧ Aside0 (kq ≤ k) ∧ Aside0 (Kd.R (Kd.int .i64) 3 w' w.heap.size (fun _ => True) v7 x7_1) ∧ Aside0 (Below w.heap.size w w'))
 case atStart => exact ⟨(y406), (0), (by first | rfl | (simp; done) | (simp [*]; done)), H', ⟨Nat.le_refl _⟩, ⟨by (with_reducible repeat (first | apply Kd.R_alloc | apply Kd.R_drewN | apply Kd.R_drew)); exact HO408.out⟩, ⟨by repeat (first | (with_reducible first | exact HB.out | apply below_alloc | apply pw_below_drewN | apply below_drew1) | exact HB.out)⟩⟩
 case round =>
  clear H'
  (try clear c1); (try clear p2)
  obtain ⟨x7_1, x12_1, rfl, HA, HK1, HO_7, HB⟩ := hrel
  cases gk with
  | zero => exact absurd HA.out (by simp [spec_samplesOf.l0])
  | succ k1 =>
   have H := HA.out
   clear HA
   simp only [spec_samplesOf.l0] at H
   by_cases c6 : x12_1 < a1
   ·
    rw [if_pos c6] at H
    have c6b0 : decide (x12_1 < a1) = true := decide_eq_true c6
    clear c6
    by_cases c7 : a2 = 8
    ·
     rw [if_pos c7] at H
     have c7b0 : (a2 == 8) = true := beq_iff_eq.mpr c7
     have c7b1 : (a2 != 8) = false := bne_eq_false_iff_eq.mpr c7
     clear c7
     by_cases c8 : 0 ≤ x12_1
     ·
      rw [if_pos c8] at H
      have c8b0 : decide (0 ≤ x12_1) = true := decide_eq_true c8
      clear c8
      by_cases c9 : x12_1 < (l0.length : Int)
      ·
       rw [if_pos c9] at H
       have c9b0 : decide (x12_1 < (l0.length : Int)) = true := decide_eq_true c9
       clear c9
       by_cases c10 : x7_1.length < 17592186044416
       ·
        rw [if_pos c10] at H
        have LMc10 := Aside0.mk c10
        clear c10
        obtain ⟨y410, hy410⟩ : ∃ y_ : List Int, y_ = (x7_1 ++ [wrap64 (rd l0 x12_1)]) := ⟨_, rfl⟩
        replace H : (spec_samplesOf.l0 k1 l0 a2 y410 a1 (wrap64 (x12_1 + 1))) = some r := by first | (rw [hy410]; with_reducible exact H) | (have H2_ := (Option.bind_some _ _).symm.trans H; rw [hy410]; with_reducible exact H2_) | (have H2_ := (Option.bind_some _ _).symm.trans H; with_reducible exact H2_) | with_reducible exact H | (rw [hy410]; exact H) | exact H
        have Ny410 := Aside0.mk hy410
        clear hy410
        have H' := Aside0.mk H
        clear H
        have p409 : 0 ≤ (x12_1 : Int) := of_decide_eq_true (by first | (with_reducible assumption) | assumption)
        have q409 : x12_1 < (l0.length : Int) := of_decide_eq_true (by first | (with_reducible assumption) | assumption)
        obtain ⟨ad409, e409, hx409_0⟩ := Kd.at_int HR0.out x12_1 p409 q409
        cases e409
        replace hx409_0 := (HB.out.cell (World.block_lt_of_cell? w _ hx409_0)).trans hx409_0
        replace p409 := eq_true p409
        replace q409 := eq_true q409
        go_wp2_with (first | ((with_reducible refine gate_builtin (b := .append) (xs := #[.tmp 40, .tmp 46]) rfl ?_); at_builtin; refine Kd.R_append (Kd.int .i64) (w0 := w) w.heap.size rfl (.tmp 40) (.tmp 46) 27 3 (.int .i64 0) 8 rfl Tryz.underlying27 info3 rfl (by decide) (by omega) u7 x7_1 (wrap64 (rd l0 x12_1)) [.int .i64 (wrap64 (rd l0 x12_1))] (fun _ => True) (fun _ => False) rfl rfl ?aP (fun _ hk => hk.elim) ?aF ?aO ?aB ?aS ?aL ?_; (case aP => exact rfl); (case aB => exact (by repeat (first | (with_reducible first | exact HB.out | apply below_alloc | apply pw_below_drewN | apply below_drew1) | exact HB.out))); (case aF => exact (fun _ _ => trivial)); (case aO => exact (by (with_reducible repeat (first | apply Kd.R_alloc | apply Kd.R_drewN | apply Kd.R_drew)); exact HO_7.out)); (case aS => exact (below_size (by repeat (first | (with_reducible first | exact HB.out | apply below_alloc | apply pw_below_drewN | apply below_drew1) | exact HB.out)))); (case aL => have := LMc10.out; omega); intro v411 w11 ho hb hg hat; rw [← Ny410.out] at ho; have n0_ := Aside0.mk (hb); have n1_ := Aside0.mk (ho); clear HB; clear HO_7; have HB := n0_; have HO412 := n1_; clear n0_ n1_; clear ho hb hg hat))
        go_roundg k1
        case measure => have := HK1.out; omega
        case rel => exact ⟨(y410), (wrap64 (x12_1 + 1)), (by first | rfl | (simp; done) | (simp [*]; done)), H', ⟨by have := HK1.out; omega⟩, ⟨by (with_reducible repeat (first | apply Kd.R_alloc | apply Kd.R_drewN | apply Kd.R_drew)); exact HO412.out⟩, ⟨by repeat (first | (with_reducible first | exact HB.out | apply below_alloc | apply pw_below_drewN | apply below_drew1) | exact HB.out)⟩⟩
       ·
        rw [if_neg c10] at H
        exact absurd H (by simp)
      ·
       rw [if_neg c9] at H
       exact absurd H (by simp)
     ·
      rw [if_neg c8] at H
      exact absurd H (by simp)
    ·
     rw [if_neg c7] at H
     have c7b0 : (a2 == 8) = false := beq_eq_false_iff_ne.mpr c7
     have c7b1 : (a2 != 8) = true := bne_iff_ne.mpr c7
     by_cases c12 : a2 = 16
     ·
      rw [if_pos c12] at H
      have c12b0 : (a2 == 16) = true := beq_iff_eq.mpr c12
      have c12b1 : (a2 != 16) = false := bne_eq_false_iff_eq.mpr c12
      clear c12
      obtain ⟨ji13, hji13⟩ : ∃ j_ : Int, (wrap64 (2 * x12_1)) = j_ := ⟨_, rfl⟩
      replace H : (if 0 ≤ (ji13) then (if (ji13) < (l0.length : Int) then (if 0 ≤ (wrap64 ((ji13) + 1)) then (if (wrap64 ((ji13) + 1)) < (l0.length : Int) then (if x7_1.length < 17592186044416 then (spec_samplesOf.l0 k1 l0 a2 (x7_1 ++ [Go.bits .or .i64 (wrap64 ((wrap64 (rd l0 (ji13))) * 256)) (wrap64 (rd l0 (wrap64 ((ji13) + 1))))]) a1 (wrap64 (x12_1 + 1))) else (none)) else (none)) else (none)) else (none)) else (none)) = some r := by first | (rw [hji13] at H; exact H) | (simp only [hji13] at H ⊢; exact H)
      have hji13w : (IntKind.i64.wrap (2 * x12_1)) = ji13 := (i64_w _).trans hji13
      by_cases c14 : 0 ≤ (ji13)
      ·
       rw [if_pos c14] at H
       have c14b0 : decide (0 ≤ (ji13)) = true := decide_eq_true c14
       clear c14
       by_cases c15 : (ji13) < (l0.length : Int)
       ·
        rw [if_pos c15] at H
        have c15b0 : decide ((ji13) < (l0.length : Int)) = true := decide_eq_true c15
        clear c15
        obtain ⟨ji16, hji16⟩ : ∃ j_ : Int, (wrap64 ((ji13) + 1)) = j_ := ⟨_, rfl⟩
        replace H : (if 0 ≤ (ji16) then (if (ji16) < (l0.length : Int) then (if x7_1.length < 17592186044416 then (spec_samplesOf.l0 k1 l0 a2 (x7_1 ++ [Go.bits .or .i64 (wrap64 ((wrap64 (rd l0 (ji13))) * 256)) (wrap64 (rd l0 (ji16)))]) a1 (wrap64 (x12_1 + 1))) else (none)) else (none)) else (none)) = some r := by first | (rw [hji16] at H; exact H) | (simp only [hji16] at H ⊢; exact H)
        have hji16w : (IntKind.i64.wrap ((ji13) + 1)) = ji16 := (i64_w _).trans hji16
        by_cases c17 : 0 ≤ (ji16)
        ·
         rw [if_pos c17] at H
         have c17b0 : decide (0 ≤ (ji16)) = true := decide_eq_true c17
         clear c17
         by_cases c18 : (ji16) < (l0.length : Int)
         ·
          rw [if_pos c18] at H
          have c18b0 : decide ((ji16) < (l0.length : Int)) = true := decide_eq_true c18
          clear c18
          by_cases c19 : x7_1.length < 17592186044416
          ·
           rw [if_pos c19] at H
           have LMc19 := Aside0.mk c19
           clear c19
           obtain ⟨y415, hy415⟩ : ∃ y_ : List Int, y_ = (x7_1 ++ [Go.bits .or .i64 (wrap64 ((wrap64 (rd l0 (ji13))) * 256)) (wrap64 (rd l0 (ji16)))]) := ⟨_, rfl⟩
           replace H : (spec_samplesOf.l0 k1 l0 a2 y415 a1 (wrap64 (x12_1 + 1))) = some r := by first | (rw [hy415]; with_reducible exact H) | (have H2_ := (Option.bind_some _ _).symm.trans H; rw [hy415]; with_reducible exact H2_) | (have H2_ := (Option.bind_some _ _).symm.trans H; with_reducible exact H2_) | with_reducible exact H | (rw [hy415]; exact H) | exact H
           have Ny415 := Aside0.mk hy415
           clear hy415
           have H' := Aside0.mk H
           clear H
           try go_wp2
           have n0_ := Aside0.mk (Kd.R_drew HO_7.out)
           have n1_ := Aside0.mk (below_drew1 HB.out)
           clear HO_7
           clear HB
           have HO_7 := n0_
           have HB := n1_
           clear n0_ n1_
           have p413 : 0 ≤ ((ji13) : Int) := of_decide_eq_true (by first | (with_reducible assumption) | assumption)
           have q413 : (ji13) < (l0.length : Int) := of_decide_eq_true (by first | (with_reducible assumption) | assumption)
           obtain ⟨ad413, e413, hx413_0⟩ := Kd.at_int HR0.out (ji13) p413 q413
           have hw413_0 := hx413_0
           cases e413
           replace hx413_0 := (HB.out.cell (World.block_lt_of_cell? w _ hx413_0)).trans hx413_0
           replace p413 := eq_true p413
           replace q413 := eq_true q413
           have p414 : 0 ≤ ((ji16) : Int) := of_decide_eq_true (by first | (with_reducible assumption) | assumption)
           have q414 : (ji16) < (l0.length : Int) := of_decide_eq_true (by first | (with_reducible assumption) | assumption)
           obtain ⟨ad414, e414, hx414_0⟩ := Kd.at_int HR0.out (ji16) p414 q414
           have hw414_0 := hx414_0
           obtain rfl : ad413 = ad414 := (by injection e414)
           replace hx414_0 := (HB.out.cell (World.block_lt_of_cell? w _ hx414_0)).trans hx414_0
           replace p414 := eq_true p414
           replace q414 := eq_true q414
           refine start_ (n := 19) (S := fun w' => w'.cell? (ad413.add ((ji13)).toNat) = some (.int .u8 (rd l0 (ji13))) ∧ w'.cell? (ad413.add ((ji16)).toNat) = some (.int .u8 (rd l0 (ji16)))) (ds := []) #[false, false, false, false, false, false, false, false, false, false, false, false, false, false, false, false, false, false, false] (by kernel_rfl) rfl rfl ⟨((HB.out.cell (World.block_lt_of_cell? w _ hw413_0)).trans hw413_0), ((HB.out.cell (World.block_lt_of_cell? w _ hw414_0)).trans hw414_0)⟩ (fun hHeld => ?_); refine with_tabW spec_samplesOf.tab11 spec_samplesOf.bits11 (fun HT_ HW_ => ?_)
           generalize wr.drew = w20 at HO_7 HB hx413_0 hx414_0 hHeld ⊢
           refine pure_ (i := 0) (N := some 50) (v := ?_) (a' := ?_) #[true, false, false, false, false, false, false, false, false, false, false, false, false, false, false, false, false, false, false] rfl rfl (any_of HT_.out (by kernel_rfl)) (fun _ _ _ h => h) (Or.inl ⟨by rfl, ?_⟩) ?_ ?_
           rotate_left
           ·
            intro w'
            go_simp
            with_reducible rfl
           rotate_left
           ·
            simp only [Act.put, List.setIfInBounds_toArray, List.set_cons_zero, List.set_cons_succ, i64_w, i32_w]
            rfl
           refine pure_ (i := 1) (N := some 51) (v := ?_) (a' := ?_) #[true, true, false, false, false, false, false, false, false, false, false, false, false, false, false, false, false, false, false] rfl rfl (any_of HT_.out (by kernel_rfl)) (fun _ _ _ h => h) (Or.inl ⟨by rfl, ?_⟩) ?_ ?_
           rotate_left
           ·
            intro w'
            go_simp
            with_reducible rfl
           rotate_left
           ·
            simp only [Act.put, List.setIfInBounds_toArray, List.set_cons_zero, List.set_cons_succ, i64_w, i32_w]
            rfl
           refine pure_ (i := 2) (N := some 52) (v := ?_) (a' := ?_) #[true, true, true, false, false, false, false, false, false, false, false, false, false, false, false, false, false, false, false] rfl rfl (any_of HT_.out (by kernel_rfl)) (fun _ _ _ h => h) (Or.inl ⟨by rfl, ?_⟩) ?_ ?_
           rotate_left
           ·
            intro w'
            go_simp
            with_reducible rfl
           rotate_left
           ·
            simp only [Act.put, List.setIfInBounds_toArray, List.set_cons_zero, List.set_cons_succ, i64_w, i32_w]
            rfl
           refine pure_ (i := 3) (N := some 53) (v := ?_) (a' := ?_) #[true, true, true, true, false, false, false, false, false, false, false, false, false, false, false, false, false, false, false] rfl rfl (any_of HT_.out (by kernel_rfl)) (fun _ _ _ h => h) (Or.inl ⟨by rfl, ?_⟩) ?_ ?_
           rotate_left
           ·
            intro w'
            go_simp
            with_reducible rfl
           rotate_left
           ·
            simp only [Act.put, List.setIfInBounds_toArray, List.set_cons_zero, List.set_cons_succ, i64_w, i32_w]
            rfl
           refine pure_ (i := 4) (N := some 54) (v := ?_) (a' := ?_) #[true, true, true, true, true, false, false, false, false, false, false, false, false, false, false, false, false, false, false] rfl rfl (any_of HT_.out (by kernel_rfl)) (fun _ _ _ h => h) (Or.inl ⟨by rfl, ?_⟩) ?_ ?_
           rotate_left
           ·
            intro w'
            go_simp
            with_reducible rfl
           rotate_left
           ·
            simp only [Act.put, List.setIfInBounds_toArray, List.set_cons_zero, List.set_cons_succ, i64_w, i32_w]
            rfl
           refine pure_ (i := 8) (N := some 58) (v := ?_) (a' := ?_) #[true, true, true, true, true, false, false, false, true, false, false, false, false, false, false, false, false, false, false] rfl rfl (any_of HT_.out (by kernel_rfl)) (fun _ _ _ h => h) (Or.inl ⟨by rfl, ?_⟩) ?_ ?_
           rotate_left
           ·
            intro w'
            go_simp
            with_reducible rfl
           rotate_left
           ·
            simp only [Act.put, List.setIfInBounds_toArray, List.set_cons_zero, List.set_cons_succ, i64_w, i32_w]
            rfl
           refine pure_ (i := 9) (N := some 59) (v := ?_) (a' := ?_) #[true, true, true, true, true, false, false, false, true, true, false, false, false, false, false, false, false, false, false] rfl rfl (any_of HT_.out (by kernel_rfl)) (fun _ _ _ h => h) (Or.inl ⟨by rfl, ?_⟩) ?_ ?_
           rotate_left
           ·
            intro w'
            go_simp
            with_reducible rfl
           rotate_left
           ·
            simp only [Act.put, List.setIfInBounds_toArray, List.set_cons_zero, List.set_cons_succ, i64_w, i32_w]
            rfl
           refine pure_ (i := 10) (N := some 60) (v := ?_) (a' := ?_) #[true, true, true, true, true, false, false, false, true, true, true, false, false, false, false, false, false, false, false] rfl rfl (any_of HT_.out (by kernel_rfl)) (fun _ _ _ h => h) (Or.inl ⟨by rfl, ?_⟩) ?_ ?_
           rotate_left
           ·
            intro w'
            go_simp
            with_reducible rfl
           rotate_left
           ·
            simp only [Act.put, List.setIfInBounds_toArray, List.set_cons_zero, List.set_cons_succ, i64_w, i32_w]
            rfl
           refine pure_ (i := 11) (N := some 61) (v := ?_) (a' := ?_) #[true, true, true, true, true, false, false, false, true, true, true, true, false, false, false, false, false, false, false] rfl rfl (any_of HT_.out (by kernel_rfl)) (fun _ _ _ h => h) (Or.inl ⟨by rfl, ?_⟩) ?_ ?_
           rotate_left
           ·
            intro w'
            go_simp
            with_reducible rfl
           rotate_left
           ·
            simp only [Act.put, List.setIfInBounds_toArray, List.set_cons_zero, List.set_cons_succ, i64_w, i32_w]
            rfl
           refine pure_ (i := 12) (N := some 62) (v := ?_) (a' := ?_) #[true, true, true, true, true, false, false, false, true, true, true, true, true, false, false, false, false, false, false] rfl rfl (any_of HT_.out (by kernel_rfl)) (fun _ _ _ h => h) (Or.inl ⟨by rfl, ?_⟩) ?_ ?_
           rotate_left
           ·
            intro w'
            go_simp
            with_reducible rfl
           rotate_left
           ·
            simp only [Act.put, List.setIfInBounds_toArray, List.set_cons_zero, List.set_cons_succ, i64_w, i32_w]
            rfl
           refine take_ (i := 5) (N := some 55) (v := ?_) (a' := ?_) #[true, true, true, true, true, true, false, false, true, true, true, true, true, false, false, false, false, false, false] rfl rfl (take_ofW HT_.out HW_.out (by kernel_rfl)) (fun _ _ _ h => h) (Or.inl ⟨by rfl, ?_⟩) hHeld ?_ ?_
           rotate_left
           ·
            rintro w' ⟨s0, s1⟩
            go_simp
            with_reducible rfl
           rotate_left
           ·
            simp only [Act.put, List.setIfInBounds_toArray, List.set_cons_zero, List.set_cons_succ, i64_w, i32_w]
            rfl
           refine pure_ (i := 6) (N := some 56) (v := ?_) (a' := ?_) #[true, true, true, true, true, true, true, false, true, true, true, true, true, false, false, false, false, false, false] rfl rfl (any_of HT_.out (by kernel_rfl)) (fun _ _ _ h => h) (Or.inl ⟨by rfl, ?_⟩) ?_ ?_
           rotate_left
           ·
            intro w'
            go_simp
            with_reducible rfl
           rotate_left
           ·
            simp only [Act.put, List.setIfInBounds_toArray, List.set_cons_zero, List.set_cons_succ, i64_w, i32_w]
            rfl
           refine pure_ (i := 7) (N := some 57) (v := ?_) (a' := ?_) #[true, true, true, true, true, true, true, true, true, true, true, true, true, false, false, false, false, false, false] rfl rfl (any_of HT_.out (by kernel_rfl)) (fun _ _ _ h => h) (Or.inl ⟨by rfl, ?_⟩) ?_ ?_
           rotate_left
           ·
            intro w'
            go_simp
            with_reducible rfl
           rotate_left
           ·
            simp only [Act.put, List.setIfInBounds_toArray, List.set_cons_zero, List.set_cons_succ, i64_w, i32_w]
            rfl
           refine take_ (i := 13) (N := some 63) (v := ?_) (a' := ?_) #[true, true, true, true, true, true, true, true, true, true, true, true, true, true, false, false, false, false, false] rfl rfl (take_ofW HT_.out HW_.out (by kernel_rfl)) (fun _ _ _ h => h) (Or.inl ⟨by rfl, ?_⟩) hHeld ?_ ?_
           rotate_left
           ·
            rintro w' ⟨s0, s1⟩
            go_simp
            with_reducible rfl
           rotate_left
           ·
            simp only [Act.put, List.setIfInBounds_toArray, List.set_cons_zero, List.set_cons_succ, i64_w, i32_w]
            rfl
           refine pure_ (i := 14) (N := some 64) (v := ?_) (a' := ?_) #[true, true, true, true, true, true, true, true, true, true, true, true, true, true, true, false, false, false, false] rfl rfl (any_of HT_.out (by kernel_rfl)) (fun _ _ _ h => h) (Or.inl ⟨by rfl, ?_⟩) ?_ ?_
           rotate_left
           ·
            intro w'
            go_simp
            with_reducible rfl
           rotate_left
           ·
            simp only [Act.put, List.setIfInBounds_toArray, List.set_cons_zero, List.set_cons_succ, i64_w, i32_w]
            rfl
           refine pure_ (i := 15) (N := some 65) (v := ?_) (a' := ?_) #[true, true, true, true, true, true, true, true, true, true, true, true, true, true, true, true, false, false, false] rfl rfl (any_of HT_.out (by kernel_rfl)) (fun _ _ _ h => h) (Or.inl ⟨by rfl, ?_⟩) ?_ ?_
           rotate_left
           ·
            intro w'
            go_simp
            with_reducible rfl
           rotate_left
           ·
            simp only [Act.put, List.setIfInBounds_toArray, List.set_cons_zero, List.set_cons_succ, i64_w, i32_w]
            rfl
           refine one_ (i := 16) (N := some 66) #[true, true, true, true, true, true, true, true, true, true, true, true, true, true, true, true, true, false, false] rfl rfl (one_of HT_.out (by kernel_rfl)) (by decide) (fun K hK => ?_)
           refine value_ (w1 := ?_) (v := ?_) (by rfl) rfl ?_ ?_
           rotate_left 2
           ·
            go_simp
            constructor
            ·
             rfl
            ·
             rfl
           refine hK.out _ _ ⟨(World.cell?_alloc_lt _ _ _ (World.block_lt_of_cell? _ _ (((HB.out.cell (World.block_lt_of_cell? w _ hw413_0)).trans hw413_0)))).trans (((HB.out.cell (World.block_lt_of_cell? w _ hw413_0)).trans hw413_0)), (World.cell?_alloc_lt _ _ _ (World.block_lt_of_cell? _ _ (((HB.out.cell (World.block_lt_of_cell? w _ hw414_0)).trans hw414_0)))).trans (((HB.out.cell (World.block_lt_of_cell? w _ hw414_0)).trans hw414_0))⟩ (fun hHeld => ?_)
           clear hK K
           refine norm_ (a' := ?_) ?_ ?_
           rotate_left
           ·
            show Act.put _ (some 66) _ = _
            simp only [Act.put, List.setIfInBounds_toArray, List.set_cons_zero, List.set_cons_succ, i64_w, i32_w]
            rfl
           refine one_ (i := 17) (N := some 67) #[true, true, true, true, true, true, true, true, true, true, true, true, true, true, true, true, true, true, false] rfl rfl (one_of HT_.out (by kernel_rfl)) (by decide) (fun K hK => ?_)
           refine Kd.R_append_step (Kd.int .i64) (w0 := w) w.heap.size (by rfl) (.tmp 50) (.tmp 66) 27 3 (.int .i64 0) 8 rfl Tryz.underlying27 info3 rfl (by decide) (by omega) u7 x7_1 (Go.bits .or .i64 (wrap64 ((wrap64 (rd l0 (ji13))) * 256)) (wrap64 (rd l0 (ji16)))) [.int .i64 (Go.bits .or .i64 (wrap64 ((wrap64 (rd l0 (ji13))) * 256)) (wrap64 (rd l0 (ji16))))] (fun _ => True) (fun _ => False) rfl rfl ?aP (fun _ hk => hk.elim) ?aF ?aO ?aB ?aS ?aL ?_
           (case aP => exact rfl)
           (case aB => exact (by repeat (first | (with_reducible first | exact HB.out | apply below_alloc | apply pw_below_drewN | apply below_drew1) | exact HB.out)))
           (case aF => exact (fun _ _ => trivial))
           (case aO => exact (by (with_reducible repeat (first | apply Kd.R_alloc | apply Kd.R_drewN | apply Kd.R_drew)); exact HO_7.out))
           (case aS => exact (below_size (by repeat (first | (with_reducible first | exact HB.out | apply below_alloc | apply pw_below_drewN | apply below_drew1) | exact HB.out))))
           (case aL => have := LMc19.out; omega)
           intro v416 w21 ho hb hg hat
           rw [← Ny415.out] at ho
           have n0_ := Aside0.mk (hb)
           have n1_ := Aside0.mk (ho)
           clear HB
           clear HO_7
           have HB := n0_
           have HO417 := n1_
           clear n0_ n1_
           clear ho hb hg hat
           refine hK.out _ _ ⟨((HB.out.cell (World.block_lt_of_cell? w _ hw413_0)).trans hw413_0), ((HB.out.cell (World.block_lt_of_cell? w _ hw414_0)).trans hw414_0)⟩ (fun hHeld => ?_)
           clear hK K
           refine norm_ (a' := ?_) ?_ ?_
           rotate_left
           ·
            show Act.put _ (some 67) _ = _
            simp only [Act.put, List.setIfInBounds_toArray, List.set_cons_zero, List.set_cons_succ, i64_w, i32_w]
            rfl
           refine pure_ (i := 18) (N := some 7) (v := ?_) (a' := ?_) #[true, true, true, true, true, true, true, true, true, true, true, true, true, true, true, true, true, true, true] rfl rfl (any_of HT_.out (by kernel_rfl)) (fun _ _ _ h => h) (Or.inl ⟨by rfl, ?_⟩) ?_ ?_
           rotate_left
           ·
            intro w'
            go_simp
            with_reducible rfl
           rotate_left
           ·
            simp only [Act.put, List.setIfInBounds_toArray, List.set_cons_zero, List.set_cons_succ, i64_w, i32_w]
            rfl
           refine done_ (done_of HT_.out (by kernel_rfl)) ?_
           try go_wp2
           go_roundg k1
           case measure => have := HK1.out; omega
           case rel => exact ⟨(y415), (wrap64 (x12_1 + 1)), (by first | rfl | (simp; done) | (simp [*]; done)), H', ⟨by have := HK1.out; omega⟩, ⟨by (with_reducible repeat (first | apply Kd.R_alloc | apply Kd.R_drewN | apply Kd.R_drew)); exact HO417.out⟩, ⟨by repeat (first | (with_reducible first | exact HB.out | apply below_alloc | apply pw_below_drewN | apply below_drew1) | exact HB.out)⟩⟩
          ·
           rw [if_neg c19] at H
           exact absurd H (by simp)
         ·
          rw [if_neg c18] at H
          exact absurd H (by simp)
        ·
         rw [if_neg c17] at H
         exact absurd H (by simp)
       ·
        rw [if_neg c15] at H
        exact absurd H (by simp)
      ·
       rw [if_neg c14] at H
       exact absurd H (by simp)
     ·
      rw [if_neg c12] at H
      have c12b0 : (a2 == 16) = false := beq_eq_false_iff_ne.mpr c12
      have c12b1 : (a2 != 16) = true := bne_iff_ne.mpr c12
      obtain ⟨ji22, hji22⟩ : ∃ j_ : Int, (wrap64 (Int.tdiv (wrap64 (x12_1 * a2)) 8)) = j_ := ⟨_, rfl⟩
      replace H : (if 0 ≤ (ji22) then (if (ji22) < (l0.length : Int) then (if 0 ≤ (wrap64 ((wrap64 (8 - a2)) - (Int.tmod (wrap64 (x12_1 * a2)) 8))) then (if 0 ≤ a2 then (if x7_1.length < 17592186044416 then (spec_samplesOf.l0 k1 l0 a2 (x7_1 ++ [Go.bits .and .i64 (shr .i64 (wrap64 (rd l0 (ji22))) (wrap64 ((wrap64 (8 - a2)) - (Int.tmod (wrap64 (x12_1 * a2)) 8)))) (wrap64 ((shl .i64 1 a2) - 1))]) a1 (wrap64 (x12_1 + 1))) else (none)) else (none)) else (none)) else (none)) else (none)) = some r := by first | (rw [hji22] at H; exact H) | (simp only [hji22] at H ⊢; exact H)
      have hji22w : (IntKind.i64.wrap (Int.tdiv (wrap64 (x12_1 * a2)) 8)) = ji22 := (i64_w _).trans hji22
      by_cases c23 : 0 ≤ (ji22)
      ·
       rw [if_pos c23] at H
       have c23b0 : decide (0 ≤ (ji22)) = true := decide_eq_true c23
       clear c23
       by_cases c24 : (ji22) < (l0.length : Int)
       ·
        rw [if_pos c24] at H
        have c24b0 : decide ((ji22) < (l0.length : Int)) = true := decide_eq_true c24
        clear c24
        obtain ⟨ji25, hji25⟩ : ∃ j_ : Int, (wrap64 ((wrap64 (8 - a2)) - (Int.tmod (wrap64 (x12_1 * a2)) 8))) = j_ := ⟨_, rfl⟩
        replace H : (if 0 ≤ (ji25) then (if 0 ≤ a2 then (if x7_1.length < 17592186044416 then (spec_samplesOf.l0 k1 l0 a2 (x7_1 ++ [Go.bits .and .i64 (shr .i64 (wrap64 (rd l0 (ji22))) (ji25)) (wrap64 ((shl .i64 1 a2) - 1))]) a1 (wrap64 (x12_1 + 1))) else (none)) else (none)) else (none)) = some r := by first | (rw [hji25] at H; exact H) | (simp only [hji25] at H ⊢; exact H)
        have hji25w : (IntKind.i64.wrap ((wrap64 (8 - a2)) - (Int.tmod (wrap64 (x12_1 * a2)) 8))) = ji25 := (i64_w _).trans hji25
        by_cases c26 : 0 ≤ (ji25)
        ·
         rw [if_pos c26] at H
         have c26b0 := eq_true c26
         have c26b1 : decide (0 ≤ (ji25)) = true := decide_eq_true c26
         clear c26
         obtain ⟨ji27, hji27⟩ : ∃ j_ : Int, (shr .i64 (wrap64 (rd l0 (ji22))) (ji25)) = j_ := ⟨_, rfl⟩
         replace H : (if 0 ≤ a2 then (if x7_1.length < 17592186044416 then (spec_samplesOf.l0 k1 l0 a2 (x7_1 ++ [Go.bits .and .i64 (ji27) (wrap64 ((shl .i64 1 a2) - 1))]) a1 (wrap64 (x12_1 + 1))) else (none)) else (none)) = some r := by first | (rw [hji27] at H; exact H) | (simp only [hji27] at H ⊢; exact H)
         have hji27_ : ((wrap64 (rd l0 (ji22))) / 2 ^ min (ji25).toNat 64) = ji27 := hji27
         have hji27z : (ji25) ≤ 64 → ((wrap64 (rd l0 (ji22))) / 2 ^ (ji25).toNat) = ji27 := shr_small hji27
         by_cases c28 : 0 ≤ a2
         ·
          rw [if_pos c28] at H
          have c28b0 := eq_true c28
          have c28b1 : decide (0 ≤ a2) = true := decide_eq_true c28
          clear c28
          obtain ⟨ji29, hji29⟩ : ∃ j_ : Int, (shl .i64 1 a2) = j_ := ⟨_, rfl⟩
          replace H : (if x7_1.length < 17592186044416 then (spec_samplesOf.l0 k1 l0 a2 (x7_1 ++ [Go.bits .and .i64 (ji27) (wrap64 ((ji29) - 1))]) a1 (wrap64 (x12_1 + 1))) else (none)) = some r := by first | (rw [hji29] at H; exact H) | (simp only [hji29] at H ⊢; exact H)
          have hji29_ : (IntKind.i64.wrap (1 * 2 ^ min a2.toNat 64)) = ji29 := hji29
          have hji29z : a2 ≤ 64 → (IntKind.i64.wrap (1 * 2 ^ a2.toNat)) = ji29 := shl_small hji29
          have hji29u : (IntKind.i64.wrap (2 ^ min a2.toNat 64)) = ji29 := by have h_ := hji29_; rw [Int.one_mul] at h_; exact h_
          have hji29v : a2 ≤ 64 → (IntKind.i64.wrap (2 ^ a2.toNat)) = ji29 := fun hle_ => by have h_ := hji29z hle_; rw [Int.one_mul] at h_; exact h_
          have hji29y : (wrap64 (1 * 2 ^ min a2.toNat 64)) = ji29 := (i64_w _).symm.trans hji29_
          have hji29x : a2 ≤ 64 → (wrap64 (1 * 2 ^ a2.toNat)) = ji29 := fun h_ => (i64_w _).symm.trans (hji29z h_)
          by_cases c30 : x7_1.length < 17592186044416
          ·
           rw [if_pos c30] at H
           have LMc30 := Aside0.mk c30
           clear c30
           obtain ⟨y419, hy419⟩ : ∃ y_ : List Int, y_ = (x7_1 ++ [Go.bits .and .i64 (ji27) (wrap64 ((ji29) - 1))]) := ⟨_, rfl⟩
           replace H : (spec_samplesOf.l0 k1 l0 a2 y419 a1 (wrap64 (x12_1 + 1))) = some r := by first | (rw [hy419]; with_reducible exact H) | (have H2_ := (Option.bind_some _ _).symm.trans H; rw [hy419]; with_reducible exact H2_) | (have H2_ := (Option.bind_some _ _).symm.trans H; with_reducible exact H2_) | with_reducible exact H | (rw [hy419]; exact H) | exact H
           have Ny419 := Aside0.mk hy419
           clear hy419
           have H' := Aside0.mk H
           clear H
           try go_wp2
           have n0_ := Aside0.mk (Kd.R_drew HO_7.out)
           have n1_ := Aside0.mk (below_drew1 HB.out)
           clear HO_7
           clear HB
           have HO_7 := n0_
           have HB := n1_
           clear n0_ n1_
           have p418 : 0 ≤ ((ji22) : Int) := of_decide_eq_true (by first | (with_reducible assumption) | assumption)
           have q418 : (ji22) < (l0.length : Int) := of_decide_eq_true (by first | (with_reducible assumption) | assumption)
           obtain ⟨ad418, e418, hx418_0⟩ := Kd.at_int HR0.out (ji22) p418 q418
           have hw418_0 := hx418_0
           cases e418
           replace hx418_0 := (HB.out.cell (World.block_lt_of_cell? w _ hx418_0)).trans hx418_0
           replace p418 := eq_true p418
           replace q418 := eq_true q418
           refine start_ (n := 20) (S := fun w' => w'.cell? (ad418.add ((ji22)).toNat) = some (.int .u8 (rd l0 (ji22)))) (ds := []) #[false, false, false, false, false, false, false, false, false, false, false, false, false, false, false, false, false, false, false, false] (by kernel_rfl) rfl rfl (((HB.out.cell (World.block_lt_of_cell? w _ hw418_0)).trans hw418_0)) (fun hHeld => ?_); refine with_tabW spec_samplesOf.tab7 spec_samplesOf.bits7 (fun HT_ HW_ => ?_)
           generalize wr.drew = w31 at HO_7 HB hx418_0 hHeld ⊢
           refine pure_ (i := 0) (N := some 19) (v := ?_) (a' := ?_) #[true, false, false, false, false, false, false, false, false, false, false, false, false, false, false, false, false, false, false, false] rfl rfl (any_of HT_.out (by kernel_rfl)) (fun _ _ _ h => h) (Or.inl ⟨by rfl, ?_⟩) ?_ ?_
           rotate_left
           ·
            intro w'
            go_simp
            with_reducible rfl
           rotate_left
           ·
            simp only [Act.put, List.setIfInBounds_toArray, List.set_cons_zero, List.set_cons_succ, i64_w, i32_w]
            rfl
           refine pure_ (i := 1) (N := some 20) (v := ?_) (a' := ?_) #[true, true, false, false, false, false, false, false, false, false, false, false, false, false, false, false, false, false, false, false] rfl rfl (any_of HT_.out (by kernel_rfl)) (fun _ _ _ h => h) (Or.inl ⟨by rfl, ?_⟩) ?_ ?_
           rotate_left
           ·
            intro w'
            go_simp
            with_reducible rfl
           rotate_left
           ·
            simp only [Act.put, List.setIfInBounds_toArray, List.set_cons_zero, List.set_cons_succ, i64_w, i32_w]
            rfl
           refine pure_ (i := 2) (N := some 21) (v := ?_) (a' := ?_) #[true, true, true, false, false, false, false, false, false, false, false, false, false, false, false, false, false, false, false, false] rfl rfl (any_of HT_.out (by kernel_rfl)) (fun _ _ _ h => h) (Or.inl ⟨by rfl, ?_⟩) ?_ ?_
           rotate_left
           ·
            intro w'
            go_simp
            with_reducible rfl
           rotate_left
           ·
            simp only [Act.put, List.setIfInBounds_toArray, List.set_cons_zero, List.set_cons_succ, i64_w, i32_w]
            rfl
           refine pure_ (i := 3) (N := some 22) (v := ?_) (a' := ?_) #[true, true, true, true, false, false, false, false, false, false, false, false, false, false, false, false, false, false, false, false] rfl rfl (any_of HT_.out (by kernel_rfl)) (fun _ _ _ h => h) (Or.inl ⟨by rfl, ?_⟩) ?_ ?_
           rotate_left
           ·
            intro w'
            go_simp
            with_reducible rfl
           rotate_left
           ·
            simp only [Act.put, List.setIfInBounds_toArray, List.set_cons_zero, List.set_cons_succ, i64_w, i32_w]
            rfl
           refine pure_ (i := 4) (N := some 23) (v := ?_) (a' := ?_) #[true, true, true, true, true, false, false, false, false, false, false, false, false, false, false, false, false, false, false, false] rfl rfl (any_of HT_.out (by kernel_rfl)) (fun _ _ _ h => h) (Or.inl ⟨by rfl, ?_⟩) ?_ ?_
           rotate_left
           ·
            intro w'
            go_simp
            with_reducible rfl
           rotate_left
           ·
            simp only [Act.put, List.setIfInBounds_toArray, List.set_cons_zero, List.set_cons_succ, i64_w, i32_w]
            rfl
           refine pure_ (i := 7) (N := some 26) (v := ?_) (a' := ?_) #[true, true, true, true, true, false, false, true, false, false, false, false, false, false, false, false, false, false, false, false] rfl rfl (any_of HT_.out (by kernel_rfl)) (fun _ _ _ h => h) (Or.inl ⟨by rfl, ?_⟩) ?_ ?_
           rotate_left
           ·
            intro w'
            go_simp
            with_reducible rfl
           rotate_left
           ·
            simp only [Act.put, List.setIfInBounds_toArray, List.set_cons_zero, List.set_cons_succ, i64_w, i32_w]
            rfl
           refine pure_ (i := 8) (N := some 27) (v := ?_) (a' := ?_) #[true, true, true, true, true, false, false, true, true, false, false, false, false, false, false, false, false, false, false, false] rfl rfl (any_of HT_.out (by kernel_rfl)) (fun _ _ _ h => h) (Or.inl ⟨by rfl, ?_⟩) ?_ ?_
           rotate_left
           ·
            intro w'
            go_simp
            with_reducible rfl
           rotate_left
           ·
            simp only [Act.put, List.setIfInBounds_toArray, List.set_cons_zero, List.set_cons_succ, i64_w, i32_w]
            rfl
           refine pure_ (i := 9) (N := some 28) (v := ?_) (a' := ?_) #[true, true, true, true, true, false, false, true, true, true, false, false, false, false, false, false, false, false, false, false] rfl rfl (any_of HT_.out (by kernel_rfl)) (fun _ _ _ h => h) (Or.inl ⟨by rfl, ?_⟩) ?_ ?_
           rotate_left
           ·
            intro w'
            go_simp
            with_reducible rfl
           rotate_left
           ·
            simp only [Act.put, List.setIfInBounds_toArray, List.set_cons_zero, List.set_cons_succ, i64_w, i32_w]
            rfl
           refine pure_ (i := 10) (N := some 29) (v := ?_) (a' := ?_) #[true, true, true, true, true, false, false, true, true, true, true, false, false, false, false, false, false, false, false, false] rfl rfl (any_of HT_.out (by kernel_rfl)) (fun _ _ _ h => h) (Or.inl ⟨by rfl, ?_⟩) ?_ ?_
           rotate_left
           ·
            intro w'
            go_simp
            with_reducible rfl
           rotate_left
           ·
            simp only [Act.put, List.setIfInBounds_toArray, List.set_cons_zero, List.set_cons_succ, i64_w, i32_w]
            rfl
           refine pure_ (i := 11) (N := some 30) (v := ?_) (a' := ?_) #[true, true, true, true, true, false, false, true, true, true, true, true, false, false, false, false, false, false, false, false] rfl rfl (any_of HT_.out (by kernel_rfl)) (fun _ _ _ h => h) (Or.inl ⟨by rfl, ?_⟩) ?_ ?_
           rotate_left
           ·
            intro w'
            go_simp
            with_reducible rfl
           rotate_left
           ·
            simp only [Act.put, List.setIfInBounds_toArray, List.set_cons_zero, List.set_cons_succ, i64_w, i32_w]
            rfl
           refine pure_ (i := 13) (N := some 32) (v := ?_) (a' := ?_) #[true, true, true, true, true, false, false, true, true, true, true, true, false, true, false, false, false, false, false, false] rfl rfl (any_of HT_.out (by kernel_rfl)) (fun _ _ _ h => h) (Or.inl ⟨by rfl, ?_⟩) ?_ ?_
           rotate_left
           ·
            intro w'
            go_simp
            with_reducible rfl
           rotate_left
           ·
            simp only [Act.put, List.setIfInBounds_toArray, List.set_cons_zero, List.set_cons_succ, i64_w, i32_w]
            rfl
           refine pure_ (i := 14) (N := some 33) (v := ?_) (a' := ?_) #[true, true, true, true, true, false, false, true, true, true, true, true, false, true, true, false, false, false, false, false] rfl rfl (any_of HT_.out (by kernel_rfl)) (fun _ _ _ h => h) (Or.inl ⟨by rfl, ?_⟩) ?_ ?_
           rotate_left
           ·
            intro w'
            go_simp
            with_reducible rfl
           rotate_left
           ·
            simp only [Act.put, List.setIfInBounds_toArray, List.set_cons_zero, List.set_cons_succ, i64_w, i32_w]
            rfl
           refine pure_ (i := 15) (N := some 34) (v := ?_) (a' := ?_) #[true, true, true, true, true, false, false, true, true, true, true, true, false, true, true, true, false, false, false, false] rfl rfl (any_of HT_.out (by kernel_rfl)) (fun _ _ _ h => h) (Or.inl ⟨by rfl, ?_⟩) ?_ ?_
           rotate_left
           ·
            intro w'
            go_simp
            with_reducible rfl
           rotate_left
           ·
            simp only [Act.put, List.setIfInBounds_toArray, List.set_cons_zero, List.set_cons_succ, i64_w, i32_w]
            rfl
           refine take_ (i := 5) (N := some 24) (v := ?_) (a' := ?_) #[true, true, true, true, true, true, false, true, true, true, true, true, false, true, true, true, false, false, false, false] rfl rfl (take_ofW HT_.out HW_.out (by kernel_rfl)) (fun _ _ _ h => h) (Or.inl ⟨by rfl, ?_⟩) hHeld ?_ ?_
           rotate_left
           ·
            intro w' s0
            go_simp
            with_reducible rfl
           rotate_left
           ·
            simp only [Act.put, List.setIfInBounds_toArray, List.set_cons_zero, List.set_cons_succ, i64_w, i32_w]
            rfl
           refine pure_ (i := 6) (N := some 25) (v := ?_) (a' := ?_) #[true, true, true, true, true, true, true, true, true, true, true, true, false, true, true, true, false, false, false, false] rfl rfl (any_of HT_.out (by kernel_rfl)) (fun _ _ _ h => h) (Or.inl ⟨by rfl, ?_⟩) ?_ ?_
           rotate_left
           ·
            intro w'
            go_simp
            with_reducible rfl
           rotate_left
           ·
            simp only [Act.put, List.setIfInBounds_toArray, List.set_cons_zero, List.set_cons_succ, i64_w, i32_w]
            rfl
           refine pure_ (i := 12) (N := some 31) (v := ?_) (a' := ?_) #[true, true, true, true, true, true, true, true, true, true, true, true, true, true, true, true, false, false, false, false] rfl rfl (any_of HT_.out (by kernel_rfl)) (fun _ _ _ h => h) (Or.inl ⟨by rfl, ?_⟩) ?_ ?_
           rotate_left
           ·
            intro w'
            go_simp
            with_reducible rfl
           rotate_left
           ·
            simp only [Act.put, List.setIfInBounds_toArray, List.set_cons_zero, List.set_cons_succ, i64_w, i32_w]
            rfl
           refine pure_ (i := 16) (N := some 35) (v := ?_) (a' := ?_) #[true, true, true, true, true, true, true, true, true, true, true, true, true, true, true, true, true, false, false, false] rfl rfl (any_of HT_.out (by kernel_rfl)) (fun _ _ _ h => h) (Or.inl ⟨by rfl, ?_⟩) ?_ ?_
           rotate_left
           ·
            intro w'
            go_simp
            with_reducible rfl
           rotate_left
           ·
            simp only [Act.put, List.setIfInBounds_toArray, List.set_cons_zero, List.set_cons_succ, i64_w, i32_w]
            rfl
           refine one_ (i := 17) (N := some 36) #[true, true, true, true, true, true, true, true, true, true, true, true, true, true, true, true, true, true, false, false] rfl rfl (one_of HT_.out (by kernel_rfl)) (by decide) (fun K hK => ?_)
           refine value_ (w1 := ?_) (v := ?_) (by rfl) rfl ?_ ?_
           rotate_left 2
           ·
            go_simp
            constructor
            ·
             rfl
            ·
             rfl
           refine hK.out _ _ ((World.cell?_alloc_lt _ _ _ (World.block_lt_of_cell? _ _ (((HB.out.cell (World.block_lt_of_cell? w _ hw418_0)).trans hw418_0)))).trans (((HB.out.cell (World.block_lt_of_cell? w _ hw418_0)).trans hw418_0))) (fun hHeld => ?_)
           clear hK K
           refine norm_ (a' := ?_) ?_ ?_
           rotate_left
           ·
            show Act.put _ (some 36) _ = _
            simp only [Act.put, List.setIfInBounds_toArray, List.set_cons_zero, List.set_cons_succ, i64_w, i32_w]
            rfl
           refine one_ (i := 18) (N := some 37) #[true, true, true, true, true, true, true, true, true, true, true, true, true, true, true, true, true, true, true, false] rfl rfl (one_of HT_.out (by kernel_rfl)) (by decide) (fun K hK => ?_)
           refine Kd.R_append_step (Kd.int .i64) (w0 := w) w.heap.size (by rfl) (.tmp 19) (.tmp 36) 27 3 (.int .i64 0) 8 rfl Tryz.underlying27 info3 rfl (by decide) (by omega) u7 x7_1 (Go.bits .and .i64 (ji27) (wrap64 ((ji29) - 1))) [.int .i64 (Go.bits .and .i64 (ji27) (wrap64 ((ji29) - 1)))] (fun _ => True) (fun _ => False) rfl rfl ?aP (fun _ hk => hk.elim) ?aF ?aO ?aB ?aS ?aL ?_
           (case aP => exact rfl)
           (case aB => exact (by repeat (first | (with_reducible first | exact HB.out | apply below_alloc | apply pw_below_drewN | apply below_drew1) | exact HB.out)))
           (case aF => exact (fun _ _ => trivial))
           (case aO => exact (by (with_reducible repeat (first | apply Kd.R_alloc | apply Kd.R_drewN | apply Kd.R_drew)); exact HO_7.out))
           (case aS => exact (below_size (by repeat (first | (with_reducible first | exact HB.out | apply below_alloc | apply pw_below_drewN | apply below_drew1) | exact HB.out))))
           (case aL => have := LMc30.out; omega)
           intro v420 w32 ho hb hg hat
           rw [← Ny419.out] at ho
           have n0_ := Aside0.mk (hb)
           have n1_ := Aside0.mk (ho)
           clear HB
           clear HO_7
           have HB := n0_
           have HO421 := n1_
           clear n0_ n1_
           clear ho hb hg hat
           refine hK.out _ _ (((HB.out.cell (World.block_lt_of_cell? w _ hw418_0)).trans hw418_0)) (fun hHeld => ?_)
           clear hK K
           refine norm_ (a' := ?_) ?_ ?_
           rotate_left
           ·
            show Act.put _ (some 37) _ = _
            simp only [Act.put, List.setIfInBounds_toArray, List.set_cons_zero, List.set_cons_succ, i64_w, i32_w]
            rfl
           refine pure_ (i := 19) (N := some 7) (v := ?_) (a' := ?_) #[true, true, true, true, true, true, true, true, true, true, true, true, true, true, true, true, true, true, true, true] rfl rfl (any_of HT_.out (by kernel_rfl)) (fun _ _ _ h => h) (Or.inl ⟨by rfl, ?_⟩) ?_ ?_
           rotate_left
           ·
            intro w'
            go_simp
            with_reducible rfl
           rotate_left
           ·
            simp only [Act.put, List.setIfInBounds_toArray, List.set_cons_zero, List.set_cons_succ, i64_w, i32_w]
            rfl
           refine done_ (done_of HT_.out (by kernel_rfl)) ?_
           try go_wp2
           go_roundg k1
           case measure => have := HK1.out; omega
           case rel => exact ⟨(y419), (wrap64 (x12_1 + 1)), (by first | rfl | (simp; done) | (simp [*]; done)), H', ⟨by have := HK1.out; omega⟩, ⟨by (with_reducible repeat (first | apply Kd.R_alloc | apply Kd.R_drewN | apply Kd.R_drew)); exact HO421.out⟩, ⟨by repeat (first | (with_reducible first | exact HB.out | apply below_alloc | apply pw_below_drewN | apply below_drew1) | exact HB.out)⟩⟩
          ·
           rw [if_neg c30] at H
           exact absurd H (by simp)
         ·
          rw [if_neg c28] at H
          exact absurd H (by simp)
        ·
         rw [if_neg c26] at H
         exact absurd H (by simp)
       ·
        rw [if_neg c24] at H
        exact absurd H (by simp)
      ·
       rw [if_neg c23] at H
       exact absurd H (by simp)
   ·
    rw [if_neg c6] at H
    have c6b0 : decide (x12_1 < a1) = false := decide_eq_false c6
    clear c6
    obtain rfl := Option.some.inj H
    go_wp2
    go_ret
    exact ⟨_, by first | rfl | (simp <;> rfl) | (simp [*] <;> rfl), by (with_reducible repeat (first | apply Kd.R_alloc | apply Kd.R_drewN | apply Kd.R_drew)); exact HO_7.out, by repeat (first | (with_reducible first | exact HB.out | apply below_alloc | apply pw_below_drewN | apply below_drew1) | exact HB.out)⟩
end Go.Proofs.YtnpkgmgedgcjmaaGreatDoor.Pr
end
