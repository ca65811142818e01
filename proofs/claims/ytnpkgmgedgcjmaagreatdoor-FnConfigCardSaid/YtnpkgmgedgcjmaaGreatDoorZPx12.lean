/- A part of the proof: Px12. -/
import Derived.Test.YtnpkgmgedgcjmaaGreatDoorZPx0
import Derived.Test.YtnpkgmgedgcjmaaGreatDoorZPx11
import Derived.Test.YtnpkgmgedgcjmaaGreatDoorZPx7
import Derived.Test.YtnpkgmgedgcjmaaGreatDoorZPx8
set_option linter.all false
set_option maxRecDepth 100000
section
namespace Go.Proofs.YtnpkgmgedgcjmaaGreatDoor.Pr
open Go.RowKit Go.Proofs.YtnpkgmgedgcjmaaGreatDoorW.PrintWords Go.Proofs.YtnpkgmgedgcjmaaGreatDoorW.PrintLast Go.Proofs.YtnpkgmgedgcjmaaGreatDoorW.PrintMore
attribute [local go_sem] max2_int max_two
mutual
def spec_Samples.l0 : Nat → List Int → Int → List Int → Int → Int → Int → Int → Int → Int → Bool → Option (List Int × Int)
 | 0, _, _, _, _, _, _, _, _, _, _ => none
 | k + 1, x1, x6, x7, x31, x32, x451000, x451001, x451002, x451003, x451004 => if x32 < x31 then ((spec_PartOf.f x451004 x32).bind fun bt456 => ((spec_PartSamples.f k x451000 x451001 x451002 x451003 x451004 x32 x1).bind fun bt461 => (if bt461.2 = 0 then ((spec_PartNeed.f k x451000 x451001 x451002 x451003 x451004 x32).bind fun t465 => (if 0 ≤ t465 then (if t465 ≤ (x1.length : Int) then ((spec_Part_Size.f k bt456.1 bt456.2.1 bt456.2.2.1 bt456.2.2.2 x451000 x451001).bind fun bt471 => (spec_Samples.l1 k (x1.drop (t465 : Int).toNat) x6 x7 bt471.1 x31 x32 bt461.1 (bt461.1.length : Int) 0 x451000 x451001 x451002 x451003 x451004 bt456.1 bt456.2.1 bt456.2.2.1 bt456.2.2.2)) else (none)) else (none))) else (some (([] : List Int), bt461.2))))) else (some (x7, 0))
def spec_Samples.l1 : Nat → List Int → Int → List Int → Int → Int → Int → List Int → Int → Int → Int → Int → Int → Int → Bool → Int → Int → Int → Int → Option (List Int × Int)
 | 0, _, _, _, _, _, _, _, _, _, _, _, _, _, _, _, _, _, _ => none
 | k + 1, x1, x6, x7, x12, x31, x32, x63, x64, x65, x451000, x451001, x451002, x451003, x451004, x461000, x461001, x461002, x461003 => if x65 < x64 then (if 0 ≤ x65 then (if x65 < (x63.length : Int) then (if x6 = 0 then (none) else (if (mx x12 1) = 0 then (none) else (if 0 ≤ (wrap64 ((wrap64 ((wrap64 ((wrap64 ((wrap64 (x461001 + (wrap64 ((wrap64 (Int.tdiv (wrap64 (Int.tdiv x65 x6)) (mx x12 1))) * x461003)))) * x451000)) + (wrap64 (x461000 + (wrap64 ((Int.tmod (wrap64 (Int.tdiv x65 x6)) (mx x12 1)) * x461002)))))) * x6)) + (Int.tmod x65 x6))) then (if (wrap64 ((wrap64 ((wrap64 ((wrap64 ((wrap64 (x461001 + (wrap64 ((wrap64 (Int.tdiv (wrap64 (Int.tdiv x65 x6)) (mx x12 1))) * x461003)))) * x451000)) + (wrap64 (x461000 + (wrap64 ((Int.tmod (wrap64 (Int.tdiv x65 x6)) (mx x12 1)) * x461002)))))) * x6)) + (Int.tmod x65 x6))) < (x7.length : Int) then (spec_Samples.l1 k x1 x6 (x7.set ((wrap64 ((wrap64 ((wrap64 ((wrap64 ((wrap64 (x461001 + (wrap64 ((wrap64 (Int.tdiv (wrap64 (Int.tdiv x65 x6)) (mx x12 1))) * x461003)))) * x451000)) + (wrap64 (x461000 + (wrap64 ((Int.tmod (wrap64 (Int.tdiv x65 x6)) (mx x12 1)) * x461002)))))) * x6)) + (Int.tmod x65 x6))) : Int).toNat (rd x63 x65)) x12 x31 x32 x63 x64 (wrap64 (x65 + 1)) x451000 x451001 x451002 x451003 x451004 x461000 x461001 x461002 x461003) else (none)) else (none)))) else (none)) else (none)) else (spec_Samples.l0 k x1 x6 x7 x31 (wrap64 (x32 + 1)) x451000 x451001 x451002 x451003 x451004)
end
def spec_Samples.f (k : Nat) (a0_0 : Int) (a0_1 : Int) (a0_2 : Int) (a0_3 : Int) (a0_4 : Bool) (l1 : List Int) : Option (List Int × Int) := (spec_Channels.f a0_3).bind fun t451 => (if 0 ≤ (wrap64 ((wrap64 (a0_0 * a0_1)) * t451)) then (if (wrap64 ((wrap64 (a0_0 * a0_1)) * t451) : Int).toNat ≤ 35184372088832 then ((spec_passes.f a0_4).bind fun t455 => (spec_Samples.l0 k l1 t451 (List.replicate (wrap64 ((wrap64 (a0_0 * a0_1)) * t451) : Int).toNat 0) t455 0 a0_0 a0_1 a0_2 a0_3 a0_4)) else (none)) else (none))
def spec_Samples.T15 : Bool × List (List Nat × List Nat) := (true, [([], []), ([0], [0]), ([], []), ([], []), ([2, 3], [2, 3]), ([], []), ([5], [5]), ([4, 6], [4, 6]), ([], []), ([8], [8]), ([7, 9], [7, 9]), ([1, 10], [1, 10]), ([], []), ([12], [12]), ([], []), ([], []), ([14, 15], [14, 15]), ([], []), ([17], [17]), ([16, 18], [16, 18]), ([], []), ([20], [20]), ([19, 21], [19, 21]), ([13, 22], [13, 22]), ([11, 0, 1, 2, 3, 4, 5, 6, 7, 8, 9, 10, 11], [11]), ([23, 24, 0, 1, 2, 3, 4, 5, 6, 7, 8, 9, 10, 11, 12, 13, 14, 15, 16, 17, 18, 19, 20, 21, 22, 23, 24], [23])])
def spec_Samples.B15 : List Nat := [0, 1, 0, 0, 12, 0, 32, 124, 0, 256, 1020, 2047, 0, 4096, 0, 0, 49152, 0, 131072, 507904, 0, 1048576, 4177920, 8384512, 4095, 33554431]
theorem spec_Samples.tab15 : rtab .any (opsOf Tryz.f82 15) = spec_Samples.T15 := by kernel_rfl
theorem spec_Samples.bits15 : waitsOk spec_Samples.T15.2 spec_Samples.B15 = true := by kernel_rfl
def spec_Samples.T16 : Bool × List (List Nat × List Nat) := (true, [([], []), ([], []), ([], []), ([2], [2]), ([1, 3], [1, 3]), ([], []), ([4, 5], [4, 5]), ([], []), ([6, 7], [6, 7]), ([], []), ([], []), ([9, 10], [9, 10]), ([8, 11], [8, 11]), ([], []), ([0, 12, 0, 1, 2, 3, 4, 5, 6, 7, 8, 9, 10, 11, 12, 13], [0, 12]), ([14, 13, 0, 1, 2, 3, 4, 5, 6, 7, 8, 9, 10, 11, 12, 13], [13, 14])])
def spec_Samples.B16 : List Nat := [0, 0, 0, 4, 14, 0, 62, 0, 254, 0, 0, 1536, 4094, 0, 16383, 32767]
theorem spec_Samples.tab16 : rtab .any (opsOf Tryz.f82 16) = spec_Samples.T16 := by kernel_rfl
theorem spec_Samples.bits16 : waitsOk spec_Samples.T16.2 spec_Samples.B16 = true := by kernel_rfl
set_option maxHeartbeats 8000000 in
theorem spec_Samples.calls (k : Nat) (a0_0 : Int) (a0_1 : Int) (a0_2 : Int) (a0_3 : Int) (a0_4 : Bool) (P1_ : Nat → Prop) (A1 : Option Addr) (c1 : Nat) (l1 : List Int) (r1 : List Int) (r2 : Int) (w : World) (hs1 : Kd.V (Kd.int .u8) 5 w w.heap.size (fun k_ => P1_ k_) (.slice A1 l1.length c1) l1) (h : spec_Samples.f k a0_0 a0_1 a0_2 a0_3 a0_4 l1 = some (r1, r2)) :
  Calls Tryz.prog 82 #[.agg #[.int .i64 a0_0, .int .i64 a0_1, .int .i64 a0_2, .int .i64 a0_3, .bool a0_4], .slice A1 l1.length c1] w fun e w' => ∃ v0_ : Value, e = .returned (.tuple #[v0_, .int .i64 r2]) ∧ Kd.R (Kd.int .i64) 3 w' w.heap.size (fun k_ => (w.heap.size ≤ k_)) v0_ r1 ∧ Below w.heap.size w w' := by
 have hu26 := Tryz.underlying26
 have hu151 := Tryz.underlying151
 have HO1 := Aside0.mk (show Kd.V (Kd.int .u8) 5 w w.heap.size (fun k_ => (P1_ k_ ∨ w.heap.size ≤ k_)) (.slice A1 l1.length c1) l1 from Kd.V_mono hs1 (fun k_ hk => .inl hk))
 have HB := Aside0.mk (Below.refl w.heap.size w)
 have H : ((spec_Channels.f a0_3).bind fun t451 => (if 0 ≤ (wrap64 ((wrap64 (a0_0 * a0_1)) * t451)) then (if (wrap64 ((wrap64 (a0_0 * a0_1)) * t451) : Int).toNat ≤ 35184372088832 then ((spec_passes.f a0_4).bind fun t455 => (spec_Samples.l0 k l1 t451 (List.replicate (wrap64 ((wrap64 (a0_0 * a0_1)) * t451) : Int).toNat 0) t455 0 a0_0 a0_1 a0_2 a0_3 a0_4)) else (none)) else (none))) = some (r1, r2) := h
 clear h
 replace H := Option.bind_eq_some_iff.mp H
 obtain ⟨t451, A30, H⟩ := H
 replace H : (if 0 ≤ (wrap64 ((wrap64 (a0_0 * a0_1)) * t451)) then (if (wrap64 ((wrap64 (a0_0 * a0_1)) * t451) : Int).toNat ≤ 35184372088832 then ((spec_passes.f a0_4).bind fun t455 => (spec_Samples.l0 k l1 t451 (List.replicate (wrap64 ((wrap64 (a0_0 * a0_1)) * t451) : Int).toNat 0) t455 0 a0_0 a0_1 a0_2 a0_3 a0_4)) else (none)) else (none)) = some (r1, r2) := H
 have A3 := Aside0.mk A30
 clear A30
 obtain ⟨ji4, hji4⟩ : ∃ j_ : Int, (wrap64 ((wrap64 (a0_0 * a0_1)) * t451)) = j_ := ⟨_, rfl⟩
 replace H : (if 0 ≤ (ji4) then (if (ji4 : Int).toNat ≤ 35184372088832 then ((spec_passes.f a0_4).bind fun t455 => (spec_Samples.l0 k l1 t451 (List.replicate (ji4 : Int).toNat 0) t455 0 a0_0 a0_1 a0_2 a0_3 a0_4)) else (none)) else (none)) = some (r1, r2) := by first | (rw [hji4] at H; exact H) | (simp only [hji4] at H ⊢; exact H)
 (try rw [hji4] at A3)
 have hji4w : (IntKind.i64.wrap ((wrap64 (a0_0 * a0_1)) * t451)) = ji4 := (i64_w _).trans hji4
 by_cases c5 : 0 ≤ (ji4)
 ·
  rw [if_pos c5] at H
  have c5b0 := eq_true c5
  have c5b1 : decide (0 ≤ (ji4)) = true := decide_eq_true c5
  clear c5
  by_cases c6 : (ji4 : Int).toNat ≤ 35184372088832
  ·
   rw [if_pos c6] at H
   have c6b0 := eq_true c6
   have c6b1 : decide ((ji4 : Int).toNat ≤ 35184372088832) = true := decide_eq_true c6
   clear c6
   obtain ⟨y452, hy452⟩ : ∃ y_ : List Int, y_ = (List.replicate (ji4 : Int).toNat 0) := ⟨_, rfl⟩
   replace H : ((spec_passes.f a0_4).bind fun t455 => (spec_Samples.l0 k l1 t451 y452 t455 0 a0_0 a0_1 a0_2 a0_3 a0_4)) = some (r1, r2) := by first | (rw [hy452]; with_reducible exact H) | (have H2_ := (Option.bind_some _ _).symm.trans H; rw [hy452]; with_reducible exact H2_) | (have H2_ := (Option.bind_some _ _).symm.trans H; with_reducible exact H2_) | with_reducible exact H | (rw [hy452]; exact H) | exact H
   have Ny452 := Aside0.mk hy452
   clear hy452
   replace H := Option.bind_eq_some_iff.mp H
   obtain ⟨t455, A70, H⟩ := H
   replace H : (spec_Samples.l0 k l1 t451 y452 t455 0 a0_0 a0_1 a0_2 a0_3 a0_4) = some (r1, r2) := H
   have A7 := Aside0.mk A70
   clear A70
   have H' := Aside0.mk H
   clear H
   go_enter Tryz.func82, Tryz.ntmps82
   go_wp2_with (first | ((with_reducible refine gate_dst (N := 2) rfl ?_); refine box_event ?hg (N := 2) ?hd (cs := #[.int .i64 a0_0, .int .i64 a0_1, .int .i64 a0_2, .int .i64 a0_3, .bool a0_4]) (t := 26) ?hr ?_; (case hd => rfl); (case hg => rfl); (case hr => first | (go_simp; done) | (go_simp; rfl)); intro gb450 hg w8 hbox hb; have n0_ := Aside0.mk (Kd.V_below (Kd.V_elderB (by (with_reducible repeat (first | apply Kd.V_alloc | apply Kd.V_drewN | apply Kd.V_drew)); exact HO1.out) gb450 (Nat.le_of_eq hg.symm)) hb); have n1_ := Aside0.mk (below_step (by repeat (first | (with_reducible first | exact HB.out | apply below_alloc | apply pw_below_drewN | apply below_drew1) | exact HB.out)) hb); have n2_ := Aside0.mk (hbox); have n3_ := Aside0.mk ((by rw [hg]; exact (below_size (by repeat (first | (with_reducible first | exact HB.out | apply below_alloc | apply pw_below_drewN | apply below_drew1) | exact HB.out))) : w.heap.size ≤ gb450)); have n4_ := Aside0.mk ((by rw [hg]; exact (below_size (by repeat (first | (with_reducible first | exact HB.out | apply below_alloc | apply pw_below_drewN | apply below_drew1) | exact HB.out))) : w.heap.size ≤ gb450)); clear HO1; clear HB; have HO1 := n0_; have HB := n1_; have BK450 := n2_; have GW450 := n3_; have GE450 := n4_; clear n0_ n1_ n2_ n3_ n4_; clear hb hbox hg; have hcz9_0 : w8.cell? ⟨gb450, 0, none⟩ = some (.int .i64 a0_0) := (blk_cell BK450.out 0).trans rfl; have hcz9_1 : w8.cell? ⟨gb450, 1, none⟩ = some (.int .i64 a0_1) := (blk_cell BK450.out 1).trans rfl; have hcz9_2 : w8.cell? ⟨gb450, 2, none⟩ = some (.int .i64 a0_2) := (blk_cell BK450.out 2).trans rfl; have hcz9_3 : w8.cell? ⟨gb450, 3, none⟩ = some (.int .i64 a0_3) := (blk_cell BK450.out 3).trans rfl; have hcz9_4 : w8.cell? ⟨gb450, 4, none⟩ = some (.bool a0_4) := (blk_cell BK450.out 4).trans rfl; have hfz9_0 := blk_frozen BK450.out 0; have hfz9_1 := blk_frozen BK450.out 1; have hfz9_2 := blk_frozen BK450.out 2; have hfz9_3 := blk_frozen BK450.out 3; have hfz9_4 := blk_frozen BK450.out 4) | ((with_reducible refine gate_callee (f := 36) rfl ?_); refine goesL_ (some 20) rfl rfl Tryz.func36 (by kernel_rfl) rfl #[.int .i64 a0_3] rfl (by (try simp only [List.map_toArray, List.map_cons, List.map_nil]); first | done | rfl | (simp only [List.length_drop, List.length_take]; rfl)) ?_; (with_reducible refine (spec_Channels.calls a0_3 t451 _ A3.out).mono ?_); rintro e w' ⟨rfl, ⟨nd, rfl⟩⟩; refine ⟨_, rfl, ?_⟩) | ((with_reducible refine gate_dst (N := 28) rfl ?_); refine Kd.R_make (Kd.int .i64) _ 3 rfl (N := 28) rfl 27 _ _ rfl ji4 rfl rfl Tryz.underlying27 (.int .i64 0) 8 info3 rfl (by decide) (by omega) 0 (ok := fun _ => True) (okp := fun _ => True) rfl (fun _ hk => hk) trivial (of_decide_eq_true (by first | (with_reducible assumption) | assumption)) (Nat.le_trans (Nat.mul_le_mul_right _ (of_decide_eq_true (by first | (with_reducible assumption) | assumption) : ji4.toNat ≤ 35184372088832)) (by omega)) (Below.refl _ _) (Nat.le_refl _) ?_; intro v453 w10 ho11 hb hg_ hnew_; clear hg_ hnew_; (first | rw [← Ny452.out] at ho11 | (simp only [Int.reduceToNat] at ho11; rw [← Ny452.out] at ho11)); have n0_ := Aside0.mk (Kd.V_elder' (by (with_reducible repeat (first | apply Kd.V_alloc | apply Kd.V_drewN | apply Kd.V_drew)); exact HO1.out) (Kd.R_base ho11) hb); have n1_ := Aside0.mk (Kd.R_lower (Kd.R_newM (M := fun k_ => (w.heap.size ≤ k_)) ho11 (below_size (by repeat (first | (with_reducible first | exact HB.out | apply below_alloc | apply pw_below_drewN | apply below_drew1 | refine below_set ?_ GE450.out) | exact HB.out))) (fun k_ h_ => h_)) (below_size (by repeat (first | (with_reducible first | exact HB.out | apply below_alloc | apply pw_below_drewN | apply below_drew1 | refine below_set ?_ GE450.out) | exact HB.out)))); have n2_ := Aside0.mk (blk_below (g := gb450) (o := .cells #[.int .i64 a0_0, .int .i64 a0_1, .int .i64 a0_2, .int .i64 a0_3, .bool a0_4] 26 (0, 0)) (by (with_reducible repeat (first | refine blk_drewN ?_ _ | refine blk_drew ?_ | refine blk_alloc ?_ _)); exact BK450.out) hb); have n3_ := Aside0.mk (below_step (by repeat (first | (with_reducible first | exact HB.out | apply below_alloc | apply pw_below_drewN | apply below_drew1 | refine below_set ?_ GE450.out) | exact HB.out)) hb); clear HO1; clear BK450; clear HB; have HO1 := n0_; have HO454 := n1_; have BK450 := n2_; have HB := n3_; clear n0_ n1_ n2_ n3_; clear hb ho11; have hcz12_0 : w10.cell? ⟨gb450, 0, none⟩ = some (.int .i64 a0_0) := (blk_cell BK450.out 0).trans rfl; have hcz12_1 : w10.cell? ⟨gb450, 1, none⟩ = some (.int .i64 a0_1) := (blk_cell BK450.out 1).trans rfl; have hcz12_2 : w10.cell? ⟨gb450, 2, none⟩ = some (.int .i64 a0_2) := (blk_cell BK450.out 2).trans rfl; have hcz12_3 : w10.cell? ⟨gb450, 3, none⟩ = some (.int .i64 a0_3) := (blk_cell BK450.out 3).trans rfl; have hcz12_4 : w10.cell? ⟨gb450, 4, none⟩ = some (.bool a0_4) := (blk_cell BK450.out 4).trans rfl; have hfz12_0 := blk_frozen BK450.out 0; have hfz12_1 := blk_frozen BK450.out 1; have hfz12_2 := blk_frozen BK450.out 2; have hfz12_3 := blk_frozen BK450.out 3; have hfz12_4 := blk_frozen BK450.out 4) | ((with_reducible refine gate_callee (f := 72) rfl ?_); refine goesL_ (some 31) rfl rfl Tryz.func72 (by kernel_rfl) rfl #[.bool a0_4] rfl (by (try simp only [List.map_toArray, List.map_cons, List.map_nil]); first | done | rfl | (simp only [List.length_drop, List.length_take]; rfl)) ?_; (with_reducible refine (spec_passes.calls a0_4 t455 _ A7.out).mono ?_); rintro e w' ⟨rfl, ⟨nd, rfl⟩⟩; refine ⟨_, rfl, ?_⟩))
   go_loopg [1, 32] k (fun kq v1 v32 w' => ∃ (x1_1 : List Int) (x7_1 : List Int) (x32_1 : Int), v32 = .int .i64 x32_1 ∧ Aside0 (spec_Samples.l0 kq x1_1 t451 x7_1 t455 x32_1 a0_0 a0_1 a0_2 a0_3 a0_4 = some (r1, r2)) ∧ Aside0 (kq ≤ k) ∧ Aside0 (Kd.V (Kd.int .u8) 5 w' w.heap.size (fun k_ => (P1_ k_ ∨ w.heap.size ≤ k_) ∧ some k_ ≠ (v453 : Value).ownBlock ∧ k_ ≠ gb450) v1 x1_1) ∧ Aside0 (Kd.R (Kd.int .i64) 3 w' w.heap.size (fun k_ => (w.heap.size ≤ k_)) v453 x7_1) ∧ Aside0 (w'.heap[gb450]? = some (.cells #[.int .i64 a0_0, .int .i64 a0_1, .int .i64 a0_2, .int .i64 a0_3, .bool a0_4] 26 (0, 0))) ∧ Aside0 (Below w.heap.size w w'))
   case atStart => exact ⟨(l1), (y452), (0), (by first | rfl | (simp; done) | (simp [*]; done)), H', ⟨Nat.le_refl _⟩, ⟨by (with_reducible repeat (first | apply Kd.V_alloc | apply Kd.V_drewN | apply Kd.V_drew)); exact Kd.V_mono HO1.out (fun _ hk => ⟨hk.1.1, ⟨hk.2, hk.1.2⟩⟩)⟩, ⟨by (with_reducible repeat (first | apply Kd.R_alloc | apply Kd.R_drewN | apply Kd.R_drew)); exact Kd.R_mono HO454.out (fun _ hk => hk.1)⟩, ⟨by (with_reducible repeat (first | refine blk_drewN ?_ _ | refine blk_drew ?_ | refine blk_alloc ?_ _)); exact BK450.out⟩, ⟨by repeat (first | (with_reducible first | exact HB.out | apply below_alloc | apply pw_below_drewN | apply below_drew1 | refine below_set ?_ GE450.out) | exact HB.out)⟩⟩
   case round =>
    clear H'
    (try clear c1); (try clear p2); (try clear c3); (try clear c5); (try clear c5b0); (try clear c5b1); (try clear c6); (try clear c6b0); (try clear c6b1); (try clear p6); (try clear c7); (try clear c8); (try clear hcz12_0); (try clear hcz12_1); (try clear hcz12_2); (try clear hcz12_3); (try clear hcz12_4); (try clear hcz9_0); (try clear hcz9_1); (try clear hcz9_2); (try clear hcz9_3); (try clear hcz9_4); (try clear hfz12_0); (try clear hfz12_1); (try clear hfz12_2); (try clear hfz12_3); (try clear hfz12_4); (try clear hfz9_0); (try clear hfz9_1); (try clear hfz9_2); (try clear hfz9_3); (try clear hfz9_4)
    obtain ⟨x1_1, x7_1, x32_1, rfl, HA, HK1, HO_1, HO_7, BK450, HB⟩ := hrel
    cases gk with
    | zero => exact absurd HA.out (by simp [spec_Samples.l0])
    | succ k1 =>
     have H := HA.out
     clear HA
     simp only [spec_Samples.l0] at H
     by_cases c13 : x32_1 < t455
     ·
      rw [if_pos c13] at H
      have c13b0 : decide (x32_1 < t455) = true := decide_eq_true c13
      clear c13
      replace H := Option.bind_eq_some_iff.mp H
      obtain ⟨⟨t456, t457, t458, t459⟩, A140, H⟩ := H
      replace H : ((spec_PartSamples.f k1 a0_0 a0_1 a0_2 a0_3 a0_4 x32_1 x1_1).bind fun bt461 => (if bt461.2 = 0 then ((spec_PartNeed.f k1 a0_0 a0_1 a0_2 a0_3 a0_4 x32_1).bind fun t465 => (if 0 ≤ t465 then (if t465 ≤ (x1_1.length : Int) then ((spec_Part_Size.f k1 t456 t457 t458 t459 a0_0 a0_1).bind fun bt471 => (spec_Samples.l1 k1 (x1_1.drop (t465 : Int).toNat) t451 x7_1 bt471.1 t455 x32_1 bt461.1 (bt461.1.length : Int) 0 a0_0 a0_1 a0_2 a0_3 a0_4 t456 t457 t458 t459)) else (none)) else (none))) else (some (([] : List Int), bt461.2)))) = some (r1, r2) := H
      have A14 := Aside0.mk A140
      clear A140
      replace H := Option.bind_eq_some_iff.mp H
      obtain ⟨⟨t461, t464⟩, A150, H⟩ := H
      replace H : (if t464 = 0 then ((spec_PartNeed.f k1 a0_0 a0_1 a0_2 a0_3 a0_4 x32_1).bind fun t465 => (if 0 ≤ t465 then (if t465 ≤ (x1_1.length : Int) then ((spec_Part_Size.f k1 t456 t457 t458 t459 a0_0 a0_1).bind fun bt471 => (spec_Samples.l1 k1 (x1_1.drop (t465 : Int).toNat) t451 x7_1 bt471.1 t455 x32_1 t461 (t461.length : Int) 0 a0_0 a0_1 a0_2 a0_3 a0_4 t456 t457 t458 t459)) else (none)) else (none))) else (some (([] : List Int), t464))) = some (r1, r2) := H
      have A15 := Aside0.mk A150
      clear A150
      by_cases c16 : t464 = 0
      ·
       rw [if_pos c16] at H
       have c16b0 : (t464 == 0) = true := beq_iff_eq.mpr c16
       have c16b1 : (t464 != 0) = false := bne_eq_false_iff_eq.mpr c16
       clear c16
       replace H := Option.bind_eq_some_iff.mp H
       obtain ⟨t465, A170, H⟩ := H
       replace H : (if 0 ≤ t465 then (if t465 ≤ (x1_1.length : Int) then ((spec_Part_Size.f k1 t456 t457 t458 t459 a0_0 a0_1).bind fun bt471 => (spec_Samples.l1 k1 (x1_1.drop (t465 : Int).toNat) t451 x7_1 bt471.1 t455 x32_1 t461 (t461.length : Int) 0 a0_0 a0_1 a0_2 a0_3 a0_4 t456 t457 t458 t459)) else (none)) else (none)) = some (r1, r2) := H
       have A17 := Aside0.mk A170
       clear A170
       by_cases c18 : 0 ≤ t465
       ·
        rw [if_pos c18] at H
        have c18b0 := eq_true c18
        have c18b1 : decide (0 ≤ t465) = true := decide_eq_true c18
        clear c18
        by_cases c19 : t465 ≤ (x1_1.length : Int)
        ·
         rw [if_pos c19] at H
         have c19b0 := eq_true c19
         have c19b1 : decide (t465 ≤ (x1_1.length : Int)) = true := decide_eq_true c19
         clear c19
         obtain ⟨y466, hy466⟩ : ∃ y_ : List Int, y_ = (x1_1.drop (t465 : Int).toNat) := ⟨_, rfl⟩
         replace H : ((spec_Part_Size.f k1 t456 t457 t458 t459 a0_0 a0_1).bind fun bt471 => (spec_Samples.l1 k1 y466 t451 x7_1 bt471.1 t455 x32_1 t461 (t461.length : Int) 0 a0_0 a0_1 a0_2 a0_3 a0_4 t456 t457 t458 t459)) = some (r1, r2) := by first | (rw [hy466]; with_reducible exact H) | (have H2_ := (Option.bind_some _ _).symm.trans H; rw [hy466]; with_reducible exact H2_) | (have H2_ := (Option.bind_some _ _).symm.trans H; with_reducible exact H2_) | with_reducible exact H | (rw [hy466]; exact H) | exact H
         have Ny466 := Aside0.mk hy466
         clear hy466
         replace H := Option.bind_eq_some_iff.mp H
         obtain ⟨⟨t471, t472⟩, A200, H⟩ := H
         replace H : (spec_Samples.l1 k1 y466 t451 x7_1 t471 t455 x32_1 t461 (t461.length : Int) 0 a0_0 a0_1 a0_2 a0_3 a0_4 t456 t457 t458 t459) = some (r1, r2) := H
         have A20 := Aside0.mk A200
         clear A200
         have H' := Aside0.mk H
         clear H
         have hcz21_0 : wr.cell? ⟨gb450, 0, none⟩ = some (.int .i64 a0_0) := (blk_cell BK450.out 0).trans rfl
         have hcz21_1 : wr.cell? ⟨gb450, 1, none⟩ = some (.int .i64 a0_1) := (blk_cell BK450.out 1).trans rfl
         have hcz21_2 : wr.cell? ⟨gb450, 2, none⟩ = some (.int .i64 a0_2) := (blk_cell BK450.out 2).trans rfl
         have hcz21_3 : wr.cell? ⟨gb450, 3, none⟩ = some (.int .i64 a0_3) := (blk_cell BK450.out 3).trans rfl
         have hcz21_4 : wr.cell? ⟨gb450, 4, none⟩ = some (.bool a0_4) := (blk_cell BK450.out 4).trans rfl
         have hfz21_0 := blk_frozen BK450.out 0
         have hfz21_1 := blk_frozen BK450.out 1
         have hfz21_2 := blk_frozen BK450.out 2
         have hfz21_3 := blk_frozen BK450.out 3
         have hfz21_4 := blk_frozen BK450.out 4
         go_wp2_with (first | ((with_reducible refine gate_callee (f := 73) rfl ?_); refine goesL_ (some 38) rfl rfl Tryz.func73 (by kernel_rfl) rfl #[.bool a0_4, .int .i64 x32_1] rfl (by (try simp only [List.map_toArray, List.map_cons, List.map_nil]); first | done | rfl | (simp only [List.length_drop, List.length_take]; rfl)) ?_; (with_reducible refine (spec_PartOf.calls a0_4 x32_1 t456 t457 t458 t459 _ A14.out).mono ?_); rintro e w22 ⟨rfl, hb⟩; refine ⟨_, rfl, ?_⟩; have n0_ := Aside0.mk (Kd.V_below (by (with_reducible repeat (first | apply Kd.V_alloc | apply Kd.V_drewN | apply Kd.V_drew)); exact HO_1.out) hb); have n1_ := Aside0.mk (Kd.R_below (by (with_reducible repeat (first | apply Kd.R_alloc | apply Kd.R_drewN | apply Kd.R_drew)); exact HO_7.out) hb); have n2_ := Aside0.mk (blk_below (g := gb450) (o := .cells #[.int .i64 a0_0, .int .i64 a0_1, .int .i64 a0_2, .int .i64 a0_3, .bool a0_4] 26 (0, 0)) (by (with_reducible repeat (first | refine blk_drewN ?_ _ | refine blk_drew ?_ | refine blk_alloc ?_ _)); exact BK450.out) hb); have n3_ := Aside0.mk (below_step (by repeat (first | (with_reducible first | exact HB.out | apply below_alloc | apply pw_below_drewN | apply below_drew1 | refine below_set ?_ GE450.out) | exact HB.out)) hb); clear HO_1; clear HO_7; clear BK450; clear HB; have HO_1 := n0_; have HO_7 := n1_; have BK450 := n2_; have HB := n3_; clear n0_ n1_ n2_ n3_; (try clear hb); (try clear hb2); (try clear hk); (try clear hi)) | ((with_reducible refine gate_dst (N := 9) rfl ?_); refine box_event ?hg (N := 9) ?hd (cs := #[.int .i64 0, .int .i64 0, .int .i64 0, .int .i64 0]) (t := 151) ?hr ?_; (case hd => rfl); (case hg => rfl); (case hr => first | (go_simp; done) | (go_simp; rfl)); intro gb460 hg w23 hbox hb; have n0_ := Aside0.mk (Kd.V_below (Kd.V_elderB (by (with_reducible repeat (first | apply Kd.V_alloc | apply Kd.V_drewN | apply Kd.V_drew)); exact HO_1.out) gb460 (Nat.le_of_eq hg.symm)) hb); have n1_ := Aside0.mk (Kd.R_below (by (with_reducible repeat (first | apply Kd.R_alloc | apply Kd.R_drewN | apply Kd.R_drew)); exact HO_7.out) hb); have n2_ := Aside0.mk (blk_below (g := gb450) (o := .cells #[.int .i64 a0_0, .int .i64 a0_1, .int .i64 a0_2, .int .i64 a0_3, .bool a0_4] 26 (0, 0)) (by (with_reducible repeat (first | refine blk_drewN ?_ _ | refine blk_drew ?_ | refine blk_alloc ?_ _)); exact BK450.out) hb); have n3_ := Aside0.mk (below_step (by repeat (first | (with_reducible first | exact HB.out | apply below_alloc | apply pw_below_drewN | apply below_drew1 | refine below_set ?_ GE450.out) | exact HB.out)) hb); have n4_ := Aside0.mk (hbox); have n5_ := Aside0.mk ((by rw [hg]; exact (below_size (by repeat (first | (with_reducible first | exact HB.out | apply below_alloc | apply pw_below_drewN | apply below_drew1 | refine below_set ?_ GE450.out) | exact HB.out))) : w.heap.size ≤ gb460)); have n6_ := Aside0.mk ((by rw [hg]; exact (below_size (by repeat (first | (with_reducible first | exact HB.out | apply below_alloc | apply pw_below_drewN | apply below_drew1 | refine below_set ?_ GE450.out) | exact HB.out))) : w.heap.size ≤ gb460)); have n7_ := Aside0.mk ((by rw [hg]; exact Nat.ne_of_lt (blk_lt (g := gb450) (o := .cells #[.int .i64 a0_0, .int .i64 a0_1, .int .i64 a0_2, .int .i64 a0_3, .bool a0_4] 26 (0, 0)) (by (with_reducible repeat (first | refine blk_drewN ?_ _ | refine blk_drew ?_ | refine blk_alloc ?_ _)); exact BK450.out)) : gb450 ≠ gb460)); have n8_ := Aside0.mk ((by rw [hg]; exact Nat.ne_of_gt (blk_lt (g := gb450) (o := .cells #[.int .i64 a0_0, .int .i64 a0_1, .int .i64 a0_2, .int .i64 a0_3, .bool a0_4] 26 (0, 0)) (by (with_reducible repeat (first | refine blk_drewN ?_ _ | refine blk_drew ?_ | refine blk_alloc ?_ _)); exact BK450.out)) : gb460 ≠ gb450)); clear HO_1; clear HO_7; clear BK450; clear HB; have HO_1 := n0_; have HO_7 := n1_; have BK450 := n2_; have HB := n3_; have BK460 := n4_; have GW460 := n5_; have GE460 := n6_; have NB450_460 := n7_; have NB460_450 := n8_; clear n0_ n1_ n2_ n3_ n4_ n5_ n6_ n7_ n8_; clear hb hbox hg; have hnb24 := NB460_450.out; have hnc24 := NB450_460.out; have hcz25_0 : w23.cell? ⟨gb460, 0, none⟩ = some (.int .i64 0) := (blk_cell BK460.out 0).trans rfl; have hcz25_1 : w23.cell? ⟨gb460, 1, none⟩ = some (.int .i64 0) := (blk_cell BK460.out 1).trans rfl; have hcz25_2 : w23.cell? ⟨gb460, 2, none⟩ = some (.int .i64 0) := (blk_cell BK460.out 2).trans rfl; have hcz25_3 : w23.cell? ⟨gb460, 3, none⟩ = some (.int .i64 0) := (blk_cell BK460.out 3).trans rfl; have hfz25_0 := blk_frozen BK460.out 0; have hfz25_1 := blk_frozen BK460.out 1; have hfz25_2 := blk_frozen BK460.out 2; have hfz25_3 := blk_frozen BK460.out 3; have hcz26_0 : w23.cell? ⟨gb450, 0, none⟩ = some (.int .i64 a0_0) := (blk_cell BK450.out 0).trans rfl; have hcz26_1 : w23.cell? ⟨gb450, 1, none⟩ = some (.int .i64 a0_1) := (blk_cell BK450.out 1).trans rfl; have hcz26_2 : w23.cell? ⟨gb450, 2, none⟩ = some (.int .i64 a0_2) := (blk_cell BK450.out 2).trans rfl; have hcz26_3 : w23.cell? ⟨gb450, 3, none⟩ = some (.int .i64 a0_3) := (blk_cell BK450.out 3).trans rfl; have hcz26_4 : w23.cell? ⟨gb450, 4, none⟩ = some (.bool a0_4) := (blk_cell BK450.out 4).trans rfl; have hfz26_0 := blk_frozen BK450.out 0; have hfz26_1 := blk_frozen BK450.out 1; have hfz26_2 := blk_frozen BK450.out 2; have hfz26_3 := blk_frozen BK450.out 3; have hfz26_4 := blk_frozen BK450.out 4; obtain ⟨Ao27, co27, eo27⟩ := Kd.V_slice HO_1.out; subst eo27) | ((with_reducible refine gate_callee (f := 105) rfl ?_); refine goesL_ (some 43) rfl rfl Tryz.func105 (by kernel_rfl) rfl #[.agg #[.int .i64 a0_0, .int .i64 a0_1, .int .i64 a0_2, .int .i64 a0_3, .bool a0_4], .int .i64 x32_1, .slice Ao27 x1_1.length co27] rfl (by (try simp only [List.map_toArray, List.map_cons, List.map_nil]); first | done | rfl | (simp only [List.length_drop, List.length_take]; rfl)) ?_; (with_reducible refine (spec_PartSamples.calls k1 a0_0 a0_1 a0_2 a0_3 a0_4 x32_1 _ _ x1_1 t461 t464 _ ?side1 ?side2 A15.out).mono ?_); (case side1 => refine (Kd.V_reads' (e := 5) (base := w.heap.size) (ok := fun k_ => (((P1_ k_ ∨ w.heap.size ≤ k_) ∧ (some k_ ≠ (v453 : Value).ownBlock ∧ k_ ≠ gb450)) ∧ k_ ≠ gb460)) (n := x1_1.length) (c := co27) ?_).2.2; exact (by (with_reducible repeat (first | apply Kd.V_alloc | apply Kd.V_drewN | apply Kd.V_drew)); exact (Kd.V_mono (Kd.V_far (p := ⟨gb460, 3, none⟩) (Kd.V_far (p := ⟨gb460, 2, none⟩) (Kd.V_far (p := ⟨gb460, 1, none⟩) (Kd.V_far (p := ⟨gb460, 0, none⟩) (Kd.V_mono HO_1.out (fun k_ hk => (⟨hk, hk.2⟩ : _ ∧ k_ ≠ gb460))) (fun _ hk => hk.2) (.int .i64 t456)) (fun _ hk => hk.2) (.int .i64 t457)) (fun _ hk => hk.2) (.int .i64 t458)) (fun _ hk => hk.2) (.int .i64 t459)) (fun _ h_ => h_.1)))); (case side2 => exact (Kd.V_reads' HO_1.out).2.1); rintro e w28 ⟨v462, rfl, ho0, hb⟩; refine ⟨_, rfl, ?_⟩; have n0_ := Aside0.mk (Kd.V_elder' (by (with_reducible repeat (first | apply Kd.V_alloc | apply Kd.V_drewN | apply Kd.V_drew)); exact (Kd.V_mono (Kd.V_far (p := ⟨gb460, 3, none⟩) (Kd.V_far (p := ⟨gb460, 2, none⟩) (Kd.V_far (p := ⟨gb460, 1, none⟩) (Kd.V_far (p := ⟨gb460, 0, none⟩) (Kd.V_mono HO_1.out (fun k_ hk => (⟨hk, hk.2⟩ : _ ∧ k_ ≠ gb460))) (fun _ hk => hk.2) (.int .i64 t456)) (fun _ hk => hk.2) (.int .i64 t457)) (fun _ hk => hk.2) (.int .i64 t458)) (fun _ hk => hk.2) (.int .i64 t459)) (fun _ h_ => h_.1))) (Kd.R_base ho0) hb); have n1_ := Aside0.mk (Kd.R_elder' (by (with_reducible repeat (first | apply Kd.R_alloc | apply Kd.R_drewN | apply Kd.R_drew)); exact (Kd.R_mono (Kd.R_far (p := ⟨gb460, 3, none⟩) (Kd.R_far (p := ⟨gb460, 2, none⟩) (Kd.R_far (p := ⟨gb460, 1, none⟩) (Kd.R_far (p := ⟨gb460, 0, none⟩) (Kd.R_types HO_7.out BK460.out (by decide)) (fun _ hk => hk.2) (.int .i64 t456)) (fun _ hk => hk.2) (.int .i64 t457)) (fun _ hk => hk.2) (.int .i64 t458)) (fun _ hk => hk.2) (.int .i64 t459)) (fun _ h_ => h_.1))) (Kd.R_base ho0) hb); have n2_ := Aside0.mk (Kd.R_lower (Kd.R_new' (Kd.R_newM (M := fun k_ => (w.heap.size ≤ k_)) ho0 (below_size (by repeat (first | (with_reducible first | exact HB.out | apply below_alloc | apply pw_below_drewN | apply below_drew1 | refine below_set ?_ GE450.out | refine below_set ?_ GE460.out) | exact HB.out))) (fun k_ h_ => h_)) (Kd.R_lt (by (with_reducible repeat (first | apply Kd.R_alloc | apply Kd.R_drewN | apply Kd.R_drew)); exact (Kd.R_mono (Kd.R_far (p := ⟨gb460, 3, none⟩) (Kd.R_far (p := ⟨gb460, 2, none⟩) (Kd.R_far (p := ⟨gb460, 1, none⟩) (Kd.R_far (p := ⟨gb460, 0, none⟩) (Kd.R_types HO_7.out BK460.out (by decide)) (fun _ hk => hk.2) (.int .i64 t456)) (fun _ hk => hk.2) (.int .i64 t457)) (fun _ hk => hk.2) (.int .i64 t458)) (fun _ hk => hk.2) (.int .i64 t459)) (fun _ h_ => h_.1))))) (below_size (by repeat (first | (with_reducible first | exact HB.out | apply below_alloc | apply pw_below_drewN | apply below_drew1 | refine below_set ?_ GE450.out | refine below_set ?_ GE460.out) | exact HB.out)))); have n3_ := Aside0.mk (blk_below (g := gb450) (o := .cells #[.int .i64 a0_0, .int .i64 a0_1, .int .i64 a0_2, .int .i64 a0_3, .bool a0_4] 26 (0, 0)) (by (with_reducible repeat (first | refine blk_drewN ?_ _ | refine blk_drew ?_ | refine blk_alloc ?_ _)); refine blk_far ?_ NB450_460.out _; (with_reducible repeat (first | refine blk_drewN ?_ _ | refine blk_drew ?_ | refine blk_alloc ?_ _)); refine blk_far ?_ NB450_460.out _; (with_reducible repeat (first | refine blk_drewN ?_ _ | refine blk_drew ?_ | refine blk_alloc ?_ _)); refine blk_far ?_ NB450_460.out _; (with_reducible repeat (first | refine blk_drewN ?_ _ | refine blk_drew ?_ | refine blk_alloc ?_ _)); refine blk_far ?_ NB450_460.out _; (with_reducible repeat (first | refine blk_drewN ?_ _ | refine blk_drew ?_ | refine blk_alloc ?_ _)); exact BK450.out) hb); have n4_ := Aside0.mk (blk_below (g := gb460) (o := .cells #[.int .i64 t456, .int .i64 t457, .int .i64 t458, .int .i64 t459] 151 (0, 0)) (by (with_reducible repeat (first | refine blk_drewN ?_ _ | refine blk_drew ?_ | refine blk_alloc ?_ _)); refine blk_put (cs := #[.int .i64 t456, .int .i64 t457, .int .i64 t458, .int .i64 0]) ?_ 3 _ rfl; (with_reducible repeat (first | refine blk_drewN ?_ _ | refine blk_drew ?_ | refine blk_alloc ?_ _)); refine blk_put (cs := #[.int .i64 t456, .int .i64 t457, .int .i64 0, .int .i64 0]) ?_ 2 _ rfl; (with_reducible repeat (first | refine blk_drewN ?_ _ | refine blk_drew ?_ | refine blk_alloc ?_ _)); refine blk_put (cs := #[.int .i64 t456, .int .i64 0, .int .i64 0, .int .i64 0]) ?_ 1 _ rfl; (with_reducible repeat (first | refine blk_drewN ?_ _ | refine blk_drew ?_ | refine blk_alloc ?_ _)); refine blk_put (cs := #[.int .i64 0, .int .i64 0, .int .i64 0, .int .i64 0]) ?_ 0 _ rfl; (with_reducible repeat (first | refine blk_drewN ?_ _ | refine blk_drew ?_ | refine blk_alloc ?_ _)); exact BK460.out) hb); have n5_ := Aside0.mk (below_step (by repeat (first | (with_reducible first | exact HB.out | apply below_alloc | apply pw_below_drewN | apply below_drew1 | refine below_set ?_ GE450.out | refine below_set ?_ GE460.out) | exact HB.out)) hb); clear HO_1; clear HO_7; clear BK450; clear BK460; clear HB; have HO_1 := n0_; have HO_7 := n1_; have HO463 := n2_; have BK450 := n3_; have BK460 := n4_; have HB := n5_; clear n0_ n1_ n2_ n3_ n4_ n5_; (try clear hb); (try clear hb2); (try clear hk); (try clear hi); (try clear ho0); have hcz29_0 : w28.cell? ⟨gb450, 0, none⟩ = some (.int .i64 a0_0) := (blk_cell BK450.out 0).trans rfl; have hcz29_1 : w28.cell? ⟨gb450, 1, none⟩ = some (.int .i64 a0_1) := (blk_cell BK450.out 1).trans rfl; have hcz29_2 : w28.cell? ⟨gb450, 2, none⟩ = some (.int .i64 a0_2) := (blk_cell BK450.out 2).trans rfl; have hcz29_3 : w28.cell? ⟨gb450, 3, none⟩ = some (.int .i64 a0_3) := (blk_cell BK450.out 3).trans rfl; have hcz29_4 : w28.cell? ⟨gb450, 4, none⟩ = some (.bool a0_4) := (blk_cell BK450.out 4).trans rfl; have hfz29_0 := blk_frozen BK450.out 0; have hfz29_1 := blk_frozen BK450.out 1; have hfz29_2 := blk_frozen BK450.out 2; have hfz29_3 := blk_frozen BK450.out 3; have hfz29_4 := blk_frozen BK450.out 4) | ((with_reducible refine gate_callee (f := 104) rfl ?_); refine goesL_ (some 52) rfl rfl Tryz.func104 (by kernel_rfl) rfl #[.agg #[.int .i64 a0_0, .int .i64 a0_1, .int .i64 a0_2, .int .i64 a0_3, .bool a0_4], .int .i64 x32_1] rfl (by (try simp only [List.map_toArray, List.map_cons, List.map_nil]); first | done | rfl | (simp only [List.length_drop, List.length_take]; rfl)) ?_; (with_reducible refine (spec_PartNeed.calls k1 a0_0 a0_1 a0_2 a0_3 a0_4 x32_1 t465 _ A17.out).mono ?_); rintro e w30 ⟨rfl, hb⟩; refine ⟨_, rfl, ?_⟩; have n0_ := Aside0.mk (Kd.V_below (by (with_reducible repeat (first | apply Kd.V_alloc | apply Kd.V_drewN | apply Kd.V_drew)); exact HO_1.out) hb); have n1_ := Aside0.mk (Kd.R_below (by (with_reducible repeat (first | apply Kd.R_alloc | apply Kd.R_drewN | apply Kd.R_drew)); exact HO_7.out) hb); have n2_ := Aside0.mk (Kd.R_below (by (with_reducible repeat (first | apply Kd.R_alloc | apply Kd.R_drewN | apply Kd.R_drew)); exact HO463.out) hb); have n3_ := Aside0.mk (blk_below (g := gb450) (o := .cells #[.int .i64 a0_0, .int .i64 a0_1, .int .i64 a0_2, .int .i64 a0_3, .bool a0_4] 26 (0, 0)) (by (with_reducible repeat (first | refine blk_drewN ?_ _ | refine blk_drew ?_ | refine blk_alloc ?_ _)); exact BK450.out) hb); have n4_ := Aside0.mk (blk_below (g := gb460) (o := .cells #[.int .i64 t456, .int .i64 t457, .int .i64 t458, .int .i64 t459] 151 (0, 0)) (by (with_reducible repeat (first | refine blk_drewN ?_ _ | refine blk_drew ?_ | refine blk_alloc ?_ _)); exact BK460.out) hb); have n5_ := Aside0.mk (below_step (by repeat (first | (with_reducible first | exact HB.out | apply below_alloc | apply pw_below_drewN | apply below_drew1 | refine below_set ?_ GE450.out | refine below_set ?_ GE460.out) | exact HB.out)) hb); clear HO_1; clear HO_7; clear HO463; clear BK450; clear BK460; clear HB; have HO_1 := n0_; have HO_7 := n1_; have HO463 := n2_; have BK450 := n3_; have BK460 := n4_; have HB := n5_; clear n0_ n1_ n2_ n3_ n4_ n5_; (try clear hb); (try clear hb2); (try clear hk); (try clear hi); have q31 : (t465 : Int) ≤ ((x1_1.length : Int) : Int) := of_decide_eq_true (by first | (with_reducible assumption) | assumption); obtain ⟨i031, hi031, _, hsz31, _⟩ := info_parts info5; have hroom31 : x1_1.length ≤ co27 := (Kd.V_reads' HO_1.out).2.1; have hC31 : Kd.F (Kd.int .u8) _ _ Ao27 x1_1.length x1_1 := (Kd.V_at (base := w.heap.size) HO_1.out).2.2; have q031 : (0 : Int) ≤ (t465 : Int) := of_decide_eq_true (by first | (with_reducible assumption) | assumption); have hcut31 := cut_from (P := Tryz.prog) 24 5 .i64 Tryz.underlying24 hi031 1 hsz31 Ao27 x1_1.length co27 t465 q031 q31; have hr31 := Kd.F_cut (m := (t465 : Int).toNat) (c := co27) hC31 (by omega) hroom31; obtain ⟨A31, hA31⟩ : ∃ A1, A1 = (if co27 = (t465 : Int).toNat then Ao27 else (Ao27 : Option Addr).map (·.add ((t465 : Int).toNat * 1))) := ⟨_, rfl⟩; obtain ⟨c31, hc31⟩ : ∃ c1, c1 = co27 - (t465 : Int).toNat := ⟨_, rfl⟩; have hy31 : y466.length = x1_1.length - (t465 : Int).toNat := (by rw [Ny466.out, List.length_drop] <;> omega); rw [show (x1_1).drop (t465 : Int).toNat = y466 from Ny466.out.symm] at hr31; replace hr31 : Kd.F (Kd.int .u8) _ _ A31 y466.length y466 := (by rw [hA31]; exact hr31); rw [← hy31, ← hA31, ← hc31] at hcut31; have HO470 := Aside0.mk (show Kd.V (Kd.int .u8) 5 _ w.heap.size _ (.slice A31 y466.length c31) y466 from Kd.V_mk (by rw [hy31, hc31]; exact Nat.sub_le_sub_right hroom31 _) hr31); have HC470 := Aside0.mk (show y466.length ≤ c31 from by rw [hy31, hc31]; exact Nat.sub_le_sub_right hroom31 _); clear hr31 hC31 hroom31 hi031 hsz31 hc31; have KY31 := Aside0.mk hy31; have KA31 := Aside0.mk hA31; clear hy31 hA31; replace q31 := eq_true q31; have hcz32_0 : w30.cell? ⟨gb460, 0, none⟩ = some (.int .i64 t456) := (blk_cell BK460.out 0).trans rfl; have hcz32_1 : w30.cell? ⟨gb460, 1, none⟩ = some (.int .i64 t457) := (blk_cell BK460.out 1).trans rfl; have hcz32_2 : w30.cell? ⟨gb460, 2, none⟩ = some (.int .i64 t458) := (blk_cell BK460.out 2).trans rfl; have hcz32_3 : w30.cell? ⟨gb460, 3, none⟩ = some (.int .i64 t459) := (blk_cell BK460.out 3).trans rfl; have hfz32_0 := blk_frozen BK460.out 0; have hfz32_1 := blk_frozen BK460.out 1; have hfz32_2 := blk_frozen BK460.out 2; have hfz32_3 := blk_frozen BK460.out 3; have hcz33_0 : w30.cell? ⟨gb450, 0, none⟩ = some (.int .i64 a0_0) := (blk_cell BK450.out 0).trans rfl; have hcz33_1 : w30.cell? ⟨gb450, 1, none⟩ = some (.int .i64 a0_1) := (blk_cell BK450.out 1).trans rfl; have hcz33_2 : w30.cell? ⟨gb450, 2, none⟩ = some (.int .i64 a0_2) := (blk_cell BK450.out 2).trans rfl; have hcz33_3 : w30.cell? ⟨gb450, 3, none⟩ = some (.int .i64 a0_3) := (blk_cell BK450.out 3).trans rfl; have hcz33_4 : w30.cell? ⟨gb450, 4, none⟩ = some (.bool a0_4) := (blk_cell BK450.out 4).trans rfl; have hfz33_0 := blk_frozen BK450.out 0; have hfz33_1 := blk_frozen BK450.out 1; have hfz33_2 := blk_frozen BK450.out 2; have hfz33_3 := blk_frozen BK450.out 3; have hfz33_4 := blk_frozen BK450.out 4) | ((with_reducible refine gate_callee (f := 74) rfl ?_); refine goesL_ (some 60) rfl rfl Tryz.func74 (by kernel_rfl) rfl #[.agg #[.int .i64 t456, .int .i64 t457, .int .i64 t458, .int .i64 t459], .int .i64 a0_0, .int .i64 a0_1] rfl (by (try simp only [List.map_toArray, List.map_cons, List.map_nil]); first | done | rfl | (simp only [List.length_drop, List.length_take]; rfl)) ?_; (with_reducible refine (spec_Part_Size.calls k1 t456 t457 t458 t459 a0_0 a0_1 t471 t472 _ A20.out).mono ?_); rintro e w34 ⟨rfl, hb⟩; refine ⟨_, rfl, ?_⟩; have n0_ := Aside0.mk (Kd.V_below (by (with_reducible repeat (first | apply Kd.V_alloc | apply Kd.V_drewN | apply Kd.V_drew)); exact HO_1.out) hb); have n1_ := Aside0.mk (Kd.R_below (by (with_reducible repeat (first | apply Kd.R_alloc | apply Kd.R_drewN | apply Kd.R_drew)); exact HO_7.out) hb); have n2_ := Aside0.mk (Kd.R_below (by (with_reducible repeat (first | apply Kd.R_alloc | apply Kd.R_drewN | apply Kd.R_drew)); exact HO463.out) hb); have n3_ := Aside0.mk (Kd.V_below (by (with_reducible repeat (first | apply Kd.V_alloc | apply Kd.V_drewN | apply Kd.V_drew)); exact HO470.out) hb); have n4_ := Aside0.mk (blk_below (g := gb450) (o := .cells #[.int .i64 a0_0, .int .i64 a0_1, .int .i64 a0_2, .int .i64 a0_3, .bool a0_4] 26 (0, 0)) (by (with_reducible repeat (first | refine blk_drewN ?_ _ | refine blk_drew ?_ | refine blk_alloc ?_ _)); exact BK450.out) hb); have n5_ := Aside0.mk (blk_below (g := gb460) (o := .cells #[.int .i64 t456, .int .i64 t457, .int .i64 t458, .int .i64 t459] 151 (0, 0)) (by (with_reducible repeat (first | refine blk_drewN ?_ _ | refine blk_drew ?_ | refine blk_alloc ?_ _)); exact BK460.out) hb); have n6_ := Aside0.mk (below_step (by repeat (first | (with_reducible first | exact HB.out | apply below_alloc | apply pw_below_drewN | apply below_drew1 | refine below_set ?_ GE450.out | refine below_set ?_ GE460.out) | exact HB.out)) hb); clear HO_1; clear HO_7; clear HO463; clear HO470; clear BK450; clear BK460; clear HB; have HO_1 := n0_; have HO_7 := n1_; have HO463 := n2_; have HO470 := n3_; have BK450 := n4_; have BK460 := n5_; have HB := n6_; clear n0_ n1_ n2_ n3_ n4_ n5_ n6_; (try clear hb); (try clear hb2); (try clear hk); (try clear hi); obtain ⟨Ao35, co35, eo35⟩ := Kd.R_slice HO463.out; subst eo35))
         go_loopg [65] k1 (fun kq v65 w' => ∃ (x7_2 : List Int) (x65_2 : Int), v65 = .int .i64 x65_2 ∧ Aside0 (spec_Samples.l1 kq y466 t451 x7_2 t471 t455 x32_1 t461 (t461.length : Int) x65_2 a0_0 a0_1 a0_2 a0_3 a0_4 t456 t457 t458 t459 = some (r1, r2)) ∧ Aside0 (kq ≤ k1) ∧ Aside0 (Kd.V (Kd.int .u8) 5 w' w.heap.size (fun k_ => (P1_ k_ ∨ w.heap.size ≤ k_) ∧ some k_ ≠ (v453 : Value).ownBlock ∧ some k_ ≠ ((.slice Ao35 t461.length co35) : Value).ownBlock ∧ k_ ≠ gb450 ∧ k_ ≠ gb460) (.slice A31 y466.length c31) y466) ∧ Aside0 (Kd.R (Kd.int .i64) 3 w' w.heap.size (fun k_ => (w.heap.size ≤ k_) ∧ some k_ ≠ ((.slice Ao35 t461.length co35) : Value).ownBlock) v453 x7_2) ∧ Aside0 (Kd.R (Kd.int .i64) 3 w' w.heap.size (fun k_ => (w.heap.size ≤ k_) ∧ some k_ ≠ (v453 : Value).ownBlock) (.slice Ao35 t461.length co35) t461) ∧ Aside0 (w'.heap[gb450]? = some (.cells #[.int .i64 a0_0, .int .i64 a0_1, .int .i64 a0_2, .int .i64 a0_3, .bool a0_4] 26 (0, 0))) ∧ Aside0 (w'.heap[gb460]? = some (.cells #[.int .i64 t456, .int .i64 t457, .int .i64 t458, .int .i64 t459] 151 (0, 0))) ∧ Aside0 (Below w.heap.size w w'))
         case atStart => exact ⟨(x7_1), (0), (by first | rfl | (simp; done) | (simp [*]; done)), H', ⟨Nat.le_refl _⟩, ⟨by (with_reducible repeat (first | apply Kd.V_alloc | apply Kd.V_drewN | apply Kd.V_drew)); exact Kd.V_mono HO470.out (fun _ hk => ⟨hk.1.1.1, ⟨hk.1.1.2.1, ⟨hk.2, ⟨hk.1.1.2.2, hk.1.2⟩⟩⟩⟩)⟩, ⟨by (with_reducible repeat (first | apply Kd.R_alloc | apply Kd.R_drewN | apply Kd.R_drew)); exact HO_7.out⟩, ⟨by (with_reducible repeat (first | apply Kd.R_alloc | apply Kd.R_drewN | apply Kd.R_drew)); exact Kd.R_mono HO463.out (fun _ hk => ⟨hk.1.1, hk.2⟩)⟩, ⟨by (with_reducible repeat (first | refine blk_drewN ?_ _ | refine blk_drew ?_ | refine blk_alloc ?_ _)); exact BK450.out⟩, ⟨by (with_reducible repeat (first | refine blk_drewN ?_ _ | refine blk_drew ?_ | refine blk_alloc ?_ _)); exact BK460.out⟩, ⟨by repeat (first | (with_reducible first | exact HB.out | apply below_alloc | apply pw_below_drewN | apply below_drew1 | refine below_set ?_ GE450.out | refine below_set ?_ GE460.out) | exact HB.out)⟩⟩
         case round =>
          clear H'
          (try clear c1); (try clear c2); (try clear p2); (try clear c3); (try clear q3); (try clear c5); (try clear c5b0); (try clear c5b1); (try clear c6); (try clear c6b0); (try clear c6b1); (try clear p6); (try clear c7); (try clear c8); (try clear c10); (try clear c13); (try clear c13b0); (try clear c16); (try clear c16b0); (try clear c16b1); (try clear c18); (try clear c18b0); (try clear c18b1); (try clear c19); (try clear c19b0); (try clear c19b1); (try clear c24); (try clear c31); (try clear q31); (try clear hcz12_0); (try clear hcz12_1); (try clear hcz12_2); (try clear hcz12_3); (try clear hcz12_4); (try clear hcz21_0); (try clear hcz21_1); (try clear hcz21_2); (try clear hcz21_3); (try clear hcz21_4); (try clear hcz25_0); (try clear hcz25_1); (try clear hcz25_2); (try clear hcz25_3); (try clear hcz26_0); (try clear hcz26_1); (try clear hcz26_2); (try clear hcz26_3); (try clear hcz26_4); (try clear hcz29_0); (try clear hcz29_1); (try clear hcz29_2); (try clear hcz29_3); (try clear hcz29_4); (try clear hcz32_0); (try clear hcz32_1); (try clear hcz32_2); (try clear hcz32_3); (try clear hcz33_0); (try clear hcz33_1); (try clear hcz33_2); (try clear hcz33_3); (try clear hcz33_4); (try clear hcz9_0); (try clear hcz9_1); (try clear hcz9_2); (try clear hcz9_3); (try clear hcz9_4); (try clear hfz12_0); (try clear hfz12_1); (try clear hfz12_2); (try clear hfz12_3); (try clear hfz12_4); (try clear hfz21_0); (try clear hfz21_1); (try clear hfz21_2); (try clear hfz21_3); (try clear hfz21_4); (try clear hfz25_0); (try clear hfz25_1); (try clear hfz25_2); (try clear hfz25_3); (try clear hfz26_0); (try clear hfz26_1); (try clear hfz26_2); (try clear hfz26_3); (try clear hfz26_4); (try clear hfz29_0); (try clear hfz29_1); (try clear hfz29_2); (try clear hfz29_3); (try clear hfz29_4); (try clear hfz32_0); (try clear hfz32_1); (try clear hfz32_2); (try clear hfz32_3); (try clear hfz33_0); (try clear hfz33_1); (try clear hfz33_2); (try clear hfz33_3); (try clear hfz33_4); (try clear hfz9_0); (try clear hfz9_1); (try clear hfz9_2); (try clear hfz9_3); (try clear hfz9_4); (try clear p2); (try clear p6); (try clear q031); (try clear q31)
          obtain ⟨x7_2, x65_2, rfl, HA, HK2, HO_1, HO_7, HO_63, BK450, BK460, HB⟩ := hrel
          cases gk with
          | zero => exact absurd HA.out (by simp [spec_Samples.l1])
          | succ k2 =>
           have H := HA.out
           clear HA
           simp only [spec_Samples.l1] at H
           by_cases c36 : x65_2 < (t461.length : Int)
           ·
            rw [if_pos c36] at H
            have c36b0 : decide (x65_2 < (t461.length : Int)) = true := decide_eq_true c36
            clear c36
            by_cases c37 : 0 ≤ x65_2
            ·
             rw [if_pos c37] at H
             have c37b0 : decide (0 ≤ x65_2) = true := decide_eq_true c37
             clear c37
             by_cases c38 : x65_2 < (t461.length : Int)
             ·
              rw [if_pos c38] at H
              have c38b0 : decide (x65_2 < (t461.length : Int)) = true := decide_eq_true c38
              clear c38
              by_cases c39 : t451 = 0
              ·
               rw [if_pos c39] at H
               exact absurd H (by simp)
              ·
               rw [if_neg c39] at H
               have c39b0 : (t451 == 0) = false := beq_eq_false_iff_ne.mpr c39
               have c39b1 : (t451 != 0) = true := bne_iff_ne.mpr c39
               obtain ⟨ji40, hji40⟩ : ∃ j_ : Int, (mx t471 1) = j_ := ⟨_, rfl⟩
               replace H : (if (ji40) = 0 then (none) else (if 0 ≤ (wrap64 ((wrap64 ((wrap64 ((wrap64 ((wrap64 (t457 + (wrap64 ((wrap64 (Int.tdiv (wrap64 (Int.tdiv x65_2 t451)) (ji40))) * t459)))) * a0_0)) + (wrap64 (t456 + (wrap64 ((Int.tmod (wrap64 (Int.tdiv x65_2 t451)) (ji40)) * t458)))))) * t451)) + (Int.tmod x65_2 t451))) then (if (wrap64 ((wrap64 ((wrap64 ((wrap64 ((wrap64 (t457 + (wrap64 ((wrap64 (Int.tdiv (wrap64 (Int.tdiv x65_2 t451)) (ji40))) * t459)))) * a0_0)) + (wrap64 (t456 + (wrap64 ((Int.tmod (wrap64 (Int.tdiv x65_2 t451)) (ji40)) * t458)))))) * t451)) + (Int.tmod x65_2 t451))) < (x7_2.length : Int) then (spec_Samples.l1 k2 y466 t451 (x7_2.set ((wrap64 ((wrap64 ((wrap64 ((wrap64 ((wrap64 (t457 + (wrap64 ((wrap64 (Int.tdiv (wrap64 (Int.tdiv x65_2 t451)) (ji40))) * t459)))) * a0_0)) + (wrap64 (t456 + (wrap64 ((Int.tmod (wrap64 (Int.tdiv x65_2 t451)) (ji40)) * t458)))))) * t451)) + (Int.tmod x65_2 t451))) : Int).toNat (rd t461 x65_2)) t471 t455 x32_1 t461 (t461.length : Int) (wrap64 (x65_2 + 1)) a0_0 a0_1 a0_2 a0_3 a0_4 t456 t457 t458 t459) else (none)) else (none))) = some (r1, r2) := by first | (rw [hji40] at H; exact H) | (simp only [hji40] at H ⊢; exact H)
               have hji40_ : (if t471 < 1 then 1 else t471) = ji40 := hji40
               by_cases c41 : (ji40) = 0
               ·
                rw [if_pos c41] at H
                exact absurd H (by simp)
               ·
                rw [if_neg c41] at H
                have c41b0 : ((ji40) == 0) = false := beq_eq_false_iff_ne.mpr c41
                have c41b1 : ((ji40) != 0) = true := bne_iff_ne.mpr c41
                have c42b0 := c41
                obtain ⟨ji43, hji43⟩ : ∃ j_ : Int, (wrap64 ((wrap64 ((wrap64 ((wrap64 ((wrap64 (t457 + (wrap64 ((wrap64 (Int.tdiv (wrap64 (Int.tdiv x65_2 t451)) (ji40))) * t459)))) * a0_0)) + (wrap64 (t456 + (wrap64 ((Int.tmod (wrap64 (Int.tdiv x65_2 t451)) (ji40)) * t458)))))) * t451)) + (Int.tmod x65_2 t451))) = j_ := ⟨_, rfl⟩
                replace H : (if 0 ≤ (ji43) then (if (ji43) < (x7_2.length : Int) then (spec_Samples.l1 k2 y466 t451 (x7_2.set ((ji43) : Int).toNat (rd t461 x65_2)) t471 t455 x32_1 t461 (t461.length : Int) (wrap64 (x65_2 + 1)) a0_0 a0_1 a0_2 a0_3 a0_4 t456 t457 t458 t459) else (none)) else (none)) = some (r1, r2) := by first | (rw [hji43] at H; exact H) | (simp only [hji43] at H ⊢; exact H)
                have hji43w : (IntKind.i64.wrap ((wrap64 ((wrap64 ((wrap64 ((wrap64 (t457 + (wrap64 ((wrap64 (Int.tdiv (wrap64 (Int.tdiv x65_2 t451)) (ji40))) * t459)))) * a0_0)) + (wrap64 (t456 + (wrap64 ((Int.tmod (wrap64 (Int.tdiv x65_2 t451)) (ji40)) * t458)))))) * t451)) + (Int.tmod x65_2 t451))) = ji43 := (i64_w _).trans hji43
                by_cases c44 : 0 ≤ (ji43)
                ·
                 rw [if_pos c44] at H
                 have c44b0 : decide (0 ≤ (ji43)) = true := decide_eq_true c44
                 clear c44
                 by_cases c45 : (ji43) < (x7_2.length : Int)
                 ·
                  rw [if_pos c45] at H
                  have c45b0 : decide ((ji43) < (x7_2.length : Int)) = true := decide_eq_true c45
                  clear c45
                  obtain ⟨y474, hy474⟩ : ∃ y_ : List Int, y_ = (x7_2.set ((ji43) : Int).toNat (rd t461 x65_2)) := ⟨_, rfl⟩
                  replace H : (spec_Samples.l1 k2 y466 t451 y474 t471 t455 x32_1 t461 (t461.length : Int) (wrap64 (x65_2 + 1)) a0_0 a0_1 a0_2 a0_3 a0_4 t456 t457 t458 t459) = some (r1, r2) := by first | (rw [hy474]; with_reducible exact H) | (have H2_ := (Option.bind_some _ _).symm.trans H; rw [hy474]; with_reducible exact H2_) | (have H2_ := (Option.bind_some _ _).symm.trans H; with_reducible exact H2_) | with_reducible exact H | (rw [hy474]; exact H) | exact H
                  have Ny474 := Aside0.mk hy474
                  clear hy474
                  have H' := Aside0.mk H
                  clear H
                  have p473 : 0 ≤ (x65_2 : Int) := of_decide_eq_true (by first | (with_reducible assumption) | assumption)
                  have q473 : x65_2 < (t461.length : Int) := of_decide_eq_true (by first | (with_reducible assumption) | assumption)
                  obtain ⟨ad473, e473, hx473_0⟩ := Kd.at_int (Kd.R_reads' HO_63.out).2.2 x65_2 p473 q473
                  cases e473
                  replace p473 := eq_true p473
                  replace q473 := eq_true q473
                  try go_wp2
                  have n0_ := Aside0.mk (Kd.V_drew HO_1.out)
                  have n1_ := Aside0.mk (Kd.R_drew HO_7.out)
                  have n2_ := Aside0.mk (Kd.R_drew HO_63.out)
                  have n3_ := Aside0.mk (blk_drew BK450.out)
                  have n4_ := Aside0.mk (blk_drew BK460.out)
                  have n5_ := Aside0.mk (below_drew1 HB.out)
                  clear HO_1
                  clear HO_7
                  clear HO_63
                  clear BK450
                  clear BK460
                  clear HB
                  have HO_1 := n0_
                  have HO_7 := n1_
                  have HO_63 := n2_
                  have BK450 := n3_
                  have BK460 := n4_
                  have HB := n5_
                  clear n0_ n1_ n2_ n3_ n4_ n5_
                  refine start_ (n := 26) (S := fun w' => w'.cell? ⟨gb460, 0, none⟩ = some (.int .i64 t456) ∧ w'.cell? ⟨gb460, 1, none⟩ = some (.int .i64 t457) ∧ w'.cell? ⟨gb460, 2, none⟩ = some (.int .i64 t458) ∧ w'.cell? ⟨gb460, 3, none⟩ = some (.int .i64 t459)) (ds := []) #[false, false, false, false, false, false, false, false, false, false, false, false, false, false, false, false, false, false, false, false, false, false, false, false, false, false] (by kernel_rfl) rfl rfl ⟨(blk_cell BK460.out 0).trans rfl, (blk_cell BK460.out 1).trans rfl, (blk_cell BK460.out 2).trans rfl, (blk_cell BK460.out 3).trans rfl⟩ (fun hHeld => ?_); refine with_tabW spec_Samples.tab15 spec_Samples.bits15 (fun HT_ HW_ => ?_)
                  generalize wr.drew = w47 at HO_1 HO_7 HO_63 BK450 BK460 HB hHeld ⊢
                  refine pure_ (i := 0) (N := some 70) (v := ?_) (a' := ?_) #[true, false, false, false, false, false, false, false, false, false, false, false, false, false, false, false, false, false, false, false, false, false, false, false, false, false] rfl rfl (any_of HT_.out (by kernel_rfl)) (fun _ _ _ h => h) (Or.inl ⟨by rfl, ?_⟩) ?_ ?_
                  rotate_left
                  ·
                   intro w'
                   go_simp
                   with_reducible rfl
                  rotate_left
                  ·
                   simp only [Act.put, List.setIfInBounds_toArray, List.set_cons_zero, List.set_cons_succ, i64_w, i32_w]
                   rfl
                  refine pure_ (i := 2) (N := some 72) (v := ?_) (a' := ?_) #[true, false, true, false, false, false, false, false, false, false, false, false, false, false, false, false, false, false, false, false, false, false, false, false, false, false] rfl rfl (any_of HT_.out (by kernel_rfl)) (fun _ _ _ h => h) (Or.inl ⟨by rfl, ?_⟩) ?_ ?_
                  rotate_left
                  ·
                   intro w'
                   go_simp
                   with_reducible rfl
                  rotate_left
                  ·
                   simp only [Act.put, List.setIfInBounds_toArray, List.set_cons_zero, List.set_cons_succ, i64_w, i32_w]
                   rfl
                  refine pure_ (i := 3) (N := some 73) (v := ?_) (a' := ?_) #[true, false, true, true, false, false, false, false, false, false, false, false, false, false, false, false, false, false, false, false, false, false, false, false, false, false] rfl rfl (any_of HT_.out (by kernel_rfl)) (fun _ _ _ h => h) (Or.inl ⟨by rfl, ?_⟩) ?_ ?_
                  rotate_left
                  ·
                   intro w'
                   go_simp
                   with_reducible rfl
                  rotate_left
                  ·
                   simp only [Act.put, List.setIfInBounds_toArray, List.set_cons_zero, List.set_cons_succ, i64_w, i32_w]
                   rfl
                  refine pure_ (i := 4) (N := some 74) (v := ?_) (a' := ?_) #[true, false, true, true, true, false, false, false, false, false, false, false, false, false, false, false, false, false, false, false, false, false, false, false, false, false] rfl rfl (any_of HT_.out (by kernel_rfl)) (fun _ _ _ h => h) (Or.inl ⟨by rfl, ?_⟩) ?_ ?_
                  rotate_left
                  ·
                   intro w'
                   go_simp
                   with_reducible rfl
                  rotate_left
                  ·
                   simp only [Act.put, List.setIfInBounds_toArray, List.set_cons_zero, List.set_cons_succ, i64_w, i32_w]
                   rfl
                  refine pure_ (i := 5) (N := some 75) (v := ?_) (a' := ?_) #[true, false, true, true, true, true, false, false, false, false, false, false, false, false, false, false, false, false, false, false, false, false, false, false, false, false] rfl rfl (any_of HT_.out (by kernel_rfl)) (fun _ _ _ h => h) (Or.inl ⟨by rfl, ?_⟩) ?_ ?_
                  rotate_left
                  ·
                   intro w'
                   go_simp
                   with_reducible rfl
                  rotate_left
                  ·
                   simp only [Act.put, List.setIfInBounds_toArray, List.set_cons_zero, List.set_cons_succ, i64_w, i32_w]
                   rfl
                  refine pure_ (i := 6) (N := some 76) (v := ?_) (a' := ?_) #[true, false, true, true, true, true, true, false, false, false, false, false, false, false, false, false, false, false, false, false, false, false, false, false, false, false] rfl rfl (any_of HT_.out (by kernel_rfl)) (fun _ _ _ h => h) (Or.inl ⟨by rfl, ?_⟩) ?_ ?_
                  rotate_left
                  ·
                   intro w'
                   go_simp
                   with_reducible rfl
                  rotate_left
                  ·
                   simp only [Act.put, List.setIfInBounds_toArray, List.set_cons_zero, List.set_cons_succ, i64_w, i32_w]
                   rfl
                  refine pure_ (i := 7) (N := some 77) (v := ?_) (a' := ?_) #[true, false, true, true, true, true, true, true, false, false, false, false, false, false, false, false, false, false, false, false, false, false, false, false, false, false] rfl rfl (any_of HT_.out (by kernel_rfl)) (fun _ _ _ h => h) (Or.inl ⟨by rfl, ?_⟩) ?_ ?_
                  rotate_left
                  ·
                   intro w'
                   go_simp
                   with_reducible rfl
                  rotate_left
                  ·
                   simp only [Act.put, List.setIfInBounds_toArray, List.set_cons_zero, List.set_cons_succ, i64_w, i32_w]
                   rfl
                  refine pure_ (i := 8) (N := some 78) (v := ?_) (a' := ?_) #[true, false, true, true, true, true, true, true, true, false, false, false, false, false, false, false, false, false, false, false, false, false, false, false, false, false] rfl rfl (any_of HT_.out (by kernel_rfl)) (fun _ _ _ h => h) (Or.inl ⟨by rfl, ?_⟩) ?_ ?_
                  rotate_left
                  ·
                   intro w'
                   go_simp
                   with_reducible rfl
                  rotate_left
                  ·
                   simp only [Act.put, List.setIfInBounds_toArray, List.set_cons_zero, List.set_cons_succ, i64_w, i32_w]
                   rfl
                  refine pure_ (i := 12) (N := some 82) (v := ?_) (a' := ?_) #[true, false, true, true, true, true, true, true, true, false, false, false, true, false, false, false, false, false, false, false, false, false, false, false, false, false] rfl rfl (any_of HT_.out (by kernel_rfl)) (fun _ _ _ h => h) (Or.inl ⟨by rfl, ?_⟩) ?_ ?_
                  rotate_left
                  ·
                   intro w'
                   go_simp
                   with_reducible rfl
                  rotate_left
                  ·
                   simp only [Act.put, List.setIfInBounds_toArray, List.set_cons_zero, List.set_cons_succ, i64_w, i32_w]
                   rfl
                  refine pure_ (i := 14) (N := some 84) (v := ?_) (a' := ?_) #[true, false, true, true, true, true, true, true, true, false, false, false, true, false, true, false, false, false, false, false, false, false, false, false, false, false] rfl rfl (any_of HT_.out (by kernel_rfl)) (fun _ _ _ h => h) (Or.inl ⟨by rfl, ?_⟩) ?_ ?_
                  rotate_left
                  ·
                   intro w'
                   go_simp
                   with_reducible rfl
                  rotate_left
                  ·
                   simp only [Act.put, List.setIfInBounds_toArray, List.set_cons_zero, List.set_cons_succ, i64_w, i32_w]
                   rfl
                  refine pure_ (i := 15) (N := some 85) (v := ?_) (a' := ?_) #[true, false, true, true, true, true, true, true, true, false, false, false, true, false, true, true, false, false, false, false, false, false, false, false, false, false] rfl rfl (any_of HT_.out (by kernel_rfl)) (fun _ _ _ h => h) (Or.inl ⟨by rfl, ?_⟩) ?_ ?_
                  rotate_left
                  ·
                   intro w'
                   go_simp
                   with_reducible rfl
                  rotate_left
                  ·
                   simp only [Act.put, List.setIfInBounds_toArray, List.set_cons_zero, List.set_cons_succ, i64_w, i32_w]
                   rfl
                  refine pure_ (i := 16) (N := some 86) (v := ?_) (a' := ?_) #[true, false, true, true, true, true, true, true, true, false, false, false, true, false, true, true, true, false, false, false, false, false, false, false, false, false] rfl rfl (any_of HT_.out (by kernel_rfl)) (fun _ _ _ h => h) (Or.inl ⟨by rfl, ?_⟩) ?_ ?_
                  rotate_left
                  ·
                   intro w'
                   go_simp
                   with_reducible rfl
                  rotate_left
                  ·
                   simp only [Act.put, List.setIfInBounds_toArray, List.set_cons_zero, List.set_cons_succ, i64_w, i32_w]
                   rfl
                  refine pure_ (i := 17) (N := some 87) (v := ?_) (a' := ?_) #[true, false, true, true, true, true, true, true, true, false, false, false, true, false, true, true, true, true, false, false, false, false, false, false, false, false] rfl rfl (any_of HT_.out (by kernel_rfl)) (fun _ _ _ h => h) (Or.inl ⟨by rfl, ?_⟩) ?_ ?_
                  rotate_left
                  ·
                   intro w'
                   go_simp
                   with_reducible rfl
                  rotate_left
                  ·
                   simp only [Act.put, List.setIfInBounds_toArray, List.set_cons_zero, List.set_cons_succ, i64_w, i32_w]
                   rfl
                  refine pure_ (i := 18) (N := some 88) (v := ?_) (a' := ?_) #[true, false, true, true, true, true, true, true, true, false, false, false, true, false, true, true, true, true, true, false, false, false, false, false, false, false] rfl rfl (any_of HT_.out (by kernel_rfl)) (fun _ _ _ h => h) (Or.inl ⟨by rfl, ?_⟩) ?_ ?_
                  rotate_left
                  ·
                   intro w'
                   go_simp
                   with_reducible rfl
                  rotate_left
                  ·
                   simp only [Act.put, List.setIfInBounds_toArray, List.set_cons_zero, List.set_cons_succ, i64_w, i32_w]
                   rfl
                  refine pure_ (i := 19) (N := some 89) (v := ?_) (a' := ?_) #[true, false, true, true, true, true, true, true, true, false, false, false, true, false, true, true, true, true, true, true, false, false, false, false, false, false] rfl rfl (any_of HT_.out (by kernel_rfl)) (fun _ _ _ h => h) (Or.inl ⟨by rfl, ?_⟩) ?_ ?_
                  rotate_left
                  ·
                   intro w'
                   go_simp
                   with_reducible rfl
                  rotate_left
                  ·
                   simp only [Act.put, List.setIfInBounds_toArray, List.set_cons_zero, List.set_cons_succ, i64_w, i32_w]
                   rfl
                  refine pure_ (i := 20) (N := some 90) (v := ?_) (a' := ?_) #[true, false, true, true, true, true, true, true, true, false, false, false, true, false, true, true, true, true, true, true, true, false, false, false, false, false] rfl rfl (any_of HT_.out (by kernel_rfl)) (fun _ _ _ h => h) (Or.inl ⟨by rfl, ?_⟩) ?_ ?_
                  rotate_left
                  ·
                   intro w'
                   go_simp
                   with_reducible rfl
                  rotate_left
                  ·
                   simp only [Act.put, List.setIfInBounds_toArray, List.set_cons_zero, List.set_cons_succ, i64_w, i32_w]
                   rfl
                  refine take_ (i := 1) (N := some 71) (v := ?_) (a' := ?_) #[true, true, true, true, true, true, true, true, true, false, false, false, true, false, true, true, true, true, true, true, true, false, false, false, false, false] rfl rfl (take_ofW HT_.out HW_.out (by kernel_rfl)) (fun _ _ _ h => h) (Or.inl ⟨by rfl, ?_⟩) hHeld ?_ ?_
                  rotate_left
                  ·
                   rintro w' ⟨s0, s1, s2, s3⟩
                   go_simp
                   with_reducible rfl
                  rotate_left
                  ·
                   simp only [Act.put, List.setIfInBounds_toArray, List.set_cons_zero, List.set_cons_succ, i64_w, i32_w]
                   rfl
                  refine take_ (i := 9) (N := some 79) (v := ?_) (a' := ?_) #[true, true, true, true, true, true, true, true, true, true, false, false, true, false, true, true, true, true, true, true, true, false, false, false, false, false] rfl rfl (take_ofW HT_.out HW_.out (by kernel_rfl)) (fun _ _ _ h => h) (Or.inl ⟨by rfl, ?_⟩) hHeld ?_ ?_
                  rotate_left
                  ·
                   rintro w' ⟨s0, s1, s2, s3⟩
                   go_simp
                   with_reducible rfl
                  rotate_left
                  ·
                   simp only [Act.put, List.setIfInBounds_toArray, List.set_cons_zero, List.set_cons_succ, i64_w, i32_w]
                   rfl
                  refine pure_ (i := 10) (N := some 80) (v := ?_) (a' := ?_) #[true, true, true, true, true, true, true, true, true, true, true, false, true, false, true, true, true, true, true, true, true, false, false, false, false, false] rfl rfl (any_of HT_.out (by kernel_rfl)) (fun _ _ _ h => h) (Or.inl ⟨by rfl, ?_⟩) ?_ ?_
                  rotate_left
                  ·
                   intro w'
                   go_simp
                   with_reducible rfl
                  rotate_left
                  ·
                   simp only [Act.put, List.setIfInBounds_toArray, List.set_cons_zero, List.set_cons_succ, i64_w, i32_w]
                   rfl
                  refine pure_ (i := 11) (N := some 81) (v := ?_) (a' := ?_) #[true, true, true, true, true, true, true, true, true, true, true, true, true, false, true, true, true, true, true, true, true, false, false, false, false, false] rfl rfl (any_of HT_.out (by kernel_rfl)) (fun _ _ _ h => h) (Or.inl ⟨by rfl, ?_⟩) ?_ ?_
                  rotate_left
                  ·
                   intro w'
                   go_simp
                   with_reducible rfl
                  rotate_left
                  ·
                   simp only [Act.put, List.setIfInBounds_toArray, List.set_cons_zero, List.set_cons_succ, i64_w, i32_w]
                   rfl
                  refine pure_ (i := 24) (N := some 16) (v := ?_) (a' := ?_) #[true, true, true, true, true, true, true, true, true, true, true, true, true, false, true, true, true, true, true, true, true, false, false, false, true, false] rfl rfl (any_of HT_.out (by kernel_rfl)) (fun _ _ _ h => h) (Or.inl ⟨by rfl, ?_⟩) ?_ ?_
                  rotate_left
                  ·
                   intro w'
                   go_simp
                   with_reducible rfl
                  rotate_left
                  ·
                   simp only [Act.put, List.setIfInBounds_toArray, List.set_cons_zero, List.set_cons_succ, i64_w, i32_w]
                   rfl
                  refine take_ (i := 13) (N := some 83) (v := ?_) (a' := ?_) #[true, true, true, true, true, true, true, true, true, true, true, true, true, true, true, true, true, true, true, true, true, false, false, false, true, false] rfl rfl (take_ofW HT_.out HW_.out (by kernel_rfl)) (fun _ _ _ h => h) (Or.inl ⟨by rfl, ?_⟩) hHeld ?_ ?_
                  rotate_left
                  ·
                   rintro w' ⟨s0, s1, s2, s3⟩
                   go_simp
                   with_reducible rfl
                  rotate_left
                  ·
                   simp only [Act.put, List.setIfInBounds_toArray, List.set_cons_zero, List.set_cons_succ, i64_w, i32_w]
                   rfl
                  refine take_ (i := 21) (N := some 91) (v := ?_) (a' := ?_) #[true, true, true, true, true, true, true, true, true, true, true, true, true, true, true, true, true, true, true, true, true, true, false, false, true, false] rfl rfl (take_ofW HT_.out HW_.out (by kernel_rfl)) (fun _ _ _ h => h) (Or.inl ⟨by rfl, ?_⟩) hHeld ?_ ?_
                  rotate_left
                  ·
                   rintro w' ⟨s0, s1, s2, s3⟩
                   go_simp
                   with_reducible rfl
                  rotate_left
                  ·
                   simp only [Act.put, List.setIfInBounds_toArray, List.set_cons_zero, List.set_cons_succ, i64_w, i32_w]
                   rfl
                  refine pure_ (i := 22) (N := some 92) (v := ?_) (a' := ?_) #[true, true, true, true, true, true, true, true, true, true, true, true, true, true, true, true, true, true, true, true, true, true, true, false, true, false] rfl rfl (any_of HT_.out (by kernel_rfl)) (fun _ _ _ h => h) (Or.inl ⟨by rfl, ?_⟩) ?_ ?_
                  rotate_left
                  ·
                   intro w'
                   go_simp
                   with_reducible rfl
                  rotate_left
                  ·
                   simp only [Act.put, List.setIfInBounds_toArray, List.set_cons_zero, List.set_cons_succ, i64_w, i32_w]
                   rfl
                  refine pure_ (i := 23) (N := some 93) (v := ?_) (a' := ?_) #[true, true, true, true, true, true, true, true, true, true, true, true, true, true, true, true, true, true, true, true, true, true, true, true, true, false] rfl rfl (any_of HT_.out (by kernel_rfl)) (fun _ _ _ h => h) (Or.inl ⟨by rfl, ?_⟩) ?_ ?_
                  rotate_left
                  ·
                   intro w'
                   go_simp
                   with_reducible rfl
                  rotate_left
                  ·
                   simp only [Act.put, List.setIfInBounds_toArray, List.set_cons_zero, List.set_cons_succ, i64_w, i32_w]
                   rfl
                  refine pure_ (i := 25) (N := some 17) (v := ?_) (a' := ?_) #[true, true, true, true, true, true, true, true, true, true, true, true, true, true, true, true, true, true, true, true, true, true, true, true, true, true] rfl rfl (any_of HT_.out (by kernel_rfl)) (fun _ _ _ h => h) (Or.inl ⟨by rfl, ?_⟩) ?_ ?_
                  rotate_left
                  ·
                   intro w'
                   go_simp
                   with_reducible rfl
                  rotate_left
                  ·
                   simp only [Act.put, List.setIfInBounds_toArray, List.set_cons_zero, List.set_cons_succ, i64_w, i32_w]
                   rfl
                  refine done_ (done_of HT_.out (by kernel_rfl)) ?_
                  try go_wp2
                  have n0_ := Aside0.mk (Kd.V_drew HO_1.out)
                  have n1_ := Aside0.mk (Kd.R_drew HO_7.out)
                  have n2_ := Aside0.mk (Kd.R_drew HO_63.out)
                  have n3_ := Aside0.mk (blk_drew BK450.out)
                  have n4_ := Aside0.mk (blk_drew BK460.out)
                  have n5_ := Aside0.mk (below_drew1 HB.out)
                  clear HO_1
                  clear HO_7
                  clear HO_63
                  clear BK450
                  clear BK460
                  clear HB
                  have HO_1 := n0_
                  have HO_7 := n1_
                  have HO_63 := n2_
                  have BK450 := n3_
                  have BK460 := n4_
                  have HB := n5_
                  clear n0_ n1_ n2_ n3_ n4_ n5_
                  have p46 : 0 ≤ ((ji43) : Int) := of_decide_eq_true (by first | (with_reducible assumption) | assumption)
                  have q46 : ((ji43) : Int) < ((x7_2.length : Int) : Int) := of_decide_eq_true (by first | (with_reducible assumption) | assumption)
                  obtain ⟨go46, co46, eo46, gb46, gl46, cl46, HG46⟩ := Kd.R_form HO_7.out (by omega)
                  (first | cases eo46 | (injection eo46 with ea_ en_ ec_; (first | subst ea_ | (injection ea_ with ea_; subst ea_)); subst ec_; clear en_))
                  have GB46 := Aside0.mk gb46
                  have GG46 := Aside0.mk HG46
                  clear gb46 gl46 HG46
                  obtain ⟨hx46_0, hf46_0⟩ := Kd.R_celln 0 HO_7.out ((ji43) : Int) p46 q46
                  replace p46 := eq_true p46
                  replace q46 := eq_true q46
                  have HP49 := Kd.R_putn HO_7.out ((ji43) : Int) (rd t461 x65_2)
                  rw [← Ny474.out] at HP49
                  have HQ49 := Aside0.mk HP49
                  clear HP49
                  refine start_ (n := 16) (S := fun w' => w'.cell? ⟨gb450, 0, none⟩ = some (.int .i64 a0_0) ∧ w'.cell? ⟨gb450, 1, none⟩ = some (.int .i64 a0_1) ∧ w'.cell? ⟨gb450, 2, none⟩ = some (.int .i64 a0_2) ∧ w'.cell? ⟨gb450, 3, none⟩ = some (.int .i64 a0_3) ∧ w'.cell? ⟨gb450, 4, none⟩ = some (.bool a0_4)) (ds := [15]) #[false, false, false, false, false, false, false, false, false, false, false, false, false, false, false, false] (by kernel_rfl) rfl rfl ⟨(blk_cell BK450.out 0).trans rfl, (blk_cell BK450.out 1).trans rfl, (blk_cell BK450.out 2).trans rfl, (blk_cell BK450.out 3).trans rfl, (blk_cell BK450.out 4).trans rfl⟩ (fun hHeld => ?_); refine with_tabW spec_Samples.tab16 spec_Samples.bits16 (fun HT_ HW_ => ?_)
                  generalize w47.drew = w48 at HO_1 HO_7 HO_63 BK450 BK460 HB GG46 HQ49 hf46_0 hx46_0 hHeld ⊢
                  refine pure_ (i := 0) (N := some 94) (v := ?_) (a' := ?_) #[true, false, false, false, false, false, false, false, false, false, false, false, false, false, false, false] rfl rfl (any_of HT_.out (by kernel_rfl)) (fun _ _ _ h => h) (Or.inl ⟨by rfl, ?_⟩) ?_ ?_
                  rotate_left
                  ·
                   intro w'
                   go_simp
                   with_reducible rfl
                  rotate_left
                  ·
                   simp only [Act.put, List.setIfInBounds_toArray, List.set_cons_zero, List.set_cons_succ, i64_w, i32_w]
                   rfl
                  refine pure_ (i := 1) (N := some 95) (v := ?_) (a' := ?_) #[true, true, false, false, false, false, false, false, false, false, false, false, false, false, false, false] rfl rfl (any_of HT_.out (by kernel_rfl)) (fun _ _ _ h => h) (Or.inl ⟨by rfl, ?_⟩) ?_ ?_
                  rotate_left
                  ·
                   intro w'
                   go_simp
                   with_reducible rfl
                  rotate_left
                  ·
                   simp only [Act.put, List.setIfInBounds_toArray, List.set_cons_zero, List.set_cons_succ, i64_w, i32_w]
                   rfl
                  refine pure_ (i := 2) (N := some 96) (v := ?_) (a' := ?_) #[true, true, true, false, false, false, false, false, false, false, false, false, false, false, false, false] rfl rfl (any_of HT_.out (by kernel_rfl)) (fun _ _ _ h => h) (Or.inl ⟨by rfl, ?_⟩) ?_ ?_
                  rotate_left
                  ·
                   intro w'
                   go_simp
                   with_reducible rfl
                  rotate_left
                  ·
                   simp only [Act.put, List.setIfInBounds_toArray, List.set_cons_zero, List.set_cons_succ, i64_w, i32_w]
                   rfl
                  refine pure_ (i := 5) (N := some 99) (v := ?_) (a' := ?_) #[true, true, true, false, false, true, false, false, false, false, false, false, false, false, false, false] rfl rfl (any_of HT_.out (by kernel_rfl)) (fun _ _ _ h => h) (Or.inl ⟨by rfl, ?_⟩) ?_ ?_
                  rotate_left
                  ·
                   intro w'
                   go_simp
                   with_reducible rfl
                  rotate_left
                  ·
                   simp only [Act.put, List.setIfInBounds_toArray, List.set_cons_zero, List.set_cons_succ, i64_w, i32_w]
                   rfl
                  refine pure_ (i := 7) (N := some 101) (v := ?_) (a' := ?_) #[true, true, true, false, false, true, false, true, false, false, false, false, false, false, false, false] rfl rfl (any_of HT_.out (by kernel_rfl)) (fun _ _ _ h => h) (Or.inl ⟨by rfl, ?_⟩) ?_ ?_
                  rotate_left
                  ·
                   intro w'
                   go_simp
                   with_reducible rfl
                  rotate_left
                  ·
                   simp only [Act.put, List.setIfInBounds_toArray, List.set_cons_zero, List.set_cons_succ, i64_w, i32_w]
                   rfl
                  refine pure_ (i := 9) (N := some 103) (v := ?_) (a' := ?_) #[true, true, true, false, false, true, false, true, false, true, false, false, false, false, false, false] rfl rfl (any_of HT_.out (by kernel_rfl)) (fun _ _ _ h => h) (Or.inl ⟨by rfl, ?_⟩) ?_ ?_
                  rotate_left
                  ·
                   intro w'
                   go_simp
                   with_reducible rfl
                  rotate_left
                  ·
                   simp only [Act.put, List.setIfInBounds_toArray, List.set_cons_zero, List.set_cons_succ, i64_w, i32_w]
                   rfl
                  refine pure_ (i := 10) (N := some 104) (v := ?_) (a' := ?_) #[true, true, true, false, false, true, false, true, false, true, true, false, false, false, false, false] rfl rfl (any_of HT_.out (by kernel_rfl)) (fun _ _ _ h => h) (Or.inl ⟨by rfl, ?_⟩) ?_ ?_
                  rotate_left
                  ·
                   intro w'
                   go_simp
                   with_reducible rfl
                  rotate_left
                  ·
                   simp only [Act.put, List.setIfInBounds_toArray, List.set_cons_zero, List.set_cons_succ, i64_w, i32_w]
                   rfl
                  refine pure_ (i := 11) (N := some 105) (v := ?_) (a' := ?_) #[true, true, true, false, false, true, false, true, false, true, true, true, false, false, false, false] rfl rfl (any_of HT_.out (by kernel_rfl)) (fun _ _ _ h => h) (Or.inl ⟨by rfl, ?_⟩) ?_ ?_
                  rotate_left
                  ·
                   intro w'
                   go_simp
                   with_reducible rfl
                  rotate_left
                  ·
                   simp only [Act.put, List.setIfInBounds_toArray, List.set_cons_zero, List.set_cons_succ, i64_w, i32_w]
                   rfl
                  refine pure_ (i := 13) (N := some 107) (v := ?_) (a' := ?_) #[true, true, true, false, false, true, false, true, false, true, true, true, false, true, false, false] rfl rfl (any_of HT_.out (by kernel_rfl)) (fun _ _ _ h => h) (Or.inl ⟨by rfl, ?_⟩) ?_ ?_
                  rotate_left
                  ·
                   intro w'
                   go_simp
                   with_reducible rfl
                  rotate_left
                  ·
                   simp only [Act.put, List.setIfInBounds_toArray, List.set_cons_zero, List.set_cons_succ, i64_w, i32_w]
                   rfl
                  refine take_ (i := 3) (N := some 97) (v := ?_) (a' := ?_) #[true, true, true, true, false, true, false, true, false, true, true, true, false, true, false, false] rfl rfl (take_ofW HT_.out HW_.out (by kernel_rfl)) (fun _ _ _ h => h) (Or.inl ⟨by rfl, ?_⟩) hHeld ?_ ?_
                  rotate_left
                  ·
                   rintro w' ⟨s0, s1, s2, s3, s4⟩
                   go_simp
                   with_reducible rfl
                  rotate_left
                  ·
                   simp only [Act.put, List.setIfInBounds_toArray, List.set_cons_zero, List.set_cons_succ, i64_w, i32_w]
                   rfl
                  refine pure_ (i := 4) (N := some 98) (v := ?_) (a' := ?_) #[true, true, true, true, true, true, false, true, false, true, true, true, false, true, false, false] rfl rfl (any_of HT_.out (by kernel_rfl)) (fun _ _ _ h => h) (Or.inl ⟨by rfl, ?_⟩) ?_ ?_
                  rotate_left
                  ·
                   intro w'
                   go_simp
                   with_reducible rfl
                  rotate_left
                  ·
                   simp only [Act.put, List.setIfInBounds_toArray, List.set_cons_zero, List.set_cons_succ, i64_w, i32_w]
                   rfl
                  refine pure_ (i := 6) (N := some 100) (v := ?_) (a' := ?_) #[true, true, true, true, true, true, true, true, false, true, true, true, false, true, false, false] rfl rfl (any_of HT_.out (by kernel_rfl)) (fun _ _ _ h => h) (Or.inl ⟨by rfl, ?_⟩) ?_ ?_
                  rotate_left
                  ·
                   intro w'
                   go_simp
                   with_reducible rfl
                  rotate_left
                  ·
                   simp only [Act.put, List.setIfInBounds_toArray, List.set_cons_zero, List.set_cons_succ, i64_w, i32_w]
                   rfl
                  refine pure_ (i := 8) (N := some 102) (v := ?_) (a' := ?_) #[true, true, true, true, true, true, true, true, true, true, true, true, false, true, false, false] rfl rfl (any_of HT_.out (by kernel_rfl)) (fun _ _ _ h => h) (Or.inl ⟨by rfl, ?_⟩) ?_ ?_
                  rotate_left
                  ·
                   intro w'
                   go_simp
                   with_reducible rfl
                  rotate_left
                  ·
                   simp only [Act.put, List.setIfInBounds_toArray, List.set_cons_zero, List.set_cons_succ, i64_w, i32_w]
                   rfl
                  refine pure_ (i := 12) (N := some 106) (v := ?_) (a' := ?_) #[true, true, true, true, true, true, true, true, true, true, true, true, true, true, false, false] rfl rfl (any_of HT_.out (by kernel_rfl)) (fun _ _ _ h => h) (Or.inl ⟨by rfl, ?_⟩) ?_ ?_
                  rotate_left
                  ·
                   intro w'
                   go_simp
                   with_reducible rfl
                  rotate_left
                  ·
                   simp only [Act.put, List.setIfInBounds_toArray, List.set_cons_zero, List.set_cons_succ, i64_w, i32_w]
                   rfl
                  refine pure_ (i := 14) (N := some 108) (v := ?_) (a' := ?_) #[true, true, true, true, true, true, true, true, true, true, true, true, true, true, true, false] rfl rfl (any_of HT_.out (by kernel_rfl)) (fun _ _ _ h => h) (Or.inl ⟨by rfl, ?_⟩) ?_ ?_
                  rotate_left
                  ·
                   intro w'
                   go_simp
                   with_reducible rfl
                  rotate_left
                  ·
                   simp only [Act.put, List.setIfInBounds_toArray, List.set_cons_zero, List.set_cons_succ, i64_w, i32_w]
                   rfl
                  refine last_ (i := 15) (N := none) #[true, true, true, true, true, true, true, true, true, true, true, true, true, true, true, true] rfl rfl (one_of HT_.out (by kernel_rfl)) (by decide) (fun K hK => ?_)
                  refine skip_ (w1 := ?_) (by rfl) rfl ?_ ?_
                  rotate_left
                  ·
                   go_simp
                   rfl
                  refine hK.out _ _ ?_
                  clear hK K
                  refine done_ (done_of HT_.out (by kernel_rfl)) ?_
                  try go_wp2
                  go_roundg k2
                  case measure => have := HK1.out; have := HK2.out; omega
                  case rel => exact ⟨(y474), (wrap64 (x65_2 + 1)), (by first | rfl | (simp; done) | (simp [*]; done)), H', ⟨by have := HK1.out; have := HK2.out; omega⟩, ⟨by (with_reducible repeat (first | apply Kd.V_alloc | apply Kd.V_drewN | apply Kd.V_drew)); exact Kd.V_mono (Kd.V_far (p := ⟨go46, ((ji43) : Int).toNat, none⟩) (Kd.V_mono HO_1.out (fun k_ hk => (⟨hk, fun e_ => hk.2.1 (by rw [e_]; rfl)⟩ : _ ∧ k_ ≠ go46))) (fun _ hk => hk.2) (.int .i64 (rd t461 x65_2))) (fun _ hk => ⟨hk.1.1, ⟨hk.1.2.1, ⟨hk.1.2.2.1, ⟨hk.1.2.2.2.1, hk.1.2.2.2.2⟩⟩⟩⟩)⟩, ⟨by (with_reducible repeat (first | apply Kd.R_alloc | apply Kd.R_drewN | apply Kd.R_drew)); exact HQ49.out⟩, ⟨by (with_reducible repeat (first | apply Kd.R_alloc | apply Kd.R_drewN | apply Kd.R_drew)); exact Kd.R_mono (Kd.R_far (p := ⟨go46, ((ji43) : Int).toNat, none⟩) (Kd.R_mono HO_63.out (fun k_ hk => (⟨hk, fun e_ => hk.2 (by rw [e_]; rfl)⟩ : _ ∧ k_ ≠ go46))) (fun _ hk => hk.2) (.int .i64 (rd t461 x65_2))) (fun _ hk => ⟨hk.1.1, hk.1.2⟩)⟩, ⟨by (with_reducible repeat (first | refine blk_drewN ?_ _ | refine blk_drew ?_ | refine blk_alloc ?_ _)); refine blk_far ?_ (by have h_ := Kd.R_ne HO_7.out BK450.out (by decide); intro e_; exact h_ (by rw [e_]; rfl)) _; (with_reducible repeat (first | refine blk_drewN ?_ _ | refine blk_drew ?_ | refine blk_alloc ?_ _)); exact BK450.out⟩, ⟨by (with_reducible repeat (first | refine blk_drewN ?_ _ | refine blk_drew ?_ | refine blk_alloc ?_ _)); refine blk_far ?_ (by have h_ := Kd.R_ne HO_7.out BK460.out (by decide); intro e_; exact h_ (by rw [e_]; rfl)) _; (with_reducible repeat (first | refine blk_drewN ?_ _ | refine blk_drew ?_ | refine blk_alloc ?_ _)); exact BK460.out⟩, ⟨by repeat (first | (with_reducible first | exact HB.out | apply below_alloc | apply pw_below_drewN | apply below_drew1 | refine below_set ?_ GB46.out | refine below_set ?_ GE450.out | refine below_set ?_ GE460.out) | exact HB.out)⟩⟩
                 ·
                  rw [if_neg c45] at H
                  exact absurd H (by simp)
                ·
                 rw [if_neg c44] at H
                 exact absurd H (by simp)
             ·
              rw [if_neg c38] at H
              exact absurd H (by simp)
            ·
             rw [if_neg c37] at H
             exact absurd H (by simp)
           ·
            rw [if_neg c36] at H
            have c36b0 : decide (x65_2 < (t461.length : Int)) = false := decide_eq_false c36
            clear c36
            have H' := Aside0.mk H
            clear H
            go_wp2
            go_roundg k2
            case measure => have := HK1.out; have := HK2.out; omega
            case rel => exact ⟨(y466), (x7_2), (wrap64 (x32_1 + 1)), (by first | rfl | (simp; done) | (simp [*]; done)), H', ⟨by have := HK1.out; have := HK2.out; omega⟩, ⟨by (with_reducible repeat (first | apply Kd.V_alloc | apply Kd.V_drewN | apply Kd.V_drew)); exact Kd.V_mono HO_1.out (fun _ hk => ⟨hk.1, ⟨hk.2.1, hk.2.2.2.1⟩⟩)⟩, ⟨by (with_reducible repeat (first | apply Kd.R_alloc | apply Kd.R_drewN | apply Kd.R_drew)); exact Kd.R_mono HO_7.out (fun _ hk => hk.1)⟩, ⟨by (with_reducible repeat (first | refine blk_drewN ?_ _ | refine blk_drew ?_ | refine blk_alloc ?_ _)); exact BK450.out⟩, ⟨by repeat (first | (with_reducible first | exact HB.out | apply below_alloc | apply pw_below_drewN | apply below_drew1 | refine below_set ?_ GE450.out | refine below_set ?_ GE460.out) | exact HB.out)⟩⟩
        ·
         rw [if_neg c19] at H
         exact absurd H (by simp)
       ·
        rw [if_neg c18] at H
        exact absurd H (by simp)
      ·
       rw [if_neg c16] at H
       have c16b0 : (t464 == 0) = false := beq_eq_false_iff_ne.mpr c16
       have c16b1 : (t464 != 0) = true := bne_iff_ne.mpr c16
       simp only [Option.some.injEq, Prod.mk.injEq] at H
       obtain ⟨rfl, rfl⟩ := H
       have hcz50_0 : wr.cell? ⟨gb450, 0, none⟩ = some (.int .i64 a0_0) := (blk_cell BK450.out 0).trans rfl
       have hcz50_1 : wr.cell? ⟨gb450, 1, none⟩ = some (.int .i64 a0_1) := (blk_cell BK450.out 1).trans rfl
       have hcz50_2 : wr.cell? ⟨gb450, 2, none⟩ = some (.int .i64 a0_2) := (blk_cell BK450.out 2).trans rfl
       have hcz50_3 : wr.cell? ⟨gb450, 3, none⟩ = some (.int .i64 a0_3) := (blk_cell BK450.out 3).trans rfl
       have hcz50_4 : wr.cell? ⟨gb450, 4, none⟩ = some (.bool a0_4) := (blk_cell BK450.out 4).trans rfl
       have hfz50_0 := blk_frozen BK450.out 0
       have hfz50_1 := blk_frozen BK450.out 1
       have hfz50_2 := blk_frozen BK450.out 2
       have hfz50_3 := blk_frozen BK450.out 3
       have hfz50_4 := blk_frozen BK450.out 4
       go_wp2_with (first | ((with_reducible refine gate_callee (f := 73) rfl ?_); refine goesL_ (some 38) rfl rfl Tryz.func73 (by kernel_rfl) rfl #[.bool a0_4, .int .i64 x32_1] rfl (by (try simp only [List.map_toArray, List.map_cons, List.map_nil]); first | done | rfl | (simp only [List.length_drop, List.length_take]; rfl)) ?_; (with_reducible refine (spec_PartOf.calls a0_4 x32_1 t456 t457 t458 t459 _ A14.out).mono ?_); rintro e w51 ⟨rfl, hb⟩; refine ⟨_, rfl, ?_⟩; have n0_ := Aside0.mk (Kd.V_below (by (with_reducible repeat (first | apply Kd.V_alloc | apply Kd.V_drewN | apply Kd.V_drew)); exact HO_1.out) hb); have n1_ := Aside0.mk (Kd.R_below (by (with_reducible repeat (first | apply Kd.R_alloc | apply Kd.R_drewN | apply Kd.R_drew)); exact HO_7.out) hb); have n2_ := Aside0.mk (blk_below (g := gb450) (o := .cells #[.int .i64 a0_0, .int .i64 a0_1, .int .i64 a0_2, .int .i64 a0_3, .bool a0_4] 26 (0, 0)) (by (with_reducible repeat (first | refine blk_drewN ?_ _ | refine blk_drew ?_ | refine blk_alloc ?_ _)); exact BK450.out) hb); have n3_ := Aside0.mk (below_step (by repeat (first | (with_reducible first | exact HB.out | apply below_alloc | apply pw_below_drewN | apply below_drew1 | refine below_set ?_ GE450.out) | exact HB.out)) hb); clear HO_1; clear HO_7; clear BK450; clear HB; have HO_1 := n0_; have HO_7 := n1_; have BK450 := n2_; have HB := n3_; clear n0_ n1_ n2_ n3_; (try clear hb); (try clear hb2); (try clear hk); (try clear hi)) | ((with_reducible refine gate_dst (N := 9) rfl ?_); refine box_event ?hg (N := 9) ?hd (cs := #[.int .i64 0, .int .i64 0, .int .i64 0, .int .i64 0]) (t := 151) ?hr ?_; (case hd => rfl); (case hg => rfl); (case hr => first | (go_simp; done) | (go_simp; rfl)); intro gb460 hg w52 hbox hb; have n0_ := Aside0.mk (Kd.V_below (Kd.V_elderB (by (with_reducible repeat (first | apply Kd.V_alloc | apply Kd.V_drewN | apply Kd.V_drew)); exact HO_1.out) gb460 (Nat.le_of_eq hg.symm)) hb); have n1_ := Aside0.mk (Kd.R_below (by (with_reducible repeat (first | apply Kd.R_alloc | apply Kd.R_drewN | apply Kd.R_drew)); exact HO_7.out) hb); have n2_ := Aside0.mk (blk_below (g := gb450) (o := .cells #[.int .i64 a0_0, .int .i64 a0_1, .int .i64 a0_2, .int .i64 a0_3, .bool a0_4] 26 (0, 0)) (by (with_reducible repeat (first | refine blk_drewN ?_ _ | refine blk_drew ?_ | refine blk_alloc ?_ _)); exact BK450.out) hb); have n3_ := Aside0.mk (below_step (by repeat (first | (with_reducible first | exact HB.out | apply below_alloc | apply pw_below_drewN | apply below_drew1 | refine below_set ?_ GE450.out) | exact HB.out)) hb); have n4_ := Aside0.mk (hbox); have n5_ := Aside0.mk ((by rw [hg]; exact (below_size (by repeat (first | (with_reducible first | exact HB.out | apply below_alloc | apply pw_below_drewN | apply below_drew1 | refine below_set ?_ GE450.out) | exact HB.out))) : w.heap.size ≤ gb460)); have n6_ := Aside0.mk ((by rw [hg]; exact (below_size (by repeat (first | (with_reducible first | exact HB.out | apply below_alloc | apply pw_below_drewN | apply below_drew1 | refine below_set ?_ GE450.out) | exact HB.out))) : w.heap.size ≤ gb460)); have n7_ := Aside0.mk ((by rw [hg]; exact Nat.ne_of_lt (blk_lt (g := gb450) (o := .cells #[.int .i64 a0_0, .int .i64 a0_1, .int .i64 a0_2, .int .i64 a0_3, .bool a0_4] 26 (0, 0)) (by (with_reducible repeat (first | refine blk_drewN ?_ _ | refine blk_drew ?_ | refine blk_alloc ?_ _)); exact BK450.out)) : gb450 ≠ gb460)); have n8_ := Aside0.mk ((by rw [hg]; exact Nat.ne_of_gt (blk_lt (g := gb450) (o := .cells #[.int .i64 a0_0, .int .i64 a0_1, .int .i64 a0_2, .int .i64 a0_3, .bool a0_4] 26 (0, 0)) (by (with_reducible repeat (first | refine blk_drewN ?_ _ | refine blk_drew ?_ | refine blk_alloc ?_ _)); exact BK450.out)) : gb460 ≠ gb450)); clear HO_1; clear HO_7; clear BK450; clear HB; have HO_1 := n0_; have HO_7 := n1_; have BK450 := n2_; have HB := n3_; have BK460 := n4_; have GW460 := n5_; have GE460 := n6_; have NB450_460 := n7_; have NB460_450 := n8_; clear n0_ n1_ n2_ n3_ n4_ n5_ n6_ n7_ n8_; clear hb hbox hg; have hnb53 := NB460_450.out; have hnc53 := NB450_460.out; have hcz54_0 : w52.cell? ⟨gb460, 0, none⟩ = some (.int .i64 0) := (blk_cell BK460.out 0).trans rfl; have hcz54_1 : w52.cell? ⟨gb460, 1, none⟩ = some (.int .i64 0) := (blk_cell BK460.out 1).trans rfl; have hcz54_2 : w52.cell? ⟨gb460, 2, none⟩ = some (.int .i64 0) := (blk_cell BK460.out 2).trans rfl; have hcz54_3 : w52.cell? ⟨gb460, 3, none⟩ = some (.int .i64 0) := (blk_cell BK460.out 3).trans rfl; have hfz54_0 := blk_frozen BK460.out 0; have hfz54_1 := blk_frozen BK460.out 1; have hfz54_2 := blk_frozen BK460.out 2; have hfz54_3 := blk_frozen BK460.out 3; have hcz55_0 : w52.cell? ⟨gb450, 0, none⟩ = some (.int .i64 a0_0) := (blk_cell BK450.out 0).trans rfl; have hcz55_1 : w52.cell? ⟨gb450, 1, none⟩ = some (.int .i64 a0_1) := (blk_cell BK450.out 1).trans rfl; have hcz55_2 : w52.cell? ⟨gb450, 2, none⟩ = some (.int .i64 a0_2) := (blk_cell BK450.out 2).trans rfl; have hcz55_3 : w52.cell? ⟨gb450, 3, none⟩ = some (.int .i64 a0_3) := (blk_cell BK450.out 3).trans rfl; have hcz55_4 : w52.cell? ⟨gb450, 4, none⟩ = some (.bool a0_4) := (blk_cell BK450.out 4).trans rfl; have hfz55_0 := blk_frozen BK450.out 0; have hfz55_1 := blk_frozen BK450.out 1; have hfz55_2 := blk_frozen BK450.out 2; have hfz55_3 := blk_frozen BK450.out 3; have hfz55_4 := blk_frozen BK450.out 4; obtain ⟨Ao56, co56, eo56⟩ := Kd.V_slice HO_1.out; subst eo56) | ((with_reducible refine gate_callee (f := 105) rfl ?_); refine goesL_ (some 43) rfl rfl Tryz.func105 (by kernel_rfl) rfl #[.agg #[.int .i64 a0_0, .int .i64 a0_1, .int .i64 a0_2, .int .i64 a0_3, .bool a0_4], .int .i64 x32_1, .slice Ao56 x1_1.length co56] rfl (by (try simp only [List.map_toArray, List.map_cons, List.map_nil]); first | done | rfl | (simp only [List.length_drop, List.length_take]; rfl)) ?_; (with_reducible refine (spec_PartSamples.calls k1 a0_0 a0_1 a0_2 a0_3 a0_4 x32_1 _ _ x1_1 t461 t464 _ ?side1 ?side2 A15.out).mono ?_); (case side1 => refine (Kd.V_reads' (e := 5) (base := w.heap.size) (ok := fun k_ => (((P1_ k_ ∨ w.heap.size ≤ k_) ∧ (some k_ ≠ (v453 : Value).ownBlock ∧ k_ ≠ gb450)) ∧ k_ ≠ gb460)) (n := x1_1.length) (c := co56) ?_).2.2; exact (by (with_reducible repeat (first | apply Kd.V_alloc | apply Kd.V_drewN | apply Kd.V_drew)); exact (Kd.V_mono (Kd.V_far (p := ⟨gb460, 3, none⟩) (Kd.V_far (p := ⟨gb460, 2, none⟩) (Kd.V_far (p := ⟨gb460, 1, none⟩) (Kd.V_far (p := ⟨gb460, 0, none⟩) (Kd.V_mono HO_1.out (fun k_ hk => (⟨hk, hk.2⟩ : _ ∧ k_ ≠ gb460))) (fun _ hk => hk.2) (.int .i64 t456)) (fun _ hk => hk.2) (.int .i64 t457)) (fun _ hk => hk.2) (.int .i64 t458)) (fun _ hk => hk.2) (.int .i64 t459)) (fun _ h_ => h_.1)))); (case side2 => exact (Kd.V_reads' HO_1.out).2.1); rintro e w57 ⟨v462, rfl, ho0, hb⟩; refine ⟨_, rfl, ?_⟩; have n0_ := Aside0.mk (Kd.V_elder' (by (with_reducible repeat (first | apply Kd.V_alloc | apply Kd.V_drewN | apply Kd.V_drew)); exact (Kd.V_mono (Kd.V_far (p := ⟨gb460, 3, none⟩) (Kd.V_far (p := ⟨gb460, 2, none⟩) (Kd.V_far (p := ⟨gb460, 1, none⟩) (Kd.V_far (p := ⟨gb460, 0, none⟩) (Kd.V_mono HO_1.out (fun k_ hk => (⟨hk, hk.2⟩ : _ ∧ k_ ≠ gb460))) (fun _ hk => hk.2) (.int .i64 t456)) (fun _ hk => hk.2) (.int .i64 t457)) (fun _ hk => hk.2) (.int .i64 t458)) (fun _ hk => hk.2) (.int .i64 t459)) (fun _ h_ => h_.1))) (Kd.R_base ho0) hb); have n1_ := Aside0.mk (Kd.R_elder' (by (with_reducible repeat (first | apply Kd.R_alloc | apply Kd.R_drewN | apply Kd.R_drew)); exact (Kd.R_mono (Kd.R_far (p := ⟨gb460, 3, none⟩) (Kd.R_far (p := ⟨gb460, 2, none⟩) (Kd.R_far (p := ⟨gb460, 1, none⟩) (Kd.R_far (p := ⟨gb460, 0, none⟩) (Kd.R_types HO_7.out BK460.out (by decide)) (fun _ hk => hk.2) (.int .i64 t456)) (fun _ hk => hk.2) (.int .i64 t457)) (fun _ hk => hk.2) (.int .i64 t458)) (fun _ hk => hk.2) (.int .i64 t459)) (fun _ h_ => h_.1))) (Kd.R_base ho0) hb); have n2_ := Aside0.mk (Kd.R_lower (Kd.R_new' (Kd.R_newM (M := fun k_ => (w.heap.size ≤ k_)) ho0 (below_size (by repeat (first | (with_reducible first | exact HB.out | apply below_alloc | apply pw_below_drewN | apply below_drew1 | refine below_set ?_ GE450.out | refine below_set ?_ GE460.out) | exact HB.out))) (fun k_ h_ => h_)) (Kd.R_lt (by (with_reducible repeat (first | apply Kd.R_alloc | apply Kd.R_drewN | apply Kd.R_drew)); exact (Kd.R_mono (Kd.R_far (p := ⟨gb460, 3, none⟩) (Kd.R_far (p := ⟨gb460, 2, none⟩) (Kd.R_far (p := ⟨gb460, 1, none⟩) (Kd.R_far (p := ⟨gb460, 0, none⟩) (Kd.R_types HO_7.out BK460.out (by decide)) (fun _ hk => hk.2) (.int .i64 t456)) (fun _ hk => hk.2) (.int .i64 t457)) (fun _ hk => hk.2) (.int .i64 t458)) (fun _ hk => hk.2) (.int .i64 t459)) (fun _ h_ => h_.1))))) (below_size (by repeat (first | (with_reducible first | exact HB.out | apply below_alloc | apply pw_below_drewN | apply below_drew1 | refine below_set ?_ GE450.out | refine below_set ?_ GE460.out) | exact HB.out)))); have n3_ := Aside0.mk (blk_below (g := gb450) (o := .cells #[.int .i64 a0_0, .int .i64 a0_1, .int .i64 a0_2, .int .i64 a0_3, .bool a0_4] 26 (0, 0)) (by (with_reducible repeat (first | refine blk_drewN ?_ _ | refine blk_drew ?_ | refine blk_alloc ?_ _)); refine blk_far ?_ NB450_460.out _; (with_reducible repeat (first | refine blk_drewN ?_ _ | refine blk_drew ?_ | refine blk_alloc ?_ _)); refine blk_far ?_ NB450_460.out _; (with_reducible repeat (first | refine blk_drewN ?_ _ | refine blk_drew ?_ | refine blk_alloc ?_ _)); refine blk_far ?_ NB450_460.out _; (with_reducible repeat (first | refine blk_drewN ?_ _ | refine blk_drew ?_ | refine blk_alloc ?_ _)); refine blk_far ?_ NB450_460.out _; (with_reducible repeat (first | refine blk_drewN ?_ _ | refine blk_drew ?_ | refine blk_alloc ?_ _)); exact BK450.out) hb); have n4_ := Aside0.mk (blk_below (g := gb460) (o := .cells #[.int .i64 t456, .int .i64 t457, .int .i64 t458, .int .i64 t459] 151 (0, 0)) (by (with_reducible repeat (first | refine blk_drewN ?_ _ | refine blk_drew ?_ | refine blk_alloc ?_ _)); refine blk_put (cs := #[.int .i64 t456, .int .i64 t457, .int .i64 t458, .int .i64 0]) ?_ 3 _ rfl; (with_reducible repeat (first | refine blk_drewN ?_ _ | refine blk_drew ?_ | refine blk_alloc ?_ _)); refine blk_put (cs := #[.int .i64 t456, .int .i64 t457, .int .i64 0, .int .i64 0]) ?_ 2 _ rfl; (with_reducible repeat (first | refine blk_drewN ?_ _ | refine blk_drew ?_ | refine blk_alloc ?_ _)); refine blk_put (cs := #[.int .i64 t456, .int .i64 0, .int .i64 0, .int .i64 0]) ?_ 1 _ rfl; (with_reducible repeat (first | refine blk_drewN ?_ _ | refine blk_drew ?_ | refine blk_alloc ?_ _)); refine blk_put (cs := #[.int .i64 0, .int .i64 0, .int .i64 0, .int .i64 0]) ?_ 0 _ rfl; (with_reducible repeat (first | refine blk_drewN ?_ _ | refine blk_drew ?_ | refine blk_alloc ?_ _)); exact BK460.out) hb); have n5_ := Aside0.mk (below_step (by repeat (first | (with_reducible first | exact HB.out | apply below_alloc | apply pw_below_drewN | apply below_drew1 | refine below_set ?_ GE450.out | refine below_set ?_ GE460.out) | exact HB.out)) hb); clear HO_1; clear HO_7; clear BK450; clear BK460; clear HB; have HO_1 := n0_; have HO_7 := n1_; have HO463 := n2_; have BK450 := n3_; have BK460 := n4_; have HB := n5_; clear n0_ n1_ n2_ n3_ n4_ n5_; (try clear hb); (try clear hb2); (try clear hk); (try clear hi); (try clear ho0)))
       go_ret2
       exact ⟨_, by first | rfl | (simp <;> rfl) | (simp only [← hji4]; first | rfl | (simp <;> rfl)) | (simp [*] <;> rfl), by first | exact Kd.R_nil _ _ _ _ _ | exact Kd.S_nil _ _ _ _ _, by repeat (first | (with_reducible first | exact HB.out | apply below_alloc | apply pw_below_drewN | apply below_drew1 | refine below_set ?_ GE450.out | refine below_set ?_ GE460.out) | exact HB.out)⟩
     ·
      rw [if_neg c13] at H
      have c13b0 : decide (x32_1 < t455) = false := decide_eq_false c13
      clear c13
      simp only [Option.some.injEq, Prod.mk.injEq] at H
      obtain ⟨rfl, rfl⟩ := H
      go_wp2
      go_ret2
      exact ⟨_, by first | rfl | (simp <;> rfl) | (simp only [← hji4]; first | rfl | (simp <;> rfl)) | (simp [*] <;> rfl), by (with_reducible repeat (first | apply Kd.R_alloc | apply Kd.R_drewN | apply Kd.R_drew)); exact HO_7.out, by repeat (first | (with_reducible first | exact HB.out | apply below_alloc | apply pw_below_drewN | apply below_drew1 | refine below_set ?_ GE450.out) | exact HB.out)⟩
  ·
   rw [if_neg c6] at H
   exact absurd H (by simp)
 ·
  rw [if_neg c5] at H
  exact absurd H (by simp)
end Go.Proofs.YtnpkgmgedgcjmaaGreatDoor.Pr
end
