/- A part of the proof: Px7. -/
import Derived.Test.YtnpkgmgedgcjmaaGreatDoorZPx0
import Derived.Test.YtnpkgmgedgcjmaaGreatDoorZPx5
set_option linter.all false
set_option maxRecDepth 100000
section
namespace Go.Proofs.YtnpkgmgedgcjmaaGreatDoor.Pr
open Go.RowKit Go.Proofs.YtnpkgmgedgcjmaaGreatDoorW.PrintWords Go.Proofs.YtnpkgmgedgcjmaaGreatDoorW.PrintLast Go.Proofs.YtnpkgmgedgcjmaaGreatDoorW.PrintMore
attribute [local go_sem] max2_int max_two
mutual
def spec_told.l0 : Nat → Int → List Int → List Int → Int → List Int → List Int → Option (List Int × Int × Int)
 | 0, _, _, _, _, _, _ => none
 | k + 1, x2, x8, x1000, x1001, x273000, x273001 => if (x8.length : Int) < x2 then ((spec_prefix_read.f k x273000 x273001 x1000 x1001).bind fun bt278 => (if bt278.1 < 0 then (spec_told.j1 k x2 x8 bt278.1 true x1000 bt278.2 x273000 x273001) else ((spec_bits_short.f x1000 bt278.2).bind fun bt280 => (spec_told.j1 k x2 x8 bt278.1 bt280.1 x1000 bt280.2 x273000 x273001)))) else (if (x8.length : Int) > x2 then (some (([] : List Int), 1, x1001)) else ((spec_bits_short.f x1000 x1001).bind fun bt276 => (if bt276.1 = true then (some (([] : List Int), 1, bt276.2)) else (some (x8, 0, bt276.2)))))
def spec_told.j1 : Nat → Int → List Int → Int → Bool → List Int → Int → List Int → List Int → Option (List Int × Int × Int)
 | 0, _, _, _, _, _, _, _, _ => none
 | k + 1, x2, x8, x9, x25, x1000, x1001, x273000, x273001 => if x25 = true then (some (([] : List Int), 1, x1001)) else (if x9 = 16 then (if (x8.length : Int) = 0 then (some (([] : List Int), 1, x1001)) else (if 0 ≤ (wrap64 ((x8.length : Int) - 1)) then (if (wrap64 ((x8.length : Int) - 1)) < (x8.length : Int) then ((spec_bits_many.f k x1000 x1001 2).bind fun bt283 => (spec_told.j2 k x2 x8 (rd x8 (wrap64 ((x8.length : Int) - 1))) (wrap64 (3 + bt283.1)) x1000 bt283.2 x273000 x273001)) else (none)) else (none))) else (if x9 = 17 then ((spec_bits_many.f k x1000 x1001 3).bind fun bt285 => (spec_told.j2 k x2 x8 0 (wrap64 (3 + bt285.1)) x1000 bt285.2 x273000 x273001)) else (if x9 = 18 then ((spec_bits_many.f k x1000 x1001 7).bind fun bt287 => (spec_told.j2 k x2 x8 0 (wrap64 (11 + bt287.1)) x1000 bt287.2 x273000 x273001)) else (spec_told.j2 k x2 x8 x9 1 x1000 x1001 x273000 x273001))))
def spec_told.j2 : Nat → Int → List Int → Int → Int → List Int → Int → List Int → List Int → Option (List Int × Int × Int)
 | 0, _, _, _, _, _, _, _, _ => none
 | k + 1, x2, x8, x10, x11, x1000, x1001, x273000, x273001 => spec_told.l1 k x2 x8 x10 x11 0 x1000 x1001 x273000 x273001
def spec_told.l1 : Nat → Int → List Int → Int → Int → Int → List Int → Int → List Int → List Int → Option (List Int × Int × Int)
 | 0, _, _, _, _, _, _, _, _, _ => none
 | k + 1, x2, x8, x10, x52, x53, x1000, x1001, x273000, x273001 => if x53 < x52 then (if x8.length < 17592186044416 then (spec_told.l1 k x2 (x8 ++ [x10]) x10 x52 (wrap64 (x53 + 1)) x1000 x1001 x273000 x273001) else (none)) else (spec_told.l0 k x2 x8 x1000 x1001 x273000 x273001)
end
def spec_told.f (k : Nat) (s0_0 : List Int) (s0_1 : Int) (l1_0 : List Int) (l1_1 : List Int) (a2 : Int) : Option (List Int × Int × Int) := spec_told.l0 k a2 (([] : List Int)) s0_0 s0_1 l1_0 l1_1
def spec_told.T11 : Bool × List (List Nat × List Nat) := (true, [([], []), ([], []), ([1], [1]), ([2], [2]), ([0, 3], [0, 3]), ([4], [4]), ([], []), ([6], [6]), ([7], [7]), ([5, 7, 0, 1, 2, 3, 4, 5], [5]), ([8, 9, 0, 1, 2, 3, 4, 5, 6, 7, 8, 9], [8])])
def spec_told.B11 : List Nat := [0, 0, 2, 6, 15, 31, 0, 64, 192, 255, 1023]
theorem spec_told.tab11 : rtab .any (opsOf Tryz.f131 11) = spec_told.T11 := by kernel_rfl
theorem spec_told.bits11 : waitsOk spec_told.T11.2 spec_told.B11 = true := by kernel_rfl
set_option maxHeartbeats 8000000 in
theorem spec_told.calls (k : Nat) (g : Nat) (s0_0 : List Int) (s0_1 : Int) (A1_0 : Option Addr) (c1_0 : Nat) (l1_0 : List Int) (A1_1 : Option Addr) (c1_1 : Nat) (l1_1 : List Int) (a2 : Int) (r1 : List Int) (r2 : Int) (r3 : Int) (w0 w : World) (hI : IsS229 w0 w g s0_0 s0_1) (hB : Below w0.heap.size w0 w) (hr1_0 : Kd.C (Kd.int .i64) w A1_0 l1_0.length l1_0) (hc1_0 : l1_0.length ≤ c1_0) (hf1_0 : ∀ ad, A1_0 = some ad → 0 < l1_0.length → ad.block ≠ g) (hr1_1 : Kd.C (Kd.int .i64) w A1_1 l1_1.length l1_1) (hc1_1 : l1_1.length ≤ c1_1) (hf1_1 : ∀ ad, A1_1 = some ad → 0 < l1_1.length → ad.block ≠ g) (h : spec_told.f k s0_0 s0_1 l1_0 l1_1 a2 = some (r1, r2, r3)) :
  Calls Tryz.prog 131 #[.pointer (some ⟨g, 0, none⟩), .agg #[.slice A1_0 l1_0.length c1_0, .slice A1_1 l1_1.length c1_1], .int .i64 a2] w fun e w' => ∃ v0_ : Value, e = .returned (.tuple #[v0_, .int .i64 r2]) ∧ Kd.R (Kd.int .i64) 3 w' w.heap.size (fun _ => True) v0_ r1 ∧ IsS229 w0 w' g s0_0 r3 ∧ Below w0.heap.size w0 w' ∧ KeepBut w w' g none := by
 have hu233 := Tryz.underlying233
 have HR1_0 := Aside0.mk hr1_0
 have HC1_0 := Aside0.mk hc1_0
 clear hr1_0 hc1_0
 have HR1_1 := Aside0.mk hr1_1
 have HC1_1 := Aside0.mk hc1_1
 clear hr1_1 hc1_1
 have HI0 := Aside0.mk hI
 have HK := Aside0.mk (KeepBut.refl w g none)
 have HL := Aside0.mk hB.size
 clear hI
 have HW0 := Aside0.mk hB.size
 have HB := Aside0.mk hB
 clear hB
 have H : (spec_told.l0 k a2 (([] : List Int)) s0_0 s0_1 l1_0 l1_1) = some (r1, r2, r3) := h
 clear h
 obtain ⟨y273, hy273⟩ : ∃ y_ : List Int, y_ = (([] : List Int)) := ⟨_, rfl⟩
 replace H : (spec_told.l0 k a2 y273 s0_0 s0_1 l1_0 l1_1) = some (r1, r2, r3) := by first | (rw [hy273]; with_reducible exact H) | (have H2_ := (Option.bind_some _ _).symm.trans H; rw [hy273]; with_reducible exact H2_) | (have H2_ := (Option.bind_some _ _).symm.trans H; with_reducible exact H2_) | with_reducible exact H | (rw [hy273]; exact H) | exact H
 have Ny273 := Aside0.mk hy273
 clear hy273
 have H' := Aside0.mk H
 clear H
 go_enter Tryz.func131, Tryz.ntmps131
 go_wp2_with (first | ((with_reducible refine gate_dst (N := 4) rfl ?_); refine box_event ?hg (N := 4) ?hd (cs := #[.slice A1_0 l1_0.length c1_0, .slice A1_1 l1_1.length c1_1]) (t := 233) ?hr ?_; (case hd => rfl); (case hg => rfl); (case hr => first | (go_simp; done) | (go_simp; rfl)); intro gb272 hg w4 hbox hb; have n0_ := Aside0.mk (IsS229.below (by repeat (first | (with_reducible first | exact HI0.out | apply IsS229.alloc | apply IsS229.drewN | apply IsS229.drew | apply IsS229.set_1) | exact HI0.out)) hb); have n1_ := Aside0.mk (KeepBut.trans (by repeat (first | (with_reducible first | exact HK.out | apply KeepBut.set_ | apply keep_drewN | apply keep_drew | apply keep_alloc) | exact HK.out)) (KeepBut.of_below hb g none) (.inl rfl)); have n2_ := Aside0.mk (below_step (by repeat (first | (with_reducible first | exact HB.out | apply below_alloc | apply pw_below_drewN | apply below_drew1 | refine below_set ?_ (IsS229.ge HI0.out)) | exact HB.out)) hb); have n3_ := Aside0.mk (hbox); have n4_ := Aside0.mk ((by rw [hg]; exact (keep_size (w := w) (g := g) (row := none) (by repeat (first | (with_reducible first | exact HK.out | apply KeepBut.set_ | apply keep_drewN | apply keep_drew | apply keep_alloc) | exact HK.out))) : w.heap.size ≤ gb272)); have n5_ := Aside0.mk ((Nat.le_trans HW0.out (by rw [hg]; exact (keep_size (w := w) (g := g) (row := none) (by repeat (first | (with_reducible first | exact HK.out | apply KeepBut.set_ | apply keep_drewN | apply keep_drew | apply keep_alloc) | exact HK.out))) : w.heap.size ≤ gb272) : w0.heap.size ≤ gb272)); have n6_ := Aside0.mk ((by rw [hg]; exact Nat.ne_of_lt (IsS229.lt (show IsS229 w0 _ g s0_0 s0_1 from by repeat (first | (with_reducible first | exact HI0.out | apply IsS229.alloc | apply IsS229.drewN | apply IsS229.drew | apply IsS229.set_1) | exact HI0.out))) : g ≠ gb272)); have n7_ := Aside0.mk ((by rw [hg]; exact Nat.ne_of_gt (IsS229.lt (show IsS229 w0 _ g s0_0 s0_1 from by repeat (first | (with_reducible first | exact HI0.out | apply IsS229.alloc | apply IsS229.drewN | apply IsS229.drew | apply IsS229.set_1) | exact HI0.out))) : gb272 ≠ g)); clear HI0; clear HK; clear HB; have HI0 := n0_; have HK := n1_; have HB := n2_; have BK272 := n3_; have GW272 := n4_; have GE272 := n5_; have NB0_272 := n6_; have NB272_0 := n7_; clear n0_ n1_ n2_ n3_ n4_ n5_ n6_ n7_; clear hb hbox hg) | ((with_reducible refine gate_dst (N := 12) rfl ?_); refine Kd.R_lit (Kd.int .i64) _ 3 ?hg (N := 12) ?hd (xs := ([] : List Int)) (inner := []) (ok := fun _ => True) (okp := fun _ => True) ?hr ?hp (fun _ hk => hk) trivial (Below.refl _ _) (Nat.le_refl _) (by simp) ?_; (case hd => rfl); (case hg => rfl); (case hr => first | (go_simp; done) | (go_simp; rfl)); (case hp => exact (Reps.none _ _)); intro v274 w5 ho6 hb hg_ hnew_; clear hg_ hnew_; (first | rw [← Ny273.out] at ho6 | (simp only [Int.reduceToNat] at ho6; rw [← Ny273.out] at ho6)); have n0_ := Aside0.mk (Kd.R_lower ho6 (keep_size (w := w) (g := g) (row := none) (by repeat (first | (with_reducible first | exact HK.out | apply KeepBut.set_ | apply keep_drewN | apply keep_drew | apply keep_alloc | refine keep_far ?_ GW272.out _) | exact HK.out)))); have n1_ := Aside0.mk (IsS229.below (by repeat (first | (with_reducible first | exact HI0.out | apply IsS229.alloc | apply IsS229.drewN | apply IsS229.drew | apply IsS229.set_1 | refine IsS229.far ?_ NB0_272.out _) | exact HI0.out)) hb); have n2_ := Aside0.mk (blk_below (g := gb272) (o := .cells #[.slice A1_0 l1_0.length c1_0, .slice A1_1 l1_1.length c1_1] 233 (0, 0)) (by (with_reducible repeat (first | refine blk_drewN ?_ _ | refine blk_drew ?_ | refine blk_alloc ?_ _)); exact BK272.out) hb); have n3_ := Aside0.mk (KeepBut.trans (by repeat (first | (with_reducible first | exact HK.out | apply KeepBut.set_ | apply keep_drewN | apply keep_drew | apply keep_alloc | refine keep_far ?_ GW272.out _) | exact HK.out)) (KeepBut.of_below hb g none) (.inl rfl)); have n4_ := Aside0.mk (below_step (by repeat (first | (with_reducible first | exact HB.out | apply below_alloc | apply pw_below_drewN | apply below_drew1 | refine below_set ?_ (IsS229.ge HI0.out) | refine below_set ?_ GE272.out) | exact HB.out)) hb); clear HI0; clear BK272; clear HK; clear HB; have HO275 := n0_; have HI0 := n1_; have BK272 := n2_; have HK := n3_; have HB := n4_; clear n0_ n1_ n2_ n3_ n4_; clear hb ho6))
 go_loopg [8] k (fun kq v8 w' => ∃ (x8_1 : List Int) (x1001_1 : Int), Aside0 (spec_told.l0 kq a2 x8_1 s0_0 x1001_1 l1_0 l1_1 = some (r1, r2, r3)) ∧ Aside0 (kq ≤ k) ∧ Aside0 (Kd.R (Kd.int .i64) 3 w' w.heap.size (fun _ => True) v8 x8_1) ∧ Aside0 (w'.heap[gb272]? = some (.cells #[(.slice A1_0 l1_0.length c1_0), (.slice A1_1 l1_1.length c1_1)] 233 (0, 0))) ∧ Aside0 (IsS229 w0 w' g s0_0 x1001_1) ∧ Aside0 (KeepBut w w' g none) ∧ Aside0 (Below w0.heap.size w0 w'))
 case atStart => exact ⟨(y273), (s0_1), H', ⟨Nat.le_refl _⟩, ⟨by (with_reducible repeat (first | apply Kd.R_alloc | apply Kd.R_drewN | apply Kd.R_drew)); exact HO275.out⟩, ⟨by (with_reducible repeat (first | refine blk_drewN ?_ _ | refine blk_drew ?_ | refine blk_alloc ?_ _)); exact BK272.out⟩, ⟨by repeat (first | (with_reducible first | exact HI0.out | apply IsS229.alloc | apply IsS229.drewN | apply IsS229.drew | apply IsS229.set_1 | refine IsS229.far ?_ NB0_272.out _) | exact HI0.out)⟩, ⟨by repeat (first | (with_reducible first | exact HK.out | apply KeepBut.set_ | apply keep_drewN | apply keep_drew | apply keep_alloc | refine keep_far ?_ GW272.out _) | exact HK.out)⟩, ⟨by repeat (first | (with_reducible first | exact HB.out | apply below_alloc | apply pw_below_drewN | apply below_drew1 | refine below_set ?_ (IsS229.ge HI0.out) | refine below_set ?_ GE272.out) | exact HB.out)⟩⟩
 case round =>
  clear H'
  (try clear c1); (try clear p2)
  obtain ⟨x8_1, x1001_1, HA, HK1, HO_8, BK272, HI0, HK, HB⟩ := hrel
  cases gk with
  | zero => exact absurd HA.out (by simp [spec_told.l0])
  | succ k1 =>
   have H := HA.out
   clear HA
   simp only [spec_told.l0] at H
   by_cases c7 : (x8_1.length : Int) < a2
   ·
    rw [if_pos c7] at H
    have c7b0 : decide ((x8_1.length : Int) < a2) = true := decide_eq_true c7
    clear c7
    replace H := Option.bind_eq_some_iff.mp H
    obtain ⟨⟨t278, t279⟩, A80, H⟩ := H
    replace H : (if t278 < 0 then (spec_told.j1 k1 a2 x8_1 t278 true s0_0 t279 l1_0 l1_1) else ((spec_bits_short.f s0_0 t279).bind fun bt280 => (spec_told.j1 k1 a2 x8_1 t278 bt280.1 s0_0 bt280.2 l1_0 l1_1))) = some (r1, r2, r3) := H
    have A8 := Aside0.mk A80
    clear A80
    have HC9 := Aside0.mk H
    clear H
    obtain ⟨Ao10, co10, eo10⟩ := Kd.R_slice HO_8.out
    subst eo10
    have hnb11 := NB272_0.out
    have hnc11 := NB0_272.out
    have hcz12_0 : wr.cell? ⟨gb272, 0, none⟩ = some (.slice A1_0 l1_0.length c1_0) := (blk_cell BK272.out 0).trans rfl
    have hcz12_1 : wr.cell? ⟨gb272, 1, none⟩ = some (.slice A1_1 l1_1.length c1_1) := (blk_cell BK272.out 1).trans rfl
    have hfz12_0 := blk_frozen BK272.out 0
    have hfz12_1 := blk_frozen BK272.out 1
    go_upto_region 4 with (first | ((with_reducible refine gate_callee (f := 130) rfl ?_); refine goesL_ (some 19) rfl rfl Tryz.func130 (by kernel_rfl) rfl #[.agg #[.slice A1_0 l1_0.length c1_0, .slice A1_1 l1_1.length c1_1], .pointer (some ⟨g, 0, none⟩)] rfl (by (try simp only [List.map_toArray, List.map_cons, List.map_nil]); first | done | rfl | (simp only [List.length_drop, List.length_take]; rfl)) ?_; (with_reducible refine (spec_prefix_read.calls k1 _ _ l1_0 _ _ l1_1 g s0_0 x1001_1 t278 t279 w0 _ ?side1 ?side2 ?side3 ?side4 ?side5 ?side6 ?side7 ?side8 A8.out).mono ?_); (case side1 => repeat (first | (with_reducible first | exact HI0.out | apply IsS229.alloc | apply IsS229.drewN | apply IsS229.drew | apply IsS229.set_1 | refine IsS229.far ?_ NB0_272.out _) | exact HI0.out)); (case side2 => repeat (first | (with_reducible first | exact HB.out | apply below_alloc | apply pw_below_drewN | apply below_drew1 | refine below_set ?_ (IsS229.ge HI0.out) | refine below_set ?_ GE272.out) | exact HB.out)); (case side3 => exact Kd.C_keep 0 HR1_0.out (by repeat (first | (with_reducible first | exact HK.out | apply KeepBut.set_ | apply keep_drewN | apply keep_drew | apply keep_alloc | refine keep_far ?_ GW272.out _) | exact HK.out)) hf1_0); (case side4 => exact HC1_0.out); (case side5 => exact hf1_0); (case side6 => exact Kd.C_keep 0 HR1_1.out (by repeat (first | (with_reducible first | exact HK.out | apply KeepBut.set_ | apply keep_drewN | apply keep_drew | apply keep_alloc | refine keep_far ?_ GW272.out _) | exact HK.out)) hf1_1); (case side7 => exact HC1_1.out); (case side8 => exact hf1_1); rintro e w13 ⟨rfl, hi, hb, hk⟩; refine ⟨_, rfl, ?_⟩; have n0_ := Aside0.mk (Kd.R_mono (Kd.R_keep (IsS229.apart (show IsS229 w0 _ g s0_0 x1001_1 from by repeat (first | (with_reducible first | exact HI0.out | apply IsS229.alloc | apply IsS229.drewN | apply IsS229.drew | apply IsS229.set_1 | refine IsS229.far ?_ NB0_272.out _) | exact HI0.out)) (by (with_reducible repeat (first | apply Kd.R_alloc | apply Kd.R_drewN | apply Kd.R_drew)); exact HO_8.out) (by decide)) hk (fun _ h => h.2)) (fun _ h => h.1)); have n1_ := Aside0.mk (KeepBut.blk hk (g' := gb272) (o := .cells #[.slice A1_0 l1_0.length c1_0, .slice A1_1 l1_1.length c1_1] 233 (0, 0)) (by (with_reducible repeat (first | refine blk_drewN ?_ _ | refine blk_drew ?_ | refine blk_alloc ?_ _)); exact BK272.out) NB272_0.out (by simp)); have n2_ := Aside0.mk (KeepBut.trans (by repeat (first | (with_reducible first | exact HK.out | apply KeepBut.set_ | apply keep_drewN | apply keep_drew | apply keep_alloc | refine keep_far ?_ GW272.out _) | exact HK.out)) hk (.inl rfl)); have n3_ := Aside0.mk (hb); have n4_ := Aside0.mk (hi); clear HO_8; clear BK272; clear HK; clear HB; clear HI0; have HO_8 := n0_; have BK272 := n1_; have HK := n2_; have HB := n3_; have HI0 := n4_; clear n0_ n1_ n2_ n3_ n4_; (try clear hb); (try clear hb2); (try clear hk); (try clear hi)))
    (try simp only [Act.put, List.setIfInBounds_toArray, List.set_cons_zero, List.set_cons_succ])
    go_cut [25] (fun v25 wc => ∃ (kq : Nat) (x25_8 : Bool) (x1001_8 : Int), v25 = .bool x25_8 ∧ Aside0 (spec_told.j1 kq a2 x8_1 t278 x25_8 s0_0 x1001_8 l1_0 l1_1 = some (r1, r2, r3)) ∧ Aside0 (kq ≤ k1) ∧ Aside0 (Kd.R (Kd.int .i64) 3 wc w.heap.size (fun _ => True) (.slice Ao10 x8_1.length co10) x8_1) ∧ Aside0 (wc.heap[gb272]? = some (.cells #[(.slice A1_0 l1_0.length c1_0), (.slice A1_1 l1_1.length c1_1)] 233 (0, 0))) ∧ Aside0 (IsS229 w0 wc g s0_0 x1001_8) ∧ Aside0 (KeepBut w wc g none) ∧ Aside0 (Below w0.heap.size w0 wc))
    case first =>
     have H := HC9.out
     clear HC9
     by_cases c14 : t278 < 0
     ·
      rw [if_pos c14] at H
      have c14b0 : decide (t278 < 0) = true := decide_eq_true c14
      clear c14
      (first | rw [c14b0] | (simp only [i64_w, i32_w]; rw [c14b0]) | skip)
      have H' := Aside0.mk H
      clear H
      go_wp2
      go_meet
      case rel => exact ⟨_, (true), (t279), (by first | rfl | (simp; done) | (simp [*]; done)), H', ⟨by have := HK1.out; first | omega | exact Nat.le_refl _⟩, ⟨by (with_reducible repeat (first | apply Kd.R_alloc | apply Kd.R_drewN | apply Kd.R_drew)); exact HO_8.out⟩, ⟨by (with_reducible repeat (first | refine blk_drewN ?_ _ | refine blk_drew ?_ | refine blk_alloc ?_ _)); exact BK272.out⟩, ⟨by repeat (first | (with_reducible first | exact HI0.out | apply IsS229.alloc | apply IsS229.drewN | apply IsS229.drew | apply IsS229.set_1 | refine IsS229.far ?_ NB0_272.out _) | exact HI0.out)⟩, ⟨by repeat (first | (with_reducible first | exact HK.out | apply KeepBut.set_ | apply keep_drewN | apply keep_drew | apply keep_alloc | refine keep_far ?_ GW272.out _) | exact HK.out)⟩, ⟨by repeat (first | (with_reducible first | exact HB.out | apply below_alloc | apply pw_below_drewN | apply below_drew1 | refine below_set ?_ (IsS229.ge HI0.out) | refine below_set ?_ GE272.out) | exact HB.out)⟩⟩
     ·
      rw [if_neg c14] at H
      have c14b0 : decide (t278 < 0) = false := decide_eq_false c14
      clear c14
      (first | rw [c14b0] | (simp only [i64_w, i32_w]; rw [c14b0]) | skip)
      replace H := Option.bind_eq_some_iff.mp H
      obtain ⟨⟨t280, t281⟩, A150, H⟩ := H
      replace H : (spec_told.j1 k1 a2 x8_1 t278 t280 s0_0 t281 l1_0 l1_1) = some (r1, r2, r3) := H
      have A15 := Aside0.mk A150
      clear A150
      have H' := Aside0.mk H
      clear H
      go_wp2_with (first | (go_at_call 128; (with_reducible refine (spec_bits_short.calls g s0_0 t279 t280 t281 w0 _ ?side1 ?side2 A15.out).mono ?_); (case side1 => repeat (first | (with_reducible first | exact HI0.out | apply IsS229.alloc | apply IsS229.drewN | apply IsS229.drew | apply IsS229.set_1 | refine IsS229.far ?_ NB0_272.out _) | exact HI0.out)); (case side2 => repeat (first | (with_reducible first | exact HB.out | apply below_alloc | apply pw_below_drewN | apply below_drew1 | refine below_set ?_ (IsS229.ge HI0.out) | refine below_set ?_ GE272.out) | exact HB.out)); rintro e w16 ⟨rfl, hi, hb, hk⟩; have n0_ := Aside0.mk (Kd.R_mono (Kd.R_keep (IsS229.apart (show IsS229 w0 _ g s0_0 t279 from by repeat (first | (with_reducible first | exact HI0.out | apply IsS229.alloc | apply IsS229.drewN | apply IsS229.drew | apply IsS229.set_1 | refine IsS229.far ?_ NB0_272.out _) | exact HI0.out)) (by (with_reducible repeat (first | apply Kd.R_alloc | apply Kd.R_drewN | apply Kd.R_drew)); exact HO_8.out) (by decide)) hk (fun _ h => h.2)) (fun _ h => h.1)); have n1_ := Aside0.mk (KeepBut.blk hk (g' := gb272) (o := .cells #[.slice A1_0 l1_0.length c1_0, .slice A1_1 l1_1.length c1_1] 233 (0, 0)) (by (with_reducible repeat (first | refine blk_drewN ?_ _ | refine blk_drew ?_ | refine blk_alloc ?_ _)); exact BK272.out) NB272_0.out (by simp)); have n2_ := Aside0.mk (KeepBut.trans (by repeat (first | (with_reducible first | exact HK.out | apply KeepBut.set_ | apply keep_drewN | apply keep_drew | apply keep_alloc | refine keep_far ?_ GW272.out _) | exact HK.out)) hk (.inl rfl)); have n3_ := Aside0.mk (hb); have n4_ := Aside0.mk (hi); clear HO_8; clear BK272; clear HK; clear HB; clear HI0; have HO_8 := n0_; have BK272 := n1_; have HK := n2_; have HB := n3_; have HI0 := n4_; clear n0_ n1_ n2_ n3_ n4_; (try clear hb); (try clear hb2); (try clear hk); (try clear hi)))
      go_meet
      case rel => exact ⟨_, (t280), (t281), (by first | rfl | (simp; done) | (simp [*]; done)), H', ⟨by have := HK1.out; first | omega | exact Nat.le_refl _⟩, ⟨by (with_reducible repeat (first | apply Kd.R_alloc | apply Kd.R_drewN | apply Kd.R_drew)); exact HO_8.out⟩, ⟨by (with_reducible repeat (first | refine blk_drewN ?_ _ | refine blk_drew ?_ | refine blk_alloc ?_ _)); exact BK272.out⟩, ⟨by repeat (first | (with_reducible first | exact HI0.out | apply IsS229.alloc | apply IsS229.drewN | apply IsS229.drew | apply IsS229.set_1 | refine IsS229.far ?_ NB0_272.out _) | exact HI0.out)⟩, ⟨by repeat (first | (with_reducible first | exact HK.out | apply KeepBut.set_ | apply keep_drewN | apply keep_drew | apply keep_alloc | refine keep_far ?_ GW272.out _) | exact HK.out)⟩, ⟨by repeat (first | (with_reducible first | exact HB.out | apply below_alloc | apply pw_below_drewN | apply below_drew1 | refine below_set ?_ (IsS229.ge HI0.out) | refine below_set ?_ GE272.out) | exact HB.out)⟩⟩
    case rest =>
     clear HC9
     (try clear c1); (try clear p2); (try clear c7); (try clear c7b0); (try clear c11); (try clear c13); (try clear c14); (try clear c14b0); (try clear hcz12_0); (try clear hcz12_1); (try clear hfz12_0); (try clear hfz12_1); (try clear p2)
     obtain ⟨kq, x25_8, x1001_8, rfl, HA, HJ8, HO_8, BK272, HI0, HK, HB⟩ := hcut
     cases kq with
     | zero => exact absurd HA.out (by simp [spec_told.j1])
     | succ kj8 =>
      have H := HA.out
      clear HA
      simp only [spec_told.j1] at H
      by_cases c17 : x25_8 = true
      ·
       subst c17
       have H1 : (some (([] : List Int), 1, x1001_8)) = some (r1, r2, r3) := by rw [if_pos rfl] at H; exact H
       clear H
       have H := H1
       clear H1
       simp only [Option.some.injEq, Prod.mk.injEq] at H
       obtain ⟨rfl, rfl, rfl⟩ := H
       go_wp2
       go_ret2
       exact ⟨_, by first | rfl | (simp <;> rfl) | (simp [*] <;> rfl), by first | exact Kd.R_nil _ _ _ _ _ | exact Kd.S_nil _ _ _ _ _, by repeat (first | (with_reducible first | exact HI0.out | apply IsS229.alloc | apply IsS229.drewN | apply IsS229.drew | apply IsS229.set_1 | refine IsS229.far ?_ NB0_272.out _) | exact HI0.out), by repeat (first | (with_reducible first | exact HB.out | apply below_alloc | apply pw_below_drewN | apply below_drew1 | refine below_set ?_ (IsS229.ge HI0.out) | refine below_set ?_ GE272.out) | exact HB.out), by repeat (first | (with_reducible first | exact HK.out | apply KeepBut.set_ | apply keep_drewN | apply keep_drew | apply keep_alloc | refine keep_far ?_ GW272.out _) | exact HK.out)⟩
      ·
       replace c17 := Bool.eq_false_iff.mpr c17
       subst c17
       have H1 : (if t278 = 16 then (if (x8_1.length : Int) = 0 then (some (([] : List Int), 1, x1001_8)) else (if 0 ≤ (wrap64 ((x8_1.length : Int) - 1)) then (if (wrap64 ((x8_1.length : Int) - 1)) < (x8_1.length : Int) then ((spec_bits_many.f kj8 s0_0 x1001_8 2).bind fun bt283 => (spec_told.j2 kj8 a2 x8_1 (rd x8_1 (wrap64 ((x8_1.length : Int) - 1))) (wrap64 (3 + bt283.1)) s0_0 bt283.2 l1_0 l1_1)) else (none)) else (none))) else (if t278 = 17 then ((spec_bits_many.f kj8 s0_0 x1001_8 3).bind fun bt285 => (spec_told.j2 kj8 a2 x8_1 0 (wrap64 (3 + bt285.1)) s0_0 bt285.2 l1_0 l1_1)) else (if t278 = 18 then ((spec_bits_many.f kj8 s0_0 x1001_8 7).bind fun bt287 => (spec_told.j2 kj8 a2 x8_1 0 (wrap64 (11 + bt287.1)) s0_0 bt287.2 l1_0 l1_1)) else (spec_told.j2 kj8 a2 x8_1 t278 1 s0_0 x1001_8 l1_0 l1_1)))) = some (r1, r2, r3) := by rw [if_neg (show ¬ (false = true) by decide)] at H; exact H
       clear H
       have H := H1
       clear H1
       have HC18 := Aside0.mk H
       clear H
       go_upto_block 2 with (fail)
       go_cut [10, 11] (fun v10 v11 wc => ∃ (kq : Nat) (x10_17 : Int) (x11_17 : Int) (x1001_17 : Int), v10 = .int .i64 x10_17 ∧ v11 = .int .i64 x11_17 ∧ Aside0 (spec_told.j2 kq a2 x8_1 x10_17 x11_17 s0_0 x1001_17 l1_0 l1_1 = some (r1, r2, r3)) ∧ Aside0 (kq ≤ kj8) ∧ Aside0 (Kd.R (Kd.int .i64) 3 wc w.heap.size (fun _ => True) (.slice Ao10 x8_1.length co10) x8_1) ∧ Aside0 (wc.heap[gb272]? = some (.cells #[(.slice A1_0 l1_0.length c1_0), (.slice A1_1 l1_1.length c1_1)] 233 (0, 0))) ∧ Aside0 (IsS229 w0 wc g s0_0 x1001_17) ∧ Aside0 (KeepBut w wc g none) ∧ Aside0 (Below w0.heap.size w0 wc))
       case first =>
        have H := HC18.out
        clear HC18
        by_cases c19 : t278 = 16
        ·
         rw [if_pos c19] at H
         have c19b0 : (t278 == 16) = true := beq_iff_eq.mpr c19
         have c19b1 : (t278 != 16) = false := bne_eq_false_iff_eq.mpr c19
         clear c19
         (first | rw [c19b0] | (simp only [i64_w, i32_w]; rw [c19b0]) | skip)
         by_cases c20 : (x8_1.length : Int) = 0
         ·
          rw [if_pos c20] at H
          have c20b0 : ((x8_1.length : Int) == 0) = true := beq_iff_eq.mpr c20
          have c20b1 : ((x8_1.length : Int) != 0) = false := bne_eq_false_iff_eq.mpr c20
          clear c20
          simp only [Option.some.injEq, Prod.mk.injEq] at H
          obtain ⟨rfl, rfl, rfl⟩ := H
          go_wp2
          go_ret2
          exact ⟨_, by first | rfl | (simp <;> rfl) | (simp [*] <;> rfl), by first | exact Kd.R_nil _ _ _ _ _ | exact Kd.S_nil _ _ _ _ _, by repeat (first | (with_reducible first | exact HI0.out | apply IsS229.alloc | apply IsS229.drewN | apply IsS229.drew | apply IsS229.set_1 | refine IsS229.far ?_ NB0_272.out _) | exact HI0.out), by repeat (first | (with_reducible first | exact HB.out | apply below_alloc | apply pw_below_drewN | apply below_drew1 | refine below_set ?_ (IsS229.ge HI0.out) | refine below_set ?_ GE272.out) | exact HB.out), by repeat (first | (with_reducible first | exact HK.out | apply KeepBut.set_ | apply keep_drewN | apply keep_drew | apply keep_alloc | refine keep_far ?_ GW272.out _) | exact HK.out)⟩
         ·
          rw [if_neg c20] at H
          have c20b0 : ((x8_1.length : Int) == 0) = false := beq_eq_false_iff_ne.mpr c20
          have c20b1 : ((x8_1.length : Int) != 0) = true := bne_iff_ne.mpr c20
          have c20b2 : ¬ (x8_1 = []) := fun h_ => c20 (by rw [h_]; rfl)
          obtain ⟨ji21, hji21⟩ : ∃ j_ : Int, (wrap64 ((x8_1.length : Int) - 1)) = j_ := ⟨_, rfl⟩
          replace H : (if 0 ≤ (ji21) then (if (ji21) < (x8_1.length : Int) then ((spec_bits_many.f kj8 s0_0 x1001_8 2).bind fun bt283 => (spec_told.j2 kj8 a2 x8_1 (rd x8_1 (ji21)) (wrap64 (3 + bt283.1)) s0_0 bt283.2 l1_0 l1_1)) else (none)) else (none)) = some (r1, r2, r3) := by first | (rw [hji21] at H; exact H) | (simp only [hji21] at H ⊢; exact H)
          have hji21w : (IntKind.i64.wrap ((x8_1.length : Int) - 1)) = ji21 := (i64_w _).trans hji21
          by_cases c22 : 0 ≤ (ji21)
          ·
           rw [if_pos c22] at H
           have c22b0 : decide (0 ≤ (ji21)) = true := decide_eq_true c22
           clear c22
           by_cases c23 : (ji21) < (x8_1.length : Int)
           ·
            rw [if_pos c23] at H
            have c23b0 : decide ((ji21) < (x8_1.length : Int)) = true := decide_eq_true c23
            clear c23
            replace H := Option.bind_eq_some_iff.mp H
            obtain ⟨⟨t283, t284⟩, A240, H⟩ := H
            replace H : (spec_told.j2 kj8 a2 x8_1 (rd x8_1 (ji21)) (wrap64 (3 + t283)) s0_0 t284 l1_0 l1_1) = some (r1, r2, r3) := H
            have A24 := Aside0.mk A240
            clear A240
            have H' := Aside0.mk H
            clear H
            try go_wp2
            have n0_ := Aside0.mk (Kd.R_drew HO_8.out)
            have n1_ := Aside0.mk (blk_drew BK272.out)
            have n2_ := Aside0.mk (IsS229.drew HI0.out)
            have n3_ := Aside0.mk (keep_drew HK.out)
            have n4_ := Aside0.mk (below_drew1 HB.out)
            clear HO_8
            clear BK272
            clear HI0
            clear HK
            clear HB
            have HO_8 := n0_
            have BK272 := n1_
            have HI0 := n2_
            have HK := n3_
            have HB := n4_
            clear n0_ n1_ n2_ n3_ n4_
            have p282 : 0 ≤ ((ji21) : Int) := of_decide_eq_true (by first | (with_reducible assumption) | assumption)
            have q282 : (ji21) < (x8_1.length : Int) := of_decide_eq_true (by first | (with_reducible assumption) | assumption)
            obtain ⟨ad282, e282, hx282_0⟩ := Kd.at_int (Kd.R_reads' HO_8.out).2.2 (ji21) p282 q282
            cases e282
            replace p282 := eq_true p282
            replace q282 := eq_true q282
            refine start_ (n := 11) (S := fun w' => w'.cell? (ad282.add ((ji21)).toNat) = some (.int .i64 (rd x8_1 (ji21)))) (ds := []) #[false, false, false, false, false, false, false, false, false, false, false] (by kernel_rfl) rfl rfl (hx282_0) (fun hHeld => ?_); refine with_tabW spec_told.tab11 spec_told.bits11 (fun HT_ HW_ => ?_)
            generalize wc.drew = w25 at HO_8 BK272 HI0 HK HB hx282_0 hHeld ⊢
            refine pure_ (i := 0) (N := some 33) (v := ?_) (a' := ?_) #[true, false, false, false, false, false, false, false, false, false, false] rfl rfl (any_of HT_.out (by kernel_rfl)) (fun _ _ _ h => h) (Or.inl ⟨by rfl, ?_⟩) ?_ ?_
            rotate_left
            ·
             intro w'
             go_simp
             with_reducible rfl
            rotate_left
            ·
             simp only [Act.put, List.setIfInBounds_toArray, List.set_cons_zero, List.set_cons_succ, i64_w, i32_w]
             rfl
            refine pure_ (i := 1) (N := some 34) (v := ?_) (a' := ?_) #[true, true, false, false, false, false, false, false, false, false, false] rfl rfl (any_of HT_.out (by kernel_rfl)) (fun _ _ _ h => h) (Or.inl ⟨by rfl, ?_⟩) ?_ ?_
            rotate_left
            ·
             intro w'
             go_simp
             with_reducible rfl
            rotate_left
            ·
             simp only [Act.put, List.setIfInBounds_toArray, List.set_cons_zero, List.set_cons_succ, i64_w, i32_w]
             rfl
            refine pure_ (i := 2) (N := some 35) (v := ?_) (a' := ?_) #[true, true, true, false, false, false, false, false, false, false, false] rfl rfl (any_of HT_.out (by kernel_rfl)) (fun _ _ _ h => h) (Or.inl ⟨by rfl, ?_⟩) ?_ ?_
            rotate_left
            ·
             intro w'
             go_simp
             with_reducible rfl
            rotate_left
            ·
             simp only [Act.put, List.setIfInBounds_toArray, List.set_cons_zero, List.set_cons_succ, i64_w, i32_w]
             rfl
            refine pure_ (i := 3) (N := some 36) (v := ?_) (a' := ?_) #[true, true, true, true, false, false, false, false, false, false, false] rfl rfl (any_of HT_.out (by kernel_rfl)) (fun _ _ _ h => h) (Or.inl ⟨by rfl, ?_⟩) ?_ ?_
            rotate_left
            ·
             intro w'
             go_simp
             with_reducible rfl
            rotate_left
            ·
             simp only [Act.put, List.setIfInBounds_toArray, List.set_cons_zero, List.set_cons_succ, i64_w, i32_w]
             rfl
            refine pure_ (i := 4) (N := some 37) (v := ?_) (a' := ?_) #[true, true, true, true, true, false, false, false, false, false, false] rfl rfl (any_of HT_.out (by kernel_rfl)) (fun _ _ _ h => h) (Or.inl ⟨by rfl, ?_⟩) ?_ ?_
            rotate_left
            ·
             intro w'
             go_simp
             with_reducible rfl
            rotate_left
            ·
             simp only [Act.put, List.setIfInBounds_toArray, List.set_cons_zero, List.set_cons_succ, i64_w, i32_w]
             rfl
            refine pure_ (i := 6) (N := some 39) (v := ?_) (a' := ?_) #[true, true, true, true, true, false, true, false, false, false, false] rfl rfl (any_of HT_.out (by kernel_rfl)) (fun _ _ _ h => h) (Or.inl ⟨by rfl, ?_⟩) ?_ ?_
            rotate_left
            ·
             intro w'
             go_simp
             with_reducible rfl
            rotate_left
            ·
             simp only [Act.put, List.setIfInBounds_toArray, List.set_cons_zero, List.set_cons_succ, i64_w, i32_w]
             rfl
            refine take_ (i := 5) (N := some 38) (v := ?_) (a' := ?_) #[true, true, true, true, true, true, true, false, false, false, false] rfl rfl (take_ofW HT_.out HW_.out (by kernel_rfl)) (fun _ _ _ h => h) (Or.inl ⟨by rfl, ?_⟩) hHeld ?_ ?_
            rotate_left
            ·
             intro w' s0
             go_simp
             with_reducible rfl
            rotate_left
            ·
             simp only [Act.put, List.setIfInBounds_toArray, List.set_cons_zero, List.set_cons_succ, i64_w, i32_w]
             rfl
            refine one_ (i := 7) (N := some 40) #[true, true, true, true, true, true, true, true, false, false, false] rfl rfl (one_of HT_.out (by kernel_rfl)) (by decide) (fun K hK => ?_)
            refine goes_ Tryz.func117 (by kernel_rfl) rfl #[.pointer (some ⟨g, 0, none⟩), .int .i64 2] (by rfl) rfl rfl (by (try simp only [List.map_toArray, List.map_cons, List.map_nil]); first | done | rfl | (simp only [List.length_drop, List.length_take]; rfl)) ?_
            with_reducible refine (spec_bits_many.calls kj8 g s0_0 x1001_8 2 t283 t284 w0 _ ?side1 ?side2 A24.out).mono ?_
            (case side1 => repeat (first | (with_reducible first | exact HI0.out | apply IsS229.alloc | apply IsS229.drewN | apply IsS229.drew | apply IsS229.set_1 | refine IsS229.far ?_ NB0_272.out _) | exact HI0.out))
            (case side2 => repeat (first | (with_reducible first | exact HB.out | apply below_alloc | apply pw_below_drewN | apply below_drew1 | refine below_set ?_ (IsS229.ge HI0.out) | refine below_set ?_ GE272.out) | exact HB.out))
            rintro e w26 ⟨rfl, hi, hb, hk⟩
            have HS0_ := keep_cell hk (hHeld) (by first | (rw [add_block]; exact Kd.own_blk (IsS229.own_ne HI0.out HO_8.out (by decide))) | (show (Addr.add _ _).block ≠ _; rw [add_block]; exact Kd.own_blk (IsS229.own_ne HI0.out HO_8.out (by decide))) | exact Kd.own_blk (IsS229.own_ne HI0.out HO_8.out (by decide)))
            refine ⟨_, rfl, ?_⟩
            have n0_ := Aside0.mk (Kd.R_mono (Kd.R_keep (IsS229.apart (show IsS229 w0 _ g s0_0 x1001_8 from by repeat (first | (with_reducible first | exact HI0.out | apply IsS229.alloc | apply IsS229.drewN | apply IsS229.drew | apply IsS229.set_1 | refine IsS229.far ?_ NB0_272.out _) | exact HI0.out)) (by (with_reducible repeat (first | apply Kd.R_alloc | apply Kd.R_drewN | apply Kd.R_drew)); exact HO_8.out) (by decide)) hk (fun _ h => h.2)) (fun _ h => h.1))
            have n1_ := Aside0.mk (KeepBut.blk hk (g' := gb272) (o := .cells #[.slice A1_0 l1_0.length c1_0, .slice A1_1 l1_1.length c1_1] 233 (0, 0)) (by (with_reducible repeat (first | refine blk_drewN ?_ _ | refine blk_drew ?_ | refine blk_alloc ?_ _)); exact BK272.out) NB272_0.out (by simp))
            have n2_ := Aside0.mk (KeepBut.trans (by repeat (first | (with_reducible first | exact HK.out | apply KeepBut.set_ | apply keep_drewN | apply keep_drew | apply keep_alloc | refine keep_far ?_ GW272.out _) | exact HK.out)) hk (.inl rfl))
            have n3_ := Aside0.mk (hb)
            have n4_ := Aside0.mk (hi)
            clear HO_8
            clear BK272
            clear HK
            clear HB
            clear HI0
            have HO_8 := n0_
            have BK272 := n1_
            have HK := n2_
            have HB := n3_
            have HI0 := n4_
            clear n0_ n1_ n2_ n3_ n4_
            (try clear hb)
            (try clear hb2)
            (try clear hk)
            (try clear hi)
            refine hK.out _ _ (HS0_) (fun hHeld => ?_)
            clear hK K
            refine norm_ (a' := ?_) ?_ ?_
            rotate_left
            ·
             show Act.put _ (some 40) _ = _
             simp only [Act.put, List.setIfInBounds_toArray, List.set_cons_zero, List.set_cons_succ, i64_w, i32_w]
             rfl
            refine pure_ (i := 8) (N := some 41) (v := ?_) (a' := ?_) #[true, true, true, true, true, true, true, true, true, false, false] rfl rfl (any_of HT_.out (by kernel_rfl)) (fun _ _ _ h => h) (Or.inl ⟨by rfl, ?_⟩) ?_ ?_
            rotate_left
            ·
             intro w'
             go_simp
             with_reducible rfl
            rotate_left
            ·
             simp only [Act.put, List.setIfInBounds_toArray, List.set_cons_zero, List.set_cons_succ, i64_w, i32_w]
             rfl
            refine pure_ (i := 9) (N := some 10) (v := ?_) (a' := ?_) #[true, true, true, true, true, true, true, true, true, true, false] rfl rfl (any_of HT_.out (by kernel_rfl)) (fun _ _ _ h => h) (Or.inl ⟨by rfl, ?_⟩) ?_ ?_
            rotate_left
            ·
             intro w'
             go_simp
             with_reducible rfl
            rotate_left
            ·
             simp only [Act.put, List.setIfInBounds_toArray, List.set_cons_zero, List.set_cons_succ, i64_w, i32_w]
             rfl
            refine pure_ (i := 10) (N := some 11) (v := ?_) (a' := ?_) #[true, true, true, true, true, true, true, true, true, true, true] rfl rfl (any_of HT_.out (by kernel_rfl)) (fun _ _ _ h => h) (Or.inl ⟨by rfl, ?_⟩) ?_ ?_
            rotate_left
            ·
             intro w'
             go_simp
             with_reducible rfl
            rotate_left
            ·
             simp only [Act.put, List.setIfInBounds_toArray, List.set_cons_zero, List.set_cons_succ, i64_w, i32_w]
             rfl
            refine done_ (done_of HT_.out (by kernel_rfl)) ?_
            try go_wp2
            go_meet
            case rel => exact ⟨_, (rd x8_1 (ji21)), (wrap64 (3 + t283)), (t284), (by first | rfl | (simp; done) | (simp only [← hji21] <;> (first | rfl | simp)) | (simp [*]; done)), (by first | rfl | (simp; done) | (simp [*]; done)), H', ⟨by have := HK1.out; have := HJ8.out; first | omega | exact Nat.le_refl _⟩, ⟨by (with_reducible repeat (first | apply Kd.R_alloc | apply Kd.R_drewN | apply Kd.R_drew)); exact HO_8.out⟩, ⟨by (with_reducible repeat (first | refine blk_drewN ?_ _ | refine blk_drew ?_ | refine blk_alloc ?_ _)); exact BK272.out⟩, ⟨by repeat (first | (with_reducible first | exact HI0.out | apply IsS229.alloc | apply IsS229.drewN | apply IsS229.drew | apply IsS229.set_1 | refine IsS229.far ?_ NB0_272.out _) | exact HI0.out)⟩, ⟨by repeat (first | (with_reducible first | exact HK.out | apply KeepBut.set_ | apply keep_drewN | apply keep_drew | apply keep_alloc | refine keep_far ?_ GW272.out _) | exact HK.out)⟩, ⟨by repeat (first | (with_reducible first | exact HB.out | apply below_alloc | apply pw_below_drewN | apply below_drew1 | refine below_set ?_ (IsS229.ge HI0.out) | refine below_set ?_ GE272.out) | exact HB.out)⟩⟩
           ·
            rw [if_neg c23] at H
            exact absurd H (by simp)
          ·
           rw [if_neg c22] at H
           exact absurd H (by simp)
        ·
         rw [if_neg c19] at H
         have c19b0 : (t278 == 16) = false := beq_eq_false_iff_ne.mpr c19
         have c19b1 : (t278 != 16) = true := bne_iff_ne.mpr c19
         (first | rw [c19b0] | (simp only [i64_w, i32_w]; rw [c19b0]) | skip)
         by_cases c27 : t278 = 17
         ·
          rw [if_pos c27] at H
          have c27b0 : (t278 == 17) = true := beq_iff_eq.mpr c27
          have c27b1 : (t278 != 17) = false := bne_eq_false_iff_eq.mpr c27
          clear c27
          replace H := Option.bind_eq_some_iff.mp H
          obtain ⟨⟨t285, t286⟩, A280, H⟩ := H
          replace H : (spec_told.j2 kj8 a2 x8_1 0 (wrap64 (3 + t285)) s0_0 t286 l1_0 l1_1) = some (r1, r2, r3) := H
          have A28 := Aside0.mk A280
          clear A280
          have H' := Aside0.mk H
          clear H
          go_wp2_with (first | ((with_reducible refine gate_callee (f := 117) rfl ?_); refine goesL_ (some 45) rfl rfl Tryz.func117 (by kernel_rfl) rfl #[.pointer (some ⟨g, 0, none⟩), .int .i64 3] rfl (by (try simp only [List.map_toArray, List.map_cons, List.map_nil]); first | done | rfl | (simp only [List.length_drop, List.length_take]; rfl)) ?_; (with_reducible refine (spec_bits_many.calls kj8 g s0_0 x1001_8 3 t285 t286 w0 _ ?side1 ?side2 A28.out).mono ?_); (case side1 => repeat (first | (with_reducible first | exact HI0.out | apply IsS229.alloc | apply IsS229.drewN | apply IsS229.drew | apply IsS229.set_1 | refine IsS229.far ?_ NB0_272.out _) | exact HI0.out)); (case side2 => repeat (first | (with_reducible first | exact HB.out | apply below_alloc | apply pw_below_drewN | apply below_drew1 | refine below_set ?_ (IsS229.ge HI0.out) | refine below_set ?_ GE272.out) | exact HB.out)); rintro e w29 ⟨rfl, hi, hb, hk⟩; refine ⟨_, rfl, ?_⟩; have n0_ := Aside0.mk (Kd.R_mono (Kd.R_keep (IsS229.apart (show IsS229 w0 _ g s0_0 x1001_8 from by repeat (first | (with_reducible first | exact HI0.out | apply IsS229.alloc | apply IsS229.drewN | apply IsS229.drew | apply IsS229.set_1 | refine IsS229.far ?_ NB0_272.out _) | exact HI0.out)) (by (with_reducible repeat (first | apply Kd.R_alloc | apply Kd.R_drewN | apply Kd.R_drew)); exact HO_8.out) (by decide)) hk (fun _ h => h.2)) (fun _ h => h.1)); have n1_ := Aside0.mk (KeepBut.blk hk (g' := gb272) (o := .cells #[.slice A1_0 l1_0.length c1_0, .slice A1_1 l1_1.length c1_1] 233 (0, 0)) (by (with_reducible repeat (first | refine blk_drewN ?_ _ | refine blk_drew ?_ | refine blk_alloc ?_ _)); exact BK272.out) NB272_0.out (by simp)); have n2_ := Aside0.mk (KeepBut.trans (by repeat (first | (with_reducible first | exact HK.out | apply KeepBut.set_ | apply keep_drewN | apply keep_drew | apply keep_alloc | refine keep_far ?_ GW272.out _) | exact HK.out)) hk (.inl rfl)); have n3_ := Aside0.mk (hb); have n4_ := Aside0.mk (hi); clear HO_8; clear BK272; clear HK; clear HB; clear HI0; have HO_8 := n0_; have BK272 := n1_; have HK := n2_; have HB := n3_; have HI0 := n4_; clear n0_ n1_ n2_ n3_ n4_; (try clear hb); (try clear hb2); (try clear hk); (try clear hi)))
          go_meet
          case rel => exact ⟨_, (0), (wrap64 (3 + t285)), (t286), (by first | rfl | (simp; done) | (simp [*]; done)), (by first | rfl | (simp; done) | (simp [*]; done)), H', ⟨by have := HK1.out; have := HJ8.out; first | omega | exact Nat.le_refl _⟩, ⟨by (with_reducible repeat (first | apply Kd.R_alloc | apply Kd.R_drewN | apply Kd.R_drew)); exact HO_8.out⟩, ⟨by (with_reducible repeat (first | refine blk_drewN ?_ _ | refine blk_drew ?_ | refine blk_alloc ?_ _)); exact BK272.out⟩, ⟨by repeat (first | (with_reducible first | exact HI0.out | apply IsS229.alloc | apply IsS229.drewN | apply IsS229.drew | apply IsS229.set_1 | refine IsS229.far ?_ NB0_272.out _) | exact HI0.out)⟩, ⟨by repeat (first | (with_reducible first | exact HK.out | apply KeepBut.set_ | apply keep_drewN | apply keep_drew | apply keep_alloc | refine keep_far ?_ GW272.out _) | exact HK.out)⟩, ⟨by repeat (first | (with_reducible first | exact HB.out | apply below_alloc | apply pw_below_drewN | apply below_drew1 | refine below_set ?_ (IsS229.ge HI0.out) | refine below_set ?_ GE272.out) | exact HB.out)⟩⟩
         ·
          rw [if_neg c27] at H
          have c27b0 : (t278 == 17) = false := beq_eq_false_iff_ne.mpr c27
          have c27b1 : (t278 != 17) = true := bne_iff_ne.mpr c27
          by_cases c30 : t278 = 18
          ·
           rw [if_pos c30] at H
           have c30b0 : (t278 == 18) = true := beq_iff_eq.mpr c30
           have c30b1 : (t278 != 18) = false := bne_eq_false_iff_eq.mpr c30
           clear c30
           replace H := Option.bind_eq_some_iff.mp H
           obtain ⟨⟨t287, t288⟩, A310, H⟩ := H
           replace H : (spec_told.j2 kj8 a2 x8_1 0 (wrap64 (11 + t287)) s0_0 t288 l1_0 l1_1) = some (r1, r2, r3) := H
           have A31 := Aside0.mk A310
           clear A310
           have H' := Aside0.mk H
           clear H
           go_wp2_with (first | ((with_reducible refine gate_callee (f := 117) rfl ?_); refine goesL_ (some 50) rfl rfl Tryz.func117 (by kernel_rfl) rfl #[.pointer (some ⟨g, 0, none⟩), .int .i64 7] rfl (by (try simp only [List.map_toArray, List.map_cons, List.map_nil]); first | done | rfl | (simp only [List.length_drop, List.length_take]; rfl)) ?_; (with_reducible refine (spec_bits_many.calls kj8 g s0_0 x1001_8 7 t287 t288 w0 _ ?side1 ?side2 A31.out).mono ?_); (case side1 => repeat (first | (with_reducible first | exact HI0.out | apply IsS229.alloc | apply IsS229.drewN | apply IsS229.drew | apply IsS229.set_1 | refine IsS229.far ?_ NB0_272.out _) | exact HI0.out)); (case side2 => repeat (first | (with_reducible first | exact HB.out | apply below_alloc | apply pw_below_drewN | apply below_drew1 | refine below_set ?_ (IsS229.ge HI0.out) | refine below_set ?_ GE272.out) | exact HB.out)); rintro e w32 ⟨rfl, hi, hb, hk⟩; refine ⟨_, rfl, ?_⟩; have n0_ := Aside0.mk (Kd.R_mono (Kd.R_keep (IsS229.apart (show IsS229 w0 _ g s0_0 x1001_8 from by repeat (first | (with_reducible first | exact HI0.out | apply IsS229.alloc | apply IsS229.drewN | apply IsS229.drew | apply IsS229.set_1 | refine IsS229.far ?_ NB0_272.out _) | exact HI0.out)) (by (with_reducible repeat (first | apply Kd.R_alloc | apply Kd.R_drewN | apply Kd.R_drew)); exact HO_8.out) (by decide)) hk (fun _ h => h.2)) (fun _ h => h.1)); have n1_ := Aside0.mk (KeepBut.blk hk (g' := gb272) (o := .cells #[.slice A1_0 l1_0.length c1_0, .slice A1_1 l1_1.length c1_1] 233 (0, 0)) (by (with_reducible repeat (first | refine blk_drewN ?_ _ | refine blk_drew ?_ | refine blk_alloc ?_ _)); exact BK272.out) NB272_0.out (by simp)); have n2_ := Aside0.mk (KeepBut.trans (by repeat (first | (with_reducible first | exact HK.out | apply KeepBut.set_ | apply keep_drewN | apply keep_drew | apply keep_alloc | refine keep_far ?_ GW272.out _) | exact HK.out)) hk (.inl rfl)); have n3_ := Aside0.mk (hb); have n4_ := Aside0.mk (hi); clear HO_8; clear BK272; clear HK; clear HB; clear HI0; have HO_8 := n0_; have BK272 := n1_; have HK := n2_; have HB := n3_; have HI0 := n4_; clear n0_ n1_ n2_ n3_ n4_; (try clear hb); (try clear hb2); (try clear hk); (try clear hi)))
           go_meet
           case rel => exact ⟨_, (0), (wrap64 (11 + t287)), (t288), (by first | rfl | (simp; done) | (simp [*]; done)), (by first | rfl | (simp; done) | (simp [*]; done)), H', ⟨by have := HK1.out; have := HJ8.out; first | omega | exact Nat.le_refl _⟩, ⟨by (with_reducible repeat (first | apply Kd.R_alloc | apply Kd.R_drewN | apply Kd.R_drew)); exact HO_8.out⟩, ⟨by (with_reducible repeat (first | refine blk_drewN ?_ _ | refine blk_drew ?_ | refine blk_alloc ?_ _)); exact BK272.out⟩, ⟨by repeat (first | (with_reducible first | exact HI0.out | apply IsS229.alloc | apply IsS229.drewN | apply IsS229.drew | apply IsS229.set_1 | refine IsS229.far ?_ NB0_272.out _) | exact HI0.out)⟩, ⟨by repeat (first | (with_reducible first | exact HK.out | apply KeepBut.set_ | apply keep_drewN | apply keep_drew | apply keep_alloc | refine keep_far ?_ GW272.out _) | exact HK.out)⟩, ⟨by repeat (first | (with_reducible first | exact HB.out | apply below_alloc | apply pw_below_drewN | apply below_drew1 | refine below_set ?_ (IsS229.ge HI0.out) | refine below_set ?_ GE272.out) | exact HB.out)⟩⟩
          ·
           rw [if_neg c30] at H
           have c30b0 : (t278 == 18) = false := beq_eq_false_iff_ne.mpr c30
           have c30b1 : (t278 != 18) = true := bne_iff_ne.mpr c30
           have H' := Aside0.mk H
           clear H
           go_wp2
           go_meet
           case rel => exact ⟨_, (t278), (1), (x1001_8), (by first | rfl | (simp; done) | (simp [*]; done)), (by first | rfl | (simp; done) | (simp [*]; done)), H', ⟨by have := HK1.out; have := HJ8.out; first | omega | exact Nat.le_refl _⟩, ⟨by (with_reducible repeat (first | apply Kd.R_alloc | apply Kd.R_drewN | apply Kd.R_drew)); exact HO_8.out⟩, ⟨by (with_reducible repeat (first | refine blk_drewN ?_ _ | refine blk_drew ?_ | refine blk_alloc ?_ _)); exact BK272.out⟩, ⟨by repeat (first | (with_reducible first | exact HI0.out | apply IsS229.alloc | apply IsS229.drewN | apply IsS229.drew | apply IsS229.set_1 | refine IsS229.far ?_ NB0_272.out _) | exact HI0.out)⟩, ⟨by repeat (first | (with_reducible first | exact HK.out | apply KeepBut.set_ | apply keep_drewN | apply keep_drew | apply keep_alloc | refine keep_far ?_ GW272.out _) | exact HK.out)⟩, ⟨by repeat (first | (with_reducible first | exact HB.out | apply below_alloc | apply pw_below_drewN | apply below_drew1 | refine below_set ?_ (IsS229.ge HI0.out) | refine below_set ?_ GE272.out) | exact HB.out)⟩⟩
       case rest =>
        clear HC18
        (try clear c1); (try clear c2); (try clear p2); (try clear q2); (try clear hx2); (try clear c3); (try clear p6); (try clear c7); (try clear c7b0); (try clear c11); (try clear c13); (try clear c14); (try clear c14b0); (try clear c17); (try clear c19); (try clear c19b0); (try clear c19b1); (try clear c20); (try clear c20b0); (try clear c20b1); (try clear c20b2); (try clear c22); (try clear c22b0); (try clear c23); (try clear c23b0); (try clear c27); (try clear c27b0); (try clear c27b1); (try clear p28); (try clear q28); (try clear hx28); (try clear c30); (try clear c30b0); (try clear c30b1); (try clear hcz12_0); (try clear hcz12_1); (try clear hfz12_0); (try clear hfz12_1); (try clear hx282_0); (try clear p2); (try clear p282); (try clear q282)
        obtain ⟨kq, x10_17, x11_17, x1001_17, rfl, rfl, HA, HJ17, HO_8, BK272, HI0, HK, HB⟩ := hcut
        cases kq with
        | zero => exact absurd HA.out (by simp [spec_told.j2])
        | succ kj17 =>
         have H := HA.out
         clear HA
         simp only [spec_told.j2] at H
         have H' := Aside0.mk H
         clear H
         go_wp2
         go_loopg [8, 53] kj17 (fun kq v8 v53 w' => ∃ (x8_4 : List Int) (x53_4 : Int), v53 = .int .i64 x53_4 ∧ Aside0 (spec_told.l1 kq a2 x8_4 x10_17 x11_17 x53_4 s0_0 x1001_17 l1_0 l1_1 = some (r1, r2, r3)) ∧ Aside0 (kq ≤ kj17) ∧ Aside0 (Kd.R (Kd.int .i64) 3 w' w.heap.size (fun _ => True) v8 x8_4) ∧ Aside0 (w'.heap[gb272]? = some (.cells #[(.slice A1_0 l1_0.length c1_0), (.slice A1_1 l1_1.length c1_1)] 233 (0, 0))) ∧ Aside0 (IsS229 w0 w' g s0_0 x1001_17) ∧ Aside0 (KeepBut w w' g none) ∧ Aside0 (Below w0.heap.size w0 w'))
         case atStart => exact ⟨(x8_1), (0), (by first | rfl | (simp; done) | (simp [*]; done)), H', ⟨Nat.le_refl _⟩, ⟨by (with_reducible repeat (first | apply Kd.R_alloc | apply Kd.R_drewN | apply Kd.R_drew)); exact HO_8.out⟩, ⟨by (with_reducible repeat (first | refine blk_drewN ?_ _ | refine blk_drew ?_ | refine blk_alloc ?_ _)); exact BK272.out⟩, ⟨by repeat (first | (with_reducible first | exact HI0.out | apply IsS229.alloc | apply IsS229.drewN | apply IsS229.drew | apply IsS229.set_1 | refine IsS229.far ?_ NB0_272.out _) | exact HI0.out)⟩, ⟨by repeat (first | (with_reducible first | exact HK.out | apply KeepBut.set_ | apply keep_drewN | apply keep_drew | apply keep_alloc | refine keep_far ?_ GW272.out _) | exact HK.out)⟩, ⟨by repeat (first | (with_reducible first | exact HB.out | apply below_alloc | apply pw_below_drewN | apply below_drew1 | refine below_set ?_ (IsS229.ge HI0.out) | refine below_set ?_ GE272.out) | exact HB.out)⟩⟩
         case round =>
          clear H'
          (try clear c1); (try clear c2); (try clear p2); (try clear q2); (try clear hx2); (try clear c3); (try clear p6); (try clear c7); (try clear c7b0); (try clear c11); (try clear c13); (try clear c14); (try clear c14b0); (try clear c17); (try clear c19); (try clear c19b0); (try clear c19b1); (try clear c20); (try clear c20b0); (try clear c20b1); (try clear c20b2); (try clear c22); (try clear c22b0); (try clear c23); (try clear c23b0); (try clear c27); (try clear c27b0); (try clear c27b1); (try clear p28); (try clear q28); (try clear hx28); (try clear c30); (try clear c30b0); (try clear c30b1); (try clear hcz12_0); (try clear hcz12_1); (try clear hfz12_0); (try clear hfz12_1); (try clear hx282_0); (try clear p2); (try clear p28); (try clear p282); (try clear p6); (try clear q2); (try clear q28); (try clear q282)
          obtain ⟨x8_4, x53_4, rfl, HA, HK4, HO_8, BK272, HI0, HK, HB⟩ := hrel
          cases gk with
          | zero => exact absurd HA.out (by simp [spec_told.l1])
          | succ k4 =>
           have H := HA.out
           clear HA
           simp only [spec_told.l1] at H
           by_cases c33 : x53_4 < x11_17
           ·
            rw [if_pos c33] at H
            have c33b0 : decide (x53_4 < x11_17) = true := decide_eq_true c33
            clear c33
            by_cases c34 : x8_4.length < 17592186044416
            ·
             rw [if_pos c34] at H
             have LMc34 := Aside0.mk c34
             clear c34
             obtain ⟨y289, hy289⟩ : ∃ y_ : List Int, y_ = (x8_4 ++ [x10_17]) := ⟨_, rfl⟩
             replace H : (spec_told.l1 k4 a2 y289 x10_17 x11_17 (wrap64 (x53_4 + 1)) s0_0 x1001_17 l1_0 l1_1) = some (r1, r2, r3) := by first | (rw [hy289]; with_reducible exact H) | (have H2_ := (Option.bind_some _ _).symm.trans H; rw [hy289]; with_reducible exact H2_) | (have H2_ := (Option.bind_some _ _).symm.trans H; with_reducible exact H2_) | with_reducible exact H | (rw [hy289]; exact H) | exact H
             have Ny289 := Aside0.mk hy289
             clear hy289
             have H' := Aside0.mk H
             clear H
             go_wp2_with (first | ((with_reducible refine gate_builtin (b := .append) (xs := #[.tmp 55, .tmp 57]) rfl ?_); at_builtin; refine Kd.R_append (Kd.int .i64) w.heap.size rfl (.tmp 55) (.tmp 57) 27 3 (.int .i64 0) 8 rfl Tryz.underlying27 info3 rfl (by decide) (by omega) u8 x8_4 x10_17 [.int .i64 x10_17] (fun _ => True) (fun _ => False) rfl rfl ?aP (fun _ hk => hk.elim) ?aF ?aO (Below.refl _ _) ?aS ?aL ?_; (case aP => exact rfl); (case aF => exact (fun _ _ => trivial)); (case aO => exact (by (with_reducible repeat (first | apply Kd.R_alloc | apply Kd.R_drewN | apply Kd.R_drew)); exact HO_8.out)); (case aS => exact (keep_size (w := w) (g := g) (row := none) (by repeat (first | (with_reducible first | exact HK.out | apply KeepBut.set_ | apply keep_drewN | apply keep_drew | apply keep_alloc | refine keep_far ?_ GW272.out _) | exact HK.out)))); (case aL => have := LMc34.out; omega); intro v290 w35 ho hb hg hat; rw [← Ny289.out] at ho; have n0_ := Aside0.mk (blk_grown (g := gb272) (o := .cells #[.slice A1_0 l1_0.length c1_0, .slice A1_1 l1_1.length c1_1] 233 (0, 0)) (by (with_reducible repeat (first | refine blk_drewN ?_ _ | refine blk_drew ?_ | refine blk_alloc ?_ _)); exact BK272.out) hg (Kd.R_ne HO_8.out BK272.out (by decide))); have n1_ := Aside0.mk (IsS229.grown (by repeat (first | (with_reducible first | exact HI0.out | apply IsS229.alloc | apply IsS229.drewN | apply IsS229.drew | apply IsS229.set_1 | refine IsS229.far ?_ NB0_272.out _) | exact HI0.out)) hg (IsS229.own_ne HI0.out HO_8.out (by decide))); have n2_ := Aside0.mk (below_weaken (by repeat (first | (with_reducible first | exact HB.out | apply below_alloc | apply pw_below_drewN | apply below_drew1 | refine below_set ?_ (IsS229.ge HI0.out) | refine below_set ?_ GE272.out) | exact HB.out)) HL.out hb); have n3_ := Aside0.mk (KeepBut.trans (by repeat (first | (with_reducible first | exact HK.out | apply KeepBut.set_ | apply keep_drewN | apply keep_drew | apply keep_alloc | refine keep_far ?_ GW272.out _) | exact HK.out)) (KeepBut.of_grown hg g) (Kd.R_base2 HO_8.out)); have n4_ := Aside0.mk (ho); clear BK272; clear HI0; clear HB; clear HK; clear HO_8; have BK272 := n0_; have HI0 := n1_; have HB := n2_; have HK := n3_; have HO291 := n4_; clear n0_ n1_ n2_ n3_ n4_; clear ho hb hg hat))
             go_roundg k4
             case measure => have := HK1.out; have := HJ8.out; have := HJ17.out; have := HK4.out; omega
             case rel => exact ⟨(y289), (wrap64 (x53_4 + 1)), (by first | rfl | (simp; done) | (simp [*]; done)), H', ⟨by have := HK1.out; have := HJ8.out; have := HJ17.out; have := HK4.out; omega⟩, ⟨by (with_reducible repeat (first | apply Kd.R_alloc | apply Kd.R_drewN | apply Kd.R_drew)); exact HO291.out⟩, ⟨by (with_reducible repeat (first | refine blk_drewN ?_ _ | refine blk_drew ?_ | refine blk_alloc ?_ _)); exact BK272.out⟩, ⟨by repeat (first | (with_reducible first | exact HI0.out | apply IsS229.alloc | apply IsS229.drewN | apply IsS229.drew | apply IsS229.set_1 | refine IsS229.far ?_ NB0_272.out _) | exact HI0.out)⟩, ⟨by repeat (first | (with_reducible first | exact HK.out | apply KeepBut.set_ | apply keep_drewN | apply keep_drew | apply keep_alloc | refine keep_far ?_ GW272.out _) | exact HK.out)⟩, ⟨by repeat (first | (with_reducible first | exact HB.out | apply below_alloc | apply pw_below_drewN | apply below_drew1 | refine below_set ?_ (IsS229.ge HI0.out) | refine below_set ?_ GE272.out) | exact HB.out)⟩⟩
            ·
             rw [if_neg c34] at H
             exact absurd H (by simp)
           ·
            rw [if_neg c33] at H
            have c33b0 : decide (x53_4 < x11_17) = false := decide_eq_false c33
            clear c33
            have H' := Aside0.mk H
            clear H
            go_wp2
            go_roundg k4
            case measure => have := HK1.out; have := HJ8.out; have := HJ17.out; have := HK4.out; omega
            case rel => exact ⟨(x8_4), (x1001_17), H', ⟨by have := HK1.out; have := HJ8.out; have := HJ17.out; have := HK4.out; omega⟩, ⟨by (with_reducible repeat (first | apply Kd.R_alloc | apply Kd.R_drewN | apply Kd.R_drew)); exact HO_8.out⟩, ⟨by (with_reducible repeat (first | refine blk_drewN ?_ _ | refine blk_drew ?_ | refine blk_alloc ?_ _)); exact BK272.out⟩, ⟨by repeat (first | (with_reducible first | exact HI0.out | apply IsS229.alloc | apply IsS229.drewN | apply IsS229.drew | apply IsS229.set_1 | refine IsS229.far ?_ NB0_272.out _) | exact HI0.out)⟩, ⟨by repeat (first | (with_reducible first | exact HK.out | apply KeepBut.set_ | apply keep_drewN | apply keep_drew | apply keep_alloc | refine keep_far ?_ GW272.out _) | exact HK.out)⟩, ⟨by repeat (first | (with_reducible first | exact HB.out | apply below_alloc | apply pw_below_drewN | apply below_drew1 | refine below_set ?_ (IsS229.ge HI0.out) | refine below_set ?_ GE272.out) | exact HB.out)⟩⟩
   ·
    rw [if_neg c7] at H
    have c7b0 : decide ((x8_1.length : Int) < a2) = false := decide_eq_false c7
    clear c7
    by_cases c36 : (x8_1.length : Int) > a2
    ·
     rw [if_pos c36] at H
     have c36b0 : decide (a2 < (x8_1.length : Int)) = true := decide_eq_true c36
     clear c36
     simp only [Option.some.injEq, Prod.mk.injEq] at H
     obtain ⟨rfl, rfl, rfl⟩ := H
     obtain ⟨Ao37, co37, eo37⟩ := Kd.R_slice HO_8.out
     subst eo37
     go_wp2
     go_ret2
     exact ⟨_, by first | rfl | (simp <;> rfl) | (simp [*] <;> rfl), by first | exact Kd.R_nil _ _ _ _ _ | exact Kd.S_nil _ _ _ _ _, by repeat (first | (with_reducible first | exact HI0.out | apply IsS229.alloc | apply IsS229.drewN | apply IsS229.drew | apply IsS229.set_1 | refine IsS229.far ?_ NB0_272.out _) | exact HI0.out), by repeat (first | (with_reducible first | exact HB.out | apply below_alloc | apply pw_below_drewN | apply below_drew1 | refine below_set ?_ (IsS229.ge HI0.out) | refine below_set ?_ GE272.out) | exact HB.out), by repeat (first | (with_reducible first | exact HK.out | apply KeepBut.set_ | apply keep_drewN | apply keep_drew | apply keep_alloc | refine keep_far ?_ GW272.out _) | exact HK.out)⟩
    ·
     rw [if_neg c36] at H
     have c36b0 : decide (a2 < (x8_1.length : Int)) = false := decide_eq_false c36
     clear c36
     replace H := Option.bind_eq_some_iff.mp H
     obtain ⟨⟨t276, t277⟩, A380, H⟩ := H
     replace H : (if t276 = true then (some (([] : List Int), 1, t277)) else (some (x8_1, 0, t277))) = some (r1, r2, r3) := H
     have A38 := Aside0.mk A380
     clear A380
     by_cases c39 : t276 = true
     ·
      subst c39
      have H1 : (some (([] : List Int), 1, t277)) = some (r1, r2, r3) := by rw [if_pos rfl] at H; exact H
      clear H
      have H := H1
      clear H1
      simp only [Option.some.injEq, Prod.mk.injEq] at H
      obtain ⟨rfl, rfl, rfl⟩ := H
      obtain ⟨Ao40, co40, eo40⟩ := Kd.R_slice HO_8.out
      subst eo40
      go_wp2_with (first | (go_at_call 128; (with_reducible refine (spec_bits_short.calls g s0_0 x1001_1 true t277 w0 _ ?side1 ?side2 A38.out).mono ?_); (case side1 => repeat (first | (with_reducible first | exact HI0.out | apply IsS229.alloc | apply IsS229.drewN | apply IsS229.drew | apply IsS229.set_1 | refine IsS229.far ?_ NB0_272.out _) | exact HI0.out)); (case side2 => repeat (first | (with_reducible first | exact HB.out | apply below_alloc | apply pw_below_drewN | apply below_drew1 | refine below_set ?_ (IsS229.ge HI0.out) | refine below_set ?_ GE272.out) | exact HB.out)); rintro e w41 ⟨rfl, hi, hb, hk⟩; have n0_ := Aside0.mk (Kd.R_mono (Kd.R_keep (IsS229.apart (show IsS229 w0 _ g s0_0 x1001_1 from by repeat (first | (with_reducible first | exact HI0.out | apply IsS229.alloc | apply IsS229.drewN | apply IsS229.drew | apply IsS229.set_1 | refine IsS229.far ?_ NB0_272.out _) | exact HI0.out)) (by (with_reducible repeat (first | apply Kd.R_alloc | apply Kd.R_drewN | apply Kd.R_drew)); exact HO_8.out) (by decide)) hk (fun _ h => h.2)) (fun _ h => h.1)); have n1_ := Aside0.mk (KeepBut.blk hk (g' := gb272) (o := .cells #[.slice A1_0 l1_0.length c1_0, .slice A1_1 l1_1.length c1_1] 233 (0, 0)) (by (with_reducible repeat (first | refine blk_drewN ?_ _ | refine blk_drew ?_ | refine blk_alloc ?_ _)); exact BK272.out) NB272_0.out (by simp)); have n2_ := Aside0.mk (KeepBut.trans (by repeat (first | (with_reducible first | exact HK.out | apply KeepBut.set_ | apply keep_drewN | apply keep_drew | apply keep_alloc | refine keep_far ?_ GW272.out _) | exact HK.out)) hk (.inl rfl)); have n3_ := Aside0.mk (hb); have n4_ := Aside0.mk (hi); clear HO_8; clear BK272; clear HK; clear HB; clear HI0; have HO_8 := n0_; have BK272 := n1_; have HK := n2_; have HB := n3_; have HI0 := n4_; clear n0_ n1_ n2_ n3_ n4_; (try clear hb); (try clear hb2); (try clear hk); (try clear hi)))
      go_ret2
      exact ⟨_, by first | rfl | (simp <;> rfl) | (simp [*] <;> rfl), by first | exact Kd.R_nil _ _ _ _ _ | exact Kd.S_nil _ _ _ _ _, by repeat (first | (with_reducible first | exact HI0.out | apply IsS229.alloc | apply IsS229.drewN | apply IsS229.drew | apply IsS229.set_1 | refine IsS229.far ?_ NB0_272.out _) | exact HI0.out), by repeat (first | (with_reducible first | exact HB.out | apply below_alloc | apply pw_below_drewN | apply below_drew1 | refine below_set ?_ (IsS229.ge HI0.out) | refine below_set ?_ GE272.out) | exact HB.out), by repeat (first | (with_reducible first | exact HK.out | apply KeepBut.set_ | apply keep_drewN | apply keep_drew | apply keep_alloc | refine keep_far ?_ GW272.out _) | exact HK.out)⟩
     ·
      replace c39 := Bool.eq_false_iff.mpr c39
      subst c39
      have H1 : (some (x8_1, 0, t277)) = some (r1, r2, r3) := by rw [if_neg (show ¬ (false = true) by decide)] at H; exact H
      clear H
      have H := H1
      clear H1
      simp only [Option.some.injEq, Prod.mk.injEq] at H
      obtain ⟨rfl, rfl, rfl⟩ := H
      obtain ⟨Ao42, co42, eo42⟩ := Kd.R_slice HO_8.out
      subst eo42
      go_wp2_with (first | (go_at_call 128; (with_reducible refine (spec_bits_short.calls g s0_0 x1001_1 false t277 w0 _ ?side1 ?side2 A38.out).mono ?_); (case side1 => repeat (first | (with_reducible first | exact HI0.out | apply IsS229.alloc | apply IsS229.drewN | apply IsS229.drew | apply IsS229.set_1 | refine IsS229.far ?_ NB0_272.out _) | exact HI0.out)); (case side2 => repeat (first | (with_reducible first | exact HB.out | apply below_alloc | apply pw_below_drewN | apply below_drew1 | refine below_set ?_ (IsS229.ge HI0.out) | refine below_set ?_ GE272.out) | exact HB.out)); rintro e w43 ⟨rfl, hi, hb, hk⟩; have n0_ := Aside0.mk (Kd.R_mono (Kd.R_keep (IsS229.apart (show IsS229 w0 _ g s0_0 x1001_1 from by repeat (first | (with_reducible first | exact HI0.out | apply IsS229.alloc | apply IsS229.drewN | apply IsS229.drew | apply IsS229.set_1 | refine IsS229.far ?_ NB0_272.out _) | exact HI0.out)) (by (with_reducible repeat (first | apply Kd.R_alloc | apply Kd.R_drewN | apply Kd.R_drew)); exact HO_8.out) (by decide)) hk (fun _ h => h.2)) (fun _ h => h.1)); have n1_ := Aside0.mk (KeepBut.blk hk (g' := gb272) (o := .cells #[.slice A1_0 l1_0.length c1_0, .slice A1_1 l1_1.length c1_1] 233 (0, 0)) (by (with_reducible repeat (first | refine blk_drewN ?_ _ | refine blk_drew ?_ | refine blk_alloc ?_ _)); exact BK272.out) NB272_0.out (by simp)); have n2_ := Aside0.mk (KeepBut.trans (by repeat (first | (with_reducible first | exact HK.out | apply KeepBut.set_ | apply keep_drewN | apply keep_drew | apply keep_alloc | refine keep_far ?_ GW272.out _) | exact HK.out)) hk (.inl rfl)); have n3_ := Aside0.mk (hb); have n4_ := Aside0.mk (hi); clear HO_8; clear BK272; clear HK; clear HB; clear HI0; have HO_8 := n0_; have BK272 := n1_; have HK := n2_; have HB := n3_; have HI0 := n4_; clear n0_ n1_ n2_ n3_ n4_; (try clear hb); (try clear hb2); (try clear hk); (try clear hi)))
      go_ret2
      exact ⟨_, by first | rfl | (simp <;> rfl) | (simp [*] <;> rfl), by (with_reducible repeat (first | apply Kd.R_alloc | apply Kd.R_drewN | apply Kd.R_drew)); exact HO_8.out, by repeat (first | (with_reducible first | exact HI0.out | apply IsS229.alloc | apply IsS229.drewN | apply IsS229.drew | apply IsS229.set_1 | refine IsS229.far ?_ NB0_272.out _) | exact HI0.out), by repeat (first | (with_reducible first | exact HB.out | apply below_alloc | apply pw_below_drewN | apply below_drew1 | refine below_set ?_ (IsS229.ge HI0.out) | refine below_set ?_ GE272.out) | exact HB.out), by repeat (first | (with_reducible first | exact HK.out | apply KeepBut.set_ | apply keep_drewN | apply keep_drew | apply keep_alloc | refine keep_far ?_ GW272.out _) | exact HK.out)⟩
def spec_passes.f (a0 : Bool) : Option (Int) := if a0 = true then (some 7) else (some 1)
set_option maxHeartbeats 8000000 in
theorem spec_passes.calls (a0 : Bool) (r : Int) (w : World) (h : spec_passes.f a0 = some r) :
  Calls Tryz.prog 72 #[.bool a0] w fun e w' => e = .returned (.int .i64 r) ∧ Drawn0 w w' := by
 have H : (if a0 = true then (some 7) else (some 1)) = some r := h
 clear h
 by_cases c2 : a0 = true
 ·
  subst c2
  have H1 : (some 7) = some r := by rw [if_pos rfl] at H; exact H
  clear H
  have H := H1
  clear H1
  obtain rfl := Option.some.inj H
  go_enter Tryz.func72, Tryz.ntmps72
  go_wp2
  go_ret
  exact ⟨by first | rfl | (simp; done) | (simp [*]; done), by repeat (first | exact Drawn0.refl _ | apply Drawn0.step)⟩
 ·
  replace c2 := Bool.eq_false_iff.mpr c2
  subst c2
  have H1 : (some 1) = some r := by rw [if_neg (show ¬ (false = true) by decide)] at H; exact H
  clear H
  have H := H1
  clear H1
  obtain rfl := Option.some.inj H
  go_enter Tryz.func72, Tryz.ntmps72
  go_wp2
  go_ret
  exact ⟨by first | rfl | (simp; done) | (simp [*]; done), by repeat (first | exact Drawn0.refl _ | apply Drawn0.step)⟩
def spec_PartOf.f (a0 : Bool) (a1 : Int) : Option (Int × Int × Int × Int) := if a0 = true then ((some (([(⟨0, 0, 8, 8⟩ : S151), (⟨4, 0, 8, 8⟩ : S151), (⟨0, 4, 4, 8⟩ : S151), (⟨2, 0, 4, 4⟩ : S151), (⟨0, 2, 2, 4⟩ : S151), (⟨1, 0, 2, 2⟩ : S151), (⟨0, 1, 1, 2⟩ : S151)] : List (S151)) : List (S151))).bind fun y367 => (if 0 ≤ a1 then (if a1 < (y367.length : Int) then (some ((rd_T151 y367 a1).f0, (rd_T151 y367 a1).f1, (rd_T151 y367 a1).f2, (rd_T151 y367 a1).f3)) else (none)) else (none))) else (some (0, 0, 1, 1))
set_option maxHeartbeats 8000000 in
theorem spec_PartOf.calls (a0 : Bool) (a1 : Int) (r1 : Int) (r2 : Int) (r3 : Int) (r4 : Int) (w : World) (h : spec_PartOf.f a0 a1 = some (r1, r2, r3, r4)) :
  Calls Tryz.prog 73 #[.bool a0, .int .i64 a1] w fun e w' => e = .returned (.agg #[.int .i64 r1, .int .i64 r2, .int .i64 r3, .int .i64 r4]) ∧ Below w.heap.size w w' := by
 have hu151 := Tryz.underlying151
 have HB := Aside0.mk (Below.refl w.heap.size w)
 have H : (if a0 = true then ((some (([(⟨0, 0, 8, 8⟩ : S151), (⟨4, 0, 8, 8⟩ : S151), (⟨0, 4, 4, 8⟩ : S151), (⟨2, 0, 4, 4⟩ : S151), (⟨0, 2, 2, 4⟩ : S151), (⟨1, 0, 2, 2⟩ : S151), (⟨0, 1, 1, 2⟩ : S151)] : List (S151)) : List (S151))).bind fun y367 => (if 0 ≤ a1 then (if a1 < (y367.length : Int) then (some ((rd_T151 y367 a1).f0, (rd_T151 y367 a1).f1, (rd_T151 y367 a1).f2, (rd_T151 y367 a1).f3)) else (none)) else (none))) else (some (0, 0, 1, 1))) = some (r1, r2, r3, r4) := h
 clear h
 by_cases c3 : a0 = true
 ·
  subst c3
  have H1 : ((some (([(⟨0, 0, 8, 8⟩ : S151), (⟨4, 0, 8, 8⟩ : S151), (⟨0, 4, 4, 8⟩ : S151), (⟨2, 0, 4, 4⟩ : S151), (⟨0, 2, 2, 4⟩ : S151), (⟨1, 0, 2, 2⟩ : S151), (⟨0, 1, 1, 2⟩ : S151)] : List (S151)) : List (S151))).bind fun y367 => (if 0 ≤ a1 then (if a1 < (y367.length : Int) then (some ((rd_T151 y367 a1).f0, (rd_T151 y367 a1).f1, (rd_T151 y367 a1).f2, (rd_T151 y367 a1).f3)) else (none)) else (none))) = some (r1, r2, r3, r4) := by rw [if_pos rfl] at H; exact H
  clear H
  have H := H1
  clear H1
  obtain ⟨y367, hy367⟩ : ∃ y_ : List (S151), y_ = (([(⟨0, 0, 8, 8⟩ : S151), (⟨4, 0, 8, 8⟩ : S151), (⟨0, 4, 4, 8⟩ : S151), (⟨2, 0, 4, 4⟩ : S151), (⟨0, 2, 2, 4⟩ : S151), (⟨1, 0, 2, 2⟩ : S151), (⟨0, 1, 1, 2⟩ : S151)] : List (S151))) := ⟨_, rfl⟩
  replace H : (if 0 ≤ a1 then (if a1 < (y367.length : Int) then (some ((rd_T151 y367 a1).f0, (rd_T151 y367 a1).f1, (rd_T151 y367 a1).f2, (rd_T151 y367 a1).f3)) else (none)) else (none)) = some (r1, r2, r3, r4) := by first | (rw [hy367]; with_reducible exact H) | (have H2_ := (Option.bind_some _ _).symm.trans H; rw [hy367]; with_reducible exact H2_) | (have H2_ := (Option.bind_some _ _).symm.trans H; with_reducible exact H2_) | with_reducible exact H | (rw [hy367]; exact H) | exact H
  have Ny367 := Aside0.mk hy367
  clear hy367
  by_cases c4 : 0 ≤ a1
  ·
   rw [if_pos c4] at H
   have c4b0 : decide (0 ≤ a1) = true := decide_eq_true c4
   clear c4
   by_cases c5 : a1 < (y367.length : Int)
   ·
    rw [if_pos c5] at H
    have c5b0 : decide (a1 < (y367.length : Int)) = true := decide_eq_true c5
    clear c5
    simp only [Option.some.injEq, Prod.mk.injEq] at H
    obtain ⟨rfl, rfl, rfl, rfl⟩ := H
    go_enter Tryz.func73, Tryz.ntmps73
    go_wp2_with (first | ((with_reducible refine gate_dst (N := 4) rfl ?_); refine box_event ?hg (N := 4) ?hd (cs := #[.int .i64 0, .int .i64 0, .int .i64 0, .int .i64 0]) (t := 151) ?hr ?_; (case hd => rfl); (case hg => rfl); (case hr => first | (go_simp; done) | (go_simp; rfl)); intro gb366 hg w6 hbox hb; have n0_ := Aside0.mk (below_step (by repeat (first | (with_reducible first | exact HB.out | apply below_alloc | apply pw_below_drewN | apply below_drew1) | exact HB.out)) hb); have n1_ := Aside0.mk (hbox); have n2_ := Aside0.mk ((by rw [hg]; exact (below_size (by repeat (first | (with_reducible first | exact HB.out | apply below_alloc | apply pw_below_drewN | apply below_drew1) | exact HB.out))) : w.heap.size ≤ gb366)); have n3_ := Aside0.mk ((by rw [hg]; exact (below_size (by repeat (first | (with_reducible first | exact HB.out | apply below_alloc | apply pw_below_drewN | apply below_drew1) | exact HB.out))) : w.heap.size ≤ gb366)); clear HB; have HB := n0_; have BK366 := n1_; have GW366 := n2_; have GE366 := n3_; clear n0_ n1_ n2_ n3_; clear hb hbox hg) | ((with_reducible refine gate_dst (N := 15) rfl ?_); refine Kd.R_lit k151 _ 151 ?hg (N := 15) ?hd (xs := ([(⟨0, 0, 8, 8⟩ : S151), (⟨4, 0, 8, 8⟩ : S151), (⟨0, 4, 4, 8⟩ : S151), (⟨2, 0, 4, 4⟩ : S151), (⟨0, 2, 2, 4⟩ : S151), (⟨1, 0, 2, 2⟩ : S151), (⟨0, 1, 1, 2⟩ : S151)] : List (S151))) (inner := [.int .i64 0, .int .i64 0, .int .i64 8, .int .i64 8, .int .i64 4, .int .i64 0, .int .i64 8, .int .i64 8, .int .i64 0, .int .i64 4, .int .i64 4, .int .i64 8, .int .i64 2, .int .i64 0, .int .i64 4, .int .i64 4, .int .i64 0, .int .i64 2, .int .i64 2, .int .i64 4, .int .i64 1, .int .i64 0, .int .i64 2, .int .i64 2, .int .i64 0, .int .i64 1, .int .i64 1, .int .i64 2]) (ok := fun _ => True) (okp := fun _ => True) ?hr ?hp (fun _ hk => hk) trivial (Below.refl _ _) (Nat.le_refl _) (by simp) ?_; (case hd => rfl); (case hg => rfl); (case hr => first | (go_simp; done) | (go_simp; rfl)); (case hp => exact (Reps.c4 (show Kd.M k151 _ _ _ (⟨0, 0, 8, 8⟩ : S151) [.int .i64 0, .int .i64 0, .int .i64 8, .int .i64 8] from (k151_mkM _ _ _ (⟨0, 0, 8, 8⟩ : S151) )) (Reps.c4 (show Kd.M k151 _ _ _ (⟨4, 0, 8, 8⟩ : S151) [.int .i64 4, .int .i64 0, .int .i64 8, .int .i64 8] from (k151_mkM _ _ _ (⟨4, 0, 8, 8⟩ : S151) )) (Reps.c4 (show Kd.M k151 _ _ _ (⟨0, 4, 4, 8⟩ : S151) [.int .i64 0, .int .i64 4, .int .i64 4, .int .i64 8] from (k151_mkM _ _ _ (⟨0, 4, 4, 8⟩ : S151) )) (Reps.c4 (show Kd.M k151 _ _ _ (⟨2, 0, 4, 4⟩ : S151) [.int .i64 2, .int .i64 0, .int .i64 4, .int .i64 4] from (k151_mkM _ _ _ (⟨2, 0, 4, 4⟩ : S151) )) (Reps.c4 (show Kd.M k151 _ _ _ (⟨0, 2, 2, 4⟩ : S151) [.int .i64 0, .int .i64 2, .int .i64 2, .int .i64 4] from (k151_mkM _ _ _ (⟨0, 2, 2, 4⟩ : S151) )) (Reps.c4 (show Kd.M k151 _ _ _ (⟨1, 0, 2, 2⟩ : S151) [.int .i64 1, .int .i64 0, .int .i64 2, .int .i64 2] from (k151_mkM _ _ _ (⟨1, 0, 2, 2⟩ : S151) )) (Reps.c4 (show Kd.M k151 _ _ _ (⟨0, 1, 1, 2⟩ : S151) [.int .i64 0, .int .i64 1, .int .i64 1, .int .i64 2] from (k151_mkM _ _ _ (⟨0, 1, 1, 2⟩ : S151) )) (Reps.none _ _))))))))); intro v368 w7 ho8 hb hg_ hnew_; clear hg_ hnew_; (first | rw [← Ny367.out] at ho8 | (simp only [Int.reduceToNat] at ho8; rw [← Ny367.out] at ho8)); have n0_ := Aside0.mk (Kd.R_lower (Kd.R_newB ho8 (g := gb366) (o := .cells #[.int .i64 0, .int .i64 0, .int .i64 0, .int .i64 0] 151 (0, 0)) (by (with_reducible repeat (first | refine blk_drewN ?_ _ | refine blk_drew ?_ | refine blk_alloc ?_ _)); exact BK366.out)) (below_size (by repeat (first | (with_reducible first | exact HB.out | apply below_alloc | apply pw_below_drewN | apply below_drew1 | refine below_set ?_ GE366.out) | exact HB.out)))); have n1_ := Aside0.mk (blk_below (g := gb366) (o := .cells #[.int .i64 0, .int .i64 0, .int .i64 0, .int .i64 0] 151 (0, 0)) (by (with_reducible repeat (first | refine blk_drewN ?_ _ | refine blk_drew ?_ | refine blk_alloc ?_ _)); exact BK366.out) hb); have n2_ := Aside0.mk (below_step (by repeat (first | (with_reducible first | exact HB.out | apply below_alloc | apply pw_below_drewN | apply below_drew1 | refine below_set ?_ GE366.out) | exact HB.out)) hb); clear BK366; clear HB; have HO369 := n0_; have BK366 := n1_; have HB := n2_; clear n0_ n1_ n2_; clear hb ho8; obtain ⟨Ao9, co9, eo9⟩ := Kd.R_slice HO369.out; subst eo9; have p370 : 0 ≤ (a1 : Int) := of_decide_eq_true (by first | (with_reducible assumption) | assumption); have q370 : a1 < (y367.length : Int) := of_decide_eq_true (by first | (with_reducible assumption) | assumption); obtain ⟨ad370, e370, hx370_0, hx370_1, hx370_2, hx370_3⟩ := at_T151 (Kd.R_reads' HO369.out).2.2 a1 p370 q370; cases e370; replace p370 := eq_true p370; replace q370 := eq_true q370; have hcz10_0 : w7.cell? ⟨gb366, 0, none⟩ = some (.int .i64 0) := (blk_cell BK366.out 0).trans rfl; have hcz10_1 : w7.cell? ⟨gb366, 1, none⟩ = some (.int .i64 0) := (blk_cell BK366.out 1).trans rfl; have hcz10_2 : w7.cell? ⟨gb366, 2, none⟩ = some (.int .i64 0) := (blk_cell BK366.out 2).trans rfl; have hcz10_3 : w7.cell? ⟨gb366, 3, none⟩ = some (.int .i64 0) := (blk_cell BK366.out 3).trans rfl; have hfz10_0 := blk_frozen BK366.out 0; have hfz10_1 := blk_frozen BK366.out 1; have hfz10_2 := blk_frozen BK366.out 2; have hfz10_3 := blk_frozen BK366.out 3))
    refine bodyPost_ret (results_cell_row rfl _ _ gb366 151 #[.int .i64 ((rd_T151 y367 a1).f0), .int .i64 ((rd_T151 y367 a1).f1), .int .i64 ((rd_T151 y367 a1).f2), .int .i64 ((rd_T151 y367 a1).f3)] (0, 0) _ rfl (by (with_reducible repeat (first | refine blk_drewN ?_ _ | refine blk_drew ?_ | refine blk_alloc ?_ _)); refine blk_put (cs := #[.int .i64 ((rd_T151 y367 a1).f0), .int .i64 ((rd_T151 y367 a1).f1), .int .i64 ((rd_T151 y367 a1).f2), .int .i64 0]) ?_ 3 _ rfl; (with_reducible repeat (first | refine blk_drewN ?_ _ | refine blk_drew ?_ | refine blk_alloc ?_ _)); refine blk_put (cs := #[.int .i64 ((rd_T151 y367 a1).f0), .int .i64 ((rd_T151 y367 a1).f1), .int .i64 0, .int .i64 0]) ?_ 2 _ rfl; (with_reducible repeat (first | refine blk_drewN ?_ _ | refine blk_drew ?_ | refine blk_alloc ?_ _)); refine blk_put (cs := #[.int .i64 ((rd_T151 y367 a1).f0), .int .i64 0, .int .i64 0, .int .i64 0]) ?_ 1 _ rfl; (with_reducible repeat (first | refine blk_drewN ?_ _ | refine blk_drew ?_ | refine blk_alloc ?_ _)); refine blk_put (cs := #[.int .i64 0, .int .i64 0, .int .i64 0, .int .i64 0]) ?_ 0 _ rfl; (with_reducible repeat (first | refine blk_drewN ?_ _ | refine blk_drew ?_ | refine blk_alloc ?_ _)); exact BK366.out) Tryz.underlying151 rfl (by kernel_rfl)) rfl ?_
    exact ⟨by first | rfl | (simp <;> rfl) | (simp [*] <;> rfl), by repeat (first | (with_reducible first | exact HB.out | apply below_alloc | apply pw_below_drewN | apply below_drew1 | refine below_set ?_ GE366.out) | exact HB.out)⟩
   ·
    rw [if_neg c5] at H
    exact absurd H (by simp)
  ·
   rw [if_neg c4] at H
   exact absurd H (by simp)
 ·
  replace c3 := Bool.eq_false_iff.mpr c3
  subst c3
  have H1 : (some (0, 0, 1, 1)) = some (r1, r2, r3, r4) := by rw [if_neg (show ¬ (false = true) by decide)] at H; exact H
  clear H
  have H := H1
  clear H1
  simp only [Option.some.injEq, Prod.mk.injEq] at H
  obtain ⟨rfl, rfl, rfl, rfl⟩ := H
  go_enter Tryz.func73, Tryz.ntmps73
  go_wp2_with (first | ((with_reducible refine gate_dst (N := 4) rfl ?_); refine box_event ?hg (N := 4) ?hd (cs := #[.int .i64 0, .int .i64 0, .int .i64 0, .int .i64 0]) (t := 151) ?hr ?_; (case hd => rfl); (case hg => rfl); (case hr => first | (go_simp; done) | (go_simp; rfl)); intro gb366 hg w11 hbox hb; have n0_ := Aside0.mk (below_step (by repeat (first | (with_reducible first | exact HB.out | apply below_alloc | apply pw_below_drewN | apply below_drew1) | exact HB.out)) hb); have n1_ := Aside0.mk (hbox); have n2_ := Aside0.mk ((by rw [hg]; exact (below_size (by repeat (first | (with_reducible first | exact HB.out | apply below_alloc | apply pw_below_drewN | apply below_drew1) | exact HB.out))) : w.heap.size ≤ gb366)); have n3_ := Aside0.mk ((by rw [hg]; exact (below_size (by repeat (first | (with_reducible first | exact HB.out | apply below_alloc | apply pw_below_drewN | apply below_drew1) | exact HB.out))) : w.heap.size ≤ gb366)); clear HB; have HB := n0_; have BK366 := n1_; have GW366 := n2_; have GE366 := n3_; clear n0_ n1_ n2_ n3_; clear hb hbox hg; have hcz12_0 : w11.cell? ⟨gb366, 0, none⟩ = some (.int .i64 0) := (blk_cell BK366.out 0).trans rfl; have hcz12_1 : w11.cell? ⟨gb366, 1, none⟩ = some (.int .i64 0) := (blk_cell BK366.out 1).trans rfl; have hcz12_2 : w11.cell? ⟨gb366, 2, none⟩ = some (.int .i64 0) := (blk_cell BK366.out 2).trans rfl; have hcz12_3 : w11.cell? ⟨gb366, 3, none⟩ = some (.int .i64 0) := (blk_cell BK366.out 3).trans rfl; have hfz12_0 := blk_frozen BK366.out 0; have hfz12_1 := blk_frozen BK366.out 1; have hfz12_2 := blk_frozen BK366.out 2; have hfz12_3 := blk_frozen BK366.out 3))
  refine bodyPost_ret (results_cell_row rfl _ _ gb366 151 #[.int .i64 0, .int .i64 0, .int .i64 1, .int .i64 1] (0, 0) _ rfl (by (with_reducible repeat (first | refine blk_drewN ?_ _ | refine blk_drew ?_ | refine blk_alloc ?_ _)); refine blk_put (cs := #[.int .i64 0, .int .i64 0, .int .i64 1, .int .i64 0]) ?_ 3 _ rfl; (with_reducible repeat (first | refine blk_drewN ?_ _ | refine blk_drew ?_ | refine blk_alloc ?_ _)); refine blk_put (cs := #[.int .i64 0, .int .i64 0, .int .i64 0, .int .i64 0]) ?_ 2 _ rfl; (with_reducible repeat (first | refine blk_drewN ?_ _ | refine blk_drew ?_ | refine blk_alloc ?_ _)); refine blk_put (cs := #[.int .i64 0, .int .i64 0, .int .i64 0, .int .i64 0]) ?_ 1 _ rfl; (with_reducible repeat (first | refine blk_drewN ?_ _ | refine blk_drew ?_ | refine blk_alloc ?_ _)); refine blk_put (cs := #[.int .i64 0, .int .i64 0, .int .i64 0, .int .i64 0]) ?_ 0 _ rfl; (with_reducible repeat (first | refine blk_drewN ?_ _ | refine blk_drew ?_ | refine blk_alloc ?_ _)); exact BK366.out) Tryz.underlying151 rfl (by kernel_rfl)) rfl ?_
  exact ⟨by first | rfl | (simp <;> rfl) | (simp [*] <;> rfl), by repeat (first | (with_reducible first | exact HB.out | apply below_alloc | apply pw_below_drewN | apply below_drew1 | refine below_set ?_ GE366.out) | exact HB.out)⟩
end Go.Proofs.YtnpkgmgedgcjmaaGreatDoor.Pr
end
