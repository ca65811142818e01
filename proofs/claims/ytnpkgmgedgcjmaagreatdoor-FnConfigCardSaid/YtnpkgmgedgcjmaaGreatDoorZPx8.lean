/- A part of the proof: Px8, Px9. -/
import Derived.Test.YtnpkgmgedgcjmaaGreatDoorZPx0
import Derived.Test.YtnpkgmgedgcjmaaGreatDoorZPx7
set_option linter.all false
set_option maxRecDepth 100000
section
namespace Go.Proofs.YtnpkgmgedgcjmaaGreatDoor.Pr
open Go.RowKit Go.Proofs.YtnpkgmgedgcjmaaGreatDoorW.PrintWords Go.Proofs.YtnpkgmgedgcjmaaGreatDoorW.PrintLast Go.Proofs.YtnpkgmgedgcjmaaGreatDoorW.PrintMore
attribute [local go_sem] max2_int max_two
mutual
def spec_Part_Size.l0 : Nat → Int → Int → Int → Int → Int → Int → Int → Int → Int → Option (Int × Int)
 | 0, _, _, _, _, _, _, _, _, _ => none
 | k + 1, x1, x2, x8, x9, x10, x372000, x372001, x372002, x372003 => if x10 < x1 then (spec_Part_Size.l0 k x1 x2 (wrap64 (x8 + 1)) x9 (wrap64 (x10 + x372002)) x372000 x372001 x372002 x372003) else (spec_Part_Size.l1 k x2 x8 x9 x372001 x372000 x372001 x372002 x372003)
def spec_Part_Size.l1 : Nat → Int → Int → Int → Int → Int → Int → Int → Int → Option (Int × Int)
 | 0, _, _, _, _, _, _, _, _ => none
 | k + 1, x2, x8, x9, x11, x372000, x372001, x372002, x372003 => if x11 < x2 then (spec_Part_Size.l1 k x2 x8 (wrap64 (x9 + 1)) (wrap64 (x11 + x372003)) x372000 x372001 x372002 x372003) else (if x8 = 0 then (some (0, 0)) else (if x9 = 0 then (some (0, 0)) else (some (x8, x9))))
end
def spec_Part_Size.f (k : Nat) (a0_0 : Int) (a0_1 : Int) (a0_2 : Int) (a0_3 : Int) (a1 : Int) (a2 : Int) : Option (Int × Int) := spec_Part_Size.l0 k a1 a2 0 0 a0_0 a0_0 a0_1 a0_2 a0_3
set_option maxHeartbeats 8000000 in
theorem spec_Part_Size.calls (k : Nat) (a0_0 : Int) (a0_1 : Int) (a0_2 : Int) (a0_3 : Int) (a1 : Int) (a2 : Int) (r1 : Int) (r2 : Int) (w : World) (h : spec_Part_Size.f k a0_0 a0_1 a0_2 a0_3 a1 a2 = some (r1, r2)) :
  Calls Tryz.prog 74 #[.agg #[.int .i64 a0_0, .int .i64 a0_1, .int .i64 a0_2, .int .i64 a0_3], .int .i64 a1, .int .i64 a2] w fun e w' => e = .returned (.tuple #[.int .i64 r1, .int .i64 r2]) ∧ Below w.heap.size w w' := by
 have hu151 := Tryz.underlying151
 have HB := Aside0.mk (Below.refl w.heap.size w)
 have H : (spec_Part_Size.l0 k a1 a2 0 0 a0_0 a0_0 a0_1 a0_2 a0_3) = some (r1, r2) := h
 clear h
 have H' := Aside0.mk H
 clear H
 go_enter Tryz.func74, Tryz.ntmps74
 go_wp2_with (first | ((with_reducible refine gate_dst (N := 3) rfl ?_); refine box_event ?hg (N := 3) ?hd (cs := #[.int .i64 a0_0, .int .i64 a0_1, .int .i64 a0_2, .int .i64 a0_3]) (t := 151) ?hr ?_; (case hd => rfl); (case hg => rfl); (case hr => first | (go_simp; done) | (go_simp; rfl)); intro gb371 hg w4 hbox hb; have n0_ := Aside0.mk (below_step (by repeat (first | (with_reducible first | exact HB.out | apply below_alloc | apply pw_below_drewN | apply below_drew1) | exact HB.out)) hb); have n1_ := Aside0.mk (hbox); have n2_ := Aside0.mk ((by rw [hg]; exact (below_size (by repeat (first | (with_reducible first | exact HB.out | apply below_alloc | apply pw_below_drewN | apply below_drew1) | exact HB.out))) : w.heap.size ≤ gb371)); have n3_ := Aside0.mk ((by rw [hg]; exact (below_size (by repeat (first | (with_reducible first | exact HB.out | apply below_alloc | apply pw_below_drewN | apply below_drew1) | exact HB.out))) : w.heap.size ≤ gb371)); clear HB; have HB := n0_; have BK371 := n1_; have GW371 := n2_; have GE371 := n3_; clear n0_ n1_ n2_ n3_; clear hb hbox hg; have hcz5_0 : w4.cell? ⟨gb371, 0, none⟩ = some (.int .i64 a0_0) := (blk_cell BK371.out 0).trans rfl; have hcz5_1 : w4.cell? ⟨gb371, 1, none⟩ = some (.int .i64 a0_1) := (blk_cell BK371.out 1).trans rfl; have hcz5_2 : w4.cell? ⟨gb371, 2, none⟩ = some (.int .i64 a0_2) := (blk_cell BK371.out 2).trans rfl; have hcz5_3 : w4.cell? ⟨gb371, 3, none⟩ = some (.int .i64 a0_3) := (blk_cell BK371.out 3).trans rfl; have hfz5_0 := blk_frozen BK371.out 0; have hfz5_1 := blk_frozen BK371.out 1; have hfz5_2 := blk_frozen BK371.out 2; have hfz5_3 := blk_frozen BK371.out 3))
 go_loopg [8, 10] k (fun kq v8 v10 w' => ∃ (x8_1 : Int) (x10_1 : Int), v8 = .int .i64 x8_1 ∧ v10 = .int .i64 x10_1 ∧ Aside0 (spec_Part_Size.l0 kq a1 a2 x8_1 0 x10_1 a0_0 a0_1 a0_2 a0_3 = some (r1, r2)) ∧ Aside0 (kq ≤ k) ∧ Aside0 (w'.heap[gb371]? = some (.cells #[.int .i64 a0_0, .int .i64 a0_1, .int .i64 a0_2, .int .i64 a0_3] 151 (0, 0))) ∧ Aside0 (Below w.heap.size w w'))
 case atStart => exact ⟨(0), (a0_0), (by first | rfl | (simp; done) | (simp [*]; done)), (by first | rfl | (simp; done) | (simp [*]; done)), H', ⟨Nat.le_refl _⟩, ⟨by (with_reducible repeat (first | refine blk_drewN ?_ _ | refine blk_drew ?_ | refine blk_alloc ?_ _)); exact BK371.out⟩, ⟨by repeat (first | (with_reducible first | exact HB.out | apply below_alloc | apply pw_below_drewN | apply below_drew1 | refine below_set ?_ GE371.out) | exact HB.out)⟩⟩
 case round =>
  clear H'
  (try clear p2); (try clear hcz5_0); (try clear hcz5_1); (try clear hcz5_2); (try clear hcz5_3); (try clear hfz5_0); (try clear hfz5_1); (try clear hfz5_2); (try clear hfz5_3)
  obtain ⟨x8_1, x10_1, rfl, rfl, HA, HK1, BK371, HB⟩ := hrel
  cases gk with
  | zero => exact absurd HA.out (by simp [spec_Part_Size.l0])
  | succ k1 =>
   have H := HA.out
   clear HA
   simp only [spec_Part_Size.l0] at H
   by_cases c6 : x10_1 < a1
   ·
    rw [if_pos c6] at H
    have c6b0 : decide (x10_1 < a1) = true := decide_eq_true c6
    clear c6
    have H' := Aside0.mk H
    clear H
    have hcz7_0 : wr.cell? ⟨gb371, 0, none⟩ = some (.int .i64 a0_0) := (blk_cell BK371.out 0).trans rfl
    have hcz7_1 : wr.cell? ⟨gb371, 1, none⟩ = some (.int .i64 a0_1) := (blk_cell BK371.out 1).trans rfl
    have hcz7_2 : wr.cell? ⟨gb371, 2, none⟩ = some (.int .i64 a0_2) := (blk_cell BK371.out 2).trans rfl
    have hcz7_3 : wr.cell? ⟨gb371, 3, none⟩ = some (.int .i64 a0_3) := (blk_cell BK371.out 3).trans rfl
    have hfz7_0 := blk_frozen BK371.out 0
    have hfz7_1 := blk_frozen BK371.out 1
    have hfz7_2 := blk_frozen BK371.out 2
    have hfz7_3 := blk_frozen BK371.out 3
    go_wp2
    go_roundg k1
    case measure => have := HK1.out; omega
    case rel => exact ⟨(wrap64 (x8_1 + 1)), (wrap64 (x10_1 + a0_2)), (by first | rfl | (simp; done) | (simp [*]; done)), (by first | rfl | (simp; done) | (simp [*]; done)), H', ⟨by have := HK1.out; omega⟩, ⟨by (with_reducible repeat (first | refine blk_drewN ?_ _ | refine blk_drew ?_ | refine blk_alloc ?_ _)); exact BK371.out⟩, ⟨by repeat (first | (with_reducible first | exact HB.out | apply below_alloc | apply pw_below_drewN | apply below_drew1 | refine below_set ?_ GE371.out) | exact HB.out)⟩⟩
   ·
    rw [if_neg c6] at H
    have c6b0 : decide (x10_1 < a1) = false := decide_eq_false c6
    clear c6
    have H' := Aside0.mk H
    clear H
    have hcz8_0 : wr.cell? ⟨gb371, 0, none⟩ = some (.int .i64 a0_0) := (blk_cell BK371.out 0).trans rfl
    have hcz8_1 : wr.cell? ⟨gb371, 1, none⟩ = some (.int .i64 a0_1) := (blk_cell BK371.out 1).trans rfl
    have hcz8_2 : wr.cell? ⟨gb371, 2, none⟩ = some (.int .i64 a0_2) := (blk_cell BK371.out 2).trans rfl
    have hcz8_3 : wr.cell? ⟨gb371, 3, none⟩ = some (.int .i64 a0_3) := (blk_cell BK371.out 3).trans rfl
    have hfz8_0 := blk_frozen BK371.out 0
    have hfz8_1 := blk_frozen BK371.out 1
    have hfz8_2 := blk_frozen BK371.out 2
    have hfz8_3 := blk_frozen BK371.out 3
    go_wp2
    go_loopg [9, 11] k1 (fun kq v9 v11 w' => ∃ (x9_2 : Int) (x11_2 : Int), v9 = .int .i64 x9_2 ∧ v11 = .int .i64 x11_2 ∧ Aside0 (spec_Part_Size.l1 kq a2 x8_1 x9_2 x11_2 a0_0 a0_1 a0_2 a0_3 = some (r1, r2)) ∧ Aside0 (kq ≤ k1) ∧ Aside0 (w'.heap[gb371]? = some (.cells #[.int .i64 a0_0, .int .i64 a0_1, .int .i64 a0_2, .int .i64 a0_3] 151 (0, 0))) ∧ Aside0 (Below w.heap.size w w'))
    case atStart => exact ⟨(0), (a0_1), (by first | rfl | (simp; done) | (simp [*]; done)), (by first | rfl | (simp; done) | (simp [*]; done)), H', ⟨Nat.le_refl _⟩, ⟨by (with_reducible repeat (first | refine blk_drewN ?_ _ | refine blk_drew ?_ | refine blk_alloc ?_ _)); exact BK371.out⟩, ⟨by repeat (first | (with_reducible first | exact HB.out | apply below_alloc | apply pw_below_drewN | apply below_drew1 | refine below_set ?_ GE371.out) | exact HB.out)⟩⟩
    case round =>
     clear H'
     (try clear p2); (try clear c6); (try clear c6b0); (try clear p6); (try clear c7); (try clear hcz5_0); (try clear hcz5_1); (try clear hcz5_2); (try clear hcz5_3); (try clear hcz7_0); (try clear hcz7_1); (try clear hcz7_2); (try clear hcz7_3); (try clear hcz8_0); (try clear hcz8_1); (try clear hcz8_2); (try clear hcz8_3); (try clear hfz5_0); (try clear hfz5_1); (try clear hfz5_2); (try clear hfz5_3); (try clear hfz7_0); (try clear hfz7_1); (try clear hfz7_2); (try clear hfz7_3); (try clear hfz8_0); (try clear hfz8_1); (try clear hfz8_2); (try clear hfz8_3); (try clear p2)
     obtain ⟨x9_2, x11_2, rfl, rfl, HA, HK2, BK371, HB⟩ := hrel
     cases gk with
     | zero => exact absurd HA.out (by simp [spec_Part_Size.l1])
     | succ k2 =>
      have H := HA.out
      clear HA
      simp only [spec_Part_Size.l1] at H
      by_cases c9 : x11_2 < a2
      ·
       rw [if_pos c9] at H
       have c9b0 : decide (x11_2 < a2) = true := decide_eq_true c9
       clear c9
       have H' := Aside0.mk H
       clear H
       have hcz10_0 : wr.cell? ⟨gb371, 0, none⟩ = some (.int .i64 a0_0) := (blk_cell BK371.out 0).trans rfl
       have hcz10_1 : wr.cell? ⟨gb371, 1, none⟩ = some (.int .i64 a0_1) := (blk_cell BK371.out 1).trans rfl
       have hcz10_2 : wr.cell? ⟨gb371, 2, none⟩ = some (.int .i64 a0_2) := (blk_cell BK371.out 2).trans rfl
       have hcz10_3 : wr.cell? ⟨gb371, 3, none⟩ = some (.int .i64 a0_3) := (blk_cell BK371.out 3).trans rfl
       have hfz10_0 := blk_frozen BK371.out 0
       have hfz10_1 := blk_frozen BK371.out 1
       have hfz10_2 := blk_frozen BK371.out 2
       have hfz10_3 := blk_frozen BK371.out 3
       go_wp2
       go_roundg k2
       case measure => have := HK1.out; have := HK2.out; omega
       case rel => exact ⟨(wrap64 (x9_2 + 1)), (wrap64 (x11_2 + a0_3)), (by first | rfl | (simp; done) | (simp [*]; done)), (by first | rfl | (simp; done) | (simp [*]; done)), H', ⟨by have := HK1.out; have := HK2.out; omega⟩, ⟨by (with_reducible repeat (first | refine blk_drewN ?_ _ | refine blk_drew ?_ | refine blk_alloc ?_ _)); exact BK371.out⟩, ⟨by repeat (first | (with_reducible first | exact HB.out | apply below_alloc | apply pw_below_drewN | apply below_drew1 | refine below_set ?_ GE371.out) | exact HB.out)⟩⟩
      ·
       rw [if_neg c9] at H
       have c9b0 : decide (x11_2 < a2) = false := decide_eq_false c9
       clear c9
       by_cases c11 : x8_1 = 0
       ·
        rw [if_pos c11] at H
        have c11b0 : (x8_1 == 0) = true := beq_iff_eq.mpr c11
        have c11b1 : (x8_1 != 0) = false := bne_eq_false_iff_eq.mpr c11
        clear c11
        simp only [Option.some.injEq, Prod.mk.injEq] at H
        obtain ⟨rfl, rfl⟩ := H
        go_wp2
        go_ret2
        exact ⟨by first | rfl | (simp <;> rfl) | (simp [*] <;> rfl), by repeat (first | (with_reducible first | exact HB.out | apply below_alloc | apply pw_below_drewN | apply below_drew1 | refine below_set ?_ GE371.out) | exact HB.out)⟩
       ·
        rw [if_neg c11] at H
        have c11b0 : (x8_1 == 0) = false := beq_eq_false_iff_ne.mpr c11
        have c11b1 : (x8_1 != 0) = true := bne_iff_ne.mpr c11
        by_cases c12 : x9_2 = 0
        ·
         rw [if_pos c12] at H
         have c12b0 : (x9_2 == 0) = true := beq_iff_eq.mpr c12
         have c12b1 : (x9_2 != 0) = false := bne_eq_false_iff_eq.mpr c12
         clear c12
         simp only [Option.some.injEq, Prod.mk.injEq] at H
         obtain ⟨rfl, rfl⟩ := H
         go_wp2
         go_ret2
         exact ⟨by first | rfl | (simp <;> rfl) | (simp [*] <;> rfl), by repeat (first | (with_reducible first | exact HB.out | apply below_alloc | apply pw_below_drewN | apply below_drew1 | refine below_set ?_ GE371.out) | exact HB.out)⟩
        ·
         rw [if_neg c12] at H
         have c12b0 : (x9_2 == 0) = false := beq_eq_false_iff_ne.mpr c12
         have c12b1 : (x9_2 != 0) = true := bne_iff_ne.mpr c12
         simp only [Option.some.injEq, Prod.mk.injEq] at H
         obtain ⟨rfl, rfl⟩ := H
         go_wp2
         go_ret2
         exact ⟨by first | rfl | (simp <;> rfl) | (simp [*] <;> rfl), by repeat (first | (with_reducible first | exact HB.out | apply below_alloc | apply pw_below_drewN | apply below_drew1 | refine below_set ?_ GE371.out) | exact HB.out)⟩
def spec_rowBytes.f (a0_0 : Int) (a0_1 : Int) (a0_2 : Int) (a0_3 : Int) (a0_4 : Bool) (a1 : Int) : Option (Int) := (spec_Channels.f a0_3).bind fun t373 => (some (wrap64 (Int.tdiv (wrap64 ((wrap64 ((wrap64 (a1 * t373)) * a0_2)) + 7)) 8)))
set_option maxHeartbeats 8000000 in
theorem spec_rowBytes.calls (a0_0 : Int) (a0_1 : Int) (a0_2 : Int) (a0_3 : Int) (a0_4 : Bool) (a1 : Int) (r : Int) (w : World) (h : spec_rowBytes.f a0_0 a0_1 a0_2 a0_3 a0_4 a1 = some r) :
  Calls Tryz.prog 75 #[.agg #[.int .i64 a0_0, .int .i64 a0_1, .int .i64 a0_2, .int .i64 a0_3, .bool a0_4], .int .i64 a1] w fun e w' => e = .returned (.int .i64 r) ∧ Below w.heap.size w w' := by
 have hu26 := Tryz.underlying26
 have HB := Aside0.mk (Below.refl w.heap.size w)
 have H : ((spec_Channels.f a0_3).bind fun t373 => (some (wrap64 (Int.tdiv (wrap64 ((wrap64 ((wrap64 (a1 * t373)) * a0_2)) + 7)) 8)))) = some r := h
 clear h
 replace H := Option.bind_eq_some_iff.mp H
 obtain ⟨t373, A30, H⟩ := H
 replace H : (some (wrap64 (Int.tdiv (wrap64 ((wrap64 ((wrap64 (a1 * t373)) * a0_2)) + 7)) 8))) = some r := H
 have A3 := Aside0.mk A30
 clear A30
 obtain rfl := Option.some.inj H
 go_enter Tryz.func75, Tryz.ntmps75
 go_wp2_with (first | ((with_reducible refine gate_dst (N := 2) rfl ?_); refine box_event ?hg (N := 2) ?hd (cs := #[.int .i64 a0_0, .int .i64 a0_1, .int .i64 a0_2, .int .i64 a0_3, .bool a0_4]) (t := 26) ?hr ?_; (case hd => rfl); (case hg => rfl); (case hr => first | (go_simp; done) | (go_simp; rfl)); intro gb372 hg w4 hbox hb; have n0_ := Aside0.mk (below_step (by repeat (first | (with_reducible first | exact HB.out | apply below_alloc | apply pw_below_drewN | apply below_drew1) | exact HB.out)) hb); have n1_ := Aside0.mk (hbox); have n2_ := Aside0.mk ((by rw [hg]; exact (below_size (by repeat (first | (with_reducible first | exact HB.out | apply below_alloc | apply pw_below_drewN | apply below_drew1) | exact HB.out))) : w.heap.size ≤ gb372)); have n3_ := Aside0.mk ((by rw [hg]; exact (below_size (by repeat (first | (with_reducible first | exact HB.out | apply below_alloc | apply pw_below_drewN | apply below_drew1) | exact HB.out))) : w.heap.size ≤ gb372)); clear HB; have HB := n0_; have BK372 := n1_; have GW372 := n2_; have GE372 := n3_; clear n0_ n1_ n2_ n3_; clear hb hbox hg; have hcz5_0 : w4.cell? ⟨gb372, 0, none⟩ = some (.int .i64 a0_0) := (blk_cell BK372.out 0).trans rfl; have hcz5_1 : w4.cell? ⟨gb372, 1, none⟩ = some (.int .i64 a0_1) := (blk_cell BK372.out 1).trans rfl; have hcz5_2 : w4.cell? ⟨gb372, 2, none⟩ = some (.int .i64 a0_2) := (blk_cell BK372.out 2).trans rfl; have hcz5_3 : w4.cell? ⟨gb372, 3, none⟩ = some (.int .i64 a0_3) := (blk_cell BK372.out 3).trans rfl; have hcz5_4 : w4.cell? ⟨gb372, 4, none⟩ = some (.bool a0_4) := (blk_cell BK372.out 4).trans rfl; have hfz5_0 := blk_frozen BK372.out 0; have hfz5_1 := blk_frozen BK372.out 1; have hfz5_2 := blk_frozen BK372.out 2; have hfz5_3 := blk_frozen BK372.out 3; have hfz5_4 := blk_frozen BK372.out 4) | (go_at_call 36; (with_reducible refine (spec_Channels.calls a0_3 t373 _ A3.out).mono ?_); rintro e w' ⟨rfl, ⟨nd, rfl⟩⟩; (try first | exact ⟨rfl, _, World.drewN_drewN _ _ _⟩ | exact ⟨rfl, _, Eq.trans (World.drewN_drewN _ _ _) (congrArg (World.drewN _) (Nat.add_assoc _ _ _))⟩)))
 repeat (go_quiet (first | ((with_reducible refine gate_dst (N := 2) rfl ?_); refine box_event ?hg (N := 2) ?hd (cs := #[.int .i64 a0_0, .int .i64 a0_1, .int .i64 a0_2, .int .i64 a0_3, .bool a0_4]) (t := 26) ?hr ?_; (case hd => rfl); (case hg => rfl); (case hr => first | (go_simp; done) | (go_simp; rfl)); intro gb372 hg w4 hbox hb; have n0_ := Aside0.mk (below_step (by repeat (first | (with_reducible first | exact HB.out | apply below_alloc | apply pw_below_drewN | apply below_drew1) | exact HB.out)) hb); have n1_ := Aside0.mk (hbox); have n2_ := Aside0.mk ((by rw [hg]; exact (below_size (by repeat (first | (with_reducible first | exact HB.out | apply below_alloc | apply pw_below_drewN | apply below_drew1) | exact HB.out))) : w.heap.size ≤ gb372)); have n3_ := Aside0.mk ((by rw [hg]; exact (below_size (by repeat (first | (with_reducible first | exact HB.out | apply below_alloc | apply pw_below_drewN | apply below_drew1) | exact HB.out))) : w.heap.size ≤ gb372)); clear HB; have HB := n0_; have BK372 := n1_; have GW372 := n2_; have GE372 := n3_; clear n0_ n1_ n2_ n3_; clear hb hbox hg; have hcz5_0 : w4.cell? ⟨gb372, 0, none⟩ = some (.int .i64 a0_0) := (blk_cell BK372.out 0).trans rfl; have hcz5_1 : w4.cell? ⟨gb372, 1, none⟩ = some (.int .i64 a0_1) := (blk_cell BK372.out 1).trans rfl; have hcz5_2 : w4.cell? ⟨gb372, 2, none⟩ = some (.int .i64 a0_2) := (blk_cell BK372.out 2).trans rfl; have hcz5_3 : w4.cell? ⟨gb372, 3, none⟩ = some (.int .i64 a0_3) := (blk_cell BK372.out 3).trans rfl; have hcz5_4 : w4.cell? ⟨gb372, 4, none⟩ = some (.bool a0_4) := (blk_cell BK372.out 4).trans rfl; have hfz5_0 := blk_frozen BK372.out 0; have hfz5_1 := blk_frozen BK372.out 1; have hfz5_2 := blk_frozen BK372.out 2; have hfz5_3 := blk_frozen BK372.out 3; have hfz5_4 := blk_frozen BK372.out 4) | (go_at_call 36; (with_reducible refine (spec_Channels.calls a0_3 t373 _ A3.out).mono ?_); rintro e w' ⟨rfl, ⟨nd, rfl⟩⟩; (try first | exact ⟨rfl, _, World.drewN_drewN _ _ _⟩ | exact ⟨rfl, _, Eq.trans (World.drewN_drewN _ _ _) (congrArg (World.drewN _) (Nat.add_assoc _ _ _))⟩))); try go_wp2_with (first | ((with_reducible refine gate_dst (N := 2) rfl ?_); refine box_event ?hg (N := 2) ?hd (cs := #[.int .i64 a0_0, .int .i64 a0_1, .int .i64 a0_2, .int .i64 a0_3, .bool a0_4]) (t := 26) ?hr ?_; (case hd => rfl); (case hg => rfl); (case hr => first | (go_simp; done) | (go_simp; rfl)); intro gb372 hg w4 hbox hb; have n0_ := Aside0.mk (below_step (by repeat (first | (with_reducible first | exact HB.out | apply below_alloc | apply pw_below_drewN | apply below_drew1) | exact HB.out)) hb); have n1_ := Aside0.mk (hbox); have n2_ := Aside0.mk ((by rw [hg]; exact (below_size (by repeat (first | (with_reducible first | exact HB.out | apply below_alloc | apply pw_below_drewN | apply below_drew1) | exact HB.out))) : w.heap.size ≤ gb372)); have n3_ := Aside0.mk ((by rw [hg]; exact (below_size (by repeat (first | (with_reducible first | exact HB.out | apply below_alloc | apply pw_below_drewN | apply below_drew1) | exact HB.out))) : w.heap.size ≤ gb372)); clear HB; have HB := n0_; have BK372 := n1_; have GW372 := n2_; have GE372 := n3_; clear n0_ n1_ n2_ n3_; clear hb hbox hg; have hcz5_0 : w4.cell? ⟨gb372, 0, none⟩ = some (.int .i64 a0_0) := (blk_cell BK372.out 0).trans rfl; have hcz5_1 : w4.cell? ⟨gb372, 1, none⟩ = some (.int .i64 a0_1) := (blk_cell BK372.out 1).trans rfl; have hcz5_2 : w4.cell? ⟨gb372, 2, none⟩ = some (.int .i64 a0_2) := (blk_cell BK372.out 2).trans rfl; have hcz5_3 : w4.cell? ⟨gb372, 3, none⟩ = some (.int .i64 a0_3) := (blk_cell BK372.out 3).trans rfl; have hcz5_4 : w4.cell? ⟨gb372, 4, none⟩ = some (.bool a0_4) := (blk_cell BK372.out 4).trans rfl; have hfz5_0 := blk_frozen BK372.out 0; have hfz5_1 := blk_frozen BK372.out 1; have hfz5_2 := blk_frozen BK372.out 2; have hfz5_3 := blk_frozen BK372.out 3; have hfz5_4 := blk_frozen BK372.out 4) | (go_at_call 36; (with_reducible refine (spec_Channels.calls a0_3 t373 _ A3.out).mono ?_); rintro e w' ⟨rfl, ⟨nd, rfl⟩⟩; (try first | exact ⟨rfl, _, World.drewN_drewN _ _ _⟩ | exact ⟨rfl, _, Eq.trans (World.drewN_drewN _ _ _) (congrArg (World.drewN _) (Nat.add_assoc _ _ _))⟩))))
 go_ret
 exact ⟨by first | rfl | (simp <;> rfl) | (simp [*] <;> rfl), by repeat (first | (with_reducible first | exact HB.out | apply below_alloc | apply pw_below_drewN | apply below_drew1 | refine below_set ?_ GE372.out) | exact HB.out)⟩
def spec_PartNeed.f (k : Nat) (a0_0 : Int) (a0_1 : Int) (a0_2 : Int) (a0_3 : Int) (a0_4 : Bool) (a1 : Int) : Option (Int) := (spec_PartOf.f a0_4 a1).bind fun bt375 => ((spec_Part_Size.f k bt375.1 bt375.2.1 bt375.2.2.1 bt375.2.2.2 a0_0 a0_1).bind fun bt379 => ((spec_rowBytes.f a0_0 a0_1 a0_2 a0_3 a0_4 bt379.1).bind fun t381 => (some (wrap64 (bt379.2 * (wrap64 (1 + t381)))))))
def spec_PartNeed.T1 : Bool × List (List Nat × List Nat) := (true, [([], []), ([0], [0]), ([], []), ([1, 2], [1, 2]), ([], []), ([4], [4]), ([], []), ([6], [6]), ([3, 5, 7, 3], [3, 5, 7]), ([8], [8]), ([9], [9]), ([9], [9]), ([10, 8, 0, 1, 2, 3, 4, 5, 6, 7, 8, 9, 10], [10]), ([11, 12, 0, 1, 2, 3, 4, 5, 6, 7, 8, 9, 10, 11, 12], [11])])
def spec_PartNeed.B1 : List Nat := [0, 1, 0, 7, 0, 16, 0, 64, 255, 511, 1023, 1023, 2047, 8191]
theorem spec_PartNeed.tab1 : rtab .any (opsOf Tryz.f104 1) = spec_PartNeed.T1 := by kernel_rfl
theorem spec_PartNeed.bits1 : waitsOk spec_PartNeed.T1.2 spec_PartNeed.B1 = true := by kernel_rfl
set_option maxHeartbeats 8000000 in
theorem spec_PartNeed.calls (k : Nat) (a0_0 : Int) (a0_1 : Int) (a0_2 : Int) (a0_3 : Int) (a0_4 : Bool) (a1 : Int) (r : Int) (w : World) (h : spec_PartNeed.f k a0_0 a0_1 a0_2 a0_3 a0_4 a1 = some r) :
  Calls Tryz.prog 104 #[.agg #[.int .i64 a0_0, .int .i64 a0_1, .int .i64 a0_2, .int .i64 a0_3, .bool a0_4], .int .i64 a1] w fun e w' => e = .returned (.int .i64 r) ∧ Below w.heap.size w w' := by
 have hu26 := Tryz.underlying26
 have HB := Aside0.mk (Below.refl w.heap.size w)
 have H : ((spec_PartOf.f a0_4 a1).bind fun bt375 => ((spec_Part_Size.f k bt375.1 bt375.2.1 bt375.2.2.1 bt375.2.2.2 a0_0 a0_1).bind fun bt379 => ((spec_rowBytes.f a0_0 a0_1 a0_2 a0_3 a0_4 bt379.1).bind fun t381 => (some (wrap64 (bt379.2 * (wrap64 (1 + t381)))))))) = some r := h
 clear h
 replace H := Option.bind_eq_some_iff.mp H
 obtain ⟨⟨t375, t376, t377, t378⟩, A30, H⟩ := H
 replace H : ((spec_Part_Size.f k t375 t376 t377 t378 a0_0 a0_1).bind fun bt379 => ((spec_rowBytes.f a0_0 a0_1 a0_2 a0_3 a0_4 bt379.1).bind fun t381 => (some (wrap64 (bt379.2 * (wrap64 (1 + t381))))))) = some r := H
 have A3 := Aside0.mk A30
 clear A30
 replace H := Option.bind_eq_some_iff.mp H
 obtain ⟨⟨t379, t380⟩, A40, H⟩ := H
 replace H : ((spec_rowBytes.f a0_0 a0_1 a0_2 a0_3 a0_4 t379).bind fun t381 => (some (wrap64 (t380 * (wrap64 (1 + t381)))))) = some r := H
 have A4 := Aside0.mk A40
 clear A40
 replace H := Option.bind_eq_some_iff.mp H
 obtain ⟨t381, A50, H⟩ := H
 replace H : (some (wrap64 (t380 * (wrap64 (1 + t381))))) = some r := H
 have A5 := Aside0.mk A50
 clear A50
 obtain rfl := Option.some.inj H
 go_enter Tryz.func104, Tryz.ntmps104
 try go_wp2_with (first | ((with_reducible refine gate_dst (N := 2) rfl ?_); refine box_event ?hg (N := 2) ?hd (cs := #[.int .i64 a0_0, .int .i64 a0_1, .int .i64 a0_2, .int .i64 a0_3, .bool a0_4]) (t := 26) ?hr ?_; (case hd => rfl); (case hg => rfl); (case hr => first | (go_simp; done) | (go_simp; rfl)); intro gb374 hg w6 hbox hb; have n0_ := Aside0.mk (below_step (by repeat (first | (with_reducible first | exact HB.out | apply below_alloc | apply pw_below_drewN | apply below_drew1) | exact HB.out)) hb); have n1_ := Aside0.mk (hbox); have n2_ := Aside0.mk ((by rw [hg]; exact (below_size (by repeat (first | (with_reducible first | exact HB.out | apply below_alloc | apply pw_below_drewN | apply below_drew1) | exact HB.out))) : w.heap.size ≤ gb374)); have n3_ := Aside0.mk ((by rw [hg]; exact (below_size (by repeat (first | (with_reducible first | exact HB.out | apply below_alloc | apply pw_below_drewN | apply below_drew1) | exact HB.out))) : w.heap.size ≤ gb374)); clear HB; have HB := n0_; have BK374 := n1_; have GW374 := n2_; have GE374 := n3_; clear n0_ n1_ n2_ n3_; clear hb hbox hg))
 have n0_ := Aside0.mk (blk_drew BK374.out)
 have n1_ := Aside0.mk (below_drew1 HB.out)
 clear BK374
 clear HB
 have BK374 := n0_
 have HB := n1_
 clear n0_ n1_
 refine start_ (n := 14) (S := fun w' => w'.cell? ⟨gb374, 0, none⟩ = some (.int .i64 a0_0) ∧ w'.cell? ⟨gb374, 1, none⟩ = some (.int .i64 a0_1) ∧ w'.cell? ⟨gb374, 2, none⟩ = some (.int .i64 a0_2) ∧ w'.cell? ⟨gb374, 3, none⟩ = some (.int .i64 a0_3) ∧ w'.cell? ⟨gb374, 4, none⟩ = some (.bool a0_4)) (ds := []) #[false, false, false, false, false, false, false, false, false, false, false, false, false, false] (by kernel_rfl) rfl rfl ⟨(blk_cell BK374.out 0).trans rfl, (blk_cell BK374.out 1).trans rfl, (blk_cell BK374.out 2).trans rfl, (blk_cell BK374.out 3).trans rfl, (blk_cell BK374.out 4).trans rfl⟩ (fun hHeld => ?_); refine with_tabW spec_PartNeed.tab1 spec_PartNeed.bits1 (fun HT_ HW_ => ?_)
 generalize w6.drew = w7 at BK374 HB hHeld ⊢
 refine pure_ (i := 0) (N := some 8) (v := ?_) (a' := ?_) #[true, false, false, false, false, false, false, false, false, false, false, false, false, false] rfl rfl (any_of HT_.out (by kernel_rfl)) (fun _ _ _ h => h) (Or.inl ⟨by rfl, ?_⟩) ?_ ?_
 rotate_left
 ·
  intro w'
  go_simp
  with_reducible rfl
 rotate_left
 ·
  simp only [Act.put, List.setIfInBounds_toArray, List.set_cons_zero, List.set_cons_succ, i64_w, i32_w]
  rfl
 refine pure_ (i := 2) (N := some 10) (v := ?_) (a' := ?_) #[true, false, true, false, false, false, false, false, false, false, false, false, false, false] rfl rfl (any_of HT_.out (by kernel_rfl)) (fun _ _ _ h => h) (Or.inl ⟨by rfl, ?_⟩) ?_ ?_
 rotate_left
 ·
  intro w'
  go_simp
  with_reducible rfl
 rotate_left
 ·
  simp only [Act.put, List.setIfInBounds_toArray, List.set_cons_zero, List.set_cons_succ, i64_w, i32_w]
  rfl
 refine pure_ (i := 4) (N := some 12) (v := ?_) (a' := ?_) #[true, false, true, false, true, false, false, false, false, false, false, false, false, false] rfl rfl (any_of HT_.out (by kernel_rfl)) (fun _ _ _ h => h) (Or.inl ⟨by rfl, ?_⟩) ?_ ?_
 rotate_left
 ·
  intro w'
  go_simp
  with_reducible rfl
 rotate_left
 ·
  simp only [Act.put, List.setIfInBounds_toArray, List.set_cons_zero, List.set_cons_succ, i64_w, i32_w]
  rfl
 refine pure_ (i := 6) (N := some 14) (v := ?_) (a' := ?_) #[true, false, true, false, true, false, true, false, false, false, false, false, false, false] rfl rfl (any_of HT_.out (by kernel_rfl)) (fun _ _ _ h => h) (Or.inl ⟨by rfl, ?_⟩) ?_ ?_
 rotate_left
 ·
  intro w'
  go_simp
  with_reducible rfl
 rotate_left
 ·
  simp only [Act.put, List.setIfInBounds_toArray, List.set_cons_zero, List.set_cons_succ, i64_w, i32_w]
  rfl
 refine take_ (i := 1) (N := some 9) (v := ?_) (a' := ?_) #[true, true, true, false, true, false, true, false, false, false, false, false, false, false] rfl rfl (take_ofW HT_.out HW_.out (by kernel_rfl)) (fun _ _ _ h => h) (Or.inl ⟨by rfl, ?_⟩) hHeld ?_ ?_
 rotate_left
 ·
  rintro w' ⟨s0, s1, s2, s3, s4⟩
  go_simp
  with_reducible rfl
 rotate_left
 ·
  simp only [Act.put, List.setIfInBounds_toArray, List.set_cons_zero, List.set_cons_succ, i64_w, i32_w]
  rfl
 refine take_ (i := 5) (N := some 13) (v := ?_) (a' := ?_) #[true, true, true, false, true, true, true, false, false, false, false, false, false, false] rfl rfl (take_ofW HT_.out HW_.out (by kernel_rfl)) (fun _ _ _ h => h) (Or.inl ⟨by rfl, ?_⟩) hHeld ?_ ?_
 rotate_left
 ·
  rintro w' ⟨s0, s1, s2, s3, s4⟩
  go_simp
  with_reducible rfl
 rotate_left
 ·
  simp only [Act.put, List.setIfInBounds_toArray, List.set_cons_zero, List.set_cons_succ, i64_w, i32_w]
  rfl
 refine take_ (i := 7) (N := some 15) (v := ?_) (a' := ?_) #[true, true, true, false, true, true, true, true, false, false, false, false, false, false] rfl rfl (take_ofW HT_.out HW_.out (by kernel_rfl)) (fun _ _ _ h => h) (Or.inl ⟨by rfl, ?_⟩) hHeld ?_ ?_
 rotate_left
 ·
  rintro w' ⟨s0, s1, s2, s3, s4⟩
  go_simp
  with_reducible rfl
 rotate_left
 ·
  simp only [Act.put, List.setIfInBounds_toArray, List.set_cons_zero, List.set_cons_succ, i64_w, i32_w]
  rfl
 refine one_ (i := 3) (N := some 11) #[true, true, true, true, true, true, true, true, false, false, false, false, false, false] rfl rfl (one_of HT_.out (by kernel_rfl)) (by decide) (fun K hK => ?_)
 refine goes_ Tryz.func73 (by kernel_rfl) rfl #[.bool a0_4, .int .i64 a1] (by rfl) rfl rfl (by (try simp only [List.map_toArray, List.map_cons, List.map_nil]); first | done | rfl | (simp only [List.length_drop, List.length_take]; rfl)) ?_
 with_reducible refine (spec_PartOf.calls a0_4 a1 t375 t376 t377 t378 _ A3.out).mono ?_
 rintro e w8 ⟨rfl, hb⟩
 refine ⟨_, rfl, ?_⟩
 have n0_ := Aside0.mk (blk_below (g := gb374) (o := .cells #[.int .i64 a0_0, .int .i64 a0_1, .int .i64 a0_2, .int .i64 a0_3, .bool a0_4] 26 (0, 0)) (by (with_reducible repeat (first | refine blk_drewN ?_ _ | refine blk_drew ?_ | refine blk_alloc ?_ _)); exact BK374.out) hb)
 have n1_ := Aside0.mk (below_step (by repeat (first | (with_reducible first | exact HB.out | apply below_alloc | apply pw_below_drewN | apply below_drew1 | refine below_set ?_ GE374.out) | exact HB.out)) hb)
 clear BK374
 clear HB
 have BK374 := n0_
 have HB := n1_
 clear n0_ n1_
 (try clear hb)
 (try clear hb2)
 (try clear hk)
 (try clear hi)
 refine hK.out _ _ ⟨(blk_cell BK374.out 0).trans rfl, (blk_cell BK374.out 1).trans rfl, (blk_cell BK374.out 2).trans rfl, (blk_cell BK374.out 3).trans rfl, (blk_cell BK374.out 4).trans rfl⟩ (fun hHeld => ?_)
 clear hK K
 refine norm_ (a' := ?_) ?_ ?_
 rotate_left
 ·
  show Act.put _ (some 11) _ = _
  simp only [Act.put, List.setIfInBounds_toArray, List.set_cons_zero, List.set_cons_succ, i64_w, i32_w]
  rfl
 refine one_ (i := 8) (N := some 16) #[true, true, true, true, true, true, true, true, true, false, false, false, false, false] rfl rfl (one_of HT_.out (by kernel_rfl)) (by decide) (fun K hK => ?_)
 refine goes_ Tryz.func74 (by kernel_rfl) rfl #[.agg #[.int .i64 t375, .int .i64 t376, .int .i64 t377, .int .i64 t378], .int .i64 a0_0, .int .i64 a0_1] (by rfl) rfl rfl (by (try simp only [List.map_toArray, List.map_cons, List.map_nil]); first | done | rfl | (simp only [List.length_drop, List.length_take]; rfl)) ?_
 with_reducible refine (spec_Part_Size.calls k t375 t376 t377 t378 a0_0 a0_1 t379 t380 _ A4.out).mono ?_
 rintro e w9 ⟨rfl, hb⟩
 refine ⟨_, rfl, ?_⟩
 have n0_ := Aside0.mk (blk_below (g := gb374) (o := .cells #[.int .i64 a0_0, .int .i64 a0_1, .int .i64 a0_2, .int .i64 a0_3, .bool a0_4] 26 (0, 0)) (by (with_reducible repeat (first | refine blk_drewN ?_ _ | refine blk_drew ?_ | refine blk_alloc ?_ _)); exact BK374.out) hb)
 have n1_ := Aside0.mk (below_step (by repeat (first | (with_reducible first | exact HB.out | apply below_alloc | apply pw_below_drewN | apply below_drew1 | refine below_set ?_ GE374.out) | exact HB.out)) hb)
 clear BK374
 clear HB
 have BK374 := n0_
 have HB := n1_
 clear n0_ n1_
 (try clear hb)
 (try clear hb2)
 (try clear hk)
 (try clear hi)
 refine hK.out _ _ ⟨(blk_cell BK374.out 0).trans rfl, (blk_cell BK374.out 1).trans rfl, (blk_cell BK374.out 2).trans rfl, (blk_cell BK374.out 3).trans rfl, (blk_cell BK374.out 4).trans rfl⟩ (fun hHeld => ?_)
 clear hK K
 refine norm_ (a' := ?_) ?_ ?_
 rotate_left
 ·
  show Act.put _ (some 16) _ = _
  simp only [Act.put, List.setIfInBounds_toArray, List.set_cons_zero, List.set_cons_succ, i64_w, i32_w]
  rfl
 refine pure_ (i := 9) (N := some 7) (v := ?_) (a' := ?_) #[true, true, true, true, true, true, true, true, true, true, false, false, false, false] rfl rfl (any_of HT_.out (by kernel_rfl)) (fun _ _ _ h => h) (Or.inl ⟨by rfl, ?_⟩) ?_ ?_
 rotate_left
 ·
  intro w'
  go_simp
  with_reducible rfl
 rotate_left
 ·
  simp only [Act.put, List.setIfInBounds_toArray, List.set_cons_zero, List.set_cons_succ, i64_w, i32_w]
  rfl
 refine pure_ (i := 10) (N := some 17) (v := ?_) (a' := ?_) #[true, true, true, true, true, true, true, true, true, true, true, false, false, false] rfl rfl (any_of HT_.out (by kernel_rfl)) (fun _ _ _ h => h) (Or.inl ⟨by rfl, ?_⟩) ?_ ?_
 rotate_left
 ·
  intro w'
  go_simp
  with_reducible rfl
 rotate_left
 ·
  simp only [Act.put, List.setIfInBounds_toArray, List.set_cons_zero, List.set_cons_succ, i64_w, i32_w]
  rfl
 refine pure_ (i := 11) (N := some 18) (v := ?_) (a' := ?_) #[true, true, true, true, true, true, true, true, true, true, true, true, false, false] rfl rfl (any_of HT_.out (by kernel_rfl)) (fun _ _ _ h => h) (Or.inl ⟨by rfl, ?_⟩) ?_ ?_
 rotate_left
 ·
  intro w'
  go_simp
  with_reducible rfl
 rotate_left
 ·
  simp only [Act.put, List.setIfInBounds_toArray, List.set_cons_zero, List.set_cons_succ, i64_w, i32_w]
  rfl
 refine pure_ (i := 12) (N := some 5) (v := ?_) (a' := ?_) #[true, true, true, true, true, true, true, true, true, true, true, true, true, false] rfl rfl (any_of HT_.out (by kernel_rfl)) (fun _ _ _ h => h) (Or.inl ⟨by rfl, ?_⟩) ?_ ?_
 rotate_left
 ·
  intro w'
  go_simp
  with_reducible rfl
 rotate_left
 ·
  simp only [Act.put, List.setIfInBounds_toArray, List.set_cons_zero, List.set_cons_succ, i64_w, i32_w]
  rfl
 refine pure_ (i := 13) (N := some 6) (v := ?_) (a' := ?_) #[true, true, true, true, true, true, true, true, true, true, true, true, true, true] rfl rfl (any_of HT_.out (by kernel_rfl)) (fun _ _ _ h => h) (Or.inl ⟨by rfl, ?_⟩) ?_ ?_
 rotate_left
 ·
  intro w'
  go_simp
  with_reducible rfl
 rotate_left
 ·
  simp only [Act.put, List.setIfInBounds_toArray, List.set_cons_zero, List.set_cons_succ, i64_w, i32_w]
  rfl
 refine done_ (done_of HT_.out (by kernel_rfl)) ?_
 have hcz10_0 : w9.cell? ⟨gb374, 0, none⟩ = some (.int .i64 a0_0) := (blk_cell BK374.out 0).trans rfl
 have hcz10_1 : w9.cell? ⟨gb374, 1, none⟩ = some (.int .i64 a0_1) := (blk_cell BK374.out 1).trans rfl
 have hcz10_2 : w9.cell? ⟨gb374, 2, none⟩ = some (.int .i64 a0_2) := (blk_cell BK374.out 2).trans rfl
 have hcz10_3 : w9.cell? ⟨gb374, 3, none⟩ = some (.int .i64 a0_3) := (blk_cell BK374.out 3).trans rfl
 have hcz10_4 : w9.cell? ⟨gb374, 4, none⟩ = some (.bool a0_4) := (blk_cell BK374.out 4).trans rfl
 have hfz10_0 := blk_frozen BK374.out 0
 have hfz10_1 := blk_frozen BK374.out 1
 have hfz10_2 := blk_frozen BK374.out 2
 have hfz10_3 := blk_frozen BK374.out 3
 have hfz10_4 := blk_frozen BK374.out 4
 try go_wp2_with (first | ((with_reducible refine gate_callee (f := 75) rfl ?_); refine goesL_ (some 22) rfl rfl Tryz.func75 (by kernel_rfl) rfl #[.agg #[.int .i64 a0_0, .int .i64 a0_1, .int .i64 a0_2, .int .i64 a0_3, .bool a0_4], .int .i64 t379] rfl (by (try simp only [List.map_toArray, List.map_cons, List.map_nil]); first | done | rfl | (simp only [List.length_drop, List.length_take]; rfl)) ?_; (with_reducible refine (spec_rowBytes.calls a0_0 a0_1 a0_2 a0_3 a0_4 t379 t381 _ A5.out).mono ?_); rintro e w11 ⟨rfl, hb⟩; refine ⟨_, rfl, ?_⟩; have n0_ := Aside0.mk (blk_below (g := gb374) (o := .cells #[.int .i64 a0_0, .int .i64 a0_1, .int .i64 a0_2, .int .i64 a0_3, .bool a0_4] 26 (0, 0)) (by (with_reducible repeat (first | refine blk_drewN ?_ _ | refine blk_drew ?_ | refine blk_alloc ?_ _)); exact BK374.out) hb); have n1_ := Aside0.mk (below_step (by repeat (first | (with_reducible first | exact HB.out | apply below_alloc | apply pw_below_drewN | apply below_drew1 | refine below_set ?_ GE374.out) | exact HB.out)) hb); clear BK374; clear HB; have BK374 := n0_; have HB := n1_; clear n0_ n1_; (try clear hb); (try clear hb2); (try clear hk); (try clear hi)))
 go_ret
 exact ⟨by first | rfl | (simp <;> rfl) | (simp [*] <;> rfl), by repeat (first | (with_reducible first | exact HB.out | apply below_alloc | apply pw_below_drewN | apply below_drew1 | refine below_set ?_ GE374.out) | exact HB.out)⟩
def spec_Need.l0 : Nat → Int → Int → Int → Int → Int → Int → Int → Bool → Option (Int)
 | 0, _, _, _, _, _, _, _, _ => none
 | k + 1, x3, x7, x8, x383000, x383001, x383002, x383003, x383004 => if x8 < x7 then ((spec_PartNeed.f k x383000 x383001 x383002 x383003 x383004 x8).bind fun t384 => (spec_Need.l0 k (wrap64 (x3 + t384)) x7 (wrap64 (x8 + 1)) x383000 x383001 x383002 x383003 x383004)) else (some x3)
def spec_Need.f (k : Nat) (a0_0 : Int) (a0_1 : Int) (a0_2 : Int) (a0_3 : Int) (a0_4 : Bool) : Option (Int) := (spec_passes.f a0_4).bind fun t383 => (spec_Need.l0 k 0 t383 0 a0_0 a0_1 a0_2 a0_3 a0_4)
set_option maxHeartbeats 8000000 in
theorem spec_Need.calls (k : Nat) (a0_0 : Int) (a0_1 : Int) (a0_2 : Int) (a0_3 : Int) (a0_4 : Bool) (r : Int) (w : World) (h : spec_Need.f k a0_0 a0_1 a0_2 a0_3 a0_4 = some r) :
  Calls Tryz.prog 81 #[.agg #[.int .i64 a0_0, .int .i64 a0_1, .int .i64 a0_2, .int .i64 a0_3, .bool a0_4]] w fun e w' => e = .returned (.int .i64 r) ∧ Below w.heap.size w w' := by
 have hu26 := Tryz.underlying26
 have HB := Aside0.mk (Below.refl w.heap.size w)
 have H : ((spec_passes.f a0_4).bind fun t383 => (spec_Need.l0 k 0 t383 0 a0_0 a0_1 a0_2 a0_3 a0_4)) = some r := h
 clear h
 replace H := Option.bind_eq_some_iff.mp H
 obtain ⟨t383, A20, H⟩ := H
 replace H : (spec_Need.l0 k 0 t383 0 a0_0 a0_1 a0_2 a0_3 a0_4) = some r := H
 have A2 := Aside0.mk A20
 clear A20
 have H' := Aside0.mk H
 clear H
 go_enter Tryz.func81, Tryz.ntmps81
 go_wp2_with (first | ((with_reducible refine gate_dst (N := 1) rfl ?_); refine box_event ?hg (N := 1) ?hd (cs := #[.int .i64 a0_0, .int .i64 a0_1, .int .i64 a0_2, .int .i64 a0_3, .bool a0_4]) (t := 26) ?hr ?_; (case hd => rfl); (case hg => rfl); (case hr => first | (go_simp; done) | (go_simp; rfl)); intro gb382 hg w3 hbox hb; have n0_ := Aside0.mk (below_step (by repeat (first | (with_reducible first | exact HB.out | apply below_alloc | apply pw_below_drewN | apply below_drew1) | exact HB.out)) hb); have n1_ := Aside0.mk (hbox); have n2_ := Aside0.mk ((by rw [hg]; exact (below_size (by repeat (first | (with_reducible first | exact HB.out | apply below_alloc | apply pw_below_drewN | apply below_drew1) | exact HB.out))) : w.heap.size ≤ gb382)); have n3_ := Aside0.mk ((by rw [hg]; exact (below_size (by repeat (first | (with_reducible first | exact HB.out | apply below_alloc | apply pw_below_drewN | apply below_drew1) | exact HB.out))) : w.heap.size ≤ gb382)); clear HB; have HB := n0_; have BK382 := n1_; have GW382 := n2_; have GE382 := n3_; clear n0_ n1_ n2_ n3_; clear hb hbox hg; have hcz4_0 : w3.cell? ⟨gb382, 0, none⟩ = some (.int .i64 a0_0) := (blk_cell BK382.out 0).trans rfl; have hcz4_1 : w3.cell? ⟨gb382, 1, none⟩ = some (.int .i64 a0_1) := (blk_cell BK382.out 1).trans rfl; have hcz4_2 : w3.cell? ⟨gb382, 2, none⟩ = some (.int .i64 a0_2) := (blk_cell BK382.out 2).trans rfl; have hcz4_3 : w3.cell? ⟨gb382, 3, none⟩ = some (.int .i64 a0_3) := (blk_cell BK382.out 3).trans rfl; have hcz4_4 : w3.cell? ⟨gb382, 4, none⟩ = some (.bool a0_4) := (blk_cell BK382.out 4).trans rfl; have hfz4_0 := blk_frozen BK382.out 0; have hfz4_1 := blk_frozen BK382.out 1; have hfz4_2 := blk_frozen BK382.out 2; have hfz4_3 := blk_frozen BK382.out 3; have hfz4_4 := blk_frozen BK382.out 4) | ((with_reducible refine gate_callee (f := 72) rfl ?_); refine goesL_ (some 7) rfl rfl Tryz.func72 (by kernel_rfl) rfl #[.bool a0_4] rfl (by (try simp only [List.map_toArray, List.map_cons, List.map_nil]); first | done | rfl | (simp only [List.length_drop, List.length_take]; rfl)) ?_; (with_reducible refine (spec_passes.calls a0_4 t383 _ A2.out).mono ?_); rintro e w' ⟨rfl, ⟨nd, rfl⟩⟩; refine ⟨_, rfl, ?_⟩))
 go_loopg [3, 8] k (fun kq v3 v8 w' => ∃ (x3_1 : Int) (x8_1 : Int), v3 = .int .i64 x3_1 ∧ v8 = .int .i64 x8_1 ∧ Aside0 (spec_Need.l0 kq x3_1 t383 x8_1 a0_0 a0_1 a0_2 a0_3 a0_4 = some r) ∧ Aside0 (kq ≤ k) ∧ Aside0 (w'.heap[gb382]? = some (.cells #[.int .i64 a0_0, .int .i64 a0_1, .int .i64 a0_2, .int .i64 a0_3, .bool a0_4] 26 (0, 0))) ∧ Aside0 (Below w.heap.size w w'))
 case atStart => exact ⟨(0), (0), (by first | rfl | (simp; done) | (simp [*]; done)), (by first | rfl | (simp; done) | (simp [*]; done)), H', ⟨Nat.le_refl _⟩, ⟨by (with_reducible repeat (first | refine blk_drewN ?_ _ | refine blk_drew ?_ | refine blk_alloc ?_ _)); exact BK382.out⟩, ⟨by repeat (first | (with_reducible first | exact HB.out | apply below_alloc | apply pw_below_drewN | apply below_drew1 | refine below_set ?_ GE382.out) | exact HB.out)⟩⟩
 case round =>
  clear H'
  (try clear p2); (try clear hcz4_0); (try clear hcz4_1); (try clear hcz4_2); (try clear hcz4_3); (try clear hcz4_4); (try clear hfz4_0); (try clear hfz4_1); (try clear hfz4_2); (try clear hfz4_3); (try clear hfz4_4)
  obtain ⟨x3_1, x8_1, rfl, rfl, HA, HK1, BK382, HB⟩ := hrel
  cases gk with
  | zero => exact absurd HA.out (by simp [spec_Need.l0])
  | succ k1 =>
   have H := HA.out
   clear HA
   simp only [spec_Need.l0] at H
   by_cases c5 : x8_1 < t383
   ·
    rw [if_pos c5] at H
    have c5b0 : decide (x8_1 < t383) = true := decide_eq_true c5
    clear c5
    replace H := Option.bind_eq_some_iff.mp H
    obtain ⟨t384, A60, H⟩ := H
    replace H : (spec_Need.l0 k1 (wrap64 (x3_1 + t384)) t383 (wrap64 (x8_1 + 1)) a0_0 a0_1 a0_2 a0_3 a0_4) = some r := H
    have A6 := Aside0.mk A60
    clear A60
    have H' := Aside0.mk H
    clear H
    have hcz7_0 : wr.cell? ⟨gb382, 0, none⟩ = some (.int .i64 a0_0) := (blk_cell BK382.out 0).trans rfl
    have hcz7_1 : wr.cell? ⟨gb382, 1, none⟩ = some (.int .i64 a0_1) := (blk_cell BK382.out 1).trans rfl
    have hcz7_2 : wr.cell? ⟨gb382, 2, none⟩ = some (.int .i64 a0_2) := (blk_cell BK382.out 2).trans rfl
    have hcz7_3 : wr.cell? ⟨gb382, 3, none⟩ = some (.int .i64 a0_3) := (blk_cell BK382.out 3).trans rfl
    have hcz7_4 : wr.cell? ⟨gb382, 4, none⟩ = some (.bool a0_4) := (blk_cell BK382.out 4).trans rfl
    have hfz7_0 := blk_frozen BK382.out 0
    have hfz7_1 := blk_frozen BK382.out 1
    have hfz7_2 := blk_frozen BK382.out 2
    have hfz7_3 := blk_frozen BK382.out 3
    have hfz7_4 := blk_frozen BK382.out 4
    go_wp2_with (first | ((with_reducible refine gate_callee (f := 104) rfl ?_); refine goesL_ (some 14) rfl rfl Tryz.func104 (by kernel_rfl) rfl #[.agg #[.int .i64 a0_0, .int .i64 a0_1, .int .i64 a0_2, .int .i64 a0_3, .bool a0_4], .int .i64 x8_1] rfl (by (try simp only [List.map_toArray, List.map_cons, List.map_nil]); first | done | rfl | (simp only [List.length_drop, List.length_take]; rfl)) ?_; (with_reducible refine (spec_PartNeed.calls k1 a0_0 a0_1 a0_2 a0_3 a0_4 x8_1 t384 _ A6.out).mono ?_); rintro e w8 ⟨rfl, hb⟩; refine ⟨_, rfl, ?_⟩; have n0_ := Aside0.mk (blk_below (g := gb382) (o := .cells #[.int .i64 a0_0, .int .i64 a0_1, .int .i64 a0_2, .int .i64 a0_3, .bool a0_4] 26 (0, 0)) (by (with_reducible repeat (first | refine blk_drewN ?_ _ | refine blk_drew ?_ | refine blk_alloc ?_ _)); exact BK382.out) hb); have n1_ := Aside0.mk (below_step (by repeat (first | (with_reducible first | exact HB.out | apply below_alloc | apply pw_below_drewN | apply below_drew1 | refine below_set ?_ GE382.out) | exact HB.out)) hb); clear BK382; clear HB; have BK382 := n0_; have HB := n1_; clear n0_ n1_; (try clear hb); (try clear hb2); (try clear hk); (try clear hi)))
    go_roundg k1
    case measure => have := HK1.out; omega
    case rel => exact ⟨(wrap64 (x3_1 + t384)), (wrap64 (x8_1 + 1)), (by first | rfl | (simp; done) | (simp [*]; done)), (by first | rfl | (simp; done) | (simp [*]; done)), H', ⟨by have := HK1.out; omega⟩, ⟨by (with_reducible repeat (first | refine blk_drewN ?_ _ | refine blk_drew ?_ | refine blk_alloc ?_ _)); exact BK382.out⟩, ⟨by repeat (first | (with_reducible first | exact HB.out | apply below_alloc | apply pw_below_drewN | apply below_drew1 | refine below_set ?_ GE382.out) | exact HB.out)⟩⟩
   ·
    rw [if_neg c5] at H
    have c5b0 : decide (x8_1 < t383) = false := decide_eq_false c5
    clear c5
    obtain rfl := Option.some.inj H
    go_wp2
    go_ret
    exact ⟨by first | rfl | (simp <;> rfl) | (simp [*] <;> rfl), by repeat (first | (with_reducible first | exact HB.out | apply below_alloc | apply pw_below_drewN | apply below_drew1 | refine below_set ?_ GE382.out) | exact HB.out)⟩
def spec_step.f (a0_0 : Int) (a0_1 : Int) (a0_2 : Int) (a0_3 : Int) (a0_4 : Bool) : Option (Int) := (spec_Channels.f a0_3).bind fun t386 => (some (mx 1 (wrap64 (Int.tdiv (wrap64 (t386 * a0_2)) 8))))
set_option maxHeartbeats 8000000 in
theorem spec_step.calls (a0_0 : Int) (a0_1 : Int) (a0_2 : Int) (a0_3 : Int) (a0_4 : Bool) (r : Int) (w : World) (h : spec_step.f a0_0 a0_1 a0_2 a0_3 a0_4 = some r) :
  Calls Tryz.prog 78 #[.agg #[.int .i64 a0_0, .int .i64 a0_1, .int .i64 a0_2, .int .i64 a0_3, .bool a0_4]] w fun e w' => e = .returned (.int .i64 r) ∧ Below w.heap.size w w' := by
 have hu26 := Tryz.underlying26
 have HB := Aside0.mk (Below.refl w.heap.size w)
 have H : ((spec_Channels.f a0_3).bind fun t386 => (some (mx 1 (wrap64 (Int.tdiv (wrap64 (t386 * a0_2)) 8))))) = some r := h
 clear h
 replace H := Option.bind_eq_some_iff.mp H
 obtain ⟨t386, A20, H⟩ := H
 replace H : (some (mx 1 (wrap64 (Int.tdiv (wrap64 (t386 * a0_2)) 8)))) = some r := H
 have A2 := Aside0.mk A20
 clear A20
 obtain ⟨ji3, hji3⟩ : ∃ j_ : Int, (mx 1 (wrap64 (Int.tdiv (wrap64 (t386 * a0_2)) 8))) = j_ := ⟨_, rfl⟩
 replace H : (some ji3) = some r := by first | (rw [hji3] at H; exact H) | (simp only [hji3] at H ⊢; exact H)
 (try rw [hji3] at A2)
 (try (have hji3l : 1 ≤ ji3 := by (rw [← hji3]; unfold mx; (repeat' split) <;> omega)))
 (try (have hji3m : 0 ≤ ji3 := by omega))
 have hji3_ : (if 1 < (wrap64 (Int.tdiv (wrap64 (t386 * a0_2)) 8)) then (wrap64 (Int.tdiv (wrap64 (t386 * a0_2)) 8)) else 1) = ji3 := hji3
 obtain rfl := Option.some.inj H
 go_enter Tryz.func78, Tryz.ntmps78
 go_wp2_with (first | ((with_reducible refine gate_dst (N := 1) rfl ?_); refine box_event ?hg (N := 1) ?hd (cs := #[.int .i64 a0_0, .int .i64 a0_1, .int .i64 a0_2, .int .i64 a0_3, .bool a0_4]) (t := 26) ?hr ?_; (case hd => rfl); (case hg => rfl); (case hr => first | (go_simp; done) | (go_simp; rfl)); intro gb385 hg w4 hbox hb; have n0_ := Aside0.mk (below_step (by repeat (first | (with_reducible first | exact HB.out | apply below_alloc | apply pw_below_drewN | apply below_drew1) | exact HB.out)) hb); have n1_ := Aside0.mk (hbox); have n2_ := Aside0.mk ((by rw [hg]; exact (below_size (by repeat (first | (with_reducible first | exact HB.out | apply below_alloc | apply pw_below_drewN | apply below_drew1) | exact HB.out))) : w.heap.size ≤ gb385)); have n3_ := Aside0.mk ((by rw [hg]; exact (below_size (by repeat (first | (with_reducible first | exact HB.out | apply below_alloc | apply pw_below_drewN | apply below_drew1) | exact HB.out))) : w.heap.size ≤ gb385)); clear HB; have HB := n0_; have BK385 := n1_; have GW385 := n2_; have GE385 := n3_; clear n0_ n1_ n2_ n3_; clear hb hbox hg; have hcz5_0 : w4.cell? ⟨gb385, 0, none⟩ = some (.int .i64 a0_0) := (blk_cell BK385.out 0).trans rfl; have hcz5_1 : w4.cell? ⟨gb385, 1, none⟩ = some (.int .i64 a0_1) := (blk_cell BK385.out 1).trans rfl; have hcz5_2 : w4.cell? ⟨gb385, 2, none⟩ = some (.int .i64 a0_2) := (blk_cell BK385.out 2).trans rfl; have hcz5_3 : w4.cell? ⟨gb385, 3, none⟩ = some (.int .i64 a0_3) := (blk_cell BK385.out 3).trans rfl; have hcz5_4 : w4.cell? ⟨gb385, 4, none⟩ = some (.bool a0_4) := (blk_cell BK385.out 4).trans rfl; have hfz5_0 := blk_frozen BK385.out 0; have hfz5_1 := blk_frozen BK385.out 1; have hfz5_2 := blk_frozen BK385.out 2; have hfz5_3 := blk_frozen BK385.out 3; have hfz5_4 := blk_frozen BK385.out 4) | (go_at_call 36; (with_reducible refine (spec_Channels.calls a0_3 t386 _ A2.out).mono ?_); rintro e w' ⟨rfl, ⟨nd, rfl⟩⟩; (try first | exact ⟨rfl, _, World.drewN_drewN _ _ _⟩ | exact ⟨rfl, _, Eq.trans (World.drewN_drewN _ _ _) (congrArg (World.drewN _) (Nat.add_assoc _ _ _))⟩)))
 repeat (go_quiet (first | ((with_reducible refine gate_dst (N := 1) rfl ?_); refine box_event ?hg (N := 1) ?hd (cs := #[.int .i64 a0_0, .int .i64 a0_1, .int .i64 a0_2, .int .i64 a0_3, .bool a0_4]) (t := 26) ?hr ?_; (case hd => rfl); (case hg => rfl); (case hr => first | (go_simp; done) | (go_simp; rfl)); intro gb385 hg w4 hbox hb; have n0_ := Aside0.mk (below_step (by repeat (first | (with_reducible first | exact HB.out | apply below_alloc | apply pw_below_drewN | apply below_drew1) | exact HB.out)) hb); have n1_ := Aside0.mk (hbox); have n2_ := Aside0.mk ((by rw [hg]; exact (below_size (by repeat (first | (with_reducible first | exact HB.out | apply below_alloc | apply pw_below_drewN | apply below_drew1) | exact HB.out))) : w.heap.size ≤ gb385)); have n3_ := Aside0.mk ((by rw [hg]; exact (below_size (by repeat (first | (with_reducible first | exact HB.out | apply below_alloc | apply pw_below_drewN | apply below_drew1) | exact HB.out))) : w.heap.size ≤ gb385)); clear HB; have HB := n0_; have BK385 := n1_; have GW385 := n2_; have GE385 := n3_; clear n0_ n1_ n2_ n3_; clear hb hbox hg; have hcz5_0 : w4.cell? ⟨gb385, 0, none⟩ = some (.int .i64 a0_0) := (blk_cell BK385.out 0).trans rfl; have hcz5_1 : w4.cell? ⟨gb385, 1, none⟩ = some (.int .i64 a0_1) := (blk_cell BK385.out 1).trans rfl; have hcz5_2 : w4.cell? ⟨gb385, 2, none⟩ = some (.int .i64 a0_2) := (blk_cell BK385.out 2).trans rfl; have hcz5_3 : w4.cell? ⟨gb385, 3, none⟩ = some (.int .i64 a0_3) := (blk_cell BK385.out 3).trans rfl; have hcz5_4 : w4.cell? ⟨gb385, 4, none⟩ = some (.bool a0_4) := (blk_cell BK385.out 4).trans rfl; have hfz5_0 := blk_frozen BK385.out 0; have hfz5_1 := blk_frozen BK385.out 1; have hfz5_2 := blk_frozen BK385.out 2; have hfz5_3 := blk_frozen BK385.out 3; have hfz5_4 := blk_frozen BK385.out 4) | (go_at_call 36; (with_reducible refine (spec_Channels.calls a0_3 t386 _ A2.out).mono ?_); rintro e w' ⟨rfl, ⟨nd, rfl⟩⟩; (try first | exact ⟨rfl, _, World.drewN_drewN _ _ _⟩ | exact ⟨rfl, _, Eq.trans (World.drewN_drewN _ _ _) (congrArg (World.drewN _) (Nat.add_assoc _ _ _))⟩))); try go_wp2_with (first | ((with_reducible refine gate_dst (N := 1) rfl ?_); refine box_event ?hg (N := 1) ?hd (cs := #[.int .i64 a0_0, .int .i64 a0_1, .int .i64 a0_2, .int .i64 a0_3, .bool a0_4]) (t := 26) ?hr ?_; (case hd => rfl); (case hg => rfl); (case hr => first | (go_simp; done) | (go_simp; rfl)); intro gb385 hg w4 hbox hb; have n0_ := Aside0.mk (below_step (by repeat (first | (with_reducible first | exact HB.out | apply below_alloc | apply pw_below_drewN | apply below_drew1) | exact HB.out)) hb); have n1_ := Aside0.mk (hbox); have n2_ := Aside0.mk ((by rw [hg]; exact (below_size (by repeat (first | (with_reducible first | exact HB.out | apply below_alloc | apply pw_below_drewN | apply below_drew1) | exact HB.out))) : w.heap.size ≤ gb385)); have n3_ := Aside0.mk ((by rw [hg]; exact (below_size (by repeat (first | (with_reducible first | exact HB.out | apply below_alloc | apply pw_below_drewN | apply below_drew1) | exact HB.out))) : w.heap.size ≤ gb385)); clear HB; have HB := n0_; have BK385 := n1_; have GW385 := n2_; have GE385 := n3_; clear n0_ n1_ n2_ n3_; clear hb hbox hg; have hcz5_0 : w4.cell? ⟨gb385, 0, none⟩ = some (.int .i64 a0_0) := (blk_cell BK385.out 0).trans rfl; have hcz5_1 : w4.cell? ⟨gb385, 1, none⟩ = some (.int .i64 a0_1) := (blk_cell BK385.out 1).trans rfl; have hcz5_2 : w4.cell? ⟨gb385, 2, none⟩ = some (.int .i64 a0_2) := (blk_cell BK385.out 2).trans rfl; have hcz5_3 : w4.cell? ⟨gb385, 3, none⟩ = some (.int .i64 a0_3) := (blk_cell BK385.out 3).trans rfl; have hcz5_4 : w4.cell? ⟨gb385, 4, none⟩ = some (.bool a0_4) := (blk_cell BK385.out 4).trans rfl; have hfz5_0 := blk_frozen BK385.out 0; have hfz5_1 := blk_frozen BK385.out 1; have hfz5_2 := blk_frozen BK385.out 2; have hfz5_3 := blk_frozen BK385.out 3; have hfz5_4 := blk_frozen BK385.out 4) | (go_at_call 36; (with_reducible refine (spec_Channels.calls a0_3 t386 _ A2.out).mono ?_); rintro e w' ⟨rfl, ⟨nd, rfl⟩⟩; (try first | exact ⟨rfl, _, World.drewN_drewN _ _ _⟩ | exact ⟨rfl, _, Eq.trans (World.drewN_drewN _ _ _) (congrArg (World.drewN _) (Nat.add_assoc _ _ _))⟩))))
 go_ret
 exact ⟨by first | rfl | (simp <;> rfl) | (simp only [← hji3]; first | rfl | (simp <;> rfl)) | (simp [*] <;> rfl), by repeat (first | (with_reducible first | exact HB.out | apply below_alloc | apply pw_below_drewN | apply below_drew1 | refine below_set ?_ GE385.out) | exact HB.out)⟩
def spec_distance.f (a0 : Int) (a1 : Int) : Option (Int) := some (mx (wrap64 (a0 - a1)) (wrap64 (a1 - a0)))
set_option maxHeartbeats 8000000 in
theorem spec_distance.calls (a0 : Int) (a1 : Int) (r : Int) (w : World) (h : spec_distance.f a0 a1 = some r) :
  Calls Tryz.prog 127 #[.int .i64 a0, .int .i64 a1] w fun e w' => e = .returned (.int .i64 r) ∧ Below w.heap.size w w' := by
 have HB := Aside0.mk (Below.refl w.heap.size w)
 have H : (some (mx (wrap64 (a0 - a1)) (wrap64 (a1 - a0)))) = some r := h
 clear h
 obtain ⟨ji3, hji3⟩ : ∃ j_ : Int, (mx (wrap64 (a0 - a1)) (wrap64 (a1 - a0))) = j_ := ⟨_, rfl⟩
 replace H : (some ji3) = some r := by first | (rw [hji3] at H; exact H) | (simp only [hji3] at H ⊢; exact H)
 have hji3_ : (if (wrap64 (a0 - a1)) < (wrap64 (a1 - a0)) then (wrap64 (a1 - a0)) else (wrap64 (a0 - a1))) = ji3 := hji3
 obtain rfl := Option.some.inj H
 go_enter Tryz.func127, Tryz.ntmps127
 go_wp2
 go_ret
 exact ⟨by first | rfl | (simp <;> rfl) | (simp only [← hji3]; first | rfl | (simp <;> rfl)) | (simp [*] <;> rfl), by repeat (first | (with_reducible first | exact HB.out | apply below_alloc | apply pw_below_drewN | apply below_drew1) | exact HB.out)⟩
def spec_Paeth.j0 : Nat → Int → Int → Int → Int → Bool → Option (Int)
 | 0, _, _, _, _, _ => none
 | k + 1, x0, x1, x2, x7, x13 => if x13 = true then (some x0) else ((spec_distance.f x7 x1).bind fun t391 => ((spec_distance.f x7 x2).bind fun t392 => (if t391 ≤ t392 then (some x1) else (some x2))))
def spec_Paeth.f (k : Nat) (a0 : Int) (a1 : Int) (a2 : Int) : Option (Int) := (spec_distance.f (wrap64 ((wrap64 (a0 + a1)) - a2)) a0).bind fun t387 => ((spec_distance.f (wrap64 ((wrap64 (a0 + a1)) - a2)) a1).bind fun t388 => (if t387 ≤ t388 then ((spec_distance.f (wrap64 ((wrap64 (a0 + a1)) - a2)) a0).bind fun t389 => ((spec_distance.f (wrap64 ((wrap64 (a0 + a1)) - a2)) a2).bind fun t390 => (spec_Paeth.j0 k a0 a1 a2 (wrap64 ((wrap64 (a0 + a1)) - a2)) (decide (t389 ≤ t390))))) else (spec_Paeth.j0 k a0 a1 a2 (wrap64 ((wrap64 (a0 + a1)) - a2)) false)))
set_option maxHeartbeats 8000000 in
theorem spec_Paeth.calls (k : Nat) (a0 : Int) (a1 : Int) (a2 : Int) (r : Int) (w : World) (h : spec_Paeth.f k a0 a1 a2 = some r) :
  Calls Tryz.prog 115 #[.int .i64 a0, .int .i64 a1, .int .i64 a2] w fun e w' => e = .returned (.int .i64 r) ∧ Below w.heap.size w w' := by
 have HB := Aside0.mk (Below.refl w.heap.size w)
 have H : ((spec_distance.f (wrap64 ((wrap64 (a0 + a1)) - a2)) a0).bind fun t387 => ((spec_distance.f (wrap64 ((wrap64 (a0 + a1)) - a2)) a1).bind fun t388 => (if t387 ≤ t388 then ((spec_distance.f (wrap64 ((wrap64 (a0 + a1)) - a2)) a0).bind fun t389 => ((spec_distance.f (wrap64 ((wrap64 (a0 + a1)) - a2)) a2).bind fun t390 => (spec_Paeth.j0 k a0 a1 a2 (wrap64 ((wrap64 (a0 + a1)) - a2)) (decide (t389 ≤ t390))))) else (spec_Paeth.j0 k a0 a1 a2 (wrap64 ((wrap64 (a0 + a1)) - a2)) false)))) = some r := h
 clear h
 have HC4 := Aside0.mk H
 clear H
 go_enter Tryz.func115, Tryz.ntmps115
 go_upto_region 2 with (fail)
 go_cut [13] (fun v13 wc => ∃ (kq : Nat) (x13_3 : Bool), v13 = .bool x13_3 ∧ Aside0 (spec_Paeth.j0 kq a0 a1 a2 (wrap64 ((wrap64 (a0 + a1)) - a2)) x13_3 = some r) ∧ Aside0 (kq ≤ k) ∧ Aside0 (Below w.heap.size w wc))
 case first =>
  have H := HC4.out
  clear HC4
  replace H := Option.bind_eq_some_iff.mp H
  obtain ⟨t387, A50, H⟩ := H
  replace H : ((spec_distance.f (wrap64 ((wrap64 (a0 + a1)) - a2)) a1).bind fun t388 => (if t387 ≤ t388 then ((spec_distance.f (wrap64 ((wrap64 (a0 + a1)) - a2)) a0).bind fun t389 => ((spec_distance.f (wrap64 ((wrap64 (a0 + a1)) - a2)) a2).bind fun t390 => (spec_Paeth.j0 k a0 a1 a2 (wrap64 ((wrap64 (a0 + a1)) - a2)) (decide (t389 ≤ t390))))) else (spec_Paeth.j0 k a0 a1 a2 (wrap64 ((wrap64 (a0 + a1)) - a2)) false))) = some r := H
  have A5 := Aside0.mk A50
  clear A50
  replace H := Option.bind_eq_some_iff.mp H
  obtain ⟨t388, A60, H⟩ := H
  replace H : (if t387 ≤ t388 then ((spec_distance.f (wrap64 ((wrap64 (a0 + a1)) - a2)) a0).bind fun t389 => ((spec_distance.f (wrap64 ((wrap64 (a0 + a1)) - a2)) a2).bind fun t390 => (spec_Paeth.j0 k a0 a1 a2 (wrap64 ((wrap64 (a0 + a1)) - a2)) (decide (t389 ≤ t390))))) else (spec_Paeth.j0 k a0 a1 a2 (wrap64 ((wrap64 (a0 + a1)) - a2)) false)) = some r := H
  have A6 := Aside0.mk A60
  clear A60
  by_cases c7 : t387 ≤ t388
  ·
   rw [if_pos c7] at H
   have c7b0 : decide (t387 ≤ t388) = true := decide_eq_true c7
   clear c7
   (first | rw [c7b0] | (simp only [i64_w, i32_w]; rw [c7b0]) | skip)
   replace H := Option.bind_eq_some_iff.mp H
   obtain ⟨t389, A80, H⟩ := H
   replace H : ((spec_distance.f (wrap64 ((wrap64 (a0 + a1)) - a2)) a2).bind fun t390 => (spec_Paeth.j0 k a0 a1 a2 (wrap64 ((wrap64 (a0 + a1)) - a2)) (decide (t389 ≤ t390)))) = some r := H
   have A8 := Aside0.mk A80
   clear A80
   replace H := Option.bind_eq_some_iff.mp H
   obtain ⟨t390, A90, H⟩ := H
   replace H : (spec_Paeth.j0 k a0 a1 a2 (wrap64 ((wrap64 (a0 + a1)) - a2)) (decide (t389 ≤ t390))) = some r := H
   have A9 := Aside0.mk A90
   clear A90
   have H' := Aside0.mk H
   clear H
   go_wp2_with (first | ((with_reducible refine gate_callee (f := 127) rfl ?_); refine goesL_ (some 16) rfl rfl Tryz.func127 (by kernel_rfl) rfl #[.int .i64 (wrap64 ((wrap64 (a0 + a1)) - a2)), .int .i64 a0] rfl (by (try simp only [List.map_toArray, List.map_cons, List.map_nil]); first | done | rfl | (simp only [List.length_drop, List.length_take]; rfl)) ?_; (with_reducible refine (spec_distance.calls (wrap64 ((wrap64 (a0 + a1)) - a2)) a0 t387 _ A5.out).mono ?_); rintro e w10 ⟨rfl, hb⟩; refine ⟨_, rfl, ?_⟩; have n0_ := Aside0.mk (below_step (by repeat (first | (with_reducible first | exact HB.out | apply below_alloc | apply pw_below_drewN | apply below_drew1) | exact HB.out)) hb); clear HB; have HB := n0_; clear n0_; (try clear hb); (try clear hb2); (try clear hk); (try clear hi)) | ((with_reducible refine gate_callee (f := 127) rfl ?_); refine goesL_ (some 19) rfl rfl Tryz.func127 (by kernel_rfl) rfl #[.int .i64 (wrap64 ((wrap64 (a0 + a1)) - a2)), .int .i64 a1] rfl (by (try simp only [List.map_toArray, List.map_cons, List.map_nil]); first | done | rfl | (simp only [List.length_drop, List.length_take]; rfl)) ?_; (with_reducible refine (spec_distance.calls (wrap64 ((wrap64 (a0 + a1)) - a2)) a1 t388 _ A6.out).mono ?_); rintro e w11 ⟨rfl, hb⟩; refine ⟨_, rfl, ?_⟩; have n0_ := Aside0.mk (below_step (by repeat (first | (with_reducible first | exact HB.out | apply below_alloc | apply pw_below_drewN | apply below_drew1) | exact HB.out)) hb); clear HB; have HB := n0_; clear n0_; (try clear hb); (try clear hb2); (try clear hk); (try clear hi)) | (go_at_call 127; (with_reducible refine (spec_distance.calls (wrap64 ((wrap64 (a0 + a1)) - a2)) a0 t389 _ A8.out).mono ?_); rintro e w12 ⟨rfl, hb⟩; have n0_ := Aside0.mk (below_step (by repeat (first | (with_reducible first | exact HB.out | apply below_alloc | apply pw_below_drewN | apply below_drew1) | exact HB.out)) hb); clear HB; have HB := n0_; clear n0_; (try clear hb); (try clear hb2); (try clear hk); (try clear hi)) | (go_at_call 127; (with_reducible refine (spec_distance.calls (wrap64 ((wrap64 (a0 + a1)) - a2)) a2 t390 _ A9.out).mono ?_); rintro e w13 ⟨rfl, hb⟩; have n0_ := Aside0.mk (below_step (by repeat (first | (with_reducible first | exact HB.out | apply below_alloc | apply pw_below_drewN | apply below_drew1) | exact HB.out)) hb); clear HB; have HB := n0_; clear n0_; (try clear hb); (try clear hb2); (try clear hk); (try clear hi)))
   go_meet
   case rel => exact ⟨_, (decide (t389 ≤ t390)), (by first | rfl | (simp; done) | (simp [*]; done)), H', ⟨by first | omega | exact Nat.le_refl _⟩, ⟨by repeat (first | (with_reducible first | exact HB.out | apply below_alloc | apply pw_below_drewN | apply below_drew1) | exact HB.out)⟩⟩
  ·
   rw [if_neg c7] at H
   have c7b0 : decide (t387 ≤ t388) = false := decide_eq_false c7
   clear c7
   (first | rw [c7b0] | (simp only [i64_w, i32_w]; rw [c7b0]) | skip)
   have H' := Aside0.mk H
   clear H
   go_wp2_with (first | ((with_reducible refine gate_callee (f := 127) rfl ?_); refine goesL_ (some 16) rfl rfl Tryz.func127 (by kernel_rfl) rfl #[.int .i64 (wrap64 ((wrap64 (a0 + a1)) - a2)), .int .i64 a0] rfl (by (try simp only [List.map_toArray, List.map_cons, List.map_nil]); first | done | rfl | (simp only [List.length_drop, List.length_take]; rfl)) ?_; (with_reducible refine (spec_distance.calls (wrap64 ((wrap64 (a0 + a1)) - a2)) a0 t387 _ A5.out).mono ?_); rintro e w14 ⟨rfl, hb⟩; refine ⟨_, rfl, ?_⟩; have n0_ := Aside0.mk (below_step (by repeat (first | (with_reducible first | exact HB.out | apply below_alloc | apply pw_below_drewN | apply below_drew1) | exact HB.out)) hb); clear HB; have HB := n0_; clear n0_; (try clear hb); (try clear hb2); (try clear hk); (try clear hi)) | ((with_reducible refine gate_callee (f := 127) rfl ?_); refine goesL_ (some 19) rfl rfl Tryz.func127 (by kernel_rfl) rfl #[.int .i64 (wrap64 ((wrap64 (a0 + a1)) - a2)), .int .i64 a1] rfl (by (try simp only [List.map_toArray, List.map_cons, List.map_nil]); first | done | rfl | (simp only [List.length_drop, List.length_take]; rfl)) ?_; (with_reducible refine (spec_distance.calls (wrap64 ((wrap64 (a0 + a1)) - a2)) a1 t388 _ A6.out).mono ?_); rintro e w15 ⟨rfl, hb⟩; refine ⟨_, rfl, ?_⟩; have n0_ := Aside0.mk (below_step (by repeat (first | (with_reducible first | exact HB.out | apply below_alloc | apply pw_below_drewN | apply below_drew1) | exact HB.out)) hb); clear HB; have HB := n0_; clear n0_; (try clear hb); (try clear hb2); (try clear hk); (try clear hi)))
   go_meet
   case rel => exact ⟨_, (false), (by first | rfl | (simp; done) | (simp [*]; done)), H', ⟨by first | omega | exact Nat.le_refl _⟩, ⟨by repeat (first | (with_reducible first | exact HB.out | apply below_alloc | apply pw_below_drewN | apply below_drew1) | exact HB.out)⟩⟩
 case rest =>
  clear HC4
  (try clear c1); (try clear p2); (try clear p6); (try clear c7); (try clear c7b0); (try clear c11); (try clear c12)
  obtain ⟨kq, x13_3, rfl, HA, HJ3, HB⟩ := hcut
  cases kq with
  | zero => exact absurd HA.out (by simp [spec_Paeth.j0])
  | succ kj3 =>
   have H := HA.out
   clear HA
   simp only [spec_Paeth.j0] at H
   by_cases c16 : x13_3 = true
   ·
    subst c16
    have H1 : (some a0) = some r := by rw [if_pos rfl] at H; exact H
    clear H
    have H := H1
    clear H1
    obtain rfl := Option.some.inj H
    go_wp2
    go_ret
    exact ⟨by first | rfl | (simp <;> rfl) | (simp [*] <;> rfl), by repeat (first | (with_reducible first | exact HB.out | apply below_alloc | apply pw_below_drewN | apply below_drew1) | exact HB.out)⟩
   ·
    replace c16 := Bool.eq_false_iff.mpr c16
    subst c16
    have H1 : ((spec_distance.f (wrap64 ((wrap64 (a0 + a1)) - a2)) a1).bind fun t391 => ((spec_distance.f (wrap64 ((wrap64 (a0 + a1)) - a2)) a2).bind fun t392 => (if t391 ≤ t392 then (some a1) else (some a2)))) = some r := by rw [if_neg (show ¬ (false = true) by decide)] at H; exact H
    clear H
    have H := H1
    clear H1
    replace H := Option.bind_eq_some_iff.mp H
    obtain ⟨t391, A170, H⟩ := H
    replace H : ((spec_distance.f (wrap64 ((wrap64 (a0 + a1)) - a2)) a2).bind fun t392 => (if t391 ≤ t392 then (some a1) else (some a2))) = some r := H
    have A17 := Aside0.mk A170
    clear A170
    replace H := Option.bind_eq_some_iff.mp H
    obtain ⟨t392, A180, H⟩ := H
    replace H : (if t391 ≤ t392 then (some a1) else (some a2)) = some r := H
    have A18 := Aside0.mk A180
    clear A180
    by_cases c19 : t391 ≤ t392
    ·
     rw [if_pos c19] at H
     have c19b0 : decide (t391 ≤ t392) = true := decide_eq_true c19
     clear c19
     obtain rfl := Option.some.inj H
     go_wp2_with (first | ((with_reducible refine gate_callee (f := 127) rfl ?_); refine goesL_ (some 34) rfl rfl Tryz.func127 (by kernel_rfl) rfl #[.int .i64 (wrap64 ((wrap64 (a0 + a1)) - a2)), .int .i64 a1] rfl (by (try simp only [List.map_toArray, List.map_cons, List.map_nil]); first | done | rfl | (simp only [List.length_drop, List.length_take]; rfl)) ?_; (with_reducible refine (spec_distance.calls (wrap64 ((wrap64 (a0 + a1)) - a2)) a1 t391 _ A17.out).mono ?_); rintro e w20 ⟨rfl, hb⟩; refine ⟨_, rfl, ?_⟩; have n0_ := Aside0.mk (below_step (by repeat (first | (with_reducible first | exact HB.out | apply below_alloc | apply pw_below_drewN | apply below_drew1) | exact HB.out)) hb); clear HB; have HB := n0_; clear n0_; (try clear hb); (try clear hb2); (try clear hk); (try clear hi)) | ((with_reducible refine gate_callee (f := 127) rfl ?_); refine goesL_ (some 37) rfl rfl Tryz.func127 (by kernel_rfl) rfl #[.int .i64 (wrap64 ((wrap64 (a0 + a1)) - a2)), .int .i64 a2] rfl (by (try simp only [List.map_toArray, List.map_cons, List.map_nil]); first | done | rfl | (simp only [List.length_drop, List.length_take]; rfl)) ?_; (with_reducible refine (spec_distance.calls (wrap64 ((wrap64 (a0 + a1)) - a2)) a2 t392 _ A18.out).mono ?_); rintro e w21 ⟨rfl, hb⟩; refine ⟨_, rfl, ?_⟩; have n0_ := Aside0.mk (below_step (by repeat (first | (with_reducible first | exact HB.out | apply below_alloc | apply pw_below_drewN | apply below_drew1) | exact HB.out)) hb); clear HB; have HB := n0_; clear n0_; (try clear hb); (try clear hb2); (try clear hk); (try clear hi)))
     go_ret
     exact ⟨by first | rfl | (simp <;> rfl) | (simp [*] <;> rfl), by repeat (first | (with_reducible first | exact HB.out | apply below_alloc | apply pw_below_drewN | apply below_drew1) | exact HB.out)⟩
    ·
     rw [if_neg c19] at H
     have c19b0 : decide (t391 ≤ t392) = false := decide_eq_false c19
     clear c19
     obtain rfl := Option.some.inj H
     go_wp2_with (first | ((with_reducible refine gate_callee (f := 127) rfl ?_); refine goesL_ (some 34) rfl rfl Tryz.func127 (by kernel_rfl) rfl #[.int .i64 (wrap64 ((wrap64 (a0 + a1)) - a2)), .int .i64 a1] rfl (by (try simp only [List.map_toArray, List.map_cons, List.map_nil]); first | done | rfl | (simp only [List.length_drop, List.length_take]; rfl)) ?_; (with_reducible refine (spec_distance.calls (wrap64 ((wrap64 (a0 + a1)) - a2)) a1 t391 _ A17.out).mono ?_); rintro e w22 ⟨rfl, hb⟩; refine ⟨_, rfl, ?_⟩; have n0_ := Aside0.mk (below_step (by repeat (first | (with_reducible first | exact HB.out | apply below_alloc | apply pw_below_drewN | apply below_drew1) | exact HB.out)) hb); clear HB; have HB := n0_; clear n0_; (try clear hb); (try clear hb2); (try clear hk); (try clear hi)) | ((with_reducible refine gate_callee (f := 127) rfl ?_); refine goesL_ (some 37) rfl rfl Tryz.func127 (by kernel_rfl) rfl #[.int .i64 (wrap64 ((wrap64 (a0 + a1)) - a2)), .int .i64 a2] rfl (by (try simp only [List.map_toArray, List.map_cons, List.map_nil]); first | done | rfl | (simp only [List.length_drop, List.length_take]; rfl)) ?_; (with_reducible refine (spec_distance.calls (wrap64 ((wrap64 (a0 + a1)) - a2)) a2 t392 _ A18.out).mono ?_); rintro e w23 ⟨rfl, hb⟩; refine ⟨_, rfl, ?_⟩; have n0_ := Aside0.mk (below_step (by repeat (first | (with_reducible first | exact HB.out | apply below_alloc | apply pw_below_drewN | apply below_drew1) | exact HB.out)) hb); clear HB; have HB := n0_; clear n0_; (try clear hb); (try clear hb2); (try clear hk); (try clear hi)))
     go_ret
     exact ⟨by first | rfl | (simp <;> rfl) | (simp [*] <;> rfl), by repeat (first | (with_reducible first | exact HB.out | apply below_alloc | apply pw_below_drewN | apply below_drew1) | exact HB.out)⟩
end Go.Proofs.YtnpkgmgedgcjmaaGreatDoor.Pr
end
section
namespace Go.Proofs.YtnpkgmgedgcjmaaGreatDoor.Pr
open Go.RowKit Go.Proofs.YtnpkgmgedgcjmaaGreatDoorW.PrintWords Go.Proofs.YtnpkgmgedgcjmaaGreatDoorW.PrintLast Go.Proofs.YtnpkgmgedgcjmaaGreatDoorW.PrintMore
attribute [local go_sem] max2_int max_two
def spec_predicted.j0 : Nat → Int → Int → Int → Int → Option (Int)
 | 0, _, _, _, _ => none
 | k + 1, x0, x11, x12, x13 => if x0 = 1 then (some x11) else (if x0 = 2 then (some x12) else (if x0 = 3 then (some (wrap64 (Int.tdiv (wrap64 (x11 + x12)) 2))) else (if x0 = 4 then ((spec_Paeth.f k x11 x12 x13).bind fun t396 => (some t396)) else (some 0))))
def spec_predicted.f (k : Nat) (a0 : Int) (l1 : List Int) (l2 : List Int) (a3 : Int) (a4 : Int) : Option (Int) := if 0 ≤ a3 then (if a3 < (l2.length : Int) then (if a3 ≥ a4 then (if 0 ≤ (wrap64 (a3 - a4)) then (if (wrap64 (a3 - a4)) < (l1.length : Int) then (if (wrap64 (a3 - a4)) < (l2.length : Int) then (spec_predicted.j0 k a0 (wrap64 (rd l1 (wrap64 (a3 - a4)))) (wrap64 (rd l2 a3)) (wrap64 (rd l2 (wrap64 (a3 - a4))))) else (none)) else (none)) else (none)) else (spec_predicted.j0 k a0 0 (wrap64 (rd l2 a3)) 0)) else (none)) else (none)
set_option maxHeartbeats 8000000 in
theorem spec_predicted.calls (k : Nat) (a0 : Int) (A1 : Option Addr) (c1 : Nat) (l1 : List Int) (A2 : Option Addr) (c2 : Nat) (l2 : List Int) (a3 : Int) (a4 : Int) (r : Int) (w : World) (hr1 : Kd.C (Kd.int .u8) w A1 l1.length l1) (hc1 : l1.length ≤ c1) (hr2 : Kd.C (Kd.int .u8) w A2 l2.length l2) (hc2 : l2.length ≤ c2) (h : spec_predicted.f k a0 l1 l2 a3 a4 = some r) :
  Calls Tryz.prog 102 #[.int .i64 a0, .slice A1 l1.length c1, .slice A2 l2.length c2, .int .i64 a3, .int .i64 a4] w fun e w' => e = .returned (.int .i64 r) ∧ Below w.heap.size w w' := by
 have HR1 := Aside0.mk hr1
 have HC1 := Aside0.mk hc1
 clear hr1 hc1
 have HR2 := Aside0.mk hr2
 have HC2 := Aside0.mk hc2
 clear hr2 hc2
 have HB := Aside0.mk (Below.refl w.heap.size w)
 have H : (if 0 ≤ a3 then (if a3 < (l2.length : Int) then (if a3 ≥ a4 then (if 0 ≤ (wrap64 (a3 - a4)) then (if (wrap64 (a3 - a4)) < (l1.length : Int) then (if (wrap64 (a3 - a4)) < (l2.length : Int) then (spec_predicted.j0 k a0 (wrap64 (rd l1 (wrap64 (a3 - a4)))) (wrap64 (rd l2 a3)) (wrap64 (rd l2 (wrap64 (a3 - a4))))) else (none)) else (none)) else (none)) else (spec_predicted.j0 k a0 0 (wrap64 (rd l2 a3)) 0)) else (none)) else (none)) = some r := h
 clear h
 by_cases c6 : 0 ≤ a3
 ·
  rw [if_pos c6] at H
  have c6b0 : decide (0 ≤ a3) = true := decide_eq_true c6
  clear c6
  by_cases c7 : a3 < (l2.length : Int)
  ·
   rw [if_pos c7] at H
   have c7b0 : decide (a3 < (l2.length : Int)) = true := decide_eq_true c7
   clear c7
   have HC8 := Aside0.mk H
   clear H
   have p393 : 0 ≤ (a3 : Int) := of_decide_eq_true (by first | (with_reducible assumption) | assumption)
   have q393 : a3 < (l2.length : Int) := of_decide_eq_true (by first | (with_reducible assumption) | assumption)
   obtain ⟨ad393, e393, hx393_0⟩ := Kd.at_int HR2.out a3 p393 q393
   cases e393
   replace p393 := eq_true p393
   replace q393 := eq_true q393
   go_enter Tryz.func102, Tryz.ntmps102
   go_upto_if 21 with (fail)
   repeat (go_quiet (fail); go_upto_if 21 with (fail))
   go_cut [11, 13] (fun v11 v13 wc => ∃ (kq : Nat) (x11_7 : Int) (x13_7 : Int), v11 = .int .i64 x11_7 ∧ v13 = .int .i64 x13_7 ∧ Aside0 (spec_predicted.j0 kq a0 x11_7 (wrap64 (rd l2 a3)) x13_7 = some r) ∧ Aside0 (kq ≤ k) ∧ Aside0 (Below w.heap.size w wc))
   case first =>
    have H := HC8.out
    clear HC8
    by_cases c9 : a3 ≥ a4
    ·
     rw [if_pos c9] at H
     have c9b0 : decide (a4 ≤ a3) = true := decide_eq_true c9
     clear c9
     (first | rw [c9b0] | (simp only [i64_w, i32_w]; rw [c9b0]) | skip)
     obtain ⟨ji10, hji10⟩ : ∃ j_ : Int, (wrap64 (a3 - a4)) = j_ := ⟨_, rfl⟩
     replace H : (if 0 ≤ (ji10) then (if (ji10) < (l1.length : Int) then (if (ji10) < (l2.length : Int) then (spec_predicted.j0 k a0 (wrap64 (rd l1 (ji10))) (wrap64 (rd l2 a3)) (wrap64 (rd l2 (ji10)))) else (none)) else (none)) else (none)) = some r := by first | (rw [hji10] at H; exact H) | (simp only [hji10] at H ⊢; exact H)
     have hji10w : (IntKind.i64.wrap (a3 - a4)) = ji10 := (i64_w _).trans hji10
     by_cases c11 : 0 ≤ (ji10)
     ·
      rw [if_pos c11] at H
      have c11b0 : decide (0 ≤ (ji10)) = true := decide_eq_true c11
      clear c11
      by_cases c12 : (ji10) < (l1.length : Int)
      ·
       rw [if_pos c12] at H
       have c12b0 : decide ((ji10) < (l1.length : Int)) = true := decide_eq_true c12
       clear c12
       by_cases c13 : (ji10) < (l2.length : Int)
       ·
        rw [if_pos c13] at H
        have c13b0 : decide ((ji10) < (l2.length : Int)) = true := decide_eq_true c13
        clear c13
        have H' := Aside0.mk H
        clear H
        have p394 : 0 ≤ ((ji10) : Int) := of_decide_eq_true (by first | (with_reducible assumption) | assumption)
        have q394 : (ji10) < (l1.length : Int) := of_decide_eq_true (by first | (with_reducible assumption) | assumption)
        obtain ⟨ad394, e394, hx394_0⟩ := Kd.at_int HR1.out (ji10) p394 q394
        cases e394
        replace hx394_0 := (HB.out.cell (World.block_lt_of_cell? w _ hx394_0)).trans hx394_0
        replace p394 := eq_true p394
        replace q394 := eq_true q394
        have p395 : 0 ≤ ((ji10) : Int) := of_decide_eq_true (by first | (with_reducible assumption) | assumption)
        have q395 : (ji10) < (l2.length : Int) := of_decide_eq_true (by first | (with_reducible assumption) | assumption)
        obtain ⟨ad395, e395, hx395_0⟩ := Kd.at_int HR2.out (ji10) p395 q395
        obtain rfl : ad393 = ad395 := (by injection e395)
        replace hx395_0 := (HB.out.cell (World.block_lt_of_cell? w _ hx395_0)).trans hx395_0
        replace p395 := eq_true p395
        replace q395 := eq_true q395
        go_wp2
        repeat (go_quiet (fail); try go_wp2)
        go_meet
        case rel => exact ⟨_, (wrap64 (rd l1 (ji10))), (wrap64 (rd l2 (ji10))), (by first | rfl | (simp; done) | (simp only [← hji10] <;> (first | rfl | simp)) | (simp [*]; done)), (by first | rfl | (simp; done) | (simp only [← hji10] <;> (first | rfl | simp)) | (simp [*]; done)), H', ⟨by first | omega | exact Nat.le_refl _⟩, ⟨by repeat (first | (with_reducible first | exact HB.out | apply below_alloc | apply pw_below_drewN | apply below_drew1) | exact HB.out)⟩⟩
       ·
        rw [if_neg c13] at H
        exact absurd H (by simp)
      ·
       rw [if_neg c12] at H
       exact absurd H (by simp)
     ·
      rw [if_neg c11] at H
      exact absurd H (by simp)
    ·
     rw [if_neg c9] at H
     have c9b0 : decide (a4 ≤ a3) = false := decide_eq_false c9
     clear c9
     (first | rw [c9b0] | (simp only [i64_w, i32_w]; rw [c9b0]) | skip)
     have H' := Aside0.mk H
     clear H
     go_wp2
     repeat (go_quiet (fail); try go_wp2)
     go_meet
     case rel => exact ⟨_, (0), (0), (by first | rfl | (simp; done) | (simp [*]; done)), (by first | rfl | (simp; done) | (simp [*]; done)), H', ⟨by first | omega | exact Nat.le_refl _⟩, ⟨by repeat (first | (with_reducible first | exact HB.out | apply below_alloc | apply pw_below_drewN | apply below_drew1) | exact HB.out)⟩⟩
   case rest =>
    clear HC8
    (try clear c1); (try clear c2); (try clear p2); (try clear p3); (try clear q3); (try clear hx3); (try clear c6); (try clear c6b0); (try clear p6); (try clear c7); (try clear c7b0); (try clear c9); (try clear c9b0); (try clear c10); (try clear c11); (try clear c11b0); (try clear c12); (try clear c12b0); (try clear c13); (try clear c13b0); (try clear hx393_0); (try clear hx394_0); (try clear hx395_0); (try clear p393); (try clear p394); (try clear p395); (try clear q393); (try clear q394); (try clear q395)
    obtain ⟨kq, x11_7, x13_7, rfl, rfl, HA, HJ7, HB⟩ := hcut
    cases kq with
    | zero => exact absurd HA.out (by simp [spec_predicted.j0])
    | succ kj7 =>
     have H := HA.out
     clear HA
     simp only [spec_predicted.j0] at H
     by_cases c14 : a0 = 1
     ·
      rw [if_pos c14] at H
      have c14b0 : (a0 == 1) = true := beq_iff_eq.mpr c14
      have c14b1 : (a0 != 1) = false := bne_eq_false_iff_eq.mpr c14
      clear c14
      obtain rfl := Option.some.inj H
      go_wp2
      repeat (go_quiet (fail); try go_wp2)
      go_ret
      exact ⟨by first | rfl | (simp <;> rfl) | (simp [*] <;> rfl), by repeat (first | (with_reducible first | exact HB.out | apply below_alloc | apply pw_below_drewN | apply below_drew1) | exact HB.out)⟩
     ·
      rw [if_neg c14] at H
      have c14b0 : (a0 == 1) = false := beq_eq_false_iff_ne.mpr c14
      have c14b1 : (a0 != 1) = true := bne_iff_ne.mpr c14
      by_cases c15 : a0 = 2
      ·
       rw [if_pos c15] at H
       have c15b0 : (a0 == 2) = true := beq_iff_eq.mpr c15
       have c15b1 : (a0 != 2) = false := bne_eq_false_iff_eq.mpr c15
       clear c15
       obtain rfl := Option.some.inj H
       go_wp2
       repeat (go_quiet (fail); try go_wp2)
       go_ret
       exact ⟨by first | rfl | (simp <;> rfl) | (simp [*] <;> rfl), by repeat (first | (with_reducible first | exact HB.out | apply below_alloc | apply pw_below_drewN | apply below_drew1) | exact HB.out)⟩
      ·
       rw [if_neg c15] at H
       have c15b0 : (a0 == 2) = false := beq_eq_false_iff_ne.mpr c15
       have c15b1 : (a0 != 2) = true := bne_iff_ne.mpr c15
       by_cases c16 : a0 = 3
       ·
        rw [if_pos c16] at H
        have c16b0 : (a0 == 3) = true := beq_iff_eq.mpr c16
        have c16b1 : (a0 != 3) = false := bne_eq_false_iff_eq.mpr c16
        clear c16
        obtain rfl := Option.some.inj H
        go_wp2
        repeat (go_quiet (fail); try go_wp2)
        go_ret
        exact ⟨by first | rfl | (simp <;> rfl) | (simp [*] <;> rfl), by repeat (first | (with_reducible first | exact HB.out | apply below_alloc | apply pw_below_drewN | apply below_drew1) | exact HB.out)⟩
       ·
        rw [if_neg c16] at H
        have c16b0 : (a0 == 3) = false := beq_eq_false_iff_ne.mpr c16
        have c16b1 : (a0 != 3) = true := bne_iff_ne.mpr c16
        by_cases c17 : a0 = 4
        ·
         rw [if_pos c17] at H
         have c17b0 : (a0 == 4) = true := beq_iff_eq.mpr c17
         have c17b1 : (a0 != 4) = false := bne_eq_false_iff_eq.mpr c17
         clear c17
         replace H := Option.bind_eq_some_iff.mp H
         obtain ⟨t396, A180, H⟩ := H
         replace H : (some t396) = some r := H
         have A18 := Aside0.mk A180
         clear A180
         obtain rfl := Option.some.inj H
         go_wp2_with (first | (go_at_call 115; (with_reducible refine (spec_Paeth.calls kj7 x11_7 (wrap64 (rd l2 a3)) x13_7 t396 _ A18.out).mono ?_); rintro e w19 ⟨rfl, hb⟩; have n0_ := Aside0.mk (below_step (by repeat (first | (with_reducible first | exact HB.out | apply below_alloc | apply pw_below_drewN | apply below_drew1) | exact HB.out)) hb); clear HB; have HB := n0_; clear n0_; (try clear hb); (try clear hb2); (try clear hk); (try clear hi)))
         repeat (go_quiet (first | (go_at_call 115; (with_reducible refine (spec_Paeth.calls kj7 x11_7 (wrap64 (rd l2 a3)) x13_7 t396 _ A18.out).mono ?_); rintro e w19 ⟨rfl, hb⟩; have n0_ := Aside0.mk (below_step (by repeat (first | (with_reducible first | exact HB.out | apply below_alloc | apply pw_below_drewN | apply below_drew1) | exact HB.out)) hb); clear HB; have HB := n0_; clear n0_; (try clear hb); (try clear hb2); (try clear hk); (try clear hi))); try go_wp2_with (first | (go_at_call 115; (with_reducible refine (spec_Paeth.calls kj7 x11_7 (wrap64 (rd l2 a3)) x13_7 t396 _ A18.out).mono ?_); rintro e w19 ⟨rfl, hb⟩; have n0_ := Aside0.mk (below_step (by repeat (first | (with_reducible first | exact HB.out | apply below_alloc | apply pw_below_drewN | apply below_drew1) | exact HB.out)) hb); clear HB; have HB := n0_; clear n0_; (try clear hb); (try clear hb2); (try clear hk); (try clear hi))))
         go_ret
         exact ⟨by first | rfl | (simp <;> rfl) | (simp [*] <;> rfl), by repeat (first | (with_reducible first | exact HB.out | apply below_alloc | apply pw_below_drewN | apply below_drew1) | exact HB.out)⟩
        ·
         rw [if_neg c17] at H
         have c17b0 : (a0 == 4) = false := beq_eq_false_iff_ne.mpr c17
         have c17b1 : (a0 != 4) = true := bne_iff_ne.mpr c17
         obtain rfl := Option.some.inj H
         go_wp2
         repeat (go_quiet (fail); try go_wp2)
         go_ret
         exact ⟨by first | rfl | (simp <;> rfl) | (simp [*] <;> rfl), by repeat (first | (with_reducible first | exact HB.out | apply below_alloc | apply pw_below_drewN | apply below_drew1) | exact HB.out)⟩
  ·
   rw [if_neg c7] at H
   exact absurd H (by simp)
 ·
  rw [if_neg c6] at H
  exact absurd H (by simp)
def spec_Unfiltered.l0 : Nat → Int → List Int → Int → List Int → Int → Int → Option (List Int)
 | 0, _, _, _, _, _, _ => none
 | k + 1, x0, x2, x3, x9, x15, x16 => if x16 < x15 then (if 0 ≤ x16 then (if x16 < (x9.length : Int) then ((spec_predicted.f k x0 x9 x2 x16 x3).bind fun t404 => (spec_Unfiltered.l0 k x0 x2 x3 (x9.set (x16 : Int).toNat (((rd x9 x16) + ((t404) % 256)) % 256)) x15 (wrap64 (x16 + 1)))) else (none)) else (none)) else (some x9)
def spec_Unfiltered.f (k : Nat) (a0 : Int) (l1 : List Int) (l2 : List Int) (a3 : Int) : Option (List Int) := (some (([] : List Int) : List Int)).bind fun y397 => (if y397.length + l1.length < 140737488355328 then ((some (y397 ++ l1 : List Int)).bind fun y400 => (spec_Unfiltered.l0 k a0 l2 a3 y400 (y400.length : Int) 0)) else (none))
def spec_Unfiltered.T5 : Bool × List (List Nat × List Nat) := (true, [([], []), ([], []), ([0, 1], [0, 1]), ([2], [2]), ([], []), ([], []), ([], []), ([], []), ([], []), ([4, 5, 6, 7, 8], [4, 5, 6, 7, 8]), ([9], [9]), ([3, 10], [3, 10]), ([0, 1, 0, 1, 2, 3, 4, 5, 6, 7, 8, 9, 10, 11], [0, 1]), ([12, 11, 9, 0, 1, 2, 3, 4, 5, 6, 7, 8, 9, 10, 11], [11, 12])])
def spec_Unfiltered.B5 : List Nat := [0, 0, 3, 7, 0, 0, 0, 0, 0, 496, 1008, 2047, 4095, 8191]
theorem spec_Unfiltered.tab5 : rtab .any (opsOf Tryz.f122 5) = spec_Unfiltered.T5 := by kernel_rfl
theorem spec_Unfiltered.bits5 : waitsOk spec_Unfiltered.T5.2 spec_Unfiltered.B5 = true := by kernel_rfl
set_option maxHeartbeats 8000000 in
theorem spec_Unfiltered.calls (k : Nat) (a0 : Int) (A1 : Option Addr) (c1 : Nat) (l1 : List Int) (A2 : Option Addr) (c2 : Nat) (l2 : List Int) (a3 : Int) (r : List Int) (w : World) (hr1 : Kd.C (Kd.int .u8) w A1 l1.length l1) (hc1 : l1.length ≤ c1) (hr2 : Kd.C (Kd.int .u8) w A2 l2.length l2) (hc2 : l2.length ≤ c2) (h : spec_Unfiltered.f k a0 l1 l2 a3 = some r) :
  Calls Tryz.prog 122 #[.int .i64 a0, .slice A1 l1.length c1, .slice A2 l2.length c2, .int .i64 a3] w fun e w' => ∃ v0_ : Value, e = .returned (v0_) ∧ Kd.R (Kd.int .u8) 5 w' w.heap.size (fun _ => True) v0_ r ∧ Below w.heap.size w w' := by
 have HR1 := Aside0.mk hr1
 have HC1 := Aside0.mk hc1
 clear hr1 hc1
 have HR2 := Aside0.mk hr2
 have HC2 := Aside0.mk hc2
 clear hr2 hc2
 have HB := Aside0.mk (Below.refl w.heap.size w)
 have H : ((some (([] : List Int) : List Int)).bind fun y397 => (if y397.length + l1.length < 140737488355328 then ((some (y397 ++ l1 : List Int)).bind fun y400 => (spec_Unfiltered.l0 k a0 l2 a3 y400 (y400.length : Int) 0)) else (none))) = some r := h
 clear h
 obtain ⟨y397, hy397⟩ : ∃ y_ : List Int, y_ = (([] : List Int)) := ⟨_, rfl⟩
 replace H : (if y397.length + l1.length < 140737488355328 then ((some (y397 ++ l1 : List Int)).bind fun y400 => (spec_Unfiltered.l0 k a0 l2 a3 y400 (y400.length : Int) 0)) else (none)) = some r := by first | (rw [hy397]; with_reducible exact H) | (have H2_ := (Option.bind_some _ _).symm.trans H; rw [hy397]; with_reducible exact H2_) | (have H2_ := (Option.bind_some _ _).symm.trans H; with_reducible exact H2_) | with_reducible exact H | (rw [hy397]; exact H) | exact H
 have Ny397 := Aside0.mk hy397
 clear hy397
 by_cases c5 : y397.length + l1.length < 140737488355328
 ·
  rw [if_pos c5] at H
  have LMc5 := Aside0.mk c5
  clear c5
  obtain ⟨y400, hy400⟩ : ∃ y_ : List Int, y_ = (y397 ++ l1) := ⟨_, rfl⟩
  replace H : (spec_Unfiltered.l0 k a0 l2 a3 y400 (y400.length : Int) 0) = some r := by first | (rw [hy400]; with_reducible exact H) | (have H2_ := (Option.bind_some _ _).symm.trans H; rw [hy400]; with_reducible exact H2_) | (have H2_ := (Option.bind_some _ _).symm.trans H; with_reducible exact H2_) | with_reducible exact H | (rw [hy400]; exact H) | exact H
  have Ny400 := Aside0.mk hy400
  clear hy400
  have H' := Aside0.mk H
  clear H
  go_enter Tryz.func122, Tryz.ntmps122
  go_wp2_with (first | ((with_reducible refine gate_dst (N := 11) rfl ?_); refine Kd.R_lit (Kd.int .u8) _ 5 ?hg (N := 11) ?hd (xs := ([] : List Int)) (inner := []) (ok := fun _ => True) (okp := fun _ => True) ?hr ?hp (fun _ hk => hk) trivial (Below.refl _ _) (Nat.le_refl _) (by simp) ?_; (case hd => rfl); (case hg => rfl); (case hr => first | (go_simp; done) | (go_simp; rfl)); (case hp => exact (Reps.none _ _)); intro v398 w6 ho7 hb hg_ hnew_; clear hg_ hnew_; (first | rw [← Ny397.out] at ho7 | (simp only [Int.reduceToNat] at ho7; rw [← Ny397.out] at ho7)); have n0_ := Aside0.mk (Kd.R_lower ho7 (below_size (by repeat (first | (with_reducible first | exact HB.out | apply below_alloc | apply pw_below_drewN | apply below_drew1) | exact HB.out)))); have n1_ := Aside0.mk (below_step (by repeat (first | (with_reducible first | exact HB.out | apply below_alloc | apply pw_below_drewN | apply below_drew1) | exact HB.out)) hb); clear HB; have HO399 := n0_; have HB := n1_; clear n0_ n1_; clear hb ho7) | ((with_reducible refine gate_builtin (b := .append) (xs := #[.tmp 11, .tmp 12]) rfl ?_); at_builtin; refine Kd.R_append_rows (Kd.int .u8) (w0 := w) w.heap.size rfl (.tmp 11) (.tmp 12) 24 5 (.int .u8 0) 1 rfl Tryz.underlying24 info5 rfl (by decide) (by omega) v398 y397 l1 _ _ _ (fun _ => True) (fun _ => False) rfl rfl ?aO ?aR (fun _ _ h => h) (fun _ h => h.elim) ?aF ?aB ?aS ?aL ?_; (case aR => repeat (first | exact (Kd.C_below HR1.out HB.out) | (with_reducible refine Kd.C_alloc ?_ _) | (with_reducible refine Kd.C_drewN ?_ _) | (with_reducible refine Kd.C_drew ?_))); (case aB => exact (by repeat (first | (with_reducible first | exact HB.out | apply below_alloc | apply pw_below_drewN | apply below_drew1) | exact HB.out))); (case aF => exact (fun _ _ => trivial)); (case aO => exact (by (with_reducible repeat (first | apply Kd.R_alloc | apply Kd.R_drewN | apply Kd.R_drew)); exact HO399.out)); (case aS => exact (below_size (by repeat (first | (with_reducible first | exact HB.out | apply below_alloc | apply pw_below_drewN | apply below_drew1) | exact HB.out)))); (case aL => have := LMc5.out; omega); intro v401 w8 ho hb hg hat; rw [← Ny400.out] at ho; have n0_ := Aside0.mk (hb); have n1_ := Aside0.mk (ho); clear HB; clear HO399; have HB := n0_; have HO402 := n1_; clear n0_ n1_; clear ho hb hg hat; obtain ⟨Ao9, co9, eo9⟩ := Kd.R_slice HO402.out; subst eo9))
  go_loopg [16] k (fun kq v16 w' => ∃ (x9_1 : List Int) (x16_1 : Int), v16 = .int .i64 x16_1 ∧ Aside0 (spec_Unfiltered.l0 kq a0 l2 a3 x9_1 (y400.length : Int) x16_1 = some r) ∧ Aside0 (kq ≤ k) ∧ Aside0 (Kd.R (Kd.int .u8) 5 w' w.heap.size (fun _ => True) (.slice Ao9 y400.length co9) x9_1) ∧ Aside0 (Below w.heap.size w w'))
  case atStart => exact ⟨(y400), (0), (by first | rfl | (simp; done) | (simp [*]; done)), H', ⟨Nat.le_refl _⟩, ⟨by (with_reducible repeat (first | apply Kd.R_alloc | apply Kd.R_drewN | apply Kd.R_drew)); exact HO402.out⟩, ⟨by repeat (first | (with_reducible first | exact HB.out | apply below_alloc | apply pw_below_drewN | apply below_drew1) | exact HB.out)⟩⟩
  case round =>
   clear H'
   (try clear c1); (try clear c2); (try clear p2); (try clear c5)
   obtain ⟨x9_1, x16_1, rfl, HA, HK1, HO_9, HB⟩ := hrel
   have hl9_1 := (Kd.R_reads' HO_9.out).1
   rw [hl9_1] at HO_9
   (try simp only [hl9_1])
   cases gk with
   | zero => exact absurd HA.out (by simp [spec_Unfiltered.l0])
   | succ k1 =>
    have H := HA.out
    clear HA
    simp only [spec_Unfiltered.l0] at H
    by_cases c10 : x16_1 < (y400.length : Int)
    ·
     rw [if_pos c10] at H
     have c10b0 : decide (x16_1 < (y400.length : Int)) = true := decide_eq_true c10
     clear c10
     by_cases c11 : 0 ≤ x16_1
     ·
      rw [if_pos c11] at H
      have c11b0 : decide (0 ≤ x16_1) = true := decide_eq_true c11
      clear c11
      by_cases c12 : x16_1 < (x9_1.length : Int)
      ·
       rw [if_pos c12] at H
       have c12b0 : decide (x16_1 < (x9_1.length : Int)) = true := decide_eq_true c12
       clear c12
       replace H := Option.bind_eq_some_iff.mp H
       obtain ⟨t404, A130, H⟩ := H
       replace H : (spec_Unfiltered.l0 k1 a0 l2 a3 (x9_1.set (x16_1 : Int).toNat (((rd x9_1 x16_1) + ((t404) % 256)) % 256)) (y400.length : Int) (wrap64 (x16_1 + 1))) = some r := H
       have A13 := Aside0.mk A130
       clear A130
       obtain ⟨y405, hy405⟩ : ∃ y_ : List Int, y_ = (x9_1.set (x16_1 : Int).toNat (((rd x9_1 x16_1) + ((t404) % 256)) % 256)) := ⟨_, rfl⟩
       replace H : (spec_Unfiltered.l0 k1 a0 l2 a3 y405 (y400.length : Int) (wrap64 (x16_1 + 1))) = some r := by first | (rw [hy405]; with_reducible exact H) | (have H2_ := (Option.bind_some _ _).symm.trans H; rw [hy405]; with_reducible exact H2_) | (have H2_ := (Option.bind_some _ _).symm.trans H; with_reducible exact H2_) | with_reducible exact H | (rw [hy405]; exact H) | exact H
       have Ny405 := Aside0.mk hy405
       clear hy405
       have H' := Aside0.mk H
       clear H
       try go_wp2
       have n0_ := Aside0.mk (Kd.R_drew HO_9.out)
       have n1_ := Aside0.mk (below_drew1 HB.out)
       clear HO_9
       clear HB
       have HO_9 := n0_
       have HB := n1_
       clear n0_ n1_
       have p403 : 0 ≤ (x16_1 : Int) := of_decide_eq_true (by first | (with_reducible assumption) | assumption)
       have q403 : x16_1 < (x9_1.length : Int) := of_decide_eq_true (by first | (with_reducible assumption) | assumption)
       obtain ⟨ad403, e403, hx403_0⟩ := Kd.at_int (Kd.R_reads' HO_9.out).2.2 x16_1 p403 q403
       cases e403
       replace p403 := eq_true p403
       replace q403 := eq_true q403
       refine start_ (n := 14) (S := fun w' => w'.cell? (ad403.add (x16_1).toNat) = some (.int .u8 (rd x9_1 x16_1))) (ds := [13]) #[false, false, false, false, false, false, false, false, false, false, false, false, false, false] (by kernel_rfl) rfl rfl (hx403_0) (fun hHeld => ?_); refine with_tabW spec_Unfiltered.tab5 spec_Unfiltered.bits5 (fun HT_ HW_ => ?_)
       generalize wr.drew = w15 at HO_9 HB hx403_0 hHeld ⊢
       refine pure_ (i := 0) (N := some 19) (v := ?_) (a' := ?_) #[true, false, false, false, false, false, false, false, false, false, false, false, false, false] rfl rfl (any_of HT_.out (by kernel_rfl)) (fun _ _ _ h => h) (Or.inl ⟨by rfl, ?_⟩) ?_ ?_
       rotate_left
       ·
        intro w'
        go_simp
        with_reducible rfl
       rotate_left
       ·
        simp only [Act.put, List.setIfInBounds_toArray, List.set_cons_zero, List.set_cons_succ, i64_w, i32_w]
        rfl
       refine pure_ (i := 1) (N := some 20) (v := ?_) (a' := ?_) #[true, true, false, false, false, false, false, false, false, false, false, false, false, false] rfl rfl (any_of HT_.out (by kernel_rfl)) (fun _ _ _ h => h) (Or.inl ⟨by rfl, ?_⟩) ?_ ?_
       rotate_left
       ·
        intro w'
        go_simp
        with_reducible rfl
       rotate_left
       ·
        simp only [Act.put, List.setIfInBounds_toArray, List.set_cons_zero, List.set_cons_succ, i64_w, i32_w]
        rfl
       refine pure_ (i := 2) (N := some 21) (v := ?_) (a' := ?_) #[true, true, true, false, false, false, false, false, false, false, false, false, false, false] rfl rfl (any_of HT_.out (by kernel_rfl)) (fun _ _ _ h => h) (Or.inl ⟨by rfl, ?_⟩) ?_ ?_
       rotate_left
       ·
        intro w'
        go_simp
        with_reducible rfl
       rotate_left
       ·
        simp only [Act.put, List.setIfInBounds_toArray, List.set_cons_zero, List.set_cons_succ, i64_w, i32_w]
        rfl
       refine pure_ (i := 4) (N := some 23) (v := ?_) (a' := ?_) #[true, true, true, false, true, false, false, false, false, false, false, false, false, false] rfl rfl (any_of HT_.out (by kernel_rfl)) (fun _ _ _ h => h) (Or.inl ⟨by rfl, ?_⟩) ?_ ?_
       rotate_left
       ·
        intro w'
        go_simp
        with_reducible rfl
       rotate_left
       ·
        simp only [Act.put, List.setIfInBounds_toArray, List.set_cons_zero, List.set_cons_succ, i64_w, i32_w]
        rfl
       refine pure_ (i := 5) (N := some 24) (v := ?_) (a' := ?_) #[true, true, true, false, true, true, false, false, false, false, false, false, false, false] rfl rfl (any_of HT_.out (by kernel_rfl)) (fun _ _ _ h => h) (Or.inl ⟨by rfl, ?_⟩) ?_ ?_
       rotate_left
       ·
        intro w'
        go_simp
        with_reducible rfl
       rotate_left
       ·
        simp only [Act.put, List.setIfInBounds_toArray, List.set_cons_zero, List.set_cons_succ, i64_w, i32_w]
        rfl
       refine pure_ (i := 6) (N := some 25) (v := ?_) (a' := ?_) #[true, true, true, false, true, true, true, false, false, false, false, false, false, false] rfl rfl (any_of HT_.out (by kernel_rfl)) (fun _ _ _ h => h) (Or.inl ⟨by rfl, ?_⟩) ?_ ?_
       rotate_left
       ·
        intro w'
        go_simp
        with_reducible rfl
       rotate_left
       ·
        simp only [Act.put, List.setIfInBounds_toArray, List.set_cons_zero, List.set_cons_succ, i64_w, i32_w]
        rfl
       refine pure_ (i := 7) (N := some 26) (v := ?_) (a' := ?_) #[true, true, true, false, true, true, true, true, false, false, false, false, false, false] rfl rfl (any_of HT_.out (by kernel_rfl)) (fun _ _ _ h => h) (Or.inl ⟨by rfl, ?_⟩) ?_ ?_
       rotate_left
       ·
        intro w'
        go_simp
        with_reducible rfl
       rotate_left
       ·
        simp only [Act.put, List.setIfInBounds_toArray, List.set_cons_zero, List.set_cons_succ, i64_w, i32_w]
        rfl
       refine pure_ (i := 8) (N := some 27) (v := ?_) (a' := ?_) #[true, true, true, false, true, true, true, true, true, false, false, false, false, false] rfl rfl (any_of HT_.out (by kernel_rfl)) (fun _ _ _ h => h) (Or.inl ⟨by rfl, ?_⟩) ?_ ?_
       rotate_left
       ·
        intro w'
        go_simp
        with_reducible rfl
       rotate_left
       ·
        simp only [Act.put, List.setIfInBounds_toArray, List.set_cons_zero, List.set_cons_succ, i64_w, i32_w]
        rfl
       refine take_ (i := 3) (N := some 22) (v := ?_) (a' := ?_) #[true, true, true, true, true, true, true, true, true, false, false, false, false, false] rfl rfl (take_ofW HT_.out HW_.out (by kernel_rfl)) (fun _ _ _ h => h) (Or.inl ⟨by rfl, ?_⟩) hHeld ?_ ?_
       rotate_left
       ·
        intro w' s0
        go_simp
        with_reducible rfl
       rotate_left
       ·
        simp only [Act.put, List.setIfInBounds_toArray, List.set_cons_zero, List.set_cons_succ, i64_w, i32_w]
        rfl
       refine one_ (i := 9) (N := some 28) #[true, true, true, true, true, true, true, true, true, true, false, false, false, false] rfl rfl (one_of HT_.out (by kernel_rfl)) (by decide) (fun K hK => ?_)
       refine goes_ Tryz.func102 (by kernel_rfl) rfl #[.int .i64 a0, .slice (some ad403) x9_1.length co9, .slice A2 l2.length c2, .int .i64 x16_1, .int .i64 a3] (by rfl) rfl rfl (by (try simp only [List.map_toArray, List.map_cons, List.map_nil]); first | done | rfl | (simp only [List.length_drop, List.length_take]; rfl)) ?_
       with_reducible refine (spec_predicted.calls k1 a0 _ _ x9_1 _ _ l2 x16_1 a3 t404 _ ?side1 ?side2 ?side3 ?side4 A13.out).mono ?_
       (case side1 => repeat (first | exact (Kd.R_reads' HO_9.out).2.2 | (with_reducible refine Kd.C_alloc ?_ _) | (with_reducible refine Kd.C_drewN ?_ _) | (with_reducible refine Kd.C_drew ?_)))
       (case side2 => exact (Kd.R_reads' HO_9.out).2.1)
       (case side3 => repeat (first | exact (Kd.C_below HR2.out HB.out) | (with_reducible refine Kd.C_alloc ?_ _) | (with_reducible refine Kd.C_drewN ?_ _) | (with_reducible refine Kd.C_drew ?_)))
       (case side4 => exact HC2.out)
       rintro e w16 ⟨rfl, hb⟩
       have HS0_ := (hb.cell (World.block_lt_of_cell? _ _ (hHeld))).trans (hHeld)
       refine ⟨_, rfl, ?_⟩
       have n0_ := Aside0.mk (Kd.R_below (by (with_reducible repeat (first | apply Kd.R_alloc | apply Kd.R_drewN | apply Kd.R_drew)); exact HO_9.out) hb)
       have n1_ := Aside0.mk (below_step (by repeat (first | (with_reducible first | exact HB.out | apply below_alloc | apply pw_below_drewN | apply below_drew1) | exact HB.out)) hb)
       clear HO_9
       clear HB
       have HO_9 := n0_
       have HB := n1_
       clear n0_ n1_
       (try clear hb)
       (try clear hb2)
       (try clear hk)
       (try clear hi)
       have p14 : 0 ≤ (x16_1 : Int) := of_decide_eq_true (by first | (with_reducible assumption) | assumption)
       have q14 : (x16_1 : Int) < ((x9_1.length : Int) : Int) := of_decide_eq_true (by first | (with_reducible assumption) | assumption)
       obtain ⟨go14, co14, eo14, gb14, gl14, cl14, HG14⟩ := Kd.R_form HO_9.out (by omega)
       (first | cases eo14 | (injection eo14 with ea_ en_ ec_; (first | subst ea_ | (injection ea_ with ea_; subst ea_)); subst ec_; clear en_))
       have GB14 := Aside0.mk gb14
       have GG14 := Aside0.mk HG14
       clear gb14 gl14 HG14
       (first | simp only [add_plain] at hx403_0 | skip)
       obtain ⟨hx14_0, hf14_0⟩ := Kd.R_celln 0 HO_9.out (x16_1 : Int) p14 q14
       replace p14 := eq_true p14
       replace q14 := eq_true q14
       have HP17 := Kd.R_putn HO_9.out (x16_1 : Int) (((rd x9_1 x16_1) + ((t404) % 256)) % 256)
       rw [← Ny405.out] at HP17
       have HQ17 := Aside0.mk HP17
       clear HP17
       refine hK.out _ _ (HS0_) (fun hHeld => ?_)
       clear hK K
       refine norm_ (a' := ?_) ?_ ?_
       rotate_left
       ·
        show Act.put _ (some 28) _ = _
        simp only [Act.put, List.setIfInBounds_toArray, List.set_cons_zero, List.set_cons_succ, i64_w, i32_w]
        rfl
       refine pure_ (i := 10) (N := some 29) (v := ?_) (a' := ?_) #[true, true, true, true, true, true, true, true, true, true, true, false, false, false] rfl rfl (any_of HT_.out (by kernel_rfl)) (fun _ _ _ h => h) (Or.inl ⟨by rfl, ?_⟩) ?_ ?_
       rotate_left
       ·
        intro w'
        go_simp
        with_reducible rfl
       rotate_left
       ·
        simp only [Act.put, List.setIfInBounds_toArray, List.set_cons_zero, List.set_cons_succ, i64_w, i32_w]
        rfl
       refine pure_ (i := 11) (N := some 30) (v := ?_) (a' := ?_) #[true, true, true, true, true, true, true, true, true, true, true, true, false, false] rfl rfl (any_of HT_.out (by kernel_rfl)) (fun _ _ _ h => h) (Or.inl ⟨by rfl, ?_⟩) ?_ ?_
       rotate_left
       ·
        intro w'
        go_simp
        with_reducible rfl
       rotate_left
       ·
        simp only [Act.put, List.setIfInBounds_toArray, List.set_cons_zero, List.set_cons_succ, i64_w, i32_w]
        rfl
       refine pure_ (i := 12) (N := some 31) (v := ?_) (a' := ?_) #[true, true, true, true, true, true, true, true, true, true, true, true, true, false] rfl rfl (any_of HT_.out (by kernel_rfl)) (fun _ _ _ h => h) (Or.inl ⟨by rfl, ?_⟩) ?_ ?_
       rotate_left
       ·
        intro w'
        go_simp
        with_reducible rfl
       rotate_left
       ·
        simp only [Act.put, List.setIfInBounds_toArray, List.set_cons_zero, List.set_cons_succ, i64_w, i32_w]
        rfl
       refine last_ (i := 13) (N := none) #[true, true, true, true, true, true, true, true, true, true, true, true, true, true] rfl rfl (one_of HT_.out (by kernel_rfl)) (by decide) (fun K hK => ?_)
       refine skip_ (w1 := ?_) (by rfl) rfl ?_ ?_
       rotate_left
       ·
        go_simp
        rfl
       refine hK.out _ _ ?_
       clear hK K
       refine done_ (done_of HT_.out (by kernel_rfl)) ?_
       try go_wp2
       (try simp only [← hl9_1])
       go_roundg k1
       case measure => have := HK1.out; omega
       case rel => exact ⟨(y405), (wrap64 (x16_1 + 1)), (by first | rfl | (simp; done) | (simp [*]; done)), H', ⟨by have := HK1.out; omega⟩, ⟨by (try simp only [hl9_1]); (with_reducible repeat (first | apply Kd.R_alloc | apply Kd.R_drewN | apply Kd.R_drew)); exact HQ17.out⟩, ⟨by repeat (first | (with_reducible first | exact HB.out | apply below_alloc | apply pw_below_drewN | apply below_drew1 | refine below_set ?_ GB14.out) | exact HB.out)⟩⟩
      ·
       rw [if_neg c12] at H
       exact absurd H (by simp)
     ·
      rw [if_neg c11] at H
      exact absurd H (by simp)
    ·
     rw [if_neg c10] at H
     have c10b0 : decide (x16_1 < (y400.length : Int)) = false := decide_eq_false c10
     rw [hl9_1] at c10b0
     clear c10
     obtain rfl := Option.some.inj H
     go_wp2
     go_ret
     exact ⟨_, by first | rfl | (simp <;> rfl) | (simp [*] <;> rfl), by (with_reducible repeat (first | apply Kd.R_alloc | apply Kd.R_drewN | apply Kd.R_drew)); exact HO_9.out, by repeat (first | (with_reducible first | exact HB.out | apply below_alloc | apply pw_below_drewN | apply below_drew1) | exact HB.out)⟩
 ·
  rw [if_neg c5] at H
  exact absurd H (by simp)
end Go.Proofs.YtnpkgmgedgcjmaaGreatDoor.Pr
end
