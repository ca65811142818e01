/- A part of the proof: Px5, Px6. -/
import Derived.Test.YtnpkgmgedgcjmaaGreatDoorZPx0
set_option linter.all false
set_option maxRecDepth 100000
section
namespace Go.Proofs.YtnpkgmgedgcjmaaGreatDoor.Pr
open Go.RowKit Go.Proofs.YtnpkgmgedgcjmaaGreatDoorW.PrintWords Go.Proofs.YtnpkgmgedgcjmaaGreatDoorW.PrintLast Go.Proofs.YtnpkgmgedgcjmaaGreatDoorW.PrintMore
attribute [local go_sem] max2_int max_two
mutual
def spec_prefixOf.l0 : Nat → List Int → List Int → Int → Int → List Int → Option (List Int × List Int × Int)
 | 0, _, _, _, _, _ => none
 | k + 1, x0, x13, x14, x15, x193000 => if x15 < x14 then (if 0 ≤ x15 then (if x15 < (x13.length : Int) then (if (rd x13 x15) > 0 then (if 0 ≤ (rd x13 x15) then (if (rd x13 x15) < (x193000.length : Int) then (spec_prefixOf.l0 k x0 x13 x14 (wrap64 (x15 + 1)) (x193000.set ((rd x13 x15) : Int).toNat (wrap64 ((rd x193000 (rd x13 x15)) + 1)))) else (none)) else (none)) else (spec_prefixOf.l0 k x0 x13 x14 (wrap64 (x15 + 1)) x193000)) else (none)) else (none)) else (spec_prefixOf.l1 k x0 1 1 x193000 ([] : List Int))
def spec_prefixOf.l1 : Nat → List Int → Int → Int → List Int → List Int → Option (List Int × List Int × Int)
 | 0, _, _, _, _, _ => none
 | k + 1, x0, x7, x8, x193000, x193001 => if x8 < 16 then (if 0 ≤ x8 then (if x8 < (x193000.length : Int) then (if (wrap64 ((wrap64 (x7 * 2)) - (rd x193000 x8))) < 0 then (some (x193000, x193001, (-1))) else (spec_prefixOf.l2 k x0 (wrap64 ((wrap64 (x7 * 2)) - (rd x193000 x8))) x8 x0 (x0.length : Int) 0 x193000 x193001)) else (none)) else (none)) else (some (x193000, x193001, x7))
def spec_prefixOf.l2 : Nat → List Int → Int → Int → List Int → Int → Int → List Int → List Int → Option (List Int × List Int × Int)
 | 0, _, _, _, _, _, _, _, _ => none
 | k + 1, x0, x7, x8, x44, x45, x46, x193000, x193001 => if x46 < x45 then (if 0 ≤ x46 then (if x46 < (x44.length : Int) then (if (rd x44 x46) = x8 then (if x193001.length < 17592186044416 then (spec_prefixOf.l2 k x0 x7 x8 x44 x45 (wrap64 (x46 + 1)) x193000 (x193001 ++ [x46])) else (none)) else (spec_prefixOf.l2 k x0 x7 x8 x44 x45 (wrap64 (x46 + 1)) x193000 x193001)) else (none)) else (none)) else (spec_prefixOf.l1 k x0 x7 (wrap64 (x8 + 1)) x193000 x193001)
end
def spec_prefixOf.f (k : Nat) (l0 : List Int) : Option (List Int × List Int × Int) := if 16 ≤ 35184372088832 then (spec_prefixOf.l0 k l0 l0 (l0.length : Int) 0 (List.replicate 16 0)) else (none)
set_option maxHeartbeats 8000000 in
theorem spec_prefixOf.calls (k : Nat) (A0 : Option Addr) (c0 : Nat) (l0 : List Int) (r1 : List Int) (r2 : List Int) (r3 : Int) (w : World) (hr0 : Kd.C (Kd.int .i64) w A0 l0.length l0) (hc0 : l0.length ≤ c0) (h : spec_prefixOf.f k l0 = some (r1, r2, r3)) :
  Calls Tryz.prog 129 #[.slice A0 l0.length c0] w fun e w' => ∃ v0_ v1_ : Value, e = .returned (.tuple #[.agg #[v0_, v1_], .int .i64 r3]) ∧ Kd.R (Kd.int .i64) 3 w' w.heap.size (fun k_ => some k_ ≠ (v1_ : Value).ownBlock) v0_ r1 ∧ Kd.R (Kd.int .i64) 3 w' w.heap.size (fun k_ => some k_ ≠ (v0_ : Value).ownBlock) v1_ r2 ∧ Below w.heap.size w w' := by
 have hu233 := Tryz.underlying233
 have HR0 := Aside0.mk hr0
 have HC0 := Aside0.mk hc0
 clear hr0 hc0
 have HB := Aside0.mk (Below.refl w.heap.size w)
 have H : (if 16 ≤ 35184372088832 then (spec_prefixOf.l0 k l0 l0 (l0.length : Int) 0 (List.replicate 16 0)) else (none)) = some (r1, r2, r3) := h
 clear h
 by_cases c2 : 16 ≤ 35184372088832
 ·
  rw [if_pos c2] at H
  have c2b0 := eq_true c2
  have c2b1 : decide (16 ≤ 35184372088832) = true := decide_eq_true c2
  clear c2
  obtain ⟨y189, hy189⟩ : ∃ y_ : List Int, y_ = (List.replicate 16 0) := ⟨_, rfl⟩
  replace H : (spec_prefixOf.l0 k l0 l0 (l0.length : Int) 0 y189) = some (r1, r2, r3) := by first | (rw [hy189]; with_reducible exact H) | (have H2_ := (Option.bind_some _ _).symm.trans H; rw [hy189]; with_reducible exact H2_) | (have H2_ := (Option.bind_some _ _).symm.trans H; with_reducible exact H2_) | with_reducible exact H | (rw [hy189]; exact H) | exact H
  have Ny189 := Aside0.mk hy189
  clear hy189
  have H' := Aside0.mk H
  clear H
  go_enter Tryz.func129, Tryz.ntmps129
  go_wp2_with (first | ((with_reducible refine gate_dst (N := 2) rfl ?_); refine box_event ?hg (N := 2) ?hd (cs := #[.slice none 0 0, .slice none 0 0]) (t := 233) ?hr ?_; (case hd => rfl); (case hg => rfl); (case hr => first | (go_simp; done) | (go_simp; rfl)); intro gb188 hg w3 hbox hb; have n0_ := Aside0.mk (below_step (by repeat (first | (with_reducible first | exact HB.out | apply below_alloc | apply pw_below_drewN | apply below_drew1) | exact HB.out)) hb); have n1_ := Aside0.mk (hbox); have n2_ := Aside0.mk ((by rw [hg]; exact (below_size (by repeat (first | (with_reducible first | exact HB.out | apply below_alloc | apply pw_below_drewN | apply below_drew1) | exact HB.out))) : w.heap.size ≤ gb188)); have n3_ := Aside0.mk ((by rw [hg]; exact (below_size (by repeat (first | (with_reducible first | exact HB.out | apply below_alloc | apply pw_below_drewN | apply below_drew1) | exact HB.out))) : w.heap.size ≤ gb188)); clear HB; have HB := n0_; have BK188 := n1_; have GW188 := n2_; have GE188 := n3_; clear n0_ n1_ n2_ n3_; clear hb hbox hg) | ((with_reducible refine gate_dst (N := 11) rfl ?_); refine Kd.R_make (Kd.int .i64) _ 3 rfl (N := 11) rfl 27 _ _ rfl 16 rfl rfl Tryz.underlying27 (.int .i64 0) 8 info3 rfl (by decide) (by omega) 0 (ok := fun _ => True) (okp := fun _ => True) rfl (fun _ hk => hk) trivial (by omega) (by omega) (Below.refl _ _) (Nat.le_refl _) ?_; intro v190 w4 ho5 hb hg_ hnew_; clear hg_ hnew_; (first | rw [← Ny189.out] at ho5 | (simp only [Int.reduceToNat] at ho5; rw [← Ny189.out] at ho5)); have n0_ := Aside0.mk (Kd.R_lower ho5 (below_size (by repeat (first | (with_reducible first | exact HB.out | apply below_alloc | apply pw_below_drewN | apply below_drew1 | refine below_set ?_ GE188.out) | exact HB.out)))); have n1_ := Aside0.mk (blk_below (g := gb188) (o := .cells #[.slice none 0 0, .slice none 0 0] 233 (0, 0)) (by (with_reducible repeat (first | refine blk_drewN ?_ _ | refine blk_drew ?_ | refine blk_alloc ?_ _)); exact BK188.out) hb); have n2_ := Aside0.mk (below_step (by repeat (first | (with_reducible first | exact HB.out | apply below_alloc | apply pw_below_drewN | apply below_drew1 | refine below_set ?_ GE188.out) | exact HB.out)) hb); clear BK188; clear HB; have HO191 := n0_; have BK188 := n1_; have HB := n2_; clear n0_ n1_ n2_; clear hb ho5; obtain ⟨Ao6, co6, eo6⟩ := Kd.R_slice HO191.out; subst eo6) | ((with_reducible refine gate_dst (N := 4) rfl ?_); refine box_event ?hg (N := 4) ?hd (cs := #[.slice none 0 0, .slice none 0 0]) (t := 233) ?hr ?_; (case hd => rfl); (case hg => rfl); (case hr => first | (go_simp; done) | (go_simp; rfl)); intro gb192 hg w7 hbox hb; have n0_ := Aside0.mk (Kd.R_below (by (with_reducible repeat (first | apply Kd.R_alloc | apply Kd.R_drewN | apply Kd.R_drew)); exact HO191.out) hb); have n1_ := Aside0.mk (blk_below (g := gb188) (o := .cells #[.slice none 0 0, .slice none 0 0] 233 (0, 0)) (by (with_reducible repeat (first | refine blk_drewN ?_ _ | refine blk_drew ?_ | refine blk_alloc ?_ _)); exact BK188.out) hb); have n2_ := Aside0.mk (below_step (by repeat (first | (with_reducible first | exact HB.out | apply below_alloc | apply pw_below_drewN | apply below_drew1 | refine below_set ?_ GE188.out) | exact HB.out)) hb); have n3_ := Aside0.mk (hbox); have n4_ := Aside0.mk ((by rw [hg]; exact (below_size (by repeat (first | (with_reducible first | exact HB.out | apply below_alloc | apply pw_below_drewN | apply below_drew1 | refine below_set ?_ GE188.out) | exact HB.out))) : w.heap.size ≤ gb192)); have n5_ := Aside0.mk ((by rw [hg]; exact (below_size (by repeat (first | (with_reducible first | exact HB.out | apply below_alloc | apply pw_below_drewN | apply below_drew1 | refine below_set ?_ GE188.out) | exact HB.out))) : w.heap.size ≤ gb192)); have n6_ := Aside0.mk ((by rw [hg]; exact Nat.ne_of_lt (blk_lt (g := gb188) (o := .cells #[.slice none 0 0, .slice none 0 0] 233 (0, 0)) (by (with_reducible repeat (first | refine blk_drewN ?_ _ | refine blk_drew ?_ | refine blk_alloc ?_ _)); exact BK188.out)) : gb188 ≠ gb192)); have n7_ := Aside0.mk ((by rw [hg]; exact Nat.ne_of_gt (blk_lt (g := gb188) (o := .cells #[.slice none 0 0, .slice none 0 0] 233 (0, 0)) (by (with_reducible repeat (first | refine blk_drewN ?_ _ | refine blk_drew ?_ | refine blk_alloc ?_ _)); exact BK188.out)) : gb192 ≠ gb188)); clear HO191; clear BK188; clear HB; have HO191 := n0_; have BK188 := n1_; have HB := n2_; have BK192 := n3_; have GW192 := n4_; have GE192 := n5_; have NB188_192 := n6_; have NB192_188 := n7_; clear n0_ n1_ n2_ n3_ n4_ n5_ n6_ n7_; clear hb hbox hg; have hnb8 := NB192_188.out; have hnc8 := NB188_192.out; have hcz9_0 : w7.cell? ⟨gb192, 0, none⟩ = some (.slice none 0 0) := (blk_cell BK192.out 0).trans rfl; have hcz9_1 : w7.cell? ⟨gb192, 1, none⟩ = some (.slice none 0 0) := (blk_cell BK192.out 1).trans rfl; have hfz9_0 := blk_frozen BK192.out 0; have hfz9_1 := blk_frozen BK192.out 1))
  go_loopg [15] k (fun kq v15 w' => ∃ (x15_1 : Int) (x193000_1 : List Int) (u193000 : Value), v15 = .int .i64 x15_1 ∧ Aside0 (spec_prefixOf.l0 kq l0 l0 (l0.length : Int) x15_1 x193000_1 = some (r1, r2, r3)) ∧ Aside0 (kq ≤ k) ∧ Aside0 (Kd.R (Kd.int .i64) 3 w' w.heap.size (fun _ => True) u193000 x193000_1) ∧ Aside0 (w'.heap[gb188]? = some (.cells #[(.slice none 0 0), (.slice none 0 0)] 233 (0, 0))) ∧ Aside0 (w'.heap[gb192]? = some (.cells #[u193000, (.slice none 0 0)] 233 (0, 0))) ∧ Aside0 (Below w.heap.size w w'))
  case atStart => exact ⟨(0), (y189), (.slice Ao6 y189.length co6), (by first | rfl | (simp; done) | (simp [*]; done)), H', ⟨Nat.le_refl _⟩, ⟨by (with_reducible repeat (first | apply Kd.R_alloc | apply Kd.R_drewN | apply Kd.R_drew)); exact Kd.R_mono (Kd.R_far (p := ⟨gb192, 1, none⟩) (Kd.R_far (p := ⟨gb192, 0, none⟩) (Kd.R_types HO191.out BK192.out (by decide)) (fun _ hk => hk.2) (.slice Ao6 y189.length co6)) (fun _ hk => hk.2) (.slice none 0 0)) (fun _ hk => trivial)⟩, ⟨by (with_reducible repeat (first | refine blk_drewN ?_ _ | refine blk_drew ?_ | refine blk_alloc ?_ _)); refine blk_far ?_ NB188_192.out _; (with_reducible repeat (first | refine blk_drewN ?_ _ | refine blk_drew ?_ | refine blk_alloc ?_ _)); refine blk_far ?_ NB188_192.out _; (with_reducible repeat (first | refine blk_drewN ?_ _ | refine blk_drew ?_ | refine blk_alloc ?_ _)); exact BK188.out⟩, ⟨by (with_reducible repeat (first | refine blk_drewN ?_ _ | refine blk_drew ?_ | refine blk_alloc ?_ _)); refine blk_put (cs := #[.slice Ao6 y189.length co6, .slice none 0 0]) ?_ 1 _ rfl; (with_reducible repeat (first | refine blk_drewN ?_ _ | refine blk_drew ?_ | refine blk_alloc ?_ _)); refine blk_put (cs := #[.slice none 0 0, .slice none 0 0]) ?_ 0 _ rfl; (with_reducible repeat (first | refine blk_drewN ?_ _ | refine blk_drew ?_ | refine blk_alloc ?_ _)); exact BK192.out⟩, ⟨by repeat (first | (with_reducible first | exact HB.out | apply below_alloc | apply pw_below_drewN | apply below_drew1 | refine below_set ?_ GE188.out | refine below_set ?_ GE192.out) | exact HB.out)⟩⟩
  case round =>
   clear H'
   (try clear c1); (try clear c2); (try clear c2b0); (try clear c2b1); (try clear p2); (try clear c8); (try clear hcz9_0); (try clear hcz9_1); (try clear hfz9_0); (try clear hfz9_1)
   obtain ⟨x15_1, x193000_1, u193000, rfl, HA, HK1, HO_193000, BK188, BK192, HB⟩ := hrel
   cases gk with
   | zero => exact absurd HA.out (by simp [spec_prefixOf.l0])
   | succ k1 =>
    have H := HA.out
    clear HA
    simp only [spec_prefixOf.l0] at H
    by_cases c10 : x15_1 < (l0.length : Int)
    ·
     rw [if_pos c10] at H
     have c10b0 : decide (x15_1 < (l0.length : Int)) = true := decide_eq_true c10
     clear c10
     by_cases c11 : 0 ≤ x15_1
     ·
      rw [if_pos c11] at H
      have c11b0 : decide (0 ≤ x15_1) = true := decide_eq_true c11
      clear c11
      by_cases c12 : x15_1 < (l0.length : Int)
      ·
       rw [if_pos c12] at H
       have c12b0 : decide (x15_1 < (l0.length : Int)) = true := decide_eq_true c12
       clear c12
       by_cases c13 : (rd l0 x15_1) > 0
       ·
        rw [if_pos c13] at H
        have c13b0 : decide (0 < (rd l0 x15_1)) = true := decide_eq_true c13
        clear c13
        by_cases c14 : 0 ≤ (rd l0 x15_1)
        ·
         rw [if_pos c14] at H
         have c14b0 : decide (0 ≤ (rd l0 x15_1)) = true := decide_eq_true c14
         clear c14
         by_cases c15 : (rd l0 x15_1) < (x193000_1.length : Int)
         ·
          rw [if_pos c15] at H
          have c15b0 : decide ((rd l0 x15_1) < (x193000_1.length : Int)) = true := decide_eq_true c15
          clear c15
          obtain ⟨y195, hy195⟩ : ∃ y_ : List Int, y_ = (x193000_1.set ((rd l0 x15_1) : Int).toNat (wrap64 ((rd x193000_1 (rd l0 x15_1)) + 1))) := ⟨_, rfl⟩
          replace H : (spec_prefixOf.l0 k1 l0 l0 (l0.length : Int) (wrap64 (x15_1 + 1)) y195) = some (r1, r2, r3) := by first | (rw [hy195]; with_reducible exact H) | (have H2_ := (Option.bind_some _ _).symm.trans H; rw [hy195]; with_reducible exact H2_) | (have H2_ := (Option.bind_some _ _).symm.trans H; with_reducible exact H2_) | with_reducible exact H | (rw [hy195]; exact H) | exact H
          have Ny195 := Aside0.mk hy195
          clear hy195
          have H' := Aside0.mk H
          clear H
          have p193 : 0 ≤ (x15_1 : Int) := of_decide_eq_true (by first | (with_reducible assumption) | assumption)
          have q193 : x15_1 < (l0.length : Int) := of_decide_eq_true (by first | (with_reducible assumption) | assumption)
          obtain ⟨ad193, e193, hx193_0⟩ := Kd.at_int HR0.out x15_1 p193 q193
          cases e193
          replace hx193_0 := (HB.out.cell (World.block_lt_of_cell? w _ hx193_0)).trans hx193_0
          replace p193 := eq_true p193
          replace q193 := eq_true q193
          have hnb17 := NB192_188.out
          have hnc17 := NB188_192.out
          have hcz18_0 : wr.cell? ⟨gb192, 0, none⟩ = some (u193000) := (blk_cell BK192.out 0).trans rfl
          have hcz18_1 : wr.cell? ⟨gb192, 1, none⟩ = some (.slice none 0 0) := (blk_cell BK192.out 1).trans rfl
          have hfz18_0 := blk_frozen BK192.out 0
          have hfz18_1 := blk_frozen BK192.out 1
          obtain ⟨Ao19, co19, eo19⟩ := Kd.R_slice HO_193000.out
          subst eo19
          have p194 : 0 ≤ ((rd l0 x15_1) : Int) := of_decide_eq_true (by first | (with_reducible assumption) | assumption)
          have q194 : (rd l0 x15_1) < (x193000_1.length : Int) := of_decide_eq_true (by first | (with_reducible assumption) | assumption)
          obtain ⟨ad194, e194, hx194_0⟩ := Kd.at_int (Kd.R_reads' HO_193000.out).2.2 (rd l0 x15_1) p194 q194
          cases e194
          replace p194 := eq_true p194
          replace q194 := eq_true q194
          have p16 : 0 ≤ ((rd l0 x15_1) : Int) := of_decide_eq_true (by first | (with_reducible assumption) | assumption)
          have q16 : ((rd l0 x15_1) : Int) < ((x193000_1.length : Int) : Int) := of_decide_eq_true (by first | (with_reducible assumption) | assumption)
          obtain ⟨go16, co16, eo16, gb16, gl16, cl16, HG16⟩ := Kd.R_form HO_193000.out (by omega)
          (first | cases eo16 | (injection eo16 with ea_ en_ ec_; (first | subst ea_ | (injection ea_ with ea_; subst ea_)); subst ec_; clear en_))
          have GB16 := Aside0.mk gb16
          have GG16 := Aside0.mk HG16
          clear gb16 gl16 HG16
          (first | simp only [add_plain] at hx194_0 | skip)
          obtain ⟨hx16_0, hf16_0⟩ := Kd.R_celln 0 HO_193000.out ((rd l0 x15_1) : Int) p16 q16
          replace p16 := eq_true p16
          replace q16 := eq_true q16
          have HP20 := Kd.R_putg HO_193000.out ((rd l0 x15_1) : Int) (wrap64 ((rd x193000_1 (rd l0 x15_1)) + 1))
          go_wp2_with (first | ((with_reducible refine gate_store (t := 3) (p := 27) rfl ?_); refine store_event (t := 3) (p := 27) (v := ?vo_w21) (w1 := (wr.setCell ⟨go16, ((rd l0 x15_1) : Int).toNat, none⟩ (.int .i64 (wrap64 ((rd x193000_1 (rd l0 x15_1)) + 1))))) ?hg ?ho ?hn ?hr ?_; (case ho => rfl); (case hg => rfl); (case hn => rfl); (case hr => first | (go_simp; done) | (go_simp; rfl)); intro w21 hw; have hg : wr.grownBy w21 (some go16) := (by rw [hw]; exact HP20.2); have hp_ : Kd.R (Kd.int .i64) 3 w21 w.heap.size (fun _ => True) (.slice (some ⟨go16, 0, none⟩) x193000_1.length co19) y195 := (by rw [hw, Ny195.out]; exact HP20.1); clear HP20; have n0_ := Aside0.mk (hp_); have n1_ := Aside0.mk (blk_grown (g := gb188) (o := .cells #[.slice none 0 0, .slice none 0 0] 233 (0, 0)) (by (with_reducible repeat (first | refine blk_drewN ?_ _ | refine blk_drew ?_ | refine blk_alloc ?_ _)); exact BK188.out) hg (Kd.R_ne HO_193000.out BK188.out (by decide))); have n2_ := Aside0.mk (blk_grown (g := gb192) (o := .cells #[.slice (some ⟨go16, 0, none⟩) x193000_1.length co19, .slice none 0 0] 233 (0, 0)) (by (with_reducible repeat (first | refine blk_drewN ?_ _ | refine blk_drew ?_ | refine blk_alloc ?_ _)); exact BK192.out) hg (Kd.R_ne HO_193000.out BK192.out (by decide))); have n3_ := Aside0.mk ((by rw [hw]; exact below_set (HB.out) GB16.out : Below w.heap.size w w21)); clear HO_193000; clear BK188; clear BK192; clear HB; have HO_193000 := n0_; have BK188 := n1_; have BK192 := n2_; have HB := n3_; clear n0_ n1_ n2_ n3_; clear hg hw hp_))
          go_roundg k1
          case measure => have := HK1.out; omega
          case rel => exact ⟨(wrap64 (x15_1 + 1)), (y195), (.slice (some ⟨go16, 0, none⟩) x193000_1.length co19), (by first | rfl | (simp; done) | (simp [*]; done)), H', ⟨by have := HK1.out; omega⟩, ⟨by (with_reducible repeat (first | apply Kd.R_alloc | apply Kd.R_drewN | apply Kd.R_drew)); exact HO_193000.out⟩, ⟨by (with_reducible repeat (first | refine blk_drewN ?_ _ | refine blk_drew ?_ | refine blk_alloc ?_ _)); exact BK188.out⟩, ⟨by (with_reducible repeat (first | refine blk_drewN ?_ _ | refine blk_drew ?_ | refine blk_alloc ?_ _)); exact BK192.out⟩, ⟨by repeat (first | (with_reducible first | exact HB.out | apply below_alloc | apply pw_below_drewN | apply below_drew1 | refine below_set ?_ GE188.out | refine below_set ?_ GE192.out) | exact HB.out)⟩⟩
         ·
          rw [if_neg c15] at H
          exact absurd H (by simp)
        ·
         rw [if_neg c14] at H
         exact absurd H (by simp)
       ·
        rw [if_neg c13] at H
        have c13b0 : decide (0 < (rd l0 x15_1)) = false := decide_eq_false c13
        clear c13
        have H' := Aside0.mk H
        clear H
        have p193 : 0 ≤ (x15_1 : Int) := of_decide_eq_true (by first | (with_reducible assumption) | assumption)
        have q193 : x15_1 < (l0.length : Int) := of_decide_eq_true (by first | (with_reducible assumption) | assumption)
        obtain ⟨ad193, e193, hx193_0⟩ := Kd.at_int HR0.out x15_1 p193 q193
        cases e193
        replace hx193_0 := (HB.out.cell (World.block_lt_of_cell? w _ hx193_0)).trans hx193_0
        replace p193 := eq_true p193
        replace q193 := eq_true q193
        go_wp2
        go_roundg k1
        case measure => have := HK1.out; omega
        case rel => exact ⟨(wrap64 (x15_1 + 1)), (x193000_1), (u193000), (by first | rfl | (simp; done) | (simp [*]; done)), H', ⟨by have := HK1.out; omega⟩, ⟨by (with_reducible repeat (first | apply Kd.R_alloc | apply Kd.R_drewN | apply Kd.R_drew)); exact HO_193000.out⟩, ⟨by (with_reducible repeat (first | refine blk_drewN ?_ _ | refine blk_drew ?_ | refine blk_alloc ?_ _)); exact BK188.out⟩, ⟨by (with_reducible repeat (first | refine blk_drewN ?_ _ | refine blk_drew ?_ | refine blk_alloc ?_ _)); exact BK192.out⟩, ⟨by repeat (first | (with_reducible first | exact HB.out | apply below_alloc | apply pw_below_drewN | apply below_drew1 | refine below_set ?_ GE188.out | refine below_set ?_ GE192.out) | exact HB.out)⟩⟩
      ·
       rw [if_neg c12] at H
       exact absurd H (by simp)
     ·
      rw [if_neg c11] at H
      exact absurd H (by simp)
    ·
     rw [if_neg c10] at H
     have c10b0 : decide (x15_1 < (l0.length : Int)) = false := decide_eq_false c10
     clear c10
     have H' := Aside0.mk H
     clear H
     go_wp2
     go_loopg [7, 8] k1 (fun kq v7 v8 w' => ∃ (x7_2 : Int) (x8_2 : Int) (x193001_2 : List Int) (u193001 : Value), v7 = .int .i64 x7_2 ∧ v8 = .int .i64 x8_2 ∧ Aside0 (spec_prefixOf.l1 kq l0 x7_2 x8_2 x193000_1 x193001_2 = some (r1, r2, r3)) ∧ Aside0 (kq ≤ k1) ∧ Aside0 (Kd.R (Kd.int .i64) 3 w' w.heap.size (fun k_ => some k_ ≠ (u193001 : Value).ownBlock) u193000 x193000_1) ∧ Aside0 (Kd.R (Kd.int .i64) 3 w' w.heap.size (fun k_ => some k_ ≠ (u193000 : Value).ownBlock) u193001 x193001_2) ∧ Aside0 (w'.heap[gb188]? = some (.cells #[(.slice none 0 0), (.slice none 0 0)] 233 (0, 0))) ∧ Aside0 (w'.heap[gb192]? = some (.cells #[u193000, u193001] 233 (0, 0))) ∧ Aside0 (Below w.heap.size w w'))
     case atStart => exact ⟨(1), (1), (([] : List Int)), (.slice none 0 0), (by first | rfl | (simp; done) | (simp [*]; done)), (by first | rfl | (simp; done) | (simp [*]; done)), H', ⟨Nat.le_refl _⟩, ⟨by (with_reducible repeat (first | apply Kd.R_alloc | apply Kd.R_drewN | apply Kd.R_drew)); exact Kd.R_mono HO_193000.out (fun _ hk => (by simp [Value.ownBlock]))⟩, ⟨by first | exact Kd.R_nil _ _ _ _ _ | exact Kd.S_nil _ _ _ _ _⟩, ⟨by (with_reducible repeat (first | refine blk_drewN ?_ _ | refine blk_drew ?_ | refine blk_alloc ?_ _)); exact BK188.out⟩, ⟨by (with_reducible repeat (first | refine blk_drewN ?_ _ | refine blk_drew ?_ | refine blk_alloc ?_ _)); exact BK192.out⟩, ⟨by repeat (first | (with_reducible first | exact HB.out | apply below_alloc | apply pw_below_drewN | apply below_drew1 | refine below_set ?_ GE188.out | refine below_set ?_ GE192.out) | exact HB.out)⟩⟩
     case round =>
      clear H'
      (try clear c1); (try clear p1); (try clear q1); (try clear hx1); (try clear hf1); (try clear c2); (try clear c2b0); (try clear c2b1); (try clear p2); (try clear p6); (try clear c8); (try clear c10); (try clear c10b0); (try clear c11); (try clear c11b0); (try clear c12); (try clear c12b0); (try clear c13); (try clear c13b0); (try clear c14); (try clear c14b0); (try clear c15); (try clear c15b0); (try clear p16); (try clear q16); (try clear hx16); (try clear hf16); (try clear c17); (try clear p19); (try clear q19); (try clear hx19); (try clear hcz18_0); (try clear hcz18_1); (try clear hcz9_0); (try clear hcz9_1); (try clear hfz18_0); (try clear hfz18_1); (try clear hfz9_0); (try clear hfz9_1); (try clear hx16_0); (try clear hx193_0); (try clear hx194_0); (try clear p16); (try clear p193); (try clear p194); (try clear p2); (try clear q16); (try clear q193); (try clear q194)
      obtain ⟨x7_2, x8_2, x193001_2, u193001, rfl, rfl, HA, HK2, HO_193000, HO_193001, BK188, BK192, HB⟩ := hrel
      cases gk with
      | zero => exact absurd HA.out (by simp [spec_prefixOf.l1])
      | succ k2 =>
       have H := HA.out
       clear HA
       simp only [spec_prefixOf.l1] at H
       by_cases c22 : x8_2 < 16
       ·
        rw [if_pos c22] at H
        have c22b0 : decide (x8_2 < 16) = true := decide_eq_true c22
        clear c22
        by_cases c23 : 0 ≤ x8_2
        ·
         rw [if_pos c23] at H
         have c23b0 : decide (0 ≤ x8_2) = true := decide_eq_true c23
         clear c23
         by_cases c24 : x8_2 < (x193000_1.length : Int)
         ·
          rw [if_pos c24] at H
          have c24b0 : decide (x8_2 < (x193000_1.length : Int)) = true := decide_eq_true c24
          clear c24
          by_cases c25 : (wrap64 ((wrap64 (x7_2 * 2)) - (rd x193000_1 x8_2))) < 0
          ·
           rw [if_pos c25] at H
           have c25b0 : decide ((wrap64 ((wrap64 (x7_2 * 2)) - (rd x193000_1 x8_2))) < 0) = true := decide_eq_true c25
           clear c25
           simp only [Option.some.injEq, Prod.mk.injEq] at H
           obtain ⟨rfl, rfl, rfl⟩ := H
           have hnb26 := NB192_188.out
           have hnc26 := NB188_192.out
           have hcz27_0 : wr.cell? ⟨gb192, 0, none⟩ = some (u193000) := (blk_cell BK192.out 0).trans rfl
           have hcz27_1 : wr.cell? ⟨gb192, 1, none⟩ = some (u193001) := (blk_cell BK192.out 1).trans rfl
           have hfz27_0 := blk_frozen BK192.out 0
           have hfz27_1 := blk_frozen BK192.out 1
           obtain ⟨Ao28, co28, eo28⟩ := Kd.R_slice HO_193000.out
           subst eo28
           have p196 : 0 ≤ (x8_2 : Int) := of_decide_eq_true (by first | (with_reducible assumption) | assumption)
           have q196 : x8_2 < (x193000_1.length : Int) := of_decide_eq_true (by first | (with_reducible assumption) | assumption)
           obtain ⟨ad196, e196, hx196_0⟩ := Kd.at_int (Kd.R_reads' HO_193000.out).2.2 x8_2 p196 q196
           cases e196
           replace p196 := eq_true p196
           replace q196 := eq_true q196
           have hcz29_0 : wr.cell? ⟨gb188, 0, none⟩ = some (.slice none 0 0) := (blk_cell BK188.out 0).trans rfl
           have hcz29_1 : wr.cell? ⟨gb188, 1, none⟩ = some (.slice none 0 0) := (blk_cell BK188.out 1).trans rfl
           have hfz29_0 := blk_frozen BK188.out 0
           have hfz29_1 := blk_frozen BK188.out 1
           obtain ⟨Ao30, co30, eo30⟩ := Kd.R_slice HO_193001.out
           subst eo30
           go_wp2
           refine bodyPost_ret (results_ct rfl _ _ gb188 233 #[.slice (some ad196) x193000_1.length co28, .slice Ao30 x193001_2.length co30] (0, 0) _ rfl (by (with_reducible repeat (first | refine blk_drewN ?_ _ | refine blk_drew ?_ | refine blk_alloc ?_ _)); refine blk_put (cs := #[.slice (some ad196) x193000_1.length co28, .slice none 0 0]) ?_ 1 _ rfl; (with_reducible repeat (first | refine blk_drewN ?_ _ | refine blk_drew ?_ | refine blk_alloc ?_ _)); refine blk_put (cs := #[.slice none 0 0, .slice none 0 0]) ?_ 0 _ rfl; (with_reducible repeat (first | refine blk_drewN ?_ _ | refine blk_drew ?_ | refine blk_alloc ?_ _)); exact BK188.out) Tryz.underlying233 rfl (by kernel_rfl)) rfl ?_
           exact ⟨_, _, by first | rfl | (simp <;> rfl) | (simp [*] <;> rfl), by (with_reducible repeat (first | apply Kd.R_alloc | apply Kd.R_drewN | apply Kd.R_drew)); exact Kd.R_mono (Kd.R_far (p := ⟨gb188, 1, none⟩) (Kd.R_far (p := ⟨gb188, 0, none⟩) (Kd.R_types HO_193000.out BK188.out (by decide)) (fun _ hk => hk.2) (.slice (some ad196) x193000_1.length co28)) (fun _ hk => hk.2) (.slice Ao30 x193001_2.length co30)) (fun _ hk => hk.1), by (with_reducible repeat (first | apply Kd.R_alloc | apply Kd.R_drewN | apply Kd.R_drew)); exact Kd.R_mono (Kd.R_far (p := ⟨gb188, 1, none⟩) (Kd.R_far (p := ⟨gb188, 0, none⟩) (Kd.R_types HO_193001.out BK188.out (by decide)) (fun _ hk => hk.2) (.slice (some ad196) x193000_1.length co28)) (fun _ hk => hk.2) (.slice Ao30 x193001_2.length co30)) (fun _ hk => hk.1), by repeat (first | (with_reducible first | exact HB.out | apply below_alloc | apply pw_below_drewN | apply below_drew1 | refine below_set ?_ GE188.out | refine below_set ?_ GE192.out) | exact HB.out)⟩
          ·
           rw [if_neg c25] at H
           have c25b0 : decide ((wrap64 ((wrap64 (x7_2 * 2)) - (rd x193000_1 x8_2))) < 0) = false := decide_eq_false c25
           clear c25
           have H' := Aside0.mk H
           clear H
           have hnb31 := NB192_188.out
           have hnc31 := NB188_192.out
           have hcz32_0 : wr.cell? ⟨gb192, 0, none⟩ = some (u193000) := (blk_cell BK192.out 0).trans rfl
           have hcz32_1 : wr.cell? ⟨gb192, 1, none⟩ = some (u193001) := (blk_cell BK192.out 1).trans rfl
           have hfz32_0 := blk_frozen BK192.out 0
           have hfz32_1 := blk_frozen BK192.out 1
           obtain ⟨Ao33, co33, eo33⟩ := Kd.R_slice HO_193000.out
           subst eo33
           have p196 : 0 ≤ (x8_2 : Int) := of_decide_eq_true (by first | (with_reducible assumption) | assumption)
           have q196 : x8_2 < (x193000_1.length : Int) := of_decide_eq_true (by first | (with_reducible assumption) | assumption)
           obtain ⟨ad196, e196, hx196_0⟩ := Kd.at_int (Kd.R_reads' HO_193000.out).2.2 x8_2 p196 q196
           cases e196
           replace p196 := eq_true p196
           replace q196 := eq_true q196
           go_wp2
           go_loopg [46] k2 (fun kq v46 w' => ∃ (x46_3 : Int) (x193001_3 : List Int) (u193001 : Value), v46 = .int .i64 x46_3 ∧ Aside0 (spec_prefixOf.l2 kq l0 (wrap64 ((wrap64 (x7_2 * 2)) - (rd x193000_1 x8_2))) x8_2 l0 (l0.length : Int) x46_3 x193000_1 x193001_3 = some (r1, r2, r3)) ∧ Aside0 (kq ≤ k2) ∧ Aside0 (Kd.R (Kd.int .i64) 3 w' w.heap.size (fun k_ => some k_ ≠ (u193001 : Value).ownBlock) (.slice (some ad196) x193000_1.length co33) x193000_1) ∧ Aside0 (Kd.R (Kd.int .i64) 3 w' w.heap.size (fun k_ => some k_ ≠ ((.slice (some ad196) x193000_1.length co33) : Value).ownBlock) u193001 x193001_3) ∧ Aside0 (w'.heap[gb188]? = some (.cells #[(.slice none 0 0), (.slice none 0 0)] 233 (0, 0))) ∧ Aside0 (w'.heap[gb192]? = some (.cells #[(.slice (some ad196) x193000_1.length co33), u193001] 233 (0, 0))) ∧ Aside0 (Below w.heap.size w w'))
           case atStart => exact ⟨(0), (x193001_2), (u193001), (by first | rfl | (simp; done) | (simp [*]; done)), H', ⟨Nat.le_refl _⟩, ⟨by (with_reducible repeat (first | apply Kd.R_alloc | apply Kd.R_drewN | apply Kd.R_drew)); exact HO_193000.out⟩, ⟨by (with_reducible repeat (first | apply Kd.R_alloc | apply Kd.R_drewN | apply Kd.R_drew)); exact HO_193001.out⟩, ⟨by (with_reducible repeat (first | refine blk_drewN ?_ _ | refine blk_drew ?_ | refine blk_alloc ?_ _)); exact BK188.out⟩, ⟨by (with_reducible repeat (first | refine blk_drewN ?_ _ | refine blk_drew ?_ | refine blk_alloc ?_ _)); exact BK192.out⟩, ⟨by repeat (first | (with_reducible first | exact HB.out | apply below_alloc | apply pw_below_drewN | apply below_drew1 | refine below_set ?_ GE188.out | refine below_set ?_ GE192.out) | exact HB.out)⟩⟩
           case round =>
            clear H'
            (try clear c1); (try clear p1); (try clear q1); (try clear hx1); (try clear hf1); (try clear c2); (try clear c2b0); (try clear c2b1); (try clear p2); (try clear c3); (try clear p6); (try clear c8); (try clear c10); (try clear c10b0); (try clear c11); (try clear c11b0); (try clear c12); (try clear c12b0); (try clear c13); (try clear c13b0); (try clear c14); (try clear c14b0); (try clear c15); (try clear c15b0); (try clear p16); (try clear q16); (try clear hx16); (try clear hf16); (try clear c17); (try clear p19); (try clear q19); (try clear hx19); (try clear c22); (try clear c22b0); (try clear c23); (try clear c23b0); (try clear c24); (try clear c24b0); (try clear c25); (try clear c25b0); (try clear c26); (try clear c31); (try clear hcz18_0); (try clear hcz18_1); (try clear hcz27_0); (try clear hcz27_1); (try clear hcz29_0); (try clear hcz29_1); (try clear hcz32_0); (try clear hcz32_1); (try clear hcz9_0); (try clear hcz9_1); (try clear hfz18_0); (try clear hfz18_1); (try clear hfz27_0); (try clear hfz27_1); (try clear hfz29_0); (try clear hfz29_1); (try clear hfz32_0); (try clear hfz32_1); (try clear hfz9_0); (try clear hfz9_1); (try clear hx16_0); (try clear hx193_0); (try clear hx194_0); (try clear hx196_0); (try clear p1); (try clear p16); (try clear p19); (try clear p193); (try clear p194); (try clear p196); (try clear p2); (try clear p6); (try clear q1); (try clear q16); (try clear q19); (try clear q193); (try clear q194); (try clear q196)
            obtain ⟨x46_3, x193001_3, u193001, rfl, HA, HK3, HO_193000, HO_193001, BK188, BK192, HB⟩ := hrel
            cases gk with
            | zero => exact absurd HA.out (by simp [spec_prefixOf.l2])
            | succ k3 =>
             have H := HA.out
             clear HA
             simp only [spec_prefixOf.l2] at H
             by_cases c34 : x46_3 < (l0.length : Int)
             ·
              rw [if_pos c34] at H
              have c34b0 : decide (x46_3 < (l0.length : Int)) = true := decide_eq_true c34
              clear c34
              by_cases c35 : 0 ≤ x46_3
              ·
               rw [if_pos c35] at H
               have c35b0 : decide (0 ≤ x46_3) = true := decide_eq_true c35
               clear c35
               by_cases c36 : x46_3 < (l0.length : Int)
               ·
                rw [if_pos c36] at H
                have c36b0 : decide (x46_3 < (l0.length : Int)) = true := decide_eq_true c36
                clear c36
                by_cases c37 : (rd l0 x46_3) = x8_2
                ·
                 rw [if_pos c37] at H
                 have c37b0 : ((rd l0 x46_3) == x8_2) = true := beq_iff_eq.mpr c37
                 have c37b1 : ((rd l0 x46_3) != x8_2) = false := bne_eq_false_iff_eq.mpr c37
                 clear c37
                 by_cases c38 : x193001_3.length < 17592186044416
                 ·
                  rw [if_pos c38] at H
                  have LMc38 := Aside0.mk c38
                  clear c38
                  obtain ⟨y198, hy198⟩ : ∃ y_ : List Int, y_ = (x193001_3 ++ [x46_3]) := ⟨_, rfl⟩
                  replace H : (spec_prefixOf.l2 k3 l0 (wrap64 ((wrap64 (x7_2 * 2)) - (rd x193000_1 x8_2))) x8_2 l0 (l0.length : Int) (wrap64 (x46_3 + 1)) x193000_1 y198) = some (r1, r2, r3) := by first | (rw [hy198]; with_reducible exact H) | (have H2_ := (Option.bind_some _ _).symm.trans H; rw [hy198]; with_reducible exact H2_) | (have H2_ := (Option.bind_some _ _).symm.trans H; with_reducible exact H2_) | with_reducible exact H | (rw [hy198]; exact H) | exact H
                  have Ny198 := Aside0.mk hy198
                  clear hy198
                  have H' := Aside0.mk H
                  clear H
                  have p197 : 0 ≤ (x46_3 : Int) := of_decide_eq_true (by first | (with_reducible assumption) | assumption)
                  have q197 : x46_3 < (l0.length : Int) := of_decide_eq_true (by first | (with_reducible assumption) | assumption)
                  obtain ⟨ad197, e197, hx197_0⟩ := Kd.at_int HR0.out x46_3 p197 q197
                  cases e197
                  replace hx197_0 := (HB.out.cell (World.block_lt_of_cell? w _ hx197_0)).trans hx197_0
                  replace p197 := eq_true p197
                  replace q197 := eq_true q197
                  have hnb39 := NB192_188.out
                  have hnc39 := NB188_192.out
                  have hcz40_0 : wr.cell? ⟨gb192, 0, none⟩ = some (.slice (some ad196) x193000_1.length co33) := (blk_cell BK192.out 0).trans rfl
                  have hcz40_1 : wr.cell? ⟨gb192, 1, none⟩ = some (u193001) := (blk_cell BK192.out 1).trans rfl
                  have hfz40_0 := blk_frozen BK192.out 0
                  have hfz40_1 := blk_frozen BK192.out 1
                  go_wp2_with (first | ((with_reducible refine gate_builtin (b := .append) (xs := #[.tmp 55, .tmp 57]) rfl ?_); at_builtin; refine Kd.R_append (Kd.int .i64) (w0 := w) w.heap.size rfl (.tmp 55) (.tmp 57) 27 3 (.int .i64 0) 8 rfl Tryz.underlying27 info3 rfl (by decide) (by omega) u193001 x193001_3 x46_3 [.int .i64 x46_3] (fun k_ => some k_ ≠ (.slice (some ad196) x193000_1.length co33 : Value).ownBlock) (fun _ => False) rfl rfl ?aP (fun _ hk => hk.elim) ?aF ?aO ?aB ?aS ?aL ?_; (case aP => exact rfl); (case aB => exact (by repeat (first | (with_reducible first | exact HB.out | apply below_alloc | apply pw_below_drewN | apply below_drew1 | refine below_set ?_ GE188.out | refine below_set ?_ GE192.out) | exact HB.out))); (case aF => exact (fun k_ hk => Kd.fresh' (Kd.R_lt (by (with_reducible repeat (first | apply Kd.R_alloc | apply Kd.R_drewN | apply Kd.R_drew)); exact HO_193000.out)) k_ hk)); (case aO => exact (by (with_reducible repeat (first | apply Kd.R_alloc | apply Kd.R_drewN | apply Kd.R_drew)); exact HO_193001.out)); (case aS => exact (below_size (by repeat (first | (with_reducible first | exact HB.out | apply below_alloc | apply pw_below_drewN | apply below_drew1 | refine below_set ?_ GE188.out | refine below_set ?_ GE192.out) | exact HB.out)))); (case aL => have := LMc38.out; omega); intro v199 w41 ho hb hg hat; rw [← Ny198.out] at ho; have n0_ := Aside0.mk (Kd.R_after (ok := (fun _ => True)) (by (with_reducible repeat (first | apply Kd.R_alloc | apply Kd.R_drewN | apply Kd.R_drew)); exact Kd.R_mono HO_193000.out (fun _ hk => ⟨trivial, hk⟩)) hg hat); have n1_ := Aside0.mk (blk_grown (g := gb188) (o := .cells #[.slice none 0 0, .slice none 0 0] 233 (0, 0)) (by (with_reducible repeat (first | refine blk_drewN ?_ _ | refine blk_drew ?_ | refine blk_alloc ?_ _)); exact BK188.out) hg (Kd.R_ne HO_193001.out BK188.out (by decide))); have n2_ := Aside0.mk (blk_grown (g := gb192) (o := .cells #[.slice (some ad196) x193000_1.length co33, u193001] 233 (0, 0)) (by (with_reducible repeat (first | refine blk_drewN ?_ _ | refine blk_drew ?_ | refine blk_alloc ?_ _)); exact BK192.out) hg (Kd.R_ne HO_193001.out BK192.out (by decide))); have n3_ := Aside0.mk (hb); have n4_ := Aside0.mk (ho); clear HO_193000; clear BK188; clear BK192; clear HB; clear HO_193001; have HO_193000 := n0_; have BK188 := n1_; have BK192 := n2_; have HB := n3_; have HO200 := n4_; clear n0_ n1_ n2_ n3_ n4_; clear ho hb hg hat; obtain ⟨Ao42, co42, eo42⟩ := Kd.R_slice HO200.out; subst eo42; have hcz43_0 : w41.cell? ⟨gb192, 0, none⟩ = some (.slice (some ad196) x193000_1.length co33) := (blk_cell BK192.out 0).trans rfl; have hcz43_1 : w41.cell? ⟨gb192, 1, none⟩ = some (u193001) := (blk_cell BK192.out 1).trans rfl; have hfz43_0 := blk_frozen BK192.out 0; have hfz43_1 := blk_frozen BK192.out 1))
                  go_roundg k3
                  case measure => have := HK1.out; have := HK2.out; have := HK3.out; omega
                  case rel => exact ⟨(wrap64 (x46_3 + 1)), (y198), (.slice Ao42 y198.length co42), (by first | rfl | (simp; done) | (simp [*]; done)), H', ⟨by have := HK1.out; have := HK2.out; have := HK3.out; omega⟩, ⟨by (with_reducible repeat (first | apply Kd.R_alloc | apply Kd.R_drewN | apply Kd.R_drew)); exact Kd.R_mono (Kd.R_far (p := ⟨gb192, 1, none⟩) (Kd.R_types HO_193000.out BK192.out (by decide)) (fun _ hk => hk.2) (.slice Ao42 y198.length co42)) (fun _ hk => hk.1.2)⟩, ⟨by (with_reducible repeat (first | apply Kd.R_alloc | apply Kd.R_drewN | apply Kd.R_drew)); exact Kd.R_mono (Kd.R_far (p := ⟨gb192, 1, none⟩) (Kd.R_types HO200.out BK192.out (by decide)) (fun _ hk => hk.2) (.slice Ao42 y198.length co42)) (fun _ hk => hk.1)⟩, ⟨by (with_reducible repeat (first | refine blk_drewN ?_ _ | refine blk_drew ?_ | refine blk_alloc ?_ _)); refine blk_far ?_ NB188_192.out _; (with_reducible repeat (first | refine blk_drewN ?_ _ | refine blk_drew ?_ | refine blk_alloc ?_ _)); exact BK188.out⟩, ⟨by (with_reducible repeat (first | refine blk_drewN ?_ _ | refine blk_drew ?_ | refine blk_alloc ?_ _)); refine blk_put (cs := #[.slice (some ad196) x193000_1.length co33, u193001]) ?_ 1 _ rfl; (with_reducible repeat (first | refine blk_drewN ?_ _ | refine blk_drew ?_ | refine blk_alloc ?_ _)); exact BK192.out⟩, ⟨by repeat (first | (with_reducible first | exact HB.out | apply below_alloc | apply pw_below_drewN | apply below_drew1 | refine below_set ?_ GE188.out | refine below_set ?_ GE192.out) | exact HB.out)⟩⟩
                 ·
                  rw [if_neg c38] at H
                  exact absurd H (by simp)
                ·
                 rw [if_neg c37] at H
                 have c37b0 : ((rd l0 x46_3) == x8_2) = false := beq_eq_false_iff_ne.mpr c37
                 have c37b1 : ((rd l0 x46_3) != x8_2) = true := bne_iff_ne.mpr c37
                 have H' := Aside0.mk H
                 clear H
                 have p197 : 0 ≤ (x46_3 : Int) := of_decide_eq_true (by first | (with_reducible assumption) | assumption)
                 have q197 : x46_3 < (l0.length : Int) := of_decide_eq_true (by first | (with_reducible assumption) | assumption)
                 obtain ⟨ad197, e197, hx197_0⟩ := Kd.at_int HR0.out x46_3 p197 q197
                 cases e197
                 replace hx197_0 := (HB.out.cell (World.block_lt_of_cell? w _ hx197_0)).trans hx197_0
                 replace p197 := eq_true p197
                 replace q197 := eq_true q197
                 go_wp2
                 go_roundg k3
                 case measure => have := HK1.out; have := HK2.out; have := HK3.out; omega
                 case rel => exact ⟨(wrap64 (x46_3 + 1)), (x193001_3), (u193001), (by first | rfl | (simp; done) | (simp [*]; done)), H', ⟨by have := HK1.out; have := HK2.out; have := HK3.out; omega⟩, ⟨by (with_reducible repeat (first | apply Kd.R_alloc | apply Kd.R_drewN | apply Kd.R_drew)); exact HO_193000.out⟩, ⟨by (with_reducible repeat (first | apply Kd.R_alloc | apply Kd.R_drewN | apply Kd.R_drew)); exact HO_193001.out⟩, ⟨by (with_reducible repeat (first | refine blk_drewN ?_ _ | refine blk_drew ?_ | refine blk_alloc ?_ _)); exact BK188.out⟩, ⟨by (with_reducible repeat (first | refine blk_drewN ?_ _ | refine blk_drew ?_ | refine blk_alloc ?_ _)); exact BK192.out⟩, ⟨by repeat (first | (with_reducible first | exact HB.out | apply below_alloc | apply pw_below_drewN | apply below_drew1 | refine below_set ?_ GE188.out | refine below_set ?_ GE192.out) | exact HB.out)⟩⟩
               ·
                rw [if_neg c36] at H
                exact absurd H (by simp)
              ·
               rw [if_neg c35] at H
               exact absurd H (by simp)
             ·
              rw [if_neg c34] at H
              have c34b0 : decide (x46_3 < (l0.length : Int)) = false := decide_eq_false c34
              clear c34
              have H' := Aside0.mk H
              clear H
              go_wp2
              go_roundg k3
              case measure => have := HK1.out; have := HK2.out; have := HK3.out; omega
              case rel => exact ⟨((wrap64 ((wrap64 (x7_2 * 2)) - (rd x193000_1 x8_2)))), (wrap64 (x8_2 + 1)), (x193001_3), (u193001), (by first | rfl | (simp; done) | (simp [*]; done)), (by first | rfl | (simp; done) | (simp [*]; done)), H', ⟨by have := HK1.out; have := HK2.out; have := HK3.out; omega⟩, ⟨by (with_reducible repeat (first | apply Kd.R_alloc | apply Kd.R_drewN | apply Kd.R_drew)); exact HO_193000.out⟩, ⟨by (with_reducible repeat (first | apply Kd.R_alloc | apply Kd.R_drewN | apply Kd.R_drew)); exact HO_193001.out⟩, ⟨by (with_reducible repeat (first | refine blk_drewN ?_ _ | refine blk_drew ?_ | refine blk_alloc ?_ _)); exact BK188.out⟩, ⟨by (with_reducible repeat (first | refine blk_drewN ?_ _ | refine blk_drew ?_ | refine blk_alloc ?_ _)); exact BK192.out⟩, ⟨by repeat (first | (with_reducible first | exact HB.out | apply below_alloc | apply pw_below_drewN | apply below_drew1 | refine below_set ?_ GE188.out | refine below_set ?_ GE192.out) | exact HB.out)⟩⟩
         ·
          rw [if_neg c24] at H
          exact absurd H (by simp)
        ·
         rw [if_neg c23] at H
         exact absurd H (by simp)
       ·
        rw [if_neg c22] at H
        have c22b0 : decide (x8_2 < 16) = false := decide_eq_false c22
        clear c22
        simp only [Option.some.injEq, Prod.mk.injEq] at H
        obtain ⟨rfl, rfl, rfl⟩ := H
        have hnb44 := NB192_188.out
        have hnc44 := NB188_192.out
        have hcz45_0 : wr.cell? ⟨gb192, 0, none⟩ = some (u193000) := (blk_cell BK192.out 0).trans rfl
        have hcz45_1 : wr.cell? ⟨gb192, 1, none⟩ = some (u193001) := (blk_cell BK192.out 1).trans rfl
        have hfz45_0 := blk_frozen BK192.out 0
        have hfz45_1 := blk_frozen BK192.out 1
        obtain ⟨Ao46, co46, eo46⟩ := Kd.R_slice HO_193000.out
        subst eo46
        have hcz47_0 : wr.cell? ⟨gb188, 0, none⟩ = some (.slice none 0 0) := (blk_cell BK188.out 0).trans rfl
        have hcz47_1 : wr.cell? ⟨gb188, 1, none⟩ = some (.slice none 0 0) := (blk_cell BK188.out 1).trans rfl
        have hfz47_0 := blk_frozen BK188.out 0
        have hfz47_1 := blk_frozen BK188.out 1
        obtain ⟨Ao48, co48, eo48⟩ := Kd.R_slice HO_193001.out
        subst eo48
        go_wp2
        refine bodyPost_ret (results_ct rfl _ _ gb188 233 #[.slice Ao46 x193000_1.length co46, .slice Ao48 x193001_2.length co48] (0, 0) _ rfl (by (with_reducible repeat (first | refine blk_drewN ?_ _ | refine blk_drew ?_ | refine blk_alloc ?_ _)); refine blk_put (cs := #[.slice Ao46 x193000_1.length co46, .slice none 0 0]) ?_ 1 _ rfl; (with_reducible repeat (first | refine blk_drewN ?_ _ | refine blk_drew ?_ | refine blk_alloc ?_ _)); refine blk_put (cs := #[.slice none 0 0, .slice none 0 0]) ?_ 0 _ rfl; (with_reducible repeat (first | refine blk_drewN ?_ _ | refine blk_drew ?_ | refine blk_alloc ?_ _)); exact BK188.out) Tryz.underlying233 rfl (by kernel_rfl)) rfl ?_
        exact ⟨_, _, by first | rfl | (simp <;> rfl) | (simp [*] <;> rfl), by (with_reducible repeat (first | apply Kd.R_alloc | apply Kd.R_drewN | apply Kd.R_drew)); exact Kd.R_mono (Kd.R_far (p := ⟨gb188, 1, none⟩) (Kd.R_far (p := ⟨gb188, 0, none⟩) (Kd.R_types HO_193000.out BK188.out (by decide)) (fun _ hk => hk.2) (.slice Ao46 x193000_1.length co46)) (fun _ hk => hk.2) (.slice Ao48 x193001_2.length co48)) (fun _ hk => hk.1), by (with_reducible repeat (first | apply Kd.R_alloc | apply Kd.R_drewN | apply Kd.R_drew)); exact Kd.R_mono (Kd.R_far (p := ⟨gb188, 1, none⟩) (Kd.R_far (p := ⟨gb188, 0, none⟩) (Kd.R_types HO_193001.out BK188.out (by decide)) (fun _ hk => hk.2) (.slice Ao46 x193000_1.length co46)) (fun _ hk => hk.2) (.slice Ao48 x193001_2.length co48)) (fun _ hk => hk.1), by repeat (first | (with_reducible first | exact HB.out | apply below_alloc | apply pw_below_drewN | apply below_drew1 | refine below_set ?_ GE188.out | refine below_set ?_ GE192.out) | exact HB.out)⟩
 ·
  rw [if_neg c2] at H
  exact absurd H (by simp)
end Go.Proofs.YtnpkgmgedgcjmaaGreatDoor.Pr
end
section
namespace Go.Proofs.YtnpkgmgedgcjmaaGreatDoor.Pr
open Go.RowKit Go.Proofs.YtnpkgmgedgcjmaaGreatDoorW.PrintWords Go.Proofs.YtnpkgmgedgcjmaaGreatDoorW.PrintLast Go.Proofs.YtnpkgmgedgcjmaaGreatDoorW.PrintMore
attribute [local go_sem] max2_int max_two
def spec_lengthOf.f (a0 : Int) : Option (Int × Int) := if (wrap64 (a0 - 257)) = 28 then (some (258, 0)) else (if (wrap64 (a0 - 257)) < 8 then (some (wrap64 (3 + (wrap64 (a0 - 257))), 0)) else (if 0 ≤ (wrap64 ((wrap64 (Int.tdiv (wrap64 (a0 - 257)) 4)) - 1)) then (some (wrap64 (3 + (shl .i64 (wrap64 (4 + (Int.tmod (wrap64 (a0 - 257)) 4))) (wrap64 ((wrap64 (Int.tdiv (wrap64 (a0 - 257)) 4)) - 1)))), wrap64 ((wrap64 (Int.tdiv (wrap64 (a0 - 257)) 4)) - 1))) else (none)))
set_option maxHeartbeats 8000000 in
theorem spec_lengthOf.calls (a0 : Int) (r1 : Int) (r2 : Int) (w : World) (h : spec_lengthOf.f a0 = some (r1, r2)) :
  Calls Tryz.prog 113 #[.int .i64 a0] w fun e w' => e = .returned (.tuple #[.int .i64 r1, .int .i64 r2]) ∧ Drawn0 w w' := by
 have H : (if (wrap64 (a0 - 257)) = 28 then (some (258, 0)) else (if (wrap64 (a0 - 257)) < 8 then (some (wrap64 (3 + (wrap64 (a0 - 257))), 0)) else (if 0 ≤ (wrap64 ((wrap64 (Int.tdiv (wrap64 (a0 - 257)) 4)) - 1)) then (some (wrap64 (3 + (shl .i64 (wrap64 (4 + (Int.tmod (wrap64 (a0 - 257)) 4))) (wrap64 ((wrap64 (Int.tdiv (wrap64 (a0 - 257)) 4)) - 1)))), wrap64 ((wrap64 (Int.tdiv (wrap64 (a0 - 257)) 4)) - 1))) else (none)))) = some (r1, r2) := h
 clear h
 by_cases c2 : (wrap64 (a0 - 257)) = 28
 ·
  rw [if_pos c2] at H
  have c2b0 : ((wrap64 (a0 - 257)) == 28) = true := beq_iff_eq.mpr c2
  have c2b1 : ((wrap64 (a0 - 257)) != 28) = false := bne_eq_false_iff_eq.mpr c2
  clear c2
  simp only [Option.some.injEq, Prod.mk.injEq] at H
  obtain ⟨rfl, rfl⟩ := H
  go_enter Tryz.func113, Tryz.ntmps113
  go_wp2
  go_ret2
  exact ⟨by first | rfl | (simp; done) | (simp [*]; done), by repeat (first | exact Drawn0.refl _ | apply Drawn0.step)⟩
 ·
  rw [if_neg c2] at H
  have c2b0 : ((wrap64 (a0 - 257)) == 28) = false := beq_eq_false_iff_ne.mpr c2
  have c2b1 : ((wrap64 (a0 - 257)) != 28) = true := bne_iff_ne.mpr c2
  by_cases c3 : (wrap64 (a0 - 257)) < 8
  ·
   rw [if_pos c3] at H
   have c3b0 : decide ((wrap64 (a0 - 257)) < 8) = true := decide_eq_true c3
   clear c3
   simp only [Option.some.injEq, Prod.mk.injEq] at H
   obtain ⟨rfl, rfl⟩ := H
   go_enter Tryz.func113, Tryz.ntmps113
   go_wp2
   go_ret2
   exact ⟨by first | rfl | (simp; done) | (simp [*]; done), by repeat (first | exact Drawn0.refl _ | apply Drawn0.step)⟩
  ·
   rw [if_neg c3] at H
   have c3b0 : decide ((wrap64 (a0 - 257)) < 8) = false := decide_eq_false c3
   clear c3
   obtain ⟨ji4, hji4⟩ : ∃ j_ : Int, (wrap64 ((wrap64 (Int.tdiv (wrap64 (a0 - 257)) 4)) - 1)) = j_ := ⟨_, rfl⟩
   replace H : (if 0 ≤ (ji4) then (some (wrap64 (3 + (shl .i64 (wrap64 (4 + (Int.tmod (wrap64 (a0 - 257)) 4))) (ji4))), ji4)) else (none)) = some (r1, r2) := by first | (rw [hji4] at H; exact H) | (simp only [hji4] at H ⊢; exact H)
   have hji4w : (IntKind.i64.wrap ((wrap64 (Int.tdiv (wrap64 (a0 - 257)) 4)) - 1)) = ji4 := (i64_w _).trans hji4
   by_cases c5 : 0 ≤ (ji4)
   ·
    rw [if_pos c5] at H
    have c5b0 := eq_true c5
    have c5b1 : decide (0 ≤ (ji4)) = true := decide_eq_true c5
    clear c5
    obtain ⟨ji6, hji6⟩ : ∃ j_ : Int, (shl .i64 (wrap64 (4 + (Int.tmod (wrap64 (a0 - 257)) 4))) (ji4)) = j_ := ⟨_, rfl⟩
    replace H : (some (wrap64 (3 + (ji6)), ji4)) = some (r1, r2) := by first | (rw [hji6] at H; exact H) | (simp only [hji6] at H ⊢; exact H)
    have hji6_ : (IntKind.i64.wrap ((wrap64 (4 + (Int.tmod (wrap64 (a0 - 257)) 4))) * 2 ^ min (ji4).toNat 64)) = ji6 := hji6
    have hji6z : (ji4) ≤ 64 → (IntKind.i64.wrap ((wrap64 (4 + (Int.tmod (wrap64 (a0 - 257)) 4))) * 2 ^ (ji4).toNat)) = ji6 := shl_small hji6
    have hji6y : (wrap64 ((wrap64 (4 + (Int.tmod (wrap64 (a0 - 257)) 4))) * 2 ^ min (ji4).toNat 64)) = ji6 := (i64_w _).symm.trans hji6_
    have hji6x : (ji4) ≤ 64 → (wrap64 ((wrap64 (4 + (Int.tmod (wrap64 (a0 - 257)) 4))) * 2 ^ (ji4).toNat)) = ji6 := fun h_ => (i64_w _).symm.trans (hji6z h_)
    simp only [Option.some.injEq, Prod.mk.injEq] at H
    obtain ⟨rfl, rfl⟩ := H
    go_enter Tryz.func113, Tryz.ntmps113
    go_wp2
    go_ret2
    exact ⟨by first | rfl | (simp; done) | (simp only [← hji4, ← hji6] <;> (first | rfl | simp)) | (simp [*]; done), by repeat (first | exact Drawn0.refl _ | apply Drawn0.step)⟩
   ·
    rw [if_neg c5] at H
    exact absurd H (by simp)
def spec_distanceOf.f (a0 : Int) : Option (Int × Int) := if a0 < 4 then (some (wrap64 (1 + a0), 0)) else (if 0 ≤ (wrap64 ((wrap64 (Int.tdiv a0 2)) - 1)) then (some (wrap64 (1 + (shl .i64 (wrap64 (2 + (Int.tmod a0 2))) (wrap64 ((wrap64 (Int.tdiv a0 2)) - 1)))), wrap64 ((wrap64 (Int.tdiv a0 2)) - 1))) else (none))
set_option maxHeartbeats 8000000 in
theorem spec_distanceOf.calls (a0 : Int) (r1 : Int) (r2 : Int) (w : World) (h : spec_distanceOf.f a0 = some (r1, r2)) :
  Calls Tryz.prog 114 #[.int .i64 a0] w fun e w' => e = .returned (.tuple #[.int .i64 r1, .int .i64 r2]) ∧ Drawn0 w w' := by
 have H : (if a0 < 4 then (some (wrap64 (1 + a0), 0)) else (if 0 ≤ (wrap64 ((wrap64 (Int.tdiv a0 2)) - 1)) then (some (wrap64 (1 + (shl .i64 (wrap64 (2 + (Int.tmod a0 2))) (wrap64 ((wrap64 (Int.tdiv a0 2)) - 1)))), wrap64 ((wrap64 (Int.tdiv a0 2)) - 1))) else (none))) = some (r1, r2) := h
 clear h
 by_cases c2 : a0 < 4
 ·
  rw [if_pos c2] at H
  have c2b0 : decide (a0 < 4) = true := decide_eq_true c2
  clear c2
  simp only [Option.some.injEq, Prod.mk.injEq] at H
  obtain ⟨rfl, rfl⟩ := H
  go_enter Tryz.func114, Tryz.ntmps114
  go_wp2
  go_ret2
  exact ⟨by first | rfl | (simp; done) | (simp [*]; done), by repeat (first | exact Drawn0.refl _ | apply Drawn0.step)⟩
 ·
  rw [if_neg c2] at H
  have c2b0 : decide (a0 < 4) = false := decide_eq_false c2
  clear c2
  obtain ⟨ji3, hji3⟩ : ∃ j_ : Int, (wrap64 ((wrap64 (Int.tdiv a0 2)) - 1)) = j_ := ⟨_, rfl⟩
  replace H : (if 0 ≤ (ji3) then (some (wrap64 (1 + (shl .i64 (wrap64 (2 + (Int.tmod a0 2))) (ji3))), ji3)) else (none)) = some (r1, r2) := by first | (rw [hji3] at H; exact H) | (simp only [hji3] at H ⊢; exact H)
  have hji3w : (IntKind.i64.wrap ((wrap64 (Int.tdiv a0 2)) - 1)) = ji3 := (i64_w _).trans hji3
  by_cases c4 : 0 ≤ (ji3)
  ·
   rw [if_pos c4] at H
   have c4b0 := eq_true c4
   have c4b1 : decide (0 ≤ (ji3)) = true := decide_eq_true c4
   clear c4
   obtain ⟨ji5, hji5⟩ : ∃ j_ : Int, (shl .i64 (wrap64 (2 + (Int.tmod a0 2))) (ji3)) = j_ := ⟨_, rfl⟩
   replace H : (some (wrap64 (1 + (ji5)), ji3)) = some (r1, r2) := by first | (rw [hji5] at H; exact H) | (simp only [hji5] at H ⊢; exact H)
   have hji5_ : (IntKind.i64.wrap ((wrap64 (2 + (Int.tmod a0 2))) * 2 ^ min (ji3).toNat 64)) = ji5 := hji5
   have hji5z : (ji3) ≤ 64 → (IntKind.i64.wrap ((wrap64 (2 + (Int.tmod a0 2))) * 2 ^ (ji3).toNat)) = ji5 := shl_small hji5
   have hji5y : (wrap64 ((wrap64 (2 + (Int.tmod a0 2))) * 2 ^ min (ji3).toNat 64)) = ji5 := (i64_w _).symm.trans hji5_
   have hji5x : (ji3) ≤ 64 → (wrap64 ((wrap64 (2 + (Int.tmod a0 2))) * 2 ^ (ji3).toNat)) = ji5 := fun h_ => (i64_w _).symm.trans (hji5z h_)
   simp only [Option.some.injEq, Prod.mk.injEq] at H
   obtain ⟨rfl, rfl⟩ := H
   go_enter Tryz.func114, Tryz.ntmps114
   go_wp2
   go_ret2
   exact ⟨by first | rfl | (simp; done) | (simp only [← hji3, ← hji5] <;> (first | rfl | simp)) | (simp [*]; done), by repeat (first | exact Drawn0.refl _ | apply Drawn0.step)⟩
  ·
   rw [if_neg c4] at H
   exact absurd H (by simp)
def spec_prefix_read.l0 : Nat → Int → Int → Int → Int → List Int → Int → List Int → List Int → Option (Int × Int)
 | 0, _, _, _, _, _, _, _, _ => none
 | k + 1, x5, x6, x7, x8, x2000, x2001, x241000, x241001 => if x8 < 16 then ((spec_bits_one.f x2000 x2001).bind fun bt241 => (if 0 ≤ x8 then (if x8 < (x241000.length : Int) then (if (wrap64 ((wrap64 (x5 + bt241.1)) - (rd x241000 x8))) < x6 then (if 0 ≤ (wrap64 ((wrap64 (x7 + (wrap64 (x5 + bt241.1)))) - x6)) then (if (wrap64 ((wrap64 (x7 + (wrap64 (x5 + bt241.1)))) - x6)) < (x241001.length : Int) then (some (rd x241001 (wrap64 ((wrap64 (x7 + (wrap64 (x5 + bt241.1)))) - x6)), bt241.2)) else (none)) else (none)) else (spec_prefix_read.l0 k (wrap64 ((wrap64 (x5 + bt241.1)) * 2)) (wrap64 ((wrap64 (x6 + (rd x241000 x8))) * 2)) (wrap64 (x7 + (rd x241000 x8))) (wrap64 (x8 + 1)) x2000 bt241.2 x241000 x241001)) else (none)) else (none))) else (some ((-1), x2001))
def spec_prefix_read.f (k : Nat) (l0_0 : List Int) (l0_1 : List Int) (s1_0 : List Int) (s1_1 : Int) : Option (Int × Int) := spec_prefix_read.l0 k 0 0 0 1 s1_0 s1_1 l0_0 l0_1
theorem spec_prefix_read.mono_l : ∀ k, (∀ y0 y1 y2 y3 y4 y5 y6 y7, LeO (spec_prefix_read.l0 k y0 y1 y2 y3 y4 y5 y6 y7) (spec_prefix_read.l0 (k + 1) y0 y1 y2 y3 y4 y5 y6 y7))
 | 0 => fun _ _ _ _ _ _ _ _ r h => by simp [spec_prefix_read.l0] at h
 | k + 1 => by
  have ih0 := spec_prefix_read.mono_l k
  ·
   intro y0 y1 y2 y3 y4 y5 y6 y7
   unfold spec_prefix_read.l0
   repeat' first
   | (with_reducible exact ih0 _ _ _ _ _ _ _ _)
   | (with_reducible exact LeO.refl _)
   | (with_reducible exact LeO.none _)
   | (with_reducible refine LeO.ite ?_ ?_)
   | (with_reducible refine LeO.bind ?_ (fun _ => ?_))
   | exact ih0 _ _ _ _ _ _ _ _
   | exact LeO.none _
   | refine LeO.ite ?_ ?_
   | refine LeO.bind ?_ (fun _ => ?_)
theorem spec_prefix_read.mono : ∀ a0 a1 a2 a3 k, LeO (spec_prefix_read.f k a0 a1 a2 a3) (spec_prefix_read.f (k + 1) a0 a1 a2 a3) := by
 intro a0 a1 a2 a3 k
 have ih0 := spec_prefix_read.mono_l k
 unfold spec_prefix_read.f
 repeat' first
   | (with_reducible exact ih0 _ _ _ _ _ _ _ _)
   | (with_reducible exact LeO.refl _)
   | (with_reducible exact LeO.none _)
   | (with_reducible refine LeO.ite ?_ ?_)
   | (with_reducible refine LeO.bind ?_ (fun _ => ?_))
   | exact ih0 _ _ _ _ _ _ _ _
   | exact LeO.none _
   | refine LeO.ite ?_ ?_
   | refine LeO.bind ?_ (fun _ => ?_)
set_option maxHeartbeats 8000000 in
theorem spec_prefix_read.calls (k : Nat) (A0_0 : Option Addr) (c0_0 : Nat) (l0_0 : List Int) (A0_1 : Option Addr) (c0_1 : Nat) (l0_1 : List Int) (g : Nat) (s1_0 : List Int) (s1_1 : Int) (r1 : Int) (r2 : Int) (w0 w : World) (hI : IsS229 w0 w g s1_0 s1_1) (hB : Below w0.heap.size w0 w) (hr0_0 : Kd.C (Kd.int .i64) w A0_0 l0_0.length l0_0) (hc0_0 : l0_0.length ≤ c0_0) (hf0_0 : ∀ ad, A0_0 = some ad → 0 < l0_0.length → ad.block ≠ g) (hr0_1 : Kd.C (Kd.int .i64) w A0_1 l0_1.length l0_1) (hc0_1 : l0_1.length ≤ c0_1) (hf0_1 : ∀ ad, A0_1 = some ad → 0 < l0_1.length → ad.block ≠ g) (h : spec_prefix_read.f k l0_0 l0_1 s1_0 s1_1 = some (r1, r2)) :
  Calls Tryz.prog 130 #[.agg #[.slice A0_0 l0_0.length c0_0, .slice A0_1 l0_1.length c0_1], .pointer (some ⟨g, 0, none⟩)] w fun e w' => e = .returned (.int .i64 r1) ∧ IsS229 w0 w' g s1_0 r2 ∧ Below w0.heap.size w0 w' ∧ KeepBut w w' g none := by
 have hu233 := Tryz.underlying233
 have HR0_0 := Aside0.mk hr0_0
 have HC0_0 := Aside0.mk hc0_0
 clear hr0_0 hc0_0
 have HR0_1 := Aside0.mk hr0_1
 have HC0_1 := Aside0.mk hc0_1
 clear hr0_1 hc0_1
 have HI1 := Aside0.mk hI
 have HK := Aside0.mk (KeepBut.refl w g none)
 have HL := Aside0.mk hB.size
 clear hI
 have HW0 := Aside0.mk hB.size
 have HB := Aside0.mk hB
 clear hB
 have H : (spec_prefix_read.l0 k 0 0 0 1 s1_0 s1_1 l0_0 l0_1) = some (r1, r2) := h
 clear h
 have H' := Aside0.mk H
 clear H
 go_enter Tryz.func130, Tryz.ntmps130
 go_wp2_with (first | ((with_reducible refine gate_dst (N := 2) rfl ?_); refine box_event ?hg (N := 2) ?hd (cs := #[.slice A0_0 l0_0.length c0_0, .slice A0_1 l0_1.length c0_1]) (t := 233) ?hr ?_; (case hd => rfl); (case hg => rfl); (case hr => first | (go_simp; done) | (go_simp; rfl)); intro gb240 hg w3 hbox hb; have n0_ := Aside0.mk (IsS229.below (by repeat (first | (with_reducible first | exact HI1.out | apply IsS229.alloc | apply IsS229.drewN | apply IsS229.drew | apply IsS229.set_1) | exact HI1.out)) hb); have n1_ := Aside0.mk (KeepBut.trans (by repeat (first | (with_reducible first | exact HK.out | apply KeepBut.set_ | apply keep_drewN | apply keep_drew | apply keep_alloc) | exact HK.out)) (KeepBut.of_below hb g none) (.inl rfl)); have n2_ := Aside0.mk (below_step (by repeat (first | (with_reducible first | exact HB.out | apply below_alloc | apply pw_below_drewN | apply below_drew1 | refine below_set ?_ (IsS229.ge HI1.out)) | exact HB.out)) hb); have n3_ := Aside0.mk (hbox); have n4_ := Aside0.mk ((by rw [hg]; exact (keep_size (w := w) (g := g) (row := none) (by repeat (first | (with_reducible first | exact HK.out | apply KeepBut.set_ | apply keep_drewN | apply keep_drew | apply keep_alloc) | exact HK.out))) : w.heap.size ≤ gb240)); have n5_ := Aside0.mk ((Nat.le_trans HW0.out (by rw [hg]; exact (keep_size (w := w) (g := g) (row := none) (by repeat (first | (with_reducible first | exact HK.out | apply KeepBut.set_ | apply keep_drewN | apply keep_drew | apply keep_alloc) | exact HK.out))) : w.heap.size ≤ gb240) : w0.heap.size ≤ gb240)); have n6_ := Aside0.mk ((by rw [hg]; exact Nat.ne_of_lt (IsS229.lt (show IsS229 w0 _ g s1_0 s1_1 from by repeat (first | (with_reducible first | exact HI1.out | apply IsS229.alloc | apply IsS229.drewN | apply IsS229.drew | apply IsS229.set_1) | exact HI1.out))) : g ≠ gb240)); have n7_ := Aside0.mk ((by rw [hg]; exact Nat.ne_of_gt (IsS229.lt (show IsS229 w0 _ g s1_0 s1_1 from by repeat (first | (with_reducible first | exact HI1.out | apply IsS229.alloc | apply IsS229.drewN | apply IsS229.drew | apply IsS229.set_1) | exact HI1.out))) : gb240 ≠ g)); clear HI1; clear HK; clear HB; have HI1 := n0_; have HK := n1_; have HB := n2_; have BK240 := n3_; have GW240 := n4_; have GE240 := n5_; have NB1_240 := n6_; have NB240_1 := n7_; clear n0_ n1_ n2_ n3_ n4_ n5_ n6_ n7_; clear hb hbox hg))
 go_loopg [5, 6, 7, 8] k (fun kq v5 v6 v7 v8 w' => ∃ (x5_1 : Int) (x6_1 : Int) (x7_1 : Int) (x8_1 : Int) (x2001_1 : Int), v5 = .int .i64 x5_1 ∧ v6 = .int .i64 x6_1 ∧ v7 = .int .i64 x7_1 ∧ v8 = .int .i64 x8_1 ∧ Aside0 (spec_prefix_read.l0 kq x5_1 x6_1 x7_1 x8_1 s1_0 x2001_1 l0_0 l0_1 = some (r1, r2)) ∧ Aside0 (kq ≤ k) ∧ Aside0 (w'.heap[gb240]? = some (.cells #[(.slice A0_0 l0_0.length c0_0), (.slice A0_1 l0_1.length c0_1)] 233 (0, 0))) ∧ Aside0 (IsS229 w0 w' g s1_0 x2001_1) ∧ Aside0 (KeepBut w w' g none) ∧ Aside0 (Below w0.heap.size w0 w'))
 case atStart => exact ⟨(0), (0), (0), (1), (s1_1), (by first | rfl | (simp; done) | (simp [*]; done)), (by first | rfl | (simp; done) | (simp [*]; done)), (by first | rfl | (simp; done) | (simp [*]; done)), (by first | rfl | (simp; done) | (simp [*]; done)), H', ⟨Nat.le_refl _⟩, ⟨by (with_reducible repeat (first | refine blk_drewN ?_ _ | refine blk_drew ?_ | refine blk_alloc ?_ _)); exact BK240.out⟩, ⟨by repeat (first | (with_reducible first | exact HI1.out | apply IsS229.alloc | apply IsS229.drewN | apply IsS229.drew | apply IsS229.set_1 | refine IsS229.far ?_ NB1_240.out _) | exact HI1.out)⟩, ⟨by repeat (first | (with_reducible first | exact HK.out | apply KeepBut.set_ | apply keep_drewN | apply keep_drew | apply keep_alloc | refine keep_far ?_ GW240.out _) | exact HK.out)⟩, ⟨by repeat (first | (with_reducible first | exact HB.out | apply below_alloc | apply pw_below_drewN | apply below_drew1 | refine below_set ?_ (IsS229.ge HI1.out) | refine below_set ?_ GE240.out) | exact HB.out)⟩⟩
 case round =>
  clear H'
  (try clear c1); (try clear p2)
  obtain ⟨x5_1, x6_1, x7_1, x8_1, x2001_1, rfl, rfl, rfl, rfl, HA, HK1, BK240, HI1, HK, HB⟩ := hrel
  cases gk with
  | zero => exact absurd HA.out (by simp [spec_prefix_read.l0])
  | succ k1 =>
   have H := HA.out
   clear HA
   simp only [spec_prefix_read.l0] at H
   by_cases c4 : x8_1 < 16
   ·
    rw [if_pos c4] at H
    have c4b0 : decide (x8_1 < 16) = true := decide_eq_true c4
    clear c4
    replace H := Option.bind_eq_some_iff.mp H
    obtain ⟨⟨t241, t242⟩, A50, H⟩ := H
    replace H : (if 0 ≤ x8_1 then (if x8_1 < (l0_0.length : Int) then (if (wrap64 ((wrap64 (x5_1 + t241)) - (rd l0_0 x8_1))) < x6_1 then (if 0 ≤ (wrap64 ((wrap64 (x7_1 + (wrap64 (x5_1 + t241)))) - x6_1)) then (if (wrap64 ((wrap64 (x7_1 + (wrap64 (x5_1 + t241)))) - x6_1)) < (l0_1.length : Int) then (some (rd l0_1 (wrap64 ((wrap64 (x7_1 + (wrap64 (x5_1 + t241)))) - x6_1)), t242)) else (none)) else (none)) else (spec_prefix_read.l0 k1 (wrap64 ((wrap64 (x5_1 + t241)) * 2)) (wrap64 ((wrap64 (x6_1 + (rd l0_0 x8_1))) * 2)) (wrap64 (x7_1 + (rd l0_0 x8_1))) (wrap64 (x8_1 + 1)) s1_0 t242 l0_0 l0_1)) else (none)) else (none)) = some (r1, r2) := H
    have A5 := Aside0.mk A50
    clear A50
    by_cases c6 : 0 ≤ x8_1
    ·
     rw [if_pos c6] at H
     have c6b0 : decide (0 ≤ x8_1) = true := decide_eq_true c6
     clear c6
     by_cases c7 : x8_1 < (l0_0.length : Int)
     ·
      rw [if_pos c7] at H
      have c7b0 : decide (x8_1 < (l0_0.length : Int)) = true := decide_eq_true c7
      clear c7
      by_cases c8 : (wrap64 ((wrap64 (x5_1 + t241)) - (rd l0_0 x8_1))) < x6_1
      ·
       rw [if_pos c8] at H
       have c8b0 : decide ((wrap64 ((wrap64 (x5_1 + t241)) - (rd l0_0 x8_1))) < x6_1) = true := decide_eq_true c8
       clear c8
       obtain ⟨ji9, hji9⟩ : ∃ j_ : Int, (wrap64 ((wrap64 (x7_1 + (wrap64 (x5_1 + t241)))) - x6_1)) = j_ := ⟨_, rfl⟩
       replace H : (if 0 ≤ (ji9) then (if (ji9) < (l0_1.length : Int) then (some (rd l0_1 (ji9), t242)) else (none)) else (none)) = some (r1, r2) := by first | (rw [hji9] at H; exact H) | (simp only [hji9] at H ⊢; exact H)
       (try rw [hji9] at A5)
       have hji9w : (IntKind.i64.wrap ((wrap64 (x7_1 + (wrap64 (x5_1 + t241)))) - x6_1)) = ji9 := (i64_w _).trans hji9
       by_cases c10 : 0 ≤ (ji9)
       ·
        rw [if_pos c10] at H
        have c10b0 : decide (0 ≤ (ji9)) = true := decide_eq_true c10
        clear c10
        by_cases c11 : (ji9) < (l0_1.length : Int)
        ·
         rw [if_pos c11] at H
         have c11b0 : decide ((ji9) < (l0_1.length : Int)) = true := decide_eq_true c11
         clear c11
         simp only [Option.some.injEq, Prod.mk.injEq] at H
         obtain ⟨rfl, rfl⟩ := H
         go_wp2_with (first | ((with_reducible refine gate_callee (f := 116) rfl ?_); refine goesL_ (some 15) rfl rfl Tryz.func116 (by kernel_rfl) rfl #[.pointer (some ⟨g, 0, none⟩)] rfl (by (try simp only [List.map_toArray, List.map_cons, List.map_nil]); first | done | rfl | (simp only [List.length_drop, List.length_take]; rfl)) ?_; (with_reducible refine (spec_bits_one.calls g s1_0 x2001_1 t241 t242 w0 _ ?side1 ?side2 A5.out).mono ?_); (case side1 => repeat (first | (with_reducible first | exact HI1.out | apply IsS229.alloc | apply IsS229.drewN | apply IsS229.drew | apply IsS229.set_1 | refine IsS229.far ?_ NB1_240.out _) | exact HI1.out)); (case side2 => repeat (first | (with_reducible first | exact HB.out | apply below_alloc | apply pw_below_drewN | apply below_drew1 | refine below_set ?_ (IsS229.ge HI1.out) | refine below_set ?_ GE240.out) | exact HB.out)); rintro e w12 ⟨rfl, hi, hb, hk⟩; refine ⟨_, rfl, ?_⟩; have n0_ := Aside0.mk (KeepBut.blk hk (g' := gb240) (o := .cells #[.slice A0_0 l0_0.length c0_0, .slice A0_1 l0_1.length c0_1] 233 (0, 0)) (by (with_reducible repeat (first | refine blk_drewN ?_ _ | refine blk_drew ?_ | refine blk_alloc ?_ _)); exact BK240.out) NB240_1.out (by simp)); have n1_ := Aside0.mk (KeepBut.trans (by repeat (first | (with_reducible first | exact HK.out | apply KeepBut.set_ | apply keep_drewN | apply keep_drew | apply keep_alloc | refine keep_far ?_ GW240.out _) | exact HK.out)) hk (.inl rfl)); have n2_ := Aside0.mk (hb); have n3_ := Aside0.mk (hi); clear BK240; clear HK; clear HB; clear HI1; have BK240 := n0_; have HK := n1_; have HB := n2_; have HI1 := n3_; clear n0_ n1_ n2_ n3_; (try clear hb); (try clear hb2); (try clear hk); (try clear hi); have hnb13 := NB240_1.out; have hnc13 := NB1_240.out; have hcz14_0 : w12.cell? ⟨gb240, 0, none⟩ = some (.slice A0_0 l0_0.length c0_0) := (blk_cell BK240.out 0).trans rfl; have hcz14_1 : w12.cell? ⟨gb240, 1, none⟩ = some (.slice A0_1 l0_1.length c0_1) := (blk_cell BK240.out 1).trans rfl; have hfz14_0 := blk_frozen BK240.out 0; have hfz14_1 := blk_frozen BK240.out 1; have p243 : 0 ≤ (x8_1 : Int) := of_decide_eq_true (by first | (with_reducible assumption) | assumption); have q243 : x8_1 < (l0_0.length : Int) := of_decide_eq_true (by first | (with_reducible assumption) | assumption); obtain ⟨ad243, e243, hx243_0⟩ := Kd.at_int HR0_0.out x8_1 p243 q243; cases e243; replace hx243_0 := keep_cell HK.out hx243_0 (by first | (rw [add_block]; exact hf0_0 _ rfl (by omega)) | exact hf0_0 _ rfl (by omega) | exact hf0_0 ad243 rfl (by omega)); replace p243 := eq_true p243; replace q243 := eq_true q243; have p244 : 0 ≤ ((ji9) : Int) := of_decide_eq_true (by first | (with_reducible assumption) | assumption); have q244 : (ji9) < (l0_1.length : Int) := of_decide_eq_true (by first | (with_reducible assumption) | assumption); obtain ⟨ad244, e244, hx244_0⟩ := Kd.at_int HR0_1.out (ji9) p244 q244; cases e244; replace hx244_0 := keep_cell HK.out hx244_0 (by first | (rw [add_block]; exact hf0_1 _ rfl (by omega)) | exact hf0_1 _ rfl (by omega) | exact hf0_1 ad244 rfl (by omega)); replace p244 := eq_true p244; replace q244 := eq_true q244))
         go_ret
         exact ⟨by first | rfl | (simp <;> rfl) | (simp only [← hji9]; first | rfl | (simp <;> rfl)) | (simp [*] <;> rfl), by repeat (first | (with_reducible first | exact HI1.out | apply IsS229.alloc | apply IsS229.drewN | apply IsS229.drew | apply IsS229.set_1 | refine IsS229.far ?_ NB1_240.out _) | exact HI1.out), by repeat (first | (with_reducible first | exact HB.out | apply below_alloc | apply pw_below_drewN | apply below_drew1 | refine below_set ?_ (IsS229.ge HI1.out) | refine below_set ?_ GE240.out) | exact HB.out), by repeat (first | (with_reducible first | exact HK.out | apply KeepBut.set_ | apply keep_drewN | apply keep_drew | apply keep_alloc | refine keep_far ?_ GW240.out _) | exact HK.out)⟩
        ·
         rw [if_neg c11] at H
         exact absurd H (by simp)
       ·
        rw [if_neg c10] at H
        exact absurd H (by simp)
      ·
       rw [if_neg c8] at H
       have c8b0 : decide ((wrap64 ((wrap64 (x5_1 + t241)) - (rd l0_0 x8_1))) < x6_1) = false := decide_eq_false c8
       clear c8
       have H' := Aside0.mk H
       clear H
       go_wp2_with (first | ((with_reducible refine gate_callee (f := 116) rfl ?_); refine goesL_ (some 15) rfl rfl Tryz.func116 (by kernel_rfl) rfl #[.pointer (some ⟨g, 0, none⟩)] rfl (by (try simp only [List.map_toArray, List.map_cons, List.map_nil]); first | done | rfl | (simp only [List.length_drop, List.length_take]; rfl)) ?_; (with_reducible refine (spec_bits_one.calls g s1_0 x2001_1 t241 t242 w0 _ ?side1 ?side2 A5.out).mono ?_); (case side1 => repeat (first | (with_reducible first | exact HI1.out | apply IsS229.alloc | apply IsS229.drewN | apply IsS229.drew | apply IsS229.set_1 | refine IsS229.far ?_ NB1_240.out _) | exact HI1.out)); (case side2 => repeat (first | (with_reducible first | exact HB.out | apply below_alloc | apply pw_below_drewN | apply below_drew1 | refine below_set ?_ (IsS229.ge HI1.out) | refine below_set ?_ GE240.out) | exact HB.out)); rintro e w15 ⟨rfl, hi, hb, hk⟩; refine ⟨_, rfl, ?_⟩; have n0_ := Aside0.mk (KeepBut.blk hk (g' := gb240) (o := .cells #[.slice A0_0 l0_0.length c0_0, .slice A0_1 l0_1.length c0_1] 233 (0, 0)) (by (with_reducible repeat (first | refine blk_drewN ?_ _ | refine blk_drew ?_ | refine blk_alloc ?_ _)); exact BK240.out) NB240_1.out (by simp)); have n1_ := Aside0.mk (KeepBut.trans (by repeat (first | (with_reducible first | exact HK.out | apply KeepBut.set_ | apply keep_drewN | apply keep_drew | apply keep_alloc | refine keep_far ?_ GW240.out _) | exact HK.out)) hk (.inl rfl)); have n2_ := Aside0.mk (hb); have n3_ := Aside0.mk (hi); clear BK240; clear HK; clear HB; clear HI1; have BK240 := n0_; have HK := n1_; have HB := n2_; have HI1 := n3_; clear n0_ n1_ n2_ n3_; (try clear hb); (try clear hb2); (try clear hk); (try clear hi); have hnb16 := NB240_1.out; have hnc16 := NB1_240.out; have hcz17_0 : w15.cell? ⟨gb240, 0, none⟩ = some (.slice A0_0 l0_0.length c0_0) := (blk_cell BK240.out 0).trans rfl; have hcz17_1 : w15.cell? ⟨gb240, 1, none⟩ = some (.slice A0_1 l0_1.length c0_1) := (blk_cell BK240.out 1).trans rfl; have hfz17_0 := blk_frozen BK240.out 0; have hfz17_1 := blk_frozen BK240.out 1; have p243 : 0 ≤ (x8_1 : Int) := of_decide_eq_true (by first | (with_reducible assumption) | assumption); have q243 : x8_1 < (l0_0.length : Int) := of_decide_eq_true (by first | (with_reducible assumption) | assumption); obtain ⟨ad243, e243, hx243_0⟩ := Kd.at_int HR0_0.out x8_1 p243 q243; cases e243; replace hx243_0 := keep_cell HK.out hx243_0 (by first | (rw [add_block]; exact hf0_0 _ rfl (by omega)) | exact hf0_0 _ rfl (by omega) | exact hf0_0 ad243 rfl (by omega)); replace p243 := eq_true p243; replace q243 := eq_true q243; have p245 : 0 ≤ (x8_1 : Int) := of_decide_eq_true (by first | (with_reducible assumption) | assumption); have q245 : x8_1 < (l0_0.length : Int) := of_decide_eq_true (by first | (with_reducible assumption) | assumption); obtain ⟨ad245, e245, hx245_0⟩ := Kd.at_int HR0_0.out x8_1 p245 q245; obtain rfl : ad243 = ad245 := (by injection e245); replace hx245_0 := keep_cell HK.out hx245_0 (by first | (rw [add_block]; exact hf0_0 _ rfl (by omega)) | exact hf0_0 _ rfl (by omega) | exact hf0_0 ad243 rfl (by omega)); replace p245 := eq_true p245; replace q245 := eq_true q245; have p246 : 0 ≤ (x8_1 : Int) := of_decide_eq_true (by first | (with_reducible assumption) | assumption); have q246 : x8_1 < (l0_0.length : Int) := of_decide_eq_true (by first | (with_reducible assumption) | assumption); obtain ⟨ad246, e246, hx246_0⟩ := Kd.at_int HR0_0.out x8_1 p246 q246; obtain rfl : ad243 = ad246 := (by injection e246); replace hx246_0 := keep_cell HK.out hx246_0 (by first | (rw [add_block]; exact hf0_0 _ rfl (by omega)) | exact hf0_0 _ rfl (by omega) | exact hf0_0 ad243 rfl (by omega)); replace p246 := eq_true p246; replace q246 := eq_true q246))
       go_roundg k1
       case measure => have := HK1.out; omega
       case rel => exact ⟨(wrap64 ((wrap64 (x5_1 + t241)) * 2)), (wrap64 ((wrap64 (x6_1 + (rd l0_0 x8_1))) * 2)), (wrap64 (x7_1 + (rd l0_0 x8_1))), (wrap64 (x8_1 + 1)), (t242), (by first | rfl | (simp; done) | (simp [*]; done)), (by first | rfl | (simp; done) | (simp [*]; done)), (by first | rfl | (simp; done) | (simp [*]; done)), (by first | rfl | (simp; done) | (simp [*]; done)), H', ⟨by have := HK1.out; omega⟩, ⟨by (with_reducible repeat (first | refine blk_drewN ?_ _ | refine blk_drew ?_ | refine blk_alloc ?_ _)); exact BK240.out⟩, ⟨by repeat (first | (with_reducible first | exact HI1.out | apply IsS229.alloc | apply IsS229.drewN | apply IsS229.drew | apply IsS229.set_1 | refine IsS229.far ?_ NB1_240.out _) | exact HI1.out)⟩, ⟨by repeat (first | (with_reducible first | exact HK.out | apply KeepBut.set_ | apply keep_drewN | apply keep_drew | apply keep_alloc | refine keep_far ?_ GW240.out _) | exact HK.out)⟩, ⟨by repeat (first | (with_reducible first | exact HB.out | apply below_alloc | apply pw_below_drewN | apply below_drew1 | refine below_set ?_ (IsS229.ge HI1.out) | refine below_set ?_ GE240.out) | exact HB.out)⟩⟩
     ·
      rw [if_neg c7] at H
      exact absurd H (by simp)
    ·
     rw [if_neg c6] at H
     exact absurd H (by simp)
   ·
    rw [if_neg c4] at H
    have c4b0 : decide (x8_1 < 16) = false := decide_eq_false c4
    clear c4
    simp only [Option.some.injEq, Prod.mk.injEq] at H
    obtain ⟨rfl, rfl⟩ := H
    go_wp2
    go_ret
    exact ⟨by first | rfl | (simp <;> rfl) | (simp [*] <;> rfl), by repeat (first | (with_reducible first | exact HI1.out | apply IsS229.alloc | apply IsS229.drewN | apply IsS229.drew | apply IsS229.set_1 | refine IsS229.far ?_ NB1_240.out _) | exact HI1.out), by repeat (first | (with_reducible first | exact HB.out | apply below_alloc | apply pw_below_drewN | apply below_drew1 | refine below_set ?_ (IsS229.ge HI1.out) | refine below_set ?_ GE240.out) | exact HB.out), by repeat (first | (with_reducible first | exact HK.out | apply KeepBut.set_ | apply keep_drewN | apply keep_drew | apply keep_alloc | refine keep_far ?_ GW240.out _) | exact HK.out)⟩
end Go.Proofs.YtnpkgmgedgcjmaaGreatDoor.Pr
end
