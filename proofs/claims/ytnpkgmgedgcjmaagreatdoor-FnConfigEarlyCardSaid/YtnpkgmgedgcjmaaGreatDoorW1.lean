/- The writer's step of one bit. -/
import Derived.Test.YtnpkgmgedgcjmaaGreatDoorWd
import Derived.StillTailTactics
import Derived.IntWalk
set_option linter.all false
namespace Go.Proofs.YtnpkgmgedgcjmaaGreatDoor
open Go Go.RowKit Png

theorem wrap_u8_byte (x : Int) : ∃ z : UInt8, IntKind.u8.wrap x = (z.toNat : Int) := by
  rw [IntKind.wrap_u8']
  refine ⟨UInt8.ofNat (x % 256).toNat, ?_⟩
  have h1 : 0 ≤ x % 256 := Int.emod_nonneg _ (by omega)
  have h2 : x % 256 < 256 := Int.emod_lt_of_pos _ (by omega)
  simp
  omega
theorem bits_u8_byte (op : BinOp) (x y : Int) : ∃ z : UInt8, bits op .u8 x y = (z.toNat : Int) := by
  unfold bits; exact wrap_u8_byte _

theorem bvals_set (l : List UInt8) (j : Nat) (z : UInt8) : (bvals l).set j (.int .u8 (z.toNat : Int)) = bvals (l.set j z) := by simp [bvals, List.map_set]

set_option maxHeartbeats 4000000 in
set_option maxRecDepth 100000 in
theorem one_ok (wb at_ : Nat) (o : Option Nat) (l : List UInt8) (b : Int) (w : World) (h : WS w wb at_ o l) (ha : at_ ≤ 1099511627776) :
    Calls Tryz.prog 68 #[.pointer (some ⟨wb, 0, none⟩), .int .i64 b] w (Wpost 1 w wb at_ o) := by
  obtain ⟨p, cap, hB, hO, ho, hl⟩ := h
  obtain ⟨n, hn⟩ : ∃ n, n = l.length := ⟨_, rfl⟩
  rw [← hn] at hB hO hl
  have Hn := Lib.hid hn
  clear hn
  have HB := Lib.hid hB
  have HO := Lib.hid hO
  have Ho := Lib.hid ho
  have hwb := hB.lt
  have hne : some wb ≠ p.map (·.block) := by
    have := own_blk_ne hO.2 hB (by decide)
    rw [ownBlock_slice] at this
    exact fun e => this e.symm
  have Hne := Lib.hid hne
  have c0 := hB.cell 0
  have c1 := hB.cell 1
  have hf := hB.frozen
  simp only [List.getElem?_toArray, List.getElem?_cons_zero, List.getElem?_cons_succ] at c0 c1
  have Hl := Lib.hid hl
  by_cases hm : at_ % 8 = 0
  · have hm' : (at_ : Int) % 8 = 0 := by omega
    have hnl : n ≤ 137438953472 := by omega
    have hat : at_ / 8 < n + 1 := by omega
    clear hB hO ho hne hl
    go_enter Tryz.func68, Tryz.ntmps68
    go_wp2_with (at_builtin; go_must (refine wp_app rfl (.tmp 14) (.tmp 15) rfl 0 n cap 1 1 p (some ⟨w.heap.size, 0, none⟩) l [0] rfl rfl (HO.out.keep fun k hk => heap_alloc_old w _ (HO.out.lt k hk).2) (w.heap.size + 1) (reads_new w _ 5 _ 1 1 _ rfl rfl (by omega) _ rfl) (by omega) (by simp) ?_); intro p1 cap1 w1 hO1 hG hL; have hB1 := (HB.out.alloc _).grown hG Hne.out; have d0 := hB1.cell 0; have d1 := hB1.cell 1; have hf1 := hB1.frozen; simp only [List.getElem?_toArray, List.getElem?_cons_zero, List.getElem?_cons_succ] at d0 d1; have HO1 := Lib.hid hO1; have HG := Lib.hid hG; have HL := Lib.hid hL; have HB1 := Lib.hid hB1; clear hO1 hG hL hB1 c0 c1 hf)
    obtain ⟨g, hg⟩ : ∃ g, p1 = some ⟨g, 0, none⟩ := by
      obtain ⟨g, c, hv, _⟩ := HO1.out.2.form (by omega)
      injection hv with hv
      exact ⟨g, hv⟩
    subst hg
    obtain ⟨l1, hl1⟩ : ∃ l1, l1 = l ++ [0] := ⟨_, rfl⟩
    have HO2 := HO1.out
    rw [← hl1] at HO2
    obtain ⟨n1, hn1⟩ : ∃ n1, n1 = n + 1 := ⟨_, rfl⟩
    generalize hW : World.setCell _ _ _ = W
    have HBW : Hid (Blk W wb 145 #[.slice (some ⟨g, 0, none⟩) n1 cap1, .int .i64 at_]) := by
      rw [← hW, hn1]; exact HB1.out.set_ 0 _
    have HOW : Hid (Ob W 0 (some ⟨g, 0, none⟩) n1 cap1 l1) := by
      rw [← hW, hn1]
      refine HO2.keep fun k hk => ?_
      refine heap_setCell_other _ _ _ _ ?_
      rintro e
      have := own_blk_ne HO2.2 HB1.out (by decide)
      exact this (by rw [ownBlock_slice]; rw [hk]; simp at e; simp [e])
    have HWF : Hid (WF w W wb o (some g)) := by
      rw [← hW]
      refine WF.set ?_ 0 _
      refine ((WF.refl w wb o).alloc (.cells #[.int .u8 0] 5)).trans ?_
      have hG := HG.out
      have hL := HL.out
      rw [Ho.out] at hG hL
      refine ⟨hG.os, hG.tape, hG.output, hG.size, fun k hk _ ho => hG.block k hk ho, ?_⟩
      rcases hL with e | e
      · exact .inl e
      · exact .inr ⟨_, e, Nat.le_refl _⟩
    rw [← hn1] at hat
    have Hn1 := Lib.hid hn1
    have Hfin := Lib.hid (show n1 = (at_ + 1 + 7) / 8 by have := Hl.out; omega)
    clear hW HO2 hl1 hn1 d0 d1 hf1
    rw [← Hn1.out]
    have e0 := HBW.out.cell 0
    have e1 := HBW.out.cell 1
    have hfW := HBW.out.frozen
    simp only [List.getElem?_toArray, List.getElem?_cons_zero, List.getElem?_cons_succ] at e0 e1
    obtain ⟨q, hq⟩ : ∃ q, q = at_ / 8 := ⟨_, rfl⟩
    have eq8 : IntKind.i64.wrap ((at_ : Int) / 8) = (q : Int) := by rw [IntWalk.i64_in _ (by omega)]; omega
    rw [← hq] at hat
    have hqi : (q : Int) < (n1 : Int) := by omega
    have Hq := Lib.hid hq
    clear hq
    have hz := HOW.out.2.cellAt q (by omega)
    rw [bvals_get l1 _ (by rw [HOW.out.1]; exact hat)] at hz
    have hfg := HOW.out.2.frozenAt
    have hwg : wb ≠ g := by
      have := own_blk_ne HOW.out.2 HBW.out (by decide)
      intro e
      exact this (by rw [ownBlock_slice, e]; rfl)
    obtain ⟨r, hr⟩ : ∃ r, r = at_ % 8 := ⟨_, rfl⟩
    have er : (at_ : Int).tmod 8 = (r : Int) := by rw [Int.tmod_eq_emod_of_nonneg (by omega)]; omega
    obtain ⟨s, hs⟩ : ∃ s, Op.shift .shl .i64 b .i64 (r : Int) = pure (.int .i64 s) := ⟨_, shift_shl .i64 .i64 b r (by omega) (by show (r : Int) ≤ 64; omega)⟩
    clear hr
    refine region_tail 20 (by kernel_rfl) (by kernel_rfl) ?_
    simp only [List.take_succ_cons, List.take_zero, List.drop_succ_cons, List.drop_zero]
    generalize hw1 : World.drew _ = V
    have hVW : V = W.drew := hw1.symm
    have g0 : V.cell? ⟨wb, 0, none⟩ = some (.slice (some ⟨g, 0, none⟩) n1 cap1) := by rw [hVW]; exact e0
    have g1 : V.cell? ⟨wb, 1, none⟩ = some (.int .i64 at_) := by rw [hVW]; exact e1
    have g2 : V.cell? ⟨g, q, none⟩ = some (.int .u8 (nb l1 q : Nat)) := by rw [hVW]; exact hz
    have g3 : ∀ i, V.frozen? ⟨wb, i, none⟩ = false := by rw [hVW]; exact hfW
    have g4 : ∀ i, V.frozen? ⟨g, i, none⟩ = false := by rw [hVW]; exact hfg
    have HV := Lib.hid hVW
    clear hw1 hVW e0 e1 hfW hz hfg
    repeat still_step
    refine wpStill_nil ?_
    go_wp2
    go_end0
    obtain ⟨z, hzz⟩ := bits_u8_byte .or (nb l1 q : Int) (s % 256)
    rw [hzz]
    have hV := HV.out
    subst hV
    have hlen : (l1.set q z).length = n1 := by rw [List.length_set]; exact HOW.out.1
    have B1 := ((HBW.out.drew).far (p := ⟨g, q, none⟩) hwg (.int .u8 (z.toNat : Int))).set_ 1 (.int .i64 ((at_ : Int) + 1))
    have O1 := (World.ownsRow.stored (HOW.out.2.drew) q (.int .u8 (z.toNat : Int))).1
    rw [bvals_set] at O1
    refine ⟨1, some g, l1.set q z, rfl, Nat.le_refl _, ⟨some ⟨g, 0, none⟩, cap1, ?_, ⟨rfl, ?_⟩, rfl, ?_⟩, ((HWF.out.drew).setO q _).set 1 _⟩
    · rw [hlen]
      simpa using B1
    · rw [hlen]
      refine owns_kept O1 fun k hk => heap_setCell_other _ _ _ _ ?_
      simp at hk
      simp; omega
    · rw [hlen]; exact Hfin.out
  · have hm' : ¬ (at_ : Int) % 8 = 0 := by omega
    have hnl : n ≤ 137438953472 := by omega
    have hat : at_ / 8 < n := by omega
    have Hfin := Lib.hid (show n = (at_ + 1 + 7) / 8 by omega)
    obtain ⟨g, hg⟩ : ∃ g, p = some ⟨g, 0, none⟩ := by
      obtain ⟨g, c, hv, _⟩ := hO.2.form (by omega)
      injection hv with hv
      exact ⟨g, hv⟩
    subst hg
    have HBW := HB
    have HOW := HO
    have HWF : Hid (WF w w wb o (some g)) := by
      have := Ho.out
      simp at this
      rw [← this]
      exact WF.refl _ _ _
    obtain ⟨n1, rfl⟩ : ∃ n1, n1 = n := ⟨_, rfl⟩
    obtain ⟨l1, rfl⟩ : ∃ l1, l1 = l := ⟨_, rfl⟩
    obtain ⟨cap1, rfl⟩ : ∃ c, c = cap := ⟨_, rfl⟩
    obtain ⟨W, hWw⟩ : ∃ W : World, W = w := ⟨_, rfl⟩
    clear hB hO ho hne hl Hne HB HO
    go_enter Tryz.func68, Tryz.ntmps68
    go_wp2
    rw [← hWw] at HBW HOW ⊢
    have e0 := HBW.out.cell 0
    have e1 := HBW.out.cell 1
    have hfW := HBW.out.frozen
    simp only [List.getElem?_toArray, List.getElem?_cons_zero, List.getElem?_cons_succ] at e0 e1
    obtain ⟨q, hq⟩ : ∃ q, q = at_ / 8 := ⟨_, rfl⟩
    have eq8 : IntKind.i64.wrap ((at_ : Int) / 8) = (q : Int) := by rw [IntWalk.i64_in _ (by omega)]; omega
    rw [← hq] at hat
    have hqi : (q : Int) < (n1 : Int) := by omega
    have Hq := Lib.hid hq
    clear hq
    have hz := HOW.out.2.cellAt q (by omega)
    rw [bvals_get l1 _ (by rw [HOW.out.1]; exact hat)] at hz
    have hfg := HOW.out.2.frozenAt
    have hwg : wb ≠ g := by
      have := own_blk_ne HOW.out.2 HBW.out (by decide)
      intro e
      exact this (by rw [ownBlock_slice, e]; rfl)
    obtain ⟨r, hr⟩ : ∃ r, r = at_ % 8 := ⟨_, rfl⟩
    have er : (at_ : Int).tmod 8 = (r : Int) := by rw [Int.tmod_eq_emod_of_nonneg (by omega)]; omega
    obtain ⟨s, hs⟩ : ∃ s, Op.shift .shl .i64 b .i64 (r : Int) = pure (.int .i64 s) := ⟨_, shift_shl .i64 .i64 b r (by omega) (by show (r : Int) ≤ 64; omega)⟩
    clear hr
    refine region_tail 20 (by kernel_rfl) (by kernel_rfl) ?_
    simp only [List.take_succ_cons, List.take_zero, List.drop_succ_cons, List.drop_zero]
    generalize hw1 : World.drew _ = V
    have hVW : V = W.drew := hw1.symm
    have g0 : V.cell? ⟨wb, 0, none⟩ = some (.slice (some ⟨g, 0, none⟩) n1 cap1) := by rw [hVW]; exact e0
    have g1 : V.cell? ⟨wb, 1, none⟩ = some (.int .i64 at_) := by rw [hVW]; exact e1
    have g2 : V.cell? ⟨g, q, none⟩ = some (.int .u8 (nb l1 q : Nat)) := by rw [hVW]; exact hz
    have g3 : ∀ i, V.frozen? ⟨wb, i, none⟩ = false := by rw [hVW]; exact hfW
    have g4 : ∀ i, V.frozen? ⟨g, i, none⟩ = false := by rw [hVW]; exact hfg
    have HV := Lib.hid hVW
    clear hw1 hVW e0 e1 hfW hz hfg
    repeat still_step
    refine wpStill_nil ?_
    go_wp2
    go_end0
    obtain ⟨z, hzz⟩ := bits_u8_byte .or (nb l1 q : Int) (s % 256)
    rw [hzz]
    have hV := HV.out
    subst hV
    have hlen : (l1.set q z).length = n1 := by rw [List.length_set]; exact HOW.out.1
    have B1 := ((HBW.out.drew).far (p := ⟨g, q, none⟩) hwg (.int .u8 (z.toNat : Int))).set_ 1 (.int .i64 ((at_ : Int) + 1))
    have O1 := (World.ownsRow.stored (HOW.out.2.drew) q (.int .u8 (z.toNat : Int))).1
    rw [bvals_set] at O1
    refine ⟨1, some g, l1.set q z, rfl, Nat.le_refl _, ⟨some ⟨g, 0, none⟩, cap1, ?_, ⟨rfl, ?_⟩, rfl, ?_⟩, (by rw [hWw]; exact ((HWF.out.drew).setO q _).set 1 _)⟩
    · rw [hlen]
      simpa using B1
    · rw [hlen]
      refine owns_kept O1 fun k hk => heap_setCell_other _ _ _ _ ?_
      simp at hk
      simp; omega
    · rw [hlen]; exact Hfin.out
end Go.Proofs.YtnpkgmgedgcjmaaGreatDoor
