/- Samples of less than a byte put into bytes. -/
import Derived.Test.YtnpkgmgedgcjmaaGreatDoorB2
import Derived.Test.YtnpkgmgedgcjmaaGreatDoorW1
set_option linter.all false
namespace Go.Proofs.YtnpkgmgedgcjmaaGreatDoor
open Go Go.RowKit Png

set_option maxHeartbeats 8000000 in
set_option maxRecDepth 100000 in
theorem row_small (b n cap dp : Nat) (zs : List Nat) (w : World) (hz : IntsAt w b zs) (hb : b < w.heap.size) (hl : zs.length = n) (hn : n ≤ 100000) (hv : ∀ k, zs.getD k 0 ≤ 65535) (hdp : dp = 1 ∨ dp = 2 ∨ dp = 4) :
    Calls Tryz.prog 76 #[.slice (some ⟨b, 0, none⟩) n cap, .int .i64 dp] w fun e w' =>
      ∃ p m c l, e = .returned (.slice p m c) ∧ m = (n * dp + 7) / 8 ∧ Ob w' w.heap.size p m c l ∧ Below w.heap.size w w' := by
  have Hz := Lib.hid hz
  have Hl := Lib.hid hl
  have Hv := Lib.hid hv
  clear hz hl hv
  obtain ⟨B, hB⟩ : ∃ B, B = w.heap.size := ⟨_, rfl⟩
  rw [← hB] at hb ⊢
  have hBe : B ≤ w.heap.size := by omega
  have hd8 : ((dp : Int) == 8) = false := by simp; omega
  have hd16 : ((dp : Int) == 16) = false := by simp; omega
  have hd1 : 1 ≤ dp := by omega
  have hd4 : dp ≤ 4 := by omega
  have Hdp := Lib.hid hdp
  clear hB hdp
  go_enter Tryz.func76, Tryz.ntmps76
  go_wp2
  go_loopg [5, 12] n (fun g v i wr => ∃ k m p cp l, k + g = n ∧ m = (k * dp + 7) / 8 ∧ i = .int .i64 (k : Nat) ∧ v = .slice p m cp ∧ Ob wr B p m cp l ∧ Below B w wr)
  case atStart => exact ⟨0, 0, some ⟨w.heap.size, 0, none⟩, 0, [], by omega, by simp, rfl, rfl, Ob.made w B [] hBe (by simp), (Below.refl _ _).alloc hBe _⟩
  case round =>
    obtain ⟨k, m, p, cp, l, hk, hm, rfl, rfl, hO, hbl⟩ := hrel
    have HO := Lib.hid hO
    have Hb := Lib.hid hbl
    have Hk := Lib.hid hk
    have hkn : k ≤ n := by omega
    have hkd : k * dp ≤ 400000 := Nat.le_trans (Nat.mul_le_mul hkn hd4) (by omega)
    obtain ⟨at_, hat⟩ : ∃ at_, at_ = k * dp := ⟨_, rfl⟩
    rw [← hat] at hm hkd
    have Hmul := Lib.hid hat
    have Hm := Lib.hid hm
    by_cases hlt : k < n
    · have z1 := (Hz.out.below hbl hb) k (by rw [Hl.out]; exact hlt)
      have hb1 := Hv.out k
      obtain ⟨z, hzz⟩ : ∃ z, z = zs.getD k 0 := ⟨_, rfl⟩
      rw [← hzz] at z1 hb1
      have hki : (k : Int) < (n : Int) := by omega
      have hbw : B ≤ wr.heap.size := Nat.le_trans hBe hbl.size
      have hmul : (k : Int) * (dp : Int) = (at_ : Int) := by rw [hat]; simp
      have hr8 : at_ % 8 + dp ≤ 8 := by
        have := Hdp.out
        rcases this with rfl | rfl | rfl <;> omega
      clear hzz hat
      by_cases h0 : at_ % 8 = 0
      · have h0' : (at_ : Int) % 8 = 0 := by omega
        have Hfin := Lib.hid (show m + 1 = (at_ + dp + 7) / 8 by omega)
        have hmb : m ≤ 60000 := by omega
        have hm1q : at_ / 8 < m + 1 := by omega
        clear hO hbl hk hm
        go_wp2_with (at_builtin; refine wp_app rfl (.tmp 24) (.tmp 25) rfl B m cp 1 1 p (some ⟨wr.heap.size, 0, none⟩) l [0] rfl rfl (HO.out.keep fun j hj => heap_alloc_old wr _ (HO.out.lt j hj).2) (wr.heap.size + 1) (reads_new wr _ 5 _ 1 1 _ rfl (by simp [bvals]) (by omega) _ rfl) (by omega) (by simp; omega) ?_; intro p1 cap1 w1 hO1 hG hL; have HO1 := Lib.hid hO1; have Hb1 := Lib.hid ((Hb.out.alloc hbw _).grown hG (by simp; omega) (fun j hj => (HO.out.lt j hj).1)); clear hO1 hG hL)
        obtain ⟨g, hg⟩ : ∃ g, p1 = some ⟨g, 0, none⟩ := by
          obtain ⟨g, c, hv, _⟩ := HO1.out.2.form (by omega)
          injection hv with hv
          exact ⟨g, hv⟩
        subst hg
        obtain ⟨l1, hl1⟩ : ∃ l1, l1 = l ++ [0] := ⟨_, rfl⟩
        have HOW := HO1.out
        rw [← hl1] at HOW
        obtain ⟨m1, hm1⟩ : ∃ m1, m1 = m + 1 := ⟨_, rfl⟩
        rw [← hm1] at HOW hm1q
        rw [show m + 1 = m1 from hm1.symm] at Hfin
        have HOW := Lib.hid HOW
        have HbW := Hb1
        have Hm1 := Lib.hid (show m1 ≤ 60001 by omega)
        have hm1b : m1 ≤ 60001 := by omega
        have Hmm := Lib.hid hm1
        clear hl1 hm1 HO1 Hb1 h0' h0
        rw [← Hmm.out]
        have hdp := Hdp.out
        obtain ⟨q, hq⟩ : ∃ q, q = at_ / 8 := ⟨_, rfl⟩
        have eq8 : IntKind.i64.wrap ((at_ : Int) / 8) = (q : Int) := by rw [IntWalk.i64_in _ (by omega)]; omega
        have hqm : q < m1 := by omega
        have hqi : (q : Int) < (m1 : Int) := by omega
        obtain ⟨r, hr⟩ : ∃ r, r = at_ % 8 := ⟨_, rfl⟩
        have er : (at_ : Int).tmod 8 = (r : Int) := by rw [Int.tmod_eq_emod_of_nonneg (by omega)]; omega
        obtain ⟨d8, hd8⟩ : ∃ d8 : Nat, d8 + dp = 8 := ⟨8 - dp, by omega⟩
        have ed : IntKind.i64.wrap (8 - (dp : Int)) = (d8 : Int) := by rw [IntWalk.i64_in _ (by omega)]; omega
        obtain ⟨sc, hsc⟩ : ∃ sc : Nat, sc + r = d8 := ⟨d8 - r, by rcases hdp with rfl | rfl | rfl <;> omega⟩
        have es : IntKind.i64.wrap ((d8 : Int) - (r : Int)) = (sc : Int) := by rw [IntWalk.i64_in _ (by omega)]; omega
        obtain ⟨s, hs⟩ : ∃ s, Op.shift .shl .i64 (z : Int) .i64 (sc : Int) = pure (.int .i64 s) := ⟨_, shift_shl .i64 .i64 z sc (by omega) (by show (sc : Int) ≤ 64; omega)⟩
        have hzc := HOW.out.2.cellAt q (by omega)
        rw [bvals_get l1 _ (by rw [HOW.out.1]; exact hqm)] at hzc
        have hfg := HOW.out.2.frozenAt
        have hgn := Lib.hid (show g ∉ ([] : List Nat) by simp)
        clear hq hr hd8 hsc
        refine region_tail 14 (by kernel_rfl) (by kernel_rfl) ?_
        simp only [List.take_succ_cons, List.take_zero, List.drop_succ_cons, List.drop_zero]
        generalize hw1 : World.drew _ = V
        have hVW : V = w1.drew := hw1.symm
        have g2 : V.cell? ⟨g, q, none⟩ = some (.int .u8 (nb l1 q : Nat)) := by rw [hVW]; exact hzc
        have g4 : ∀ i, V.frozen? ⟨g, i, none⟩ = false := by rw [hVW]; exact hfg
        have HV := Lib.hid hVW
        clear hw1 hVW hzc hfg
        repeat still_step
        refine wpStill_nil ?_
        go_wp2
        obtain ⟨y, hyy⟩ := bits_u8_byte .or (nb l1 q : Int) (s % 256)
        have O1 := (World.ownsRow.stored (HOW.out.2.drew) q (.int .u8 (y.toNat : Int))).1
        rw [bvals_set, ← hyy, ← HV.out] at O1
        have HO1 := Lib.hid O1
        have Hb1 := Lib.hid ((HbW.out.drew).setCell (p := ⟨g, q, none⟩) (HOW.out.lt g rfl).1 (.int .u8 (bits .or .u8 (nb l1 q : Int) (s % 256))))
        clear O1 hyy
        go_roundg (gk - 1)
        case measure => have := Hk.out; omega
        case rel =>
          have := Hk.out
          have := Hm1.out
          have := Hmul.out
          refine ⟨k + 1, m1, some ⟨g, 0, none⟩, cap1, l1.set q y, by omega, ?_, by go_num, rfl, ⟨by rw [List.length_set]; exact HOW.out.1, HO1.out⟩, by rw [HV.out]; exact Hb1.out⟩
          rw [Nat.add_mul, Nat.one_mul, ← Hmul.out]
          exact Hfin.out
      · have h0' : ¬ (at_ : Int) % 8 = 0 := by omega
        have Hfin := Lib.hid (show m = (at_ + dp + 7) / 8 by have := Hdp.out; rcases this with rfl | rfl | rfl <;> omega)
        have hm1q : at_ / 8 < m := by omega
        have hm1b : m ≤ 60001 := by omega
        obtain ⟨g, hg⟩ : ∃ g, p = some ⟨g, 0, none⟩ := by
          obtain ⟨g, c, hv, _⟩ := hO.2.form (by omega)
          injection hv with hv
          exact ⟨g, hv⟩
        subst hg
        have HOW := HO
        have HbW := Hb
        obtain ⟨m1, rfl⟩ : ∃ m1, m1 = m := ⟨_, rfl⟩
        obtain ⟨l1, rfl⟩ : ∃ l1, l1 = l := ⟨_, rfl⟩
        obtain ⟨cap1, rfl⟩ : ∃ c, c = cp := ⟨_, rfl⟩
        have Hm1 := Lib.hid (show m1 ≤ 60001 by omega)
        clear hO hbl hk hm HO Hb
        go_wp2
        have hdp := Hdp.out
        obtain ⟨q, hq⟩ : ∃ q, q = at_ / 8 := ⟨_, rfl⟩
        have eq8 : IntKind.i64.wrap ((at_ : Int) / 8) = (q : Int) := by rw [IntWalk.i64_in _ (by omega)]; omega
        have hqm : q < m1 := by omega
        have hqi : (q : Int) < (m1 : Int) := by omega
        obtain ⟨r, hr⟩ : ∃ r, r = at_ % 8 := ⟨_, rfl⟩
        have er : (at_ : Int).tmod 8 = (r : Int) := by rw [Int.tmod_eq_emod_of_nonneg (by omega)]; omega
        obtain ⟨d8, hd8⟩ : ∃ d8 : Nat, d8 + dp = 8 := ⟨8 - dp, by omega⟩
        have ed : IntKind.i64.wrap (8 - (dp : Int)) = (d8 : Int) := by rw [IntWalk.i64_in _ (by omega)]; omega
        obtain ⟨sc, hsc⟩ : ∃ sc : Nat, sc + r = d8 := ⟨d8 - r, by rcases hdp with rfl | rfl | rfl <;> omega⟩
        have es : IntKind.i64.wrap ((d8 : Int) - (r : Int)) = (sc : Int) := by rw [IntWalk.i64_in _ (by omega)]; omega
        obtain ⟨s, hs⟩ : ∃ s, Op.shift .shl .i64 (z : Int) .i64 (sc : Int) = pure (.int .i64 s) := ⟨_, shift_shl .i64 .i64 z sc (by omega) (by show (sc : Int) ≤ 64; omega)⟩
        have hzc := HOW.out.2.cellAt q (by omega)
        rw [bvals_get l1 _ (by rw [HOW.out.1]; exact hqm)] at hzc
        have hfg := HOW.out.2.frozenAt
        have hgn := Lib.hid (show g ∉ ([] : List Nat) by simp)
        clear hq hr hd8 hsc
        refine region_tail 14 (by kernel_rfl) (by kernel_rfl) ?_
        simp only [List.take_succ_cons, List.take_zero, List.drop_succ_cons, List.drop_zero]
        generalize hw1 : World.drew _ = V
        have hVW : V = wr.drew := hw1.symm
        have g2 : V.cell? ⟨g, q, none⟩ = some (.int .u8 (nb l1 q : Nat)) := by rw [hVW]; exact hzc
        have g4 : ∀ i, V.frozen? ⟨g, i, none⟩ = false := by rw [hVW]; exact hfg
        have HV := Lib.hid hVW
        clear hw1 hVW hzc hfg
        repeat still_step
        refine wpStill_nil ?_
        go_wp2
        obtain ⟨y, hyy⟩ := bits_u8_byte .or (nb l1 q : Int) (s % 256)
        have O1 := (World.ownsRow.stored (HOW.out.2.drew) q (.int .u8 (y.toNat : Int))).1
        rw [bvals_set, ← hyy, ← HV.out] at O1
        have HO1 := Lib.hid O1
        have Hb1 := Lib.hid ((HbW.out.drew).setCell (p := ⟨g, q, none⟩) (HOW.out.lt g rfl).1 (.int .u8 (bits .or .u8 (nb l1 q : Int) (s % 256))))
        clear O1 hyy
        go_roundg (gk - 1)
        case measure => have := Hk.out; omega
        case rel =>
          have := Hk.out
          have := Hm1.out
          have := Hmul.out
          refine ⟨k + 1, m1, some ⟨g, 0, none⟩, cap1, l1.set q y, by omega, ?_, by go_num, rfl, ⟨by rw [List.length_set]; exact HOW.out.1, HO1.out⟩, by rw [HV.out]; exact Hb1.out⟩
          rw [Nat.add_mul, Nat.one_mul, ← Hmul.out]
          exact Hfin.out
    · clear hO hbl hk hm hat
      go_wp2
      go_ret
      have hkn2 : k = n := by have := Hk.out; omega
      exact ⟨p, m, cp, l, rfl, by rw [Hm.out, Hmul.out, hkn2], HO.out, Hb.out⟩
end Go.Proofs.YtnpkgmgedgcjmaaGreatDoor
