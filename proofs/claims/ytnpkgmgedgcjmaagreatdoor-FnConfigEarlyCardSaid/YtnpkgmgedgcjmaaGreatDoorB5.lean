/- The rows of all parts, each with its filter. -/
import Derived.Test.YtnpkgmgedgcjmaaGreatDoorB4
set_option linter.all false
namespace Go.Proofs.YtnpkgmgedgcjmaaGreatDoor
open Go Go.RowKit Png

theorem Seg.blk {w w' : World} {b off : Nat} {l : List UInt8} (h : Seg w b off l) (hb : w'.heap[b]? = w.heap[b]?) : Seg w' b off l := fun k hk => by
  rw [World.cell?_of_block (w := w) (a := ⟨b, off + k, none⟩) hb]; exact h k hk

theorem Kinds.dps {ct dp : Nat} (h : Kinds ct dp) : dp = 1 ∨ dp = 2 ∨ dp = 4 ∨ dp = 8 ∨ dp = 16 := by unfold Kinds at h; omega

set_option maxHeartbeats 20000000 in
set_option maxRecDepth 100000 in
theorem bare_ok (W H dp ct sb ns scap : Nat) (il : Bool) (zs : List Nat) (w : World) (hk : Kinds ct dp) (hW1 : 1 ≤ W) (hW : W ≤ 40) (hH1 : 1 ≤ H) (hH : H ≤ 40) (hz : IntsAt w sb zs) (hsb : sb < w.heap.size) (hl : zs.length = ns)
    (hns : ns = H * W * chan ct) (hcap : ns ≤ scap) (hcap2 : scap ≤ 9223372036854775807) (hv : ∀ k, zs.getD k 0 ≤ 65535) :
    Calls Tryz.prog 56 #[.agg #[.int .i64 W, .int .i64 H, .int .i64 dp, .int .i64 ct, .bool il], .slice (some ⟨sb, 0, none⟩) ns scap, .slice none 0 0] w fun e w' =>
      ∃ p m c l, e = .returned (.slice p m c) ∧ Ob w' w.heap.size p m c l ∧ 0 < m ∧ m ≤ 100000 ∧ Below w.heap.size w w' := by
  have Hz := Lib.hid hz
  have Hl := Lib.hid hl
  have Hv := Lib.hid hv
  have hct := hk.ct
  have hdp : dp ≤ 16 := by unfold Kinds at hk; omega
  have hdp1 : 1 ≤ dp := by unfold Kinds at hk; omega
  have HC := Lib.hid (chan_ok ct hct)
  have hcl := chan_le ct
  have HRB := Lib.hid (fun n hn w => rowBytes_ok W H dp ct n il hct hdp hn w)
  have HST := Lib.hid (fun w => step_ok W H dp ct il hct hdp w)
  have HP := Lib.hid (passes_ok il)
  have HPart := Lib.hid (part_ok il)
  have hst1 : 1 ≤ max 1 (chan ct * dp / 8) := by omega
  have hst2 : max 1 (chan ct * dp / 8) ≤ 64 := by
    have : chan ct * dp ≤ 4 * 16 := Nat.mul_le_mul hcl.2 hdp
    omega
  obtain ⟨st, hst⟩ : ∃ st, st = max 1 (chan ct * dp / 8) := ⟨_, rfl⟩
  rw [← hst] at HST hst1 hst2
  obtain ⟨np, hnp⟩ : ∃ np, np = if il then 7 else 1 := ⟨_, rfl⟩
  rw [← hnp] at HP HPart
  have hnp7 : np ≤ 7 ∧ 1 ≤ np := by rw [hnp]; split <;> omega
  obtain ⟨c, hc⟩ : ∃ c, c = chan ct := ⟨_, rfl⟩
  rw [← hc] at HC HRB hns hcl
  have Hns := Lib.hid hns
  have Hk := Lib.hid hk
  clear hz hl hv hct hst hnp hc hns hk
  obtain ⟨B, hB⟩ : ∃ B, w.heap.size = B := ⟨_, rfl⟩
  rw [hB] at hsb ⊢
  have HB := Lib.hid hB
  go_enter Tryz.func56, Tryz.ntmps56
  go_wp2_with fail
  have hX0 := Box.new w B W H dp ct il hB.symm
  generalize hW0 : World.alloc w _ = W0
  rw [hW0] at hX0
  generalize hW1' : World.alloc W0 _ = W1
  have F1 : Below B w W1 := by rw [← hW1', ← hW0]; exact ((Below.refl _ _).alloc (by omega) _).alloc (by simp; omega) _
  have z0 : W0.heap.size = B + 1 := by rw [← hW0]; simp [hB]
  have X1 : Box W1 B W H dp ct il := by rw [← hW1']; exact hX0.below ((Below.refl (B + 1) W0).alloc (by omega) _) (by omega)
  have O1 : Ob W1 (B + 1) (some ⟨B + 1, 0, none⟩) 0 0 [] := by rw [← hW1', ← z0]; exact Ob.made W0 _ [] (Nat.le_refl _) (by simp)
  have S1 : B + 2 ≤ W1.heap.size := by rw [← hW1']; simp [z0]
  have HF1 := Lib.hid F1
  have HX1 := Lib.hid X1
  have HO1 := Lib.hid O1
  obtain ⟨x0, x1, x2, x3, x4⟩ := X1
  clear hW0 hW1' hX0 F1 O1 z0 hB
  refine (HC.out _).mono ?_
  rintro e w1 ⟨rfl, rfl⟩
  go_wp2_with fail
  refine (HP.out _).mono ?_
  rintro e w1 ⟨rfl, rfl⟩
  go_wp2
  clear x0 x1 x2 x3 x4
  go_loopg [7, 9, 28] np (fun g out tn i wr => ∃ j m p cp l t, j + g = np ∧ (m ≤ j * 13000 ∧ (1 ≤ j → 1 ≤ m) ∧ t ≤ 40 * j) ∧ i = .int .i64 (j : Nat) ∧ tn = .int .i64 (t : Nat) ∧ out = .slice p m cp ∧ Ob wr (B + 1) p m cp l ∧ Below (B + 1) W1 wr)
  case atStart => exact ⟨0, 0, _, _, [], 0, by omega, ⟨by omega, by omega, by omega⟩, rfl, rfl, rfl, HO1.out, Below.refl _ _⟩
  case round =>
    obtain ⟨j, m, p, cp, l, t, hj, ⟨hm, hm1, ht⟩, rfl, rfl, rfl, hO, hb⟩ := hrel
    have HO := Lib.hid hO
    have Hb := Lib.hid hb
    have Hj := Lib.hid hj
    have hj7 : j ≤ 7 := by omega
    have hmb : m ≤ 91000 := by omega
    by_cases hlt : j < np
    · obtain ⟨X, Y, DX, DY, hX, hY, hDX, hDX2, hDY, hDY2, hj0, HPt⟩ := HPart.out j hlt
      have HPt := Lib.hid HPt
      have Hj0 := Lib.hid hj0
      have Xr := HX1.out.below hb (by omega)
      have hBw : B + 1 ≤ wr.heap.size := by have := hb.size; omega
      obtain ⟨x0, x1, x2, x3, x4⟩ := Xr
      clear hO hb hj hj0
      go_wp2_with fail
      refine (HPt.out _).mono ?_
      rintro e w2 ⟨rfl, hb2⟩
      have HO2 := Lib.hid (HO.out.kept hb2)
      have Hb2 := Lib.hid (Hb.out.trans (hb2.mono hBw))
      have Hs2 := Lib.hid hb2.size
      obtain ⟨x0, x1, x2, x3, x4⟩ := HX1.out.below Hb2.out (by omega)
      obtain ⟨pb, hpb⟩ : ∃ pb, w2.heap.size = pb := ⟨_, rfl⟩
      have hpbB : B + 1 ≤ pb := by have := hb2.size; omega
      have hPB : Blk (w2.alloc (.cells #[.int .i64 X, .int .i64 Y, .int .i64 DX, .int .i64 DY] 151)) pb 151 #[.int .i64 X, .int .i64 Y, .int .i64 DX, .int .i64 DY] := by rw [← hpb]; exact Blk.new _ _ _
      have q0 := hPB.cell 0
      have q1 := hPB.cell 1
      have q2 := hPB.cell 2
      have q3 := hPB.cell 3
      simp only [List.getElem?_toArray, List.getElem?_cons_zero, List.getElem?_cons_succ] at q0 q1 q2 q3
      have Hb3 := Lib.hid (Hb2.out.alloc (by omega) (.cells #[.int .i64 X, .int .i64 Y, .int .i64 DX, .int .i64 DY] 151))
      obtain ⟨y0, y1, y2, y3, y4⟩ := HX1.out.below Hb3.out (by omega)
      have hBpb : B < pb := by omega
      clear hb2
      go_wp2_with fail
      refine (size_ok X Y DX DY W H hX hY hDX hDX2 hDY hDY2 hW hH _).mono ?_
      rintro e w3 ⟨a, b, rfl, ha, hbb, hab, hpos, hxs, hys, hb4⟩
      have Hxs := Lib.hid hxs
      have Hys := Lib.hid hys
      have Hpos := Lib.hid hpos
      have hbs3 : pb + 1 ≤ w3.heap.size := by have := hb4.size; simp [hpb] at this; omega
      have HO3 := Lib.hid (((HO2.out.keep fun k hk => heap_alloc_old w2 (.cells #[.int .i64 X, .int .i64 Y, .int .i64 DX, .int .i64 DY] 151) (HO2.out.lt k hk).2)).kept hb4)
      have HP3 := Lib.hid (hPB.below hb4 (by simp [hpb]))
      have Hb4 := Lib.hid (Hb3.out.trans (hb4.mono (by simp [hpb]; omega)))
      obtain ⟨z0, z1, z2, z3, z4⟩ := HX1.out.below Hb4.out (by omega)
      clear x0 x1 x2 x3 x4 y0 y1 y2 y3 y4 q0 q1 q2 q3 hb4 hxs hys hpos hPB
      go_wp2_with fail
      refine (HRB.out a (by omega) _).mono ?_
      rintro e w4 ⟨rfl, hb5⟩
      have hrbb : (a * c * dp + 7) / 8 ≤ 320 := by
        have h1 : a * c ≤ 160 := Nat.le_trans (Nat.mul_le_mul ha hcl.2) (by omega)
        have h2 : a * c * dp ≤ 2560 := Nat.le_trans (Nat.mul_le_mul h1 hdp) (by omega)
        omega
      obtain ⟨rb, hrb⟩ : ∃ rb, rb = (a * c * dp + 7) / 8 := ⟨_, rfl⟩
      rw [← hrb] at hrbb ⊢
      have Hrb := Lib.hid hrb
      have hmk := fun W => run_make_row' (P := Tryz.prog) 24 5 (.int .u8 0) 1 Tryz.underlying24 (by kernel_rfl) rfl .i64 .i64 rb (by omega) (by omega) W
      have HO4 := Lib.hid (HO3.out.kept hb5)
      have HP4 := Lib.hid (HP3.out.below hb5 (by omega))
      have Hb5 := Lib.hid (Hb4.out.trans (hb5.mono (by omega)))
      have hbs4 : pb + 1 ≤ w4.heap.size := by have := hb5.size; omega
      clear hrb hb5 z0 z1 z2 z3 z4
      go_wp2
      have hsg := made_seg w4 rb
      have hO5 := HO4.out.keep (w' := w4.alloc (.cells (madeCells #[.int .u8 0] rb) 5)) fun k hk => heap_alloc_old w4 _ (HO4.out.lt k hk).2
      have hP5 : Blk (w4.alloc (.cells (madeCells #[.int .u8 0] rb) 5)) pb 151 #[.int .i64 X, .int .i64 Y, .int .i64 DX, .int .i64 DY] := HP4.out.alloc _
      have hb6 := Hb5.out.alloc (by omega) (.cells (madeCells #[.int .u8 0] rb) 5)
      obtain ⟨ab0, hab0⟩ : ∃ ab0, ab0 = w4.heap.size := ⟨_, rfl⟩
      have hne0 : ∀ k, p.map (·.block) = some k → k ≠ ab0 := fun k hk => by have := (HO4.out.lt k hk).2; omega
      rw [← hab0] at hsg ⊢
      generalize hw5 : World.alloc w4 _ = w5
      rw [hw5] at hsg hO5 hP5 hb6
      have hs5 : ab0 < w5.heap.size := by rw [← hw5, hab0]; simp
      have HO5 := Lib.hid hO5
      have HP5 := Lib.hid hP5
      have Hb6 := Lib.hid hb6
      have Hsg5 := Lib.hid hsg
      have Hne0 := Lib.hid hne0
      obtain ⟨go, hgo⟩ : ∃ go, go = gk := ⟨_, rfl⟩
      have Hgo := Lib.hid hgo
      clear hsg hO5 hP5 hb6 hab0 hw5 hne0 hmk hgo HO4 HP4 Hb5 Hb4 HO3 HP3 Hb3 HO2 Hb2 Hs2 HO Hb
      go_loopg [7, 9, 14, 49] b (fun g out tn av i wr => ∃ y m' p cp l t' ab acp al, y + g = b ∧ (m' ≤ m + 321 * y ∧ m ≤ m' ∧ (1 ≤ y → 1 ≤ m') ∧ t' ≤ t + y) ∧ i = .int .i64 (y : Nat) ∧ tn = .int .i64 (t' : Nat) ∧ out = .slice p m' cp ∧ av = .slice (some ⟨ab, 0, none⟩) rb acp ∧
        (Ob wr (B + 1) p m' cp l ∧ Below (B + 1) W1 wr ∧ Blk wr pb 151 #[.int .i64 X, .int .i64 Y, .int .i64 DX, .int .i64 DY] ∧ Seg wr ab 0 al ∧ al.length = rb ∧ ab < wr.heap.size ∧ (∀ k, p.map (·.block) = some k → k ≠ ab)))
      case atStart => exact ⟨0, m, p, cp, l, t, ab0, rb, List.replicate rb 0, by omega, ⟨by omega, by omega, by omega, by omega⟩, rfl, rfl, rfl, rfl, HO5.out, Hb6.out, HP5.out, Hsg5.out, by simp, hs5, Hne0.out⟩
      case round =>
        obtain ⟨y, m', p', cp', l', t', ab, acp, al, hy, ⟨hm', hmm, hm1', ht'⟩, rfl, rfl, rfl, rfl, ⟨hO, hb, hP, hsg, hal, hab1, hne⟩⟩ := hrel
        have HO := Lib.hid hO
        have Hb := Lib.hid hb
        have HP := Lib.hid hP
        have Hsg := Lib.hid hsg
        have Hal := Lib.hid hal
        have Hne := Lib.hid hne
        have Hy := Lib.hid hy
        by_cases hyb : y < b
        · have ha1 : 0 < a := hab (by omega)
          have hyH := Hys.out y hyb
          have hSB : B + 1 ≤ wr.heap.size := by have := hb.size; omega
          have hpbw : pb < wr.heap.size := hP.lt
          clear hO hb hP hsg hal hne hy
          go_wp2
          obtain ⟨S, hS⟩ : ∃ S, wr.heap.size = S := ⟨_, rfl⟩
          have hL6 : Oi (wr.alloc (.cells #[] 3)) S (some ⟨wr.heap.size, 0, none⟩) 0 0 [] := ⟨rfl, World.ownsRow_made wr #[] 0 (by omega) (by simp) rfl⟩
          have hb6 : Below S wr (wr.alloc (.cells #[] 3)) := (Below.refl _ _).alloc (by omega) _
          rw [hS] at hab1 hSB hpbw hL6 ⊢
          generalize hw6 : World.alloc wr _ = w6
          rw [hw6] at hL6 hb6
          have HL6 := Lib.hid hL6
          have Hb6' := Lib.hid hb6
          have HS := Lib.hid hS
          obtain ⟨wo, rfl⟩ : ∃ wo : World, wo = wr := ⟨_, rfl⟩
          obtain ⟨gy, hgy⟩ : ∃ gy, gy = gk := ⟨_, rfl⟩
          have Hgy := Lib.hid hgy
          clear hL6 hb6 hw6 hgy hS
          go_loopg [16, 54] a (fun g lv i wx => ∃ x n lp lcp ll, x + g = a ∧ n ≤ 4 * x ∧ Hid (n = x * c ∧ ∀ k, ll.getD k 0 ≤ 65535) ∧ i = .int .i64 (x : Nat) ∧ lv = .slice lp n lcp ∧ Oi wx S lp n lcp ll ∧ Below S wo wx)
          case atStart => exact ⟨0, 0, _, _, [], by omega, by omega, Lib.hid ⟨by simp, fun k => by simp⟩, rfl, rfl, HL6.out, Hb6'.out⟩
          case round =>
            obtain ⟨x, n, lp, lcp, ll, hx, hn4, Hn, rfl, rfl, hL, hbx⟩ := hrel
            have HL := Lib.hid hL
            have Hbx := Lib.hid hbx
            have Hx := Lib.hid hx
            have hn160 : n ≤ 160 := by omega
            have hBW : Below (B + 1) W1 wr := Hb.out.trans (hbx.mono hSB)
            obtain ⟨x0, x1, x2, x3, x4⟩ := HX1.out.below hBW (by omega)
            have hPx : Blk wr pb 151 #[.int .i64 X, .int .i64 Y, .int .i64 DX, .int .i64 DY] := HP.out.below hbx (by omega)
            have hSx : S ≤ wr.heap.size := by have := hbx.size; have := HS.out; omega
            by_cases hxa : x < a
            · have hxW := Hxs.out x hxa
              obtain ⟨u1, hu1⟩ : ∃ u1, u1 = y * DY := ⟨_, rfl⟩
              obtain ⟨v1, hv1⟩ : ∃ v1, v1 = Y + u1 := ⟨_, rfl⟩
              obtain ⟨u2, hu2⟩ : ∃ u2, u2 = v1 * W := ⟨_, rfl⟩
              obtain ⟨v2, hv2⟩ : ∃ v2, v2 = u2 + X := ⟨_, rfl⟩
              obtain ⟨u3, hu3⟩ : ∃ u3, u3 = x * DX := ⟨_, rfl⟩
              obtain ⟨v3, hv3⟩ : ∃ v3, v3 = v2 + u3 := ⟨_, rfl⟩
              obtain ⟨at_, hat⟩ : ∃ at_, at_ = v3 * c := ⟨_, rfl⟩
              obtain ⟨at2, hat2⟩ : ∃ at2, at2 = at_ + c := ⟨_, rfl⟩
              have b1 : v1 < H := by omega
              have b2 : u2 + W ≤ H * W := by
                have : (v1 + 1) * W ≤ H * W := Nat.mul_le_mul_right _ b1
                rw [Nat.add_mul, Nat.one_mul] at this
                omega
              have b3 : H * W ≤ 1600 := Nat.le_trans (Nat.mul_le_mul hH hW) (by omega)
              have b4 : v3 + 1 ≤ H * W := by omega
              have b5 : at2 ≤ ns := by
                have : (v3 + 1) * c ≤ H * W * c := Nat.mul_le_mul_right _ b4
                rw [Nat.add_mul, Nat.one_mul, ← Hns.out] at this
                omega
              have b6 : ns ≤ 6400 := by rw [Hns.out]; exact Nat.le_trans (Nat.mul_le_mul b3 hcl.2) (by omega)
              have e1 : (y : Int) * (DY : Int) = (u1 : Int) := by rw [hu1]; simp
              have e2 : (Y : Int) + (u1 : Int) = (v1 : Int) := by omega
              have e3 : (v1 : Int) * (W : Int) = (u2 : Int) := by rw [hu2]; simp
              have e4 : (u2 : Int) + (X : Int) = (v2 : Int) := by omega
              have e5 : (x : Int) * (DX : Int) = (u3 : Int) := by rw [hu3]; simp
              have e6 : (v2 : Int) + (u3 : Int) = (v3 : Int) := by omega
              have e7 : (v3 : Int) * (c : Int) = (at_ : Int) := by rw [hat]; simp
              have e8 : (at_ : Int) + (c : Int) = (at2 : Int) := by omega
              have Hc2 := Lib.hid (show at2 - at_ = c by omega)
              have k1 : u1 ≤ 40 := by omega
              have k2 : v1 ≤ 40 := by omega
              have k3 : u2 ≤ 1600 := by omega
              have k4 : v2 ≤ 1600 := by omega
              have k5 : u3 ≤ 40 := by omega
              have k6 : v3 ≤ 1600 := by omega
              have k7 : at_ ≤ 6400 := by omega
              have k8 : at2 ≤ 6400 := by omega
              have k9 : at_ ≤ at2 := by omega
              have k10 : at2 ≤ scap := by omega
              have k11 : ¬ scap = at_ := by omega
              have q0 := hPx.cell 0
              have q1 := hPx.cell 1
              have q2 := hPx.cell 2
              have q3 := hPx.cell 3
              simp only [List.getElem?_toArray, List.getElem?_cons_zero, List.getElem?_cons_succ] at q0 q1 q2 q3
              have hR := reads_part (c := at2 - at_) (at_ := at_) (Hz.out.below (HF1.out.trans (hBW.mono (by omega))) hsb) (by omega) Hl.out (by omega)
              have HR := Lib.hid hR
              have HvL := Lib.hid (show ∀ k, (ll ++ (zs.drop at_).take (at2 - at_)).getD k 0 ≤ 65535 by
                intro k
                simp only [List.getD_eq_getElem?_getD, List.getElem?_append]
                split
                · have := Hn.out.2 k; simpa [List.getD_eq_getElem?_getD] using this
                · rw [List.getElem?_take]
                  split
                  · rw [List.getElem?_drop]
                    have := Hv.out (at_ + (k - ll.length))
                    simpa [List.getD_eq_getElem?_getD] using this
                  · simp)
              clear hu1 hv1 hu2 hv2 hu3 hv3 hat hat2 b1 b2 b3 b4 hR hL hbx hx hBW hPx
              go_wp2_with (at_builtin; go_must (refine wp_appI rfl (.tmp 77) (.tmp 83) rfl S n lcp (at2 - at_) _ lp (some ⟨sb, at_, none⟩) ll ((zs.drop at_).take (at2 - at_)) rfl rfl HL.out _ HR.out (by omega) hSx ?_); intro p1 cap1 w7 hO1 hG hL7; have HO1 := Lib.hid hO1; have Hb1 := Lib.hid (Hbx.out.grown hG hSx (fun j hj => (owns_lt HL.out.2 j hj).1)); clear hO1 hG hL7)
              go_roundg (gk - 1)
              case measure => have := Hx.out; omega
              case rel =>
                have := Hx.out
                have hc2 := Hc2.out
                exact ⟨x + 1, n + (at2 - at_), p1, cap1, _, by omega, by omega, Lib.hid ⟨by rw [Nat.add_mul, Nat.one_mul, ← Hn.out.1, hc2], HvL.out⟩, by go_num, rfl, HO1.out, Hb1.out⟩
            · have hxe : x = a := by have := Hx.out; omega
              have hn1 : 0 < n := by
                rw [Hn.out.1, hxe]
                exact Nat.mul_pos ha1 (by omega)
              obtain ⟨g, hg⟩ : ∃ g, lp = some ⟨g, 0, none⟩ := by
                obtain ⟨g, c, hv, _⟩ := HL.out.2.form hn1
                injection hv with hv
                exact ⟨g, hv⟩
              subst hg
              have HNE := Lib.hid (show (n * dp + 7) / 8 = rb by rw [Hrb.out, Hn.out.1, hxe])
              have hrb1 : 1 ≤ rb := by
                rw [← HNE.out]
                have : 0 < n * dp := Nat.mul_pos hn1 hdp1
                omega
              clear hL hbx hx hBW hPx hxe
              go_wp2_with fail
              refine (row_ok g n lcp dp ll wr HL.out.intsAt (HL.out.2.lt g rfl).2 HL.out.1 (by omega) Hn.out.2 Hk.out.dps).mono ?_
              rintro e w7 ⟨p2, m2, c2, l2, rfl, hm2, hO2, hb7⟩
              obtain rfl : m2 = rb := hm2.trans HNE.out
              obtain ⟨g2, hg2⟩ : ∃ g2, p2 = some ⟨g2, 0, none⟩ := by
                obtain ⟨g, c, hv, _⟩ := hO2.2.form hrb1
                injection hv with hv
                exact ⟨g, hv⟩
              subst hg2
              have hbo7 : Below S wo w7 := Hbx.out.trans (hb7.mono hSx)
              have hb17 : Below (B + 1) W1 w7 := Hb.out.trans (hbo7.mono hSB)
              have HO7 := Lib.hid (HO.out.keep fun k hk => hbo7.block k (by have := (HO.out.lt k hk).2; have := HS.out; omega))
              have HP7 := Lib.hid (HP.out.below hbo7 hpbw)
              have Hsg7 := Lib.hid (Hsg.out.below hbo7 hab1)
              have Hr7 := Lib.hid (Bsl.seg hO2.bsl)
              have hg2a : S ≤ g2 := Nat.le_trans hSx (hO2.lt g2 rfl).1
              have hg2b : g2 < w7.heap.size := (hO2.lt g2 rfl).2
              have Hl2 := Lib.hid hO2.1
              have Hb17 := Lib.hid hb17
              have hBw7 : B < w7.heap.size := by omega
              have hab7 : ab < w7.heap.size := by omega
              have hpb7 : pb < w7.heap.size := by omega
              have HpS := Lib.hid (fun k hk => show k < S by have := (HO.out.lt k hk).2; have := HS.out; omega : ∀ k, p'.map (·.block) = some k → k < S)
              obtain ⟨z0, z1, z2, z3, z4⟩ := HX1.out.below hb17 (by omega)
              have hm9 : m' ≤ 120000 := by omega
              clear hm2 hO2 hb7 hbo7 hb17 x0 x1 x2 x3 x4
              go_wp2_with fail
              go_region_held3 (fun w' => w'.cell? ⟨B, 0, none⟩ = some (.int .i64 W) ∧ w'.cell? ⟨B, 1, none⟩ = some (.int .i64 H) ∧ w'.cell? ⟨B, 2, none⟩ = some (.int .i64 dp) ∧ w'.cell? ⟨B, 3, none⟩ = some (.int .i64 ct) ∧ w'.cell? ⟨B, 4, none⟩ = some (.bool il))
                (first | exact ⟨z0, z1, z2, z3, z4⟩ | exact ⟨f0, f1, f2, f3, f4⟩ | exact ⟨i0, i1, i2, i3, i4⟩ | exact ⟨k0, k1, k2, k3, k4⟩ | exact ⟨n0, n1, n2, n3, n4⟩ | (refine ⟨?_, ?_, ?_, ?_, ?_⟩ <;> go_simp))
                (first
                  | (refine step_app rfl (.tmp 104) (.tmp 107) (by rfl) (B + 1) m' cp' 1 1 p' (some ⟨w7.heap.size, 0, none⟩) l' [0] (by rfl) (by rfl) (HO7.out.keep fun j hj => heap_alloc_old w7.drew (.cells #[.int .u8 0] 5) (HO7.out.lt j hj).2) (w7.heap.size + 1) (reads_new w7.drew #[.int .u8 0] 5 (w7.heap.size + 1) 1 1 (bvals [0]) rfl rfl (by simp) _ rfl) (by omega) (by simp; omega) ?_; intro p8 c8 w8 hO8 hG8 hL8; have HO8 := Lib.hid hO8; have HG8 := Lib.hid hG8; have HL8 := Lib.hid hL8; have Hb8 := Lib.hid ((Hb17.out.drew.alloc (by simp; omega) _).grown hG8 (by simp; omega) (fun k hk => (HO7.out.lt k hk).1)); obtain ⟨f0, f1, f2, f3, f4⟩ := HX1.out.below Hb8.out (by omega); clear hO8 hG8 hL8)
                  | (go_at_call 78; refine (HST.out _).mono ?_; rintro e w9 ⟨rfl, hb9⟩; have Hb9 := Lib.hid hb9; obtain ⟨i0, i1, i2, i3, i4⟩ := HX1.out.below (Hb8.out.trans (hb9.mono (by have := Hb8.out.size; omega))) (by omega); clear hb9)
                  | (go_at_call 77; have hs8 := HG8.out.size; have hs8' : w7.heap.size + 1 ≤ w8.heap.size := (by simpa using hs8); have h78 : w7.heap.size ≤ w8.heap.size := Nat.le_of_succ_le hs8'; have S8g := Lib.hid (Hr7.out.blk ((HG8.out.block g2 (Nat.lt_of_lt_of_le hg2b (by simp)) (fun e => Nat.lt_irrefl _ (Nat.lt_of_lt_of_le (HpS.out g2 e.symm) hg2a))).trans (heap_alloc_old w7.drew _ hg2b))); have S8a := Lib.hid (Hsg7.out.blk ((HG8.out.block ab (Nat.lt_of_lt_of_le hab7 (by simp)) (fun e => Hne.out ab e.symm rfl)).trans (heap_alloc_old w7.drew _ hab7))); have hs9 := Hb9.out.size; have hB8 : B + 1 ≤ w8.heap.size := Nat.le_trans hBw7 h78; have hB9 : B + 1 ≤ w9.heap.size := Nat.le_trans hB8 hs9; have hg8 := Nat.lt_of_lt_of_le hg2b h78; have ha8 := Nat.lt_of_lt_of_le hab7 h78; refine (filtered_ok g2 ab m2 c2 acp st l2 al w9 (S8g.out.below Hb9.out hg8) (S8a.out.below Hb9.out ha8) (Nat.lt_of_lt_of_le hg8 hs9) (Nat.lt_of_lt_of_le ha8 hs9) Hl2.out Hal.out (Nat.le_trans hrbb (by decide)) hst2 hst1).mono ?_; rintro e w10 ⟨p10, c10, l10, rfl, hO10, hb10⟩; have HO10 := Lib.hid hO10; have Hb10 := Lib.hid hb10; have hB10 : B + 1 ≤ w10.heap.size := Nat.le_trans hB9 hb10.size; obtain ⟨k0, k1, k2, k3, k4⟩ := HX1.out.below ((Hb8.out.trans (Hb9.out.mono hB8)).trans (hb10.mono hB9)) (Nat.lt_succ_self B); clear hO10 hb10 hs8)
                  | (refine step_app rfl (.tmp 108) (.tmp 114) (by rfl) (B + 1) (m' + 1) c8 m2 c10 p8 p10 (l' ++ [0]) l10 (by rfl) (by rfl) ((HO8.out.kept Hb9.out).kept Hb10.out) w10.heap.size HO10.out.reads (Nat.le_trans (Nat.add_le_add (Nat.succ_le_succ hm9) hrbb) (by decide)) hB10 ?_; intro p11 c11 w11 hO11 hG11 hL11; have HO11 := Lib.hid hO11; have HG11 := Lib.hid hG11; have HL11 := Lib.hid hL11; have Hb11 := Lib.hid (((Hb8.out.trans (Hb9.out.mono hB8)).trans (Hb10.out.mono hB9)).grown hG11 hB10 (fun k hk => (HO8.out.lt k hk).1)); obtain ⟨n0, n1, n2, n3, n4⟩ := HX1.out.below Hb11.out (Nat.lt_succ_self B); clear hO11 hG11 hL11)
                  | fail)
              clear f0 f1 f2 f3 f4 i0 i1 i2 i3 i4 k0 k1 k2 k3 k4 n0 n1 n2 n3 n4 z0 z1 z2 z3 z4
              go_wp2
              go_roundg (gy - 1)
              case measure => have := Hy.out; have := Hgy.out; omega
              case rel =>
                have hY := Hy.out
                have hG := Hgy.out
                have hs10 := Hb10.out.size
                have hp8 : ∀ k, p8.map (·.block) = some k → k ≠ g2 ∧ k < w8.heap.size := fun k hk => ⟨fun e => by
                  subst e
                  rcases HL8.out with e | e
                  · have := HpS.out k (e.symm.trans hk); omega
                  · rw [e] at hk; simp at hk; omega, (HO8.out.lt k hk).2⟩
                have hP8 : Blk w8 pb 151 #[.int .i64 X, .int .i64 Y, .int .i64 DX, .int .i64 DY] := (HP7.out.drew.alloc _).grown HG8.out (fun e => own_blk_ne HO7.out.2 HP7.out (by decide) (by rw [ownBlock_slice]; exact e.symm))
                have hP10 := (hP8.below Hb9.out (by omega)).below Hb10.out (by omega)
                have hO10 := (HO8.out.kept Hb9.out).kept Hb10.out
                refine ⟨y + 1, m' + 1 + m2, p11, c11, _, t' + 1, g2, c2, l2, by omega, ⟨by omega, by omega, by omega, by omega⟩, by go_num, by go_num, rfl, rfl, HO11.out, Hb11.out, ?_, ?_, Hl2.out, ?_, ?_⟩
                · exact hP10.grown HG11.out (fun e => own_blk_ne hO10.2 hP10 (by decide) (by rw [ownBlock_slice]; exact e.symm))
                · exact (((S8g.out.below Hb9.out (by omega)).below Hb10.out (by omega))).blk (HG11.out.block g2 (by omega) (fun e => (hp8 g2 e.symm).1 rfl))
                · have := HG11.out.size; omega
                · intro k hk e
                  subst e
                  rcases HL11.out with e | e
                  · exact (hp8 k (e.symm.trans hk)).1 rfl
                  · rw [e] at hk; simp at hk; omega
        · clear hO hb hP hsg hal hne hy
          have hyb2 : y = b := by have := Hy.out; omega
          go_wp2
          go_roundg (go - 1)
          case measure => have := Hgo.out; have := Hj.out; omega
          case rel =>
            have := Hgo.out
            have := Hj.out
            refine ⟨j + 1, m', p', cp', l', t', by omega, ⟨by omega, fun _ => ?_, by omega⟩, by go_num, rfl, rfl, HO.out, Hb.out⟩
            by_cases hj1 : 1 ≤ j
            · have := hm1 hj1; omega
            · obtain ⟨e1, e2⟩ := Hj0.out (by omega)
              have := Hpos.out (by omega) (by omega)
              omega
    · clear hO hb hj
      go_wp2
      go_ret
      have := Hj.out
      refine ⟨p, m, cp, l, rfl, HO.out.lower (by omega), hm1 (by omega), by omega, HF1.out.trans (Hb.out.mono (by omega))⟩
end Go.Proofs.YtnpkgmgedgcjmaaGreatDoor
