/- A part of the proof: De. -/
import Derived.Test.YtnpkgmgedgcjmaaGreatDoorZW6
set_option linter.all false
set_option maxRecDepth 100000
section
namespace Go.Proofs.YtnpkgmgedgcjmaaGreatDoor
open Go Go.RowKit Png
set_option maxHeartbeats 8000000 in
theorem dotsW_b (W H dp ct sb ns scap dN dcap cN ccap N : Nat) (il : Bool) (zs : List Nat) (ds : List Q4) (cs : List Nat) (pd pc : Option Addr) (w : World)
  (hsel : ct = 3 ∨ ct = 4) (hk : Kinds ct dp) (hN : N ≤ 16384) (hz : IntsAt w sb zs) (hsb : sb < w.heap.size) (hl : zs.length = ns)
  (hns : ns = N * chan ct) (hcap : ns ≤ scap) (hcap2 : scap ≤ 9223372036854775807) (hv : ∀ k, zs.getD k 0 ≤ 65535)
  (hd : 0 < dN → ∃ db, pd = some ⟨db, 0, none⟩ ∧ db < w.heap.size ∧ DotsAt w db ds) (hdl : ds.length = dN) (hdn : dN ≤ 256)
  (hc : 0 < cN → ∃ cb, pc = some ⟨cb, 0, none⟩ ∧ cb < w.heap.size ∧ IntsAt w cb cs) (hcl : cs.length = cN) (hcn : cN ≤ 4) :
  Calls Tryz.prog 37 #[.agg #[.int .i64 W, .int .i64 H, .int .i64 dp, .int .i64 ct, .bool il], .slice (some ⟨sb, 0, none⟩) ns scap, .slice pd dN dcap, .slice pc cN ccap] w fun e w' =>
   ∃ p n c s, e = .returned (.tuple #[.slice p n c, .int .i64 s]) ∧ Below w.heap.size w w' := by
 have Hsel := Lib.hid hsel
 clear hsel
 have Hz := Lib.hid hz
 have Hl := Lib.hid hl
 have Hv := Lib.hid hv
 have Hd := Lib.hid hd
 have Hc := Lib.hid hc
 have Hdl := Lib.hid hdl
 have Hcl := Lib.hid hcl
 have hct := hk.ct
 have HC := Lib.hid (chan_ok ct hct)
 have hcc := chan_le ct
 obtain ⟨hT1, hT2⟩ := hk.tops
 have hs : Op.shift .shl .i64 1 .i64 (dp : Int) = pure (.int .i64 ((2 ^ dp : Nat) : Int)) := by
  rcases hk.dps with rfl | rfl | rfl | rfl | rfl <;> rfl
 obtain ⟨T, hT⟩ : ∃ T, T = 2 ^ dp := ⟨_, rfl⟩
 rw [← hT] at hT1 hT2 hs
 obtain ⟨t, ht⟩ : ∃ t, t + 1 = T := ⟨T - 1, by omega⟩
 have et : (T : Int) - 1 = (t : Int) := by omega
 have ht1 : 1 ≤ t := by omega
 have ht2 : t ≤ 65535 := by omega
 obtain ⟨c, hcc2⟩ : ∃ c, c = chan ct := ⟨_, rfl⟩
 rw [← hcc2] at HC hns hcc
 have Hct := Lib.hid hct
 have Hcc := Lib.hid hcc2
 have Hns := Lib.hid hns
 have hns6 : ns ≤ 65536 := by rw [hns]; exact Nat.le_trans (Nat.mul_le_mul hN hcc.2) (by omega)
 obtain ⟨hcc3, hcc4⟩ := hcc
 clear hz hl hv hd hc hdl hcl hk hct hcc2 hns hT ht
 obtain ⟨B, hB⟩ : ∃ B, w.heap.size = B := ⟨_, rfl⟩
 rw [hB] at hsb ⊢
 have HB := Lib.hid hB
 clear hB
 go_enter Tryz.func37, Tryz.ntmps37
 go_wp2_with fail
 have hX0 := Box.new w B W H dp ct il HB.out.symm
 generalize hW0 : World.alloc w _ = W0
 rw [hW0] at hX0
 have F0 : Below B w W0 := by rw [← hW0]; exact (Below.refl _ _).alloc (Nat.le_of_eq HB.out.symm) _
 have S0 : W0.heap.size = B + 1 := by rw [← hW0]; simp [HB.out]
 have HF0 := Lib.hid F0
 have HX0 := Lib.hid hX0
 have HS0 := Lib.hid S0
 rw [HB.out]
 obtain ⟨x0, x1, x2, x3, x4⟩ := hX0
 clear hW0 F0 S0
 go_quiet ((go_at_call 36; exact calls_same (HC.out _)))
 go_wp2
 go_loopg [12, 13] N (fun g o k wr => ∃ j kk p cp l, j + g = N ∧ Hid (kk = j * c) ∧ k = .int .i64 (kk : Nat) ∧ o = .slice p j cp ∧ Od wr (B + 1) p j cp l ∧ Below (B + 1) W0 wr)
 case atStart => exact ⟨0, 0, _, _, [], by omega, Lib.hid (by simp), rfl, rfl, ⟨rfl, World.ownsRow_made W0 #[] 0 (Nat.le_of_eq HS0.out.symm) (by simp) rfl⟩, ⟨rfl, rfl, rfl, by simp, fun k hk => heap_alloc_old W0 _ (by have := HS0.out; omega)⟩⟩
 case round =>
  obtain ⟨j, kk, p, cp, l, hj, Hkk, rfl, rfl, hO, hb⟩ := hrel
  have HO := Lib.hid hO
  have Hb := Lib.hid hb
  have Hj := Lib.hid hj
  have hBw : B + 1 ≤ wr.heap.size := by have := hb.size; have := HS0.out; omega
  have hbB : Below B w wr := HF0.out.trans (hb.mono (Nat.le_succ _))
  by_cases hlt : j < N
  ·
   have hkc : kk + c ≤ ns := by rw [Hns.out, Hkk.out, ← Nat.succ_mul]; exact Nat.mul_le_mul_right _ hlt
   obtain ⟨k2, hk2⟩ : ∃ k2, k2 = kk + c := ⟨_, rfl⟩
   have ek : (kk : Int) + (c : Int) = (k2 : Int) := by omega
   have hk2n : (k2 : Int) ≤ (ns : Int) := by omega
   have hkk : kk ≤ 65536 := by omega
   have hk26 : k2 ≤ 65536 := by omega
   have HZ := Lib.hid (Hz.out.below hbB hsb)
   have HK2 := Lib.hid hk2
   have hX := HX0.out.below hb (Nat.lt_succ_self B)
   obtain ⟨S, hS⟩ : ∃ S, wr.heap.size = S := ⟨_, rfl⟩
   have hL6 : Oi (wr.alloc (.cells #[] 3)) S (some ⟨wr.heap.size, 0, none⟩) 0 0 [] := ⟨rfl, World.ownsRow_made wr #[] 0 (Nat.le_of_eq hS.symm) (by simp) rfl⟩
   have hb6 : Below S wr (wr.alloc (.cells #[] 3)) := (Below.refl _ _).alloc (Nat.le_of_eq hS.symm) _
   have Hb6 := Lib.hid hb6
   have HS := Lib.hid hS
   have HX := Lib.hid hX
   have HbB := Lib.hid hbB
   rw [hS] at hL6 hBw
   have HL6 := Lib.hid hL6
   have hsb3 : sb < S := by rw [← hS]; exact Nat.lt_of_lt_of_le hsb (by have := hbB.size; have := HB.out; omega)
   clear hO hb hj hkc hk2 hL6 hb6 hX hbB hS
   go_wp2
   rw [HS.out]
   obtain ⟨wo, rfl⟩ : ∃ wo : World, wo = wr := ⟨_, rfl⟩
   obtain ⟨gy, hgy⟩ : ∃ gy, gy = gk := ⟨_, rfl⟩
   have Hgy := Lib.hid hgy
   clear hgy
   go_loopg [14, 15, 40] c (fun g lv sm i wx => ∃ x lp lcp ll b, x + g = c ∧ i = .int .i64 (x : Nat) ∧ sm = .bool b ∧ lv = .slice lp x lcp ∧ Oi wx S lp x lcp ll ∧ Below S wo wx)
   case atStart => exact ⟨0, _, _, [], _, by omega, rfl, rfl, rfl, HL6.out, Hb6.out⟩
   case round =>
    obtain ⟨x, lp, lcp, ll, b, hx, rfl, rfl, rfl, hL, hbx⟩ := hrel
    have HL := Lib.hid hL
    have Hbx := Lib.hid hbx
    have Hx := Lib.hid hx
    have hSx : S ≤ wr.heap.size := by have := hbx.size; rw [HS.out] at this; exact this
    by_cases hxc : x < c
    ·
     obtain ⟨i1, hi1⟩ : ∃ i1, i1 = kk + x := ⟨_, rfl⟩
     have hi1n : i1 < ns := by have := HK2.out; omega
     have ei : (kk : Int) + (x : Int) = (i1 : Int) := by omega
     have ew : IntKind.i64.wrap (i1 : Int) = (i1 : Int) := by rw [IntWalk.i64_in _ (by omega)]
     have y0 := (HZ.out.below hbx hsb3) i1 (by rw [Hl.out]; exact hi1n)
     obtain ⟨z, hzz⟩ : ∃ z, zs.getD i1 0 = z := ⟨_, rfl⟩
     have hz5 := Hv.out i1
     rw [hzz] at y0 hz5
     obtain ⟨m, hm⟩ : ∃ m, m = z * 65535 := ⟨_, rfl⟩
     have em : (z : Int) * 65535 = (m : Int) := by omega
     have hm9 : m ≤ 4294836225 := by omega
     obtain ⟨q, hq⟩ : ∃ q, q = m / t := ⟨_, rfl⟩
     have hq9 : q ≤ 4294836225 := by rw [hq]; exact Nat.le_trans (Nat.div_le_self _ _) hm9
     have eq1 : (m : Int) / (t : Int) = (q : Int) := by rw [hq]; simp
     have eq2 : (m : Int).tdiv (t : Int) = (q : Int) := by rw [Int.tdiv_eq_ediv_of_nonneg (by omega)]; exact eq1
     have ht0 : ¬ (t : Int) = 0 := by omega
     have hxi : (x : Int) < (c : Int) := by omega
     have hi1i : (i1 : Int) < (ns : Int) := by omega
     have hi6 : i1 ≤ 65536 := by omega
     have hx4 : x ≤ 4 := by omega
     have HY0 := Lib.hid y0
     have Hcb := Lib.hid (show (x : Int) < (cN : Int) → ∃ cb, pc = some ⟨cb, 0, none⟩ ∧ cb < S ∧ IntsAt wo cb cs from fun h => by
      obtain ⟨cb, e, h1, h2⟩ := Hc.out (by omega)
      have h3 : cb < B := by rw [← HB.out]; exact h1
      exact ⟨cb, e, by have := HbB.out.size; have := HS.out; have := HB.out; omega, h2.below HbB.out h3⟩)
     have hway : b = false ∨ (b = true ∧ decide ((x : Int) < (cN : Int)) = false ∧ decide (x < cN) = false) ∨ (b = true ∧ (decide ((x : Int) < (cN : Int)) = true ∧ decide (x < cN) = true) ∧ ∃ cb, pc = some ⟨cb, 0, none⟩ ∧ cb < S ∧ Hid (IntsAt wo cb cs)) := by
      cases b
      ·
       exact .inl rfl
      ·
       by_cases h : (x : Int) < (cN : Int)
       ·
        obtain ⟨cb, e, h1, h2⟩ := Hcb.out h
        exact .inr (.inr ⟨rfl, ⟨by simp; omega, by simp; omega⟩, cb, e, h1, Lib.hid h2⟩)
       ·
        exact .inr (.inl ⟨rfl, by simp; omega, by simp; omega⟩)
     clear hL hbx hx hi1 hm hq
     rcases hway with rfl | ⟨rfl, hx1, hx2⟩ | ⟨rfl, ⟨hx1, hx2⟩, cb, rfl, hcb, HIa⟩
     all_goals
      (first | (have hx3 : (x : Int) < (cN : Int) := by simpa using hx2) | skip)
      go_wp2_with (at_builtin; refine wp_appI rfl (.tmp 43) (.tmp 53) rfl S x lcp 1 1 lp (some ⟨wr.heap.size, 0, none⟩) ll [q] rfl rfl (HL.out.alloc _) (wr.heap.size + 1) (reads_new wr _ 3 _ 1 1 _ rfl (by simp [nvals]) (Nat.lt_succ_self _) _ rfl) (by omega) (by simp; omega) ?_; intro p1 c1 w7 hO1 hG1 hL1; have HO1 := Lib.hid hO1; have Hb1 := Lib.hid ((Hbx.out.alloc hSx _).grown hG1 (by simp; omega) (fun j hj => (owns_lt HL.out.2 j hj).1)); have y2 := (HZ.out.below Hb1.out hsb3) i1 (by rw [Hl.out]; exact hi1n); rw [hzz] at y2; (first | (have y3 := (HIa.out.below Hb1.out hcb) x (by rw [Hcl.out]; simpa using hx2)) | skip); clear hO1 hG1 hL1 hzz)
      go_quiet (fail)
      go_wp2
      go_roundg (gk - 1)
      case measure => have := Hx.out; omega
      case rel => exact ⟨x + 1, p1, c1, ll ++ [q], _, by have := Hx.out; omega, by go_num, rfl, rfl, HO1.out, ⟨Hb1.out.os, Hb1.out.tape, Hb1.out.output, Hb1.out.size, Hb1.out.block⟩⟩
    ·
     have hxe : c = x := by omega
     subst hxe
     obtain ⟨lg, rfl⟩ := hL.ptr (by omega)
     have hlg := owns_lt hL.2 lg rfl
     have x3 := (HX.out.below hbx (by omega)).2.2.2.1
     have hBr : B < wr.heap.size := by omega
     have hlr : lg < wr.heap.size := hlg.2
     clear hL hbx hx
     rcases Hct.out with rfl | rfl | rfl | rfl | rfl
     ·
      exact absurd Hsel.out (by decide)
     ·
      exact absurd Hsel.out (by decide)
     ·
      obtain rfl : 1 = c := Hcc.out.symm
      have x3' : wr.cell? ⟨B, 3, none⟩ = some (.int .i64 3) := x3
      clear x3
      have hkn : kk < ns := by have := HK2.out; omega
      have y0 := (HZ.out.below Hbx.out hsb3) kk (by rw [Hl.out]; exact hkn)
      obtain ⟨z, hzz⟩ : ∃ z, zs.getD kk 0 = z := ⟨_, rfl⟩
      have hz5 := Hv.out kk
      rw [hzz] at y0 hz5
      clear hzz
      obtain ⟨D, hD⟩ : ∃ D, wr.heap.size = D := ⟨_, rfl⟩
      have hQ0 : QBox (wr.alloc (.cells #[.int .i64 0, .int .i64 0, .int .i64 0, .int .i64 65535] 75)) D ⟨0, 0, 0, 65535⟩ := by rw [← hD]; exact Blk.new _ _ _
      have HQ0 := Lib.hid hQ0
      have HD := Lib.hid hD
      have hBD : ¬ B = D := by omega
      have hDB : ¬ D = B := by omega
      have hDl : ¬ D = lg := by omega
      have hlD : ¬ lg = D := by omega
      have hlD2 : lg < D := by omega
      clear hQ0 hD
      have hsD : sb < D := by omega
      have hkni : (kk : Int) < (ns : Int) := by omega
      have hrd : Below B w wr := HbB.out.trans (Hbx.out.mono (by have := HbB.out.size; have := HB.out; have := HS.out; omega))
      have hsr : sb < wr.heap.size := by have := HD.out; omega
      by_cases hzd : (dN : Int) ≤ (z : Int)
      ·
       have HFr := Lib.hid ((hrd.alloc (by have := hrd.size; have := HB.out; have := HbB.out.size; omega) (.cells #[.int .i64 0, .int .i64 0, .int .i64 0, .int .i64 65535] 75)))
       clear hrd
       go_wp2
       go_ret2
       exact ⟨⟨none, 0, 0, 2, rfl⟩, HFr.out⟩
      ·
       obtain ⟨db, rfl, hdb, hDa⟩ := Hd.out (by omega)
       obtain ⟨d0, d1, d2, d3⟩ := (hDa.below hrd (by rw [← HB.out]; exact hdb)) z (by rw [Hdl.out]; omega)
       obtain ⟨q0, hq0⟩ : ∃ q0, q0 = ds[z]'(by rw [Hdl.out]; omega) := ⟨_, rfl⟩
       rw [← hq0] at d0 d1 d2 d3
       have hdD : db < D := by have := hrd.size; have := HD.out; omega
       have hdr : db < wr.heap.size := by have := HD.out; omega
       have hzi : (z : Int) < (dN : Int) := by omega
       clear hrd hDa hq0 hzd
       cases b
       all_goals
        go_upto_if 159 with (fail)
        rw [HD.out]
        have hQ2 : QBox (wr.alloc (.cells #[.int .i64 (q0.r : Int), .int .i64 (q0.g : Int), .int .i64 (q0.b : Int), .int .i64 (q0.a : Int)] 75)) D q0 := by rw [← HD.out]; exact Blk.new _ _ _
        have hF2 : Below D wr (wr.alloc (.cells #[.int .i64 (q0.r : Int), .int .i64 (q0.g : Int), .int .i64 (q0.b : Int), .int .i64 (q0.a : Int)] 75)) := (Below.refl _ _).alloc (Nat.le_of_eq HD.out.symm) _
        generalize hw2 : World.alloc _ _ = V2
        rw [hw2] at hQ2 hF2
        clear hw2 d0 d1 d2 d3
        have HQ2 := Lib.hid hQ2
        have HF2 := Lib.hid hF2
        obtain ⟨c0, c1, c2, c3, cfz, chas⟩ := hQ2.facts
        clear hQ2 hF2
        go_cut [] (fun wx => ∃ q : Q4, QBox wx D q ∧ Below D wr wx)
        case first =>
         go_wp2
         go_meet
         case rel => first | exact ⟨_, HQ2.out, HF2.out⟩ | exact ⟨_, HQ2.out.setA, HF2.out.setCell (p := ⟨D, 3, none⟩) (Nat.le_refl _) _⟩
        case rest =>
         obtain ⟨q, hQ, hF⟩ := hcut
         have HF := Lib.hid hF
         clear c0 c1 c2 c3 cfz chas
         obtain ⟨c0, c1, c2, c3, cfz, chas⟩ := hQ.facts
         have HOk := Lib.hid (HO.out.keep (w' := wc) fun k hk => (HF.out.block k (by have := (owns_lt HO.out.2 k hk).2; have := HS.out; have := HD.out; omega)).trans (Hbx.out.block k (by have := (owns_lt HO.out.2 k hk).2; have := HS.out; omega)))
         have hwc : B + 1 ≤ wc.heap.size := by have := HF.out.size; omega
         have hj9 : j ≤ 16384 := by omega
         clear hQ hF
         go_wp2_with (at_builtin; refine wp_appD rfl (.tmp 161) (.tmp 163) rfl (B + 1) j cp 1 1 p (some ⟨wc.heap.size, 0, none⟩) l [q] rfl rfl (HOk.out.alloc _) (wc.heap.size + 1) (reads_new wc _ 75 _ 4 1 _ rfl (by simp [dvals, dval]) (Nat.lt_succ_self _) _ rfl) (by omega) (by simp; omega) ?_; intro p1 cap1 w9 hO1 hG1 hL1; have HO1 := Lib.hid hO1; have Hb1 := Lib.hid ((((Hb.out.trans (Hbx.out.mono (by omega))).trans (HF.out.mono (by have := HD.out; omega))).alloc hwc _).grown hG1 (by simp; omega) (fun j hj => (owns_lt HO.out.2 j hj).1)); clear hO1 hG1 hL1)
         go_roundg (gy - 1)
         case measure => have := Hj.out; have := Hgy.out; omega
         case rel => exact ⟨j + 1, k2, p1, cap1, l ++ [q], by have := Hj.out; have := Hgy.out; omega, Lib.hid (by rw [HK2.out, Hkk.out, Nat.succ_mul]), by go_num, rfl, HO1.out, Hb1.out⟩
     ·
      obtain rfl : 2 = c := Hcc.out.symm
      have x3' : wr.cell? ⟨B, 3, none⟩ = some (.int .i64 4) := x3
      clear x3
      obtain ⟨v0, hv0⟩ := HL.out.cellAt (k := 0) (by decide)
      obtain ⟨v1, hv1⟩ := HL.out.cellAt (k := 1) (by decide)
      obtain ⟨D, hD⟩ : ∃ D, wr.heap.size = D := ⟨_, rfl⟩
      have hQ0 : QBox (wr.alloc (.cells #[.int .i64 0, .int .i64 0, .int .i64 0, .int .i64 65535] 75)) D ⟨0, 0, 0, 65535⟩ := by rw [← hD]; exact Blk.new _ _ _
      have HQ0 := Lib.hid hQ0
      have HD := Lib.hid hD
      have hBD : ¬ B = D := by omega
      have hDB : ¬ D = B := by omega
      have hDl : ¬ D = lg := by omega
      have hlD : ¬ lg = D := by omega
      have hlD2 : lg < D := by omega
      clear hQ0 hD
      cases b
      all_goals
       go_upto_region 25 with (fail)
       rw [HD.out]
       refine region_tail 13 (by kernel_rfl) (by kernel_rfl) ?_
       simp only [List.take_succ_cons, List.take_zero, List.drop_succ_cons, List.drop_zero]
       generalize hw1 : World.drew _ = V
       have hQV : QBox V D ⟨0, 0, 0, 65535⟩ := by rw [← hw1]; exact Blk.drew HQ0.out
       have hFV : Below D wr V := by rw [← hw1, ← HD.out]; exact ((Below.refl _ _).alloc (Nat.le_refl _) _).drew
       have xB : V.cell? ⟨B, 3, none⟩ = some (.int .i64 4) := by rw [hFV.cell (p := ⟨B, 3, none⟩) (by rw [← HD.out]; exact hBr)]; exact x3'
       have w0 : V.cell? ⟨lg, 0, none⟩ = some (.int .i64 v0) := by rw [hFV.cell (p := ⟨lg, 0, none⟩) hlD2]; exact hv0
       have w1 : V.cell? ⟨lg, 1, none⟩ = some (.int .i64 v1) := by rw [hFV.cell (p := ⟨lg, 1, none⟩) hlD2]; exact hv1
       obtain ⟨c0, c1, c2, c3, cfz, chas⟩ := hQV.facts
       have HFV := Lib.hid hFV
       have HQV := Lib.hid hQV
       clear hw1 hFV hQV x3' hv0 hv1
       repeat still_step
       refine wpStill_nil ?_
       go_upto_if 159 with (fail)
       have hQ2 := HQV.out.sets v0 v0 v0 v1
       have hF2 := below_sets HFV.out (.int .i64 ((v0 : Nat) : Int)) (.int .i64 ((v0 : Nat) : Int)) (.int .i64 ((v0 : Nat) : Int)) (.int .i64 ((v1 : Nat) : Int))
       generalize hw2 : World.setCell _ _ _ = V2
       rw [hw2] at hQ2 hF2
       clear hw2 c0 c1 c2 c3 cfz chas xB w0 w1
       have HQ2 := Lib.hid hQ2
       have HF2 := Lib.hid hF2
       obtain ⟨c0, c1, c2, c3, cfz, chas⟩ := hQ2.facts
       clear hQ2 hF2
       go_cut [] (fun wx => ∃ q : Q4, QBox wx D q ∧ Below D wr wx)
       case first =>
        go_wp2
        go_meet
        case rel => first | exact ⟨_, HQ2.out, HF2.out⟩ | exact ⟨_, HQ2.out.setA, HF2.out.setCell (p := ⟨D, 3, none⟩) (Nat.le_refl _) _⟩
       case rest =>
        obtain ⟨q, hQ, hF⟩ := hcut
        have HF := Lib.hid hF
        clear c0 c1 c2 c3 cfz chas
        obtain ⟨c0, c1, c2, c3, cfz, chas⟩ := hQ.facts
        have HOk := Lib.hid (HO.out.keep (w' := wc) fun k hk => (HF.out.block k (by have := (owns_lt HO.out.2 k hk).2; have := HS.out; have := HD.out; omega)).trans (Hbx.out.block k (by have := (owns_lt HO.out.2 k hk).2; have := HS.out; omega)))
        have hwc : B + 1 ≤ wc.heap.size := by have := HF.out.size; omega
        have hj9 : j ≤ 16384 := by omega
        clear hQ hF
        go_wp2_with (at_builtin; refine wp_appD rfl (.tmp 161) (.tmp 163) rfl (B + 1) j cp 1 1 p (some ⟨wc.heap.size, 0, none⟩) l [q] rfl rfl (HOk.out.alloc _) (wc.heap.size + 1) (reads_new wc _ 75 _ 4 1 _ rfl (by simp [dvals, dval]) (Nat.lt_succ_self _) _ rfl) (by omega) (by simp; omega) ?_; intro p1 cap1 w9 hO1 hG1 hL1; have HO1 := Lib.hid hO1; have Hb1 := Lib.hid ((((Hb.out.trans (Hbx.out.mono (by omega))).trans (HF.out.mono (by have := HD.out; omega))).alloc hwc _).grown hG1 (by simp; omega) (fun j hj => (owns_lt HO.out.2 j hj).1)); clear hO1 hG1 hL1)
        go_roundg (gy - 1)
        case measure => have := Hj.out; have := Hgy.out; omega
        case rel => exact ⟨j + 1, k2, p1, cap1, l ++ [q], by have := Hj.out; have := Hgy.out; omega, Lib.hid (by rw [HK2.out, Hkk.out, Nat.succ_mul]), by go_num, rfl, HO1.out, Hb1.out⟩
     ·
      exact absurd Hsel.out (by decide)
  ·
   have hje : N = j := by omega
   subst hje
   have hk2 : ¬ (kk : Int) + (c : Int) ≤ (ns : Int) := by have := Hns.out; have := Hkk.out; omega
   have hk6 : kk ≤ 65536 := by have := Hns.out; have := Hkk.out; omega
   have HbB := Lib.hid hbB
   clear hO hb hj hbB
   go_wp2
   go_ret2
   exact ⟨⟨_, _, _, _, rfl⟩, HbB.out⟩
end Go.Proofs.YtnpkgmgedgcjmaaGreatDoor
end
