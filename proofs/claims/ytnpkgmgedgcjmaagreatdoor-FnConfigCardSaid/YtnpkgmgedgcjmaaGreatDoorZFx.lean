/- A part of the proof: Fx, Ed. -/
import Derived.Test.YtnpkgmgedgcjmaaGreatDoorZEc
import Derived.Test.YtnpkgmgedgcjmaaGreatDoorZW6
set_option linter.all false
set_option maxRecDepth 100000
section
namespace Go.Proofs.YtnpkgmgedgcjmaaGreatDoor
open Go Go.RowKit Png Go.Proofs.YtnpkgmgedgcjmaaGreatDoorW.PrintWords Go.Proofs.YtnpkgmgedgcjmaaGreatDoorW.PrintMore Go.Proofs.YtnpkgmgedgcjmaaGreatDoor.Pr
theorem Oi.ptrF {w : World} {base n cap : Nat} {p : Option Addr} {l : List Nat} (h : Oi w base p n cap l) (h0 : 0 < n) : ∃ g, p = some ⟨g, 0, Option.none⟩ ∧ base ≤ g ∧ g < w.heap.size ∧ n ≤ cap ∧ cap ≤ 9223372036854775807 := by
 obtain ⟨g, c, hv, _⟩ := h.2.form h0
 injection hv with hv hn hc
 have hlt := owns_lt h.2 g (by rw [hv]; rfl)
 rcases h.2.2 with ⟨e, _⟩ | ⟨g', c', cur, e, hb, hh, h1, h2, h3⟩
 ·
  cases e; omega
 ·
  injection e with e1 e2 e3
  subst e3
  exact ⟨g, hv, hlt.1, hlt.2, h1, Nat.le_trans h2 (by decide)⟩
theorem Oi.intsF {w : World} {base g n cap : Nat} {l : List Nat} (h : Oi w base (some ⟨g, 0, Option.none⟩) n cap l) : IntsAt w g l := fun k hk => by
 have hl := h.1
 rw [h.2.cellAt k (by omega)]
 simp [nvals, List.getElem?_eq_getElem hk, List.getD_eq_getElem?_getD]
theorem C_ints {w : World} {b : Nat} {l : List Nat} (h : IntsAt w b l) (hl : l.length ≤ 9223372036854775807) : Kd.C (Kd.int .i64) w (some ⟨b, 0, none⟩) (nats l).length (nats l) := by
 refine ⟨rfl, by rw [nats_length]; exact hl, fun _ => ⟨_, rfl, fun j p hj => ⟨[.int .i64 p], rfl, rfl, fun i u hu => ?_⟩⟩⟩
 have hi : i = 0 := by
  rcases i with _ | i
  ·
   rfl
  ·
   simp at hu
 subst hi
 have hu' : Value.int .i64 p = u := by simpa using hu
 subst hu'
 have hjl : j < l.length := by
  have := (List.getElem?_eq_some_iff.1 hj).1
  rwa [nats_length] at this
 rw [show (Kd.int .i64).sz = 1 from rfl, Nat.mul_one, add_addr, Nat.add_zero, Nat.zero_add, h j hjl]
 have e := rd_nats l j
 unfold rd at e
 simp only [Int.toNat_natCast, List.getD_eq_getElem?_getD] at e
 rw [hj] at e
 simp only [Option.getD_some] at e
 rw [e, List.getD_eq_getElem?_getD]
def fixL : List Nat := List.replicate 144 8 ++ List.replicate 112 9 ++ List.replicate 24 7 ++ List.replicate 8 8
def fixD : List Nat := List.replicate 32 5
def fixT : Nat → List Nat
 | 0 => []
 | j + 1 => fixT j ++ [if j < 144 then 8 else if j < 256 then 9 else if j < 280 then 7 else 8]
def fixR : Nat → List Nat
 | 0 => []
 | j + 1 => fixR j ++ [5]
theorem fixT_all : fixT 288 = fixL := by decide +kernel
theorem fixR_all : fixR 32 = fixD := by decide +kernel
theorem fixL_lt (j : Nat) : fixL.getD j 0 < 16 := getD_of_mem (by decide +kernel) j
theorem fixD_lt (j : Nat) : fixD.getD j 0 < 16 := getD_of_mem (by decide +kernel) j
theorem fixL_left : ∀ j : Fin 15, ¬ leftTo fixL (j.val + 1) < 0 := by decide +kernel
theorem fixD_left : ∀ j : Fin 15, ¬ leftTo fixD (j.val + 1) < 0 := by decide +kernel
theorem fixed_ret {w : World} {B2 B3 : Nat} (x2 : Blk w B2 233 #[.slice none 0 0, .slice none 0 0]) (x3 : Blk w B3 233 #[.slice none 0 0, .slice none 0 0]) (h23 : B2 ≠ B3) (a b c d : Value) (tmps : Array Value) (h2 : tmps.getD 0 undef = .pointer (some ⟨B2, 0, none⟩)) (h3 : tmps.getD 1 undef = .pointer (some ⟨B3, 0, none⟩)) :
  (results Tryz.f119 tmps).run Tryz.prog ((((w.setCell ⟨B2, 0, none⟩ a).setCell ⟨B2, 1, none⟩ b).setCell ⟨B3, 0, none⟩ c).setCell ⟨B3, 1, none⟩ d).drew =
   .ok (.tuple #[.agg #[a, b], .agg #[c, d]]) ((((w.setCell ⟨B2, 0, none⟩ a).setCell ⟨B2, 1, none⟩ b).setCell ⟨B3, 0, none⟩ c).setCell ⟨B3, 1, none⟩ d).drew := by
 have k2 : Blk ((((w.setCell ⟨B2, 0, none⟩ a).setCell ⟨B2, 1, none⟩ b).setCell ⟨B3, 0, none⟩ c).setCell ⟨B3, 1, none⟩ d).drew B2 233 #[a, b] := ((((x2.set_ 0 a).set_ 1 b).far (p := ⟨B3, 0, none⟩) h23 c).far (p := ⟨B3, 1, none⟩) h23 d).drew
 have k3 : Blk ((((w.setCell ⟨B2, 0, none⟩ a).setCell ⟨B2, 1, none⟩ b).setCell ⟨B3, 0, none⟩ c).setCell ⟨B3, 1, none⟩ d).drew B3 233 #[c, d] := ((((x3.far (p := ⟨B2, 0, none⟩) (Ne.symm h23) a).far (p := ⟨B2, 1, none⟩) (Ne.symm h23) b).set_ 0 c).set_ 1 d).drew
 exact results_list (rs := [.cell 0 233, .cell 1 233]) (vs := [.agg #[a, b], .agg #[c, d]]) rfl (by simp) (.cell B2 233 #[a, b] (0, 0) _ h2 k2 Tryz.underlying233 rfl (by kernel_rfl) (.cell B3 233 #[c, d] (0, 0) _ h3 k3 Tryz.underlying233 rfl (by kernel_rfl) .nil))
set_option maxHeartbeats 8000000 in
theorem fixed_c {w : World} {g base : Nat} (hg : g < w.heap.size) (hb : base ≤ w.heap.size) : Calls Tryz.prog 119 #[] w fun e w' => ∃ A0 n0 q0 A1 n1 q1 A2 n2 q2 A3 n3 q3, e = .returned (.tuple #[.agg #[.slice A0 n0 q0, .slice A1 n1 q1], .agg #[.slice A2 n2 q2, .slice A3 n3 q3]]) ∧
  CodeAt w' g base (.slice A0 n0 q0) (.slice A1 n1 q1) (cntOf fixL fixL.length) (listTo fixL 15) ∧ CodeAt w' g base (.slice A2 n2 q2) (.slice A3 n3 q3) (cntOf fixD fixD.length) (listTo fixD 15) ∧ Below w.heap.size w w' := by
 obtain ⟨B, hB⟩ : ∃ B, w.heap.size = B := ⟨_, rfl⟩
 rw [hB] at hg hb ⊢
 have HB := Lib.hid hB
 clear hB
 go_enter Tryz.func119, Tryz.ntmps119
 go_upto_region 1 with (fail)
 obtain ⟨W2, hW2⟩ : ∃ W2, (w.alloc (.cells #[.slice none 0 0, .slice none 0 0] 233)).alloc (.cells #[.slice none 0 0, .slice none 0 0] 233) = W2 := ⟨_, rfl⟩
 have hb2 : Below B w W2 := by rw [← hW2, ← HB.out]; exact ((Below.refl _ _).alloc (Nat.le_refl _) _).alloc (by simp) _
 have hx0 : Blk W2 B 233 #[.slice none 0 0, .slice none 0 0] := by rw [← hW2, ← HB.out]; exact (Blk.new w _ _).alloc _
 have hx1 : Blk W2 (B + 1) 233 #[.slice none 0 0, .slice none 0 0] := by
  have := Blk.new (w.alloc (.cells #[.slice none 0 0, .slice none 0 0] 233)) 233 #[.slice none 0 0, .slice none 0 0]
  rw [← hW2, ← HB.out]; simpa using this
 have hs2 : W2.heap.size = B + 2 := by rw [← hW2, ← HB.out]; simp
 try rw [HB.out]
 rw [hW2]
 have H2 := Lib.hid (And.intro hb2 (And.intro hx0 (And.intro hx1 hs2)))
 clear hW2 hb2 hx0 hx1 hs2
 go_wp2
 go_loopg [2, 9] 288 (fun gh v2 v9 wr => ∃ j p c, v9 = .int .i64 ((j : Nat) : Int) ∧ j + gh = 288 ∧ v2 = .slice p j c ∧ Hid (Oi wr (B + 2) p j c (fixT j)) ∧ Hid (Below (B + 2) W2 wr))
 case atStart => exact ⟨0, _, _, rfl, rfl, rfl, Lib.hid ⟨rfl, World.ownsRow_made W2 #[] 0 (Nat.le_of_eq H2.out.2.2.2.symm) (by simp) rfl⟩, Lib.hid ((Below.refl _ W2).alloc (Nat.le_of_eq H2.out.2.2.2.symm) _)⟩
 case round =>
  obtain ⟨j, p, c, rfl, hj, rfl, HO, Hb⟩ := hrel
  have Hj := Lib.hid hj
  have hsz : B + 2 ≤ wr.heap.size := by have := Hb.out.size; have := H2.out.2.2.2; omega
  have Hsz := Lib.hid hsz
  by_cases h288 : j < 288
  ·
   have j1 : (j : Int) < 288 := by omega
   have j1d : decide ((j : Int) < 288) = true := decide_eq_true j1
   have HG : Hid (∀ (x : Nat) (p4 : Option Addr) (c4 : Nat) (w4 : World), Oi w4 (B + 2) p4 (j + 1) c4 (fixT j ++ [x]) → (wr.alloc (.cells #[.int .i64 (x : Int)] 3)).grownBy w4 (p.map (·.block)) → x = (if j < 144 then 8 else if j < 256 then 9 else if j < 280 then 7 else 8) → Hid (Oi w4 (B + 2) p4 (j + 1) c4 (fixT (j + 1))) ∧ Hid (Below (B + 2) W2 w4)) := Lib.hid fun x p4 c4 w4 hO hG hx =>
    ⟨Lib.hid (by simp only [fixT]; rw [← hx]; exact hO), Lib.hid ((Hb.out.alloc Hsz.out _).grown hG (Nat.le_trans Hsz.out (by simp)) (fun k hk => (owns_lt HO.out.2 k hk).1))⟩
   by_cases q1 : j < 144
   ·
    have i1 : (j : Int) < 144 := by omega
    have i1d : decide ((j : Int) < 144) = true := decide_eq_true i1
    go_wp2_with (at_builtin; go_must (refine wp_appI rfl (.tmp 18) (.tmp 19) rfl (B + 2) j c 1 1 p (some ⟨wr.heap.size, 0, none⟩) (fixT j) [8] rfl rfl (Oi.alloc HO.out _) (wr.heap.size + 1) (reads_new wr _ 3 _ 1 1 _ rfl (by simp [nvals]) (Nat.lt_succ_self _) _ rfl) (by omega) (Nat.le_trans Hsz.out (by simp)) ?_); intro p4 c4 w4 hO4 hG4 hL4; obtain ⟨HO4, HB4⟩ := HG.out 8 p4 c4 w4 hO4 hG4 (by rw [if_pos q1]); clear hO4 hG4 hL4)
    go_roundg (gk - 1)
    case measure => have := Hj.out; omega
    case rel => exact ⟨j + 1, p4, c4, by first | rfl | (simp; done) | (congr 1; omega), by have := Hj.out; omega, rfl, HO4, HB4⟩
   have i1 : ¬ (j : Int) < 144 := by omega
   have i1d : decide ((j : Int) < 144) = false := decide_eq_false i1
   by_cases q2 : j < 256
   ·
    have i2 : (j : Int) < 256 := by omega
    have i2d : decide ((j : Int) < 256) = true := decide_eq_true i2
    go_wp2_with (at_builtin; go_must (refine wp_appI rfl (.tmp 24) (.tmp 25) rfl (B + 2) j c 1 1 p (some ⟨wr.heap.size, 0, none⟩) (fixT j) [9] rfl rfl (Oi.alloc HO.out _) (wr.heap.size + 1) (reads_new wr _ 3 _ 1 1 _ rfl (by simp [nvals]) (Nat.lt_succ_self _) _ rfl) (by omega) (Nat.le_trans Hsz.out (by simp)) ?_); intro p4 c4 w4 hO4 hG4 hL4; obtain ⟨HO4, HB4⟩ := HG.out 9 p4 c4 w4 hO4 hG4 (by rw [if_neg q1, if_pos q2]); clear hO4 hG4 hL4)
    go_roundg (gk - 1)
    case measure => have := Hj.out; omega
    case rel => exact ⟨j + 1, p4, c4, by first | rfl | (simp; done) | (congr 1; omega), by have := Hj.out; omega, rfl, HO4, HB4⟩
   have i2 : ¬ (j : Int) < 256 := by omega
   have i2d : decide ((j : Int) < 256) = false := decide_eq_false i2
   by_cases q3 : j < 280
   ·
    have i3 : (j : Int) < 280 := by omega
    have i3d : decide ((j : Int) < 280) = true := decide_eq_true i3
    go_wp2_with (at_builtin; go_must (refine wp_appI rfl (.tmp 30) (.tmp 31) rfl (B + 2) j c 1 1 p (some ⟨wr.heap.size, 0, none⟩) (fixT j) [7] rfl rfl (Oi.alloc HO.out _) (wr.heap.size + 1) (reads_new wr _ 3 _ 1 1 _ rfl (by simp [nvals]) (Nat.lt_succ_self _) _ rfl) (by omega) (Nat.le_trans Hsz.out (by simp)) ?_); intro p4 c4 w4 hO4 hG4 hL4; obtain ⟨HO4, HB4⟩ := HG.out 7 p4 c4 w4 hO4 hG4 (by rw [if_neg q1, if_neg q2, if_pos q3]); clear hO4 hG4 hL4)
    go_roundg (gk - 1)
    case measure => have := Hj.out; omega
    case rel => exact ⟨j + 1, p4, c4, by first | rfl | (simp; done) | (congr 1; omega), by have := Hj.out; omega, rfl, HO4, HB4⟩
   have i3 : ¬ (j : Int) < 280 := by omega
   have i3d : decide ((j : Int) < 280) = false := decide_eq_false i3
   go_wp2_with (at_builtin; go_must (refine wp_appI rfl (.tmp 12) (.tmp 13) rfl (B + 2) j c 1 1 p (some ⟨wr.heap.size, 0, none⟩) (fixT j) [8] rfl rfl (Oi.alloc HO.out _) (wr.heap.size + 1) (reads_new wr _ 3 _ 1 1 _ rfl (by simp [nvals]) (Nat.lt_succ_self _) _ rfl) (by omega) (Nat.le_trans Hsz.out (by simp)) ?_); intro p4 c4 w4 hO4 hG4 hL4; obtain ⟨HO4, HB4⟩ := HG.out 8 p4 c4 w4 hO4 hG4 (by rw [if_neg q1, if_neg q2, if_neg q3]); clear hO4 hG4 hL4)
   go_roundg (gk - 1)
   case measure => have := Hj.out; omega
   case rel => exact ⟨j + 1, p4, c4, by first | rfl | (simp; done) | (congr 1; omega), by have := Hj.out; omega, rfl, HO4, HB4⟩
  ·
   have j1 : ¬ (j : Int) < 288 := by omega
   have j1d : decide ((j : Int) < 288) = false := decide_eq_false j1
   obtain rfl : j = 288 := by omega
   obtain ⟨b, rfl, hb1, hb2, hc1, hc2⟩ := HO.out.ptrF (by decide)
   have hi := HO.out.intsF
   rw [fixT_all] at hi
   have HP := Lib.hid (prefixOf_c (ls := fixL) (by decide) fixL_lt (some ⟨b, 0, none⟩) c hc1 (C_ints hi (by decide)))
   rw [show fixL.length = 288 from rfl] at HP
   clear hi hj j1 j1d h288
   go_wp2_with fail
   refine HP.out.mono ?_
   rintro e w6 ⟨v0, v1, li, left, rfl, hr0, hr1, hbl, hcase⟩
   obtain ⟨A0, q0, rfl⟩ := Kd.R_slice hr0
   obtain ⟨A1, q1, rfl⟩ := Kd.R_slice hr1
   have hli : li = listTo fixL 15 := by
    rcases hcase with ⟨_, j, hj, hl⟩ | ⟨h, _⟩
    ·
     exact absurd hl (fixL_left ⟨j, hj⟩)
    ·
     exact h
   subst hli
   obtain ⟨m0, hm0⟩ : ∃ m0, (nats (cntOf fixL 288)).length = m0 := ⟨_, rfl⟩
   obtain ⟨m1, hm1⟩ : ∃ m1, (nats (listTo fixL 15)).length = m1 := ⟨_, rfl⟩
   rw [hm0] at hr0 hr1 ⊢
   rw [hm1] at hr0 hr1 ⊢
   have lo : ∀ (ok : Nat → Prop) (v : Value) (xs : List Int) (W W' : World), B + 2 ≤ W.heap.size → Kd.R (Kd.int .i64) 3 W' W.heap.size ok v xs → Kd.R (Kd.int .i64) 3 W' base (fun k => k ≠ g) v xs :=
    fun _ _ _ _ _ hW h => Kd.R_lower (Kd.R_mono (Kd.R_bound h) fun k hk => by have := hk.2.1; omega) (by omega)
   have HLo := Lib.hid lo
   have HK0 : Hid (CodeAt w6 g base (.slice A0 m0 q0) (.slice A1 m1 q1) (cntOf fixL 288) (listTo fixL 15)) := Lib.hid ⟨lo _ _ _ _ _ Hsz.out hr0, lo _ _ _ _ _ Hsz.out hr1⟩
   have HB6 : Hid (Below (B + 2) W2 w6) := Lib.hid (Hb.out.trans (hbl.mono Hsz.out))
   clear hr0 hr1 hbl hcase HP hm0 hm1 lo HO Hb
   go_upto_region 14 with (fail)
   obtain ⟨B4, hB4⟩ : ∃ B4, w6.heap.size = B4 := ⟨_, rfl⟩
   obtain ⟨W7, hW7⟩ : ∃ W7, w6.alloc (.cells #[.slice A0 m0 q0, .slice A1 m1 q1] 233) = W7 := ⟨_, rfl⟩
   have hb7 : Below w6.heap.size w6 W7 := by rw [← hW7]; exact (Below.refl _ _).alloc (Nat.le_refl _) _
   have hx4 : Blk W7 B4 233 #[.slice A0 m0 q0, .slice A1 m1 q1] := by rw [← hW7, ← hB4]; exact Blk.new _ _ _
   have hs7 : W7.heap.size = B4 + 1 := by rw [← hW7, ← hB4]; simp
   have hB42 : B + 2 ≤ B4 := by rw [← hB4]; have := HB6.out.size; have := H2.out.2.2.2; omega
   have HB7 : Hid (Below (B + 2) W2 W7) := Lib.hid (HB6.out.trans (hb7.mono (by omega)))
   have HK7 := Lib.hid (HK0.out.below hb7)
   have HX4 := Lib.hid hx4
   have HS7 := Lib.hid hs7
   rw [hB4, hW7]
   clear hb7 hx4 hs7 hB4 hW7 HK0 HB6
   go_wp2
   go_loopg [2, 40] 32 (fun gh v2 v9 wr => ∃ j p c, v9 = .int .i64 ((j : Nat) : Int) ∧ j + gh = 32 ∧ v2 = .slice p j c ∧ Hid (Oi wr (B4 + 1) p j c (fixR j)) ∧ Hid (Below (B4 + 1) W7 wr))
   case atStart => exact ⟨0, _, _, rfl, rfl, rfl, Lib.hid ⟨rfl, World.ownsRow_made W7 #[] 0 (Nat.le_of_eq HS7.out.symm) (by simp) rfl⟩, Lib.hid ((Below.refl _ W7).alloc (Nat.le_of_eq HS7.out.symm) _)⟩
   case round =>
    obtain ⟨j, p, c, rfl, hj, rfl, HO, Hb⟩ := hrel
    have Hj := Lib.hid hj
    have Hsz := Lib.hid (show B4 + 1 ≤ wr.heap.size by have := Hb.out.size; have := HS7.out; omega)
    by_cases h32 : j < 32
    ·
     have j1 : (j : Int) < 32 := by omega
     have j1d : decide ((j : Int) < 32) = true := decide_eq_true j1
     go_wp2_with (at_builtin; go_must (refine wp_appI rfl (.tmp 42) (.tmp 43) rfl (B4 + 1) j c 1 1 p (some ⟨wr.heap.size, 0, none⟩) (fixR j) [5] rfl rfl (Oi.alloc HO.out _) (wr.heap.size + 1) (reads_new wr _ 3 _ 1 1 _ rfl (by simp [nvals]) (Nat.lt_succ_self _) _ rfl) (by omega) (Nat.le_trans Hsz.out (by simp)) ?_); intro p4 c4 w4 hO4 hG4 hL4; have HO4 := Lib.hid hO4; have HB4 := Lib.hid ((Hb.out.alloc Hsz.out (.cells #[.int .i64 5] 3)).grown hG4 (Nat.le_trans Hsz.out (by simp)) (fun k hk => (owns_lt HO.out.2 k hk).1)); clear hO4 hG4 hL4)
     go_roundg (gk - 1)
     case measure => have := Hj.out; omega
     case rel => exact ⟨j + 1, p4, c4, by first | rfl | (simp; done) | (congr 1; omega), by have := Hj.out; omega, rfl, HO4, HB4⟩
    ·
     have j1 : ¬ (j : Int) < 32 := by omega
     have j1d : decide ((j : Int) < 32) = false := decide_eq_false j1
     obtain rfl : j = 32 := by omega
     obtain ⟨b, rfl, hb1, hb2, hc1, hc2⟩ := HO.out.ptrF (by decide)
     have hi := HO.out.intsF
     rw [fixR_all] at hi
     have HP := Lib.hid (prefixOf_c (ls := fixD) (by decide) fixD_lt (some ⟨b, 0, none⟩) c hc1 (C_ints hi (by decide)))
     rw [show fixD.length = 32 from rfl] at HP
     clear hi hj j1 j1d h32
     go_wp2_with fail
     refine HP.out.mono ?_
     rintro e w8 ⟨v2, v3, li2, left2, rfl, hr2, hr3, hbl2, hcase2⟩
     obtain ⟨A2, q2, rfl⟩ := Kd.R_slice hr2
     obtain ⟨A3, q3, rfl⟩ := Kd.R_slice hr3
     have hli2 : li2 = listTo fixD 15 := by
      rcases hcase2 with ⟨_, j, hj, hl⟩ | ⟨h, _⟩
      ·
       exact absurd hl (fixD_left ⟨j, hj⟩)
      ·
       exact h
     subst hli2
     obtain ⟨m2, hm2⟩ : ∃ m2, (nats (cntOf fixD 32)).length = m2 := ⟨_, rfl⟩
     obtain ⟨m3, hm3⟩ : ∃ m3, (nats (listTo fixD 15)).length = m3 := ⟨_, rfl⟩
     rw [hm2] at hr2 hr3 ⊢
     rw [hm3] at hr2 hr3 ⊢
     have hw8 : B + 2 ≤ wr.heap.size := by have := Hsz.out; omega
     have HK8 : Hid (CodeAt w8 g base (.slice A2 m2 q2) (.slice A3 m3 q3) (cntOf fixD 32) (listTo fixD 15)) := Lib.hid ⟨HLo.out _ _ _ _ _ hw8 hr2, HLo.out _ _ _ _ _ hw8 hr3⟩
     have hb78 : Below W7.heap.size W7 w8 := by rw [HS7.out]; exact Hb.out.trans (hbl2.mono Hsz.out)
     have HKA8 := Lib.hid (HK7.out.below hb78)
     have HX48 := Lib.hid (HX4.out.below hb78 (Blk.lt HX4.out))
     have HB8 : Hid (Below (B + 2) W2 w8) := Lib.hid (HB7.out.trans (hb78.mono (by rw [HS7.out]; omega)))
     clear hr2 hr3 hbl2 hcase2 HP hm2 hm3 HO Hb hb78 HK7 HX4 HB7
     go_upto_region 20 with (fail)
     obtain ⟨B6, hB6⟩ : ∃ B6, w8.heap.size = B6 := ⟨_, rfl⟩
     obtain ⟨W9, hW9⟩ : ∃ W9, w8.alloc (.cells #[.slice A2 m2 q2, .slice A3 m3 q3] 233) = W9 := ⟨_, rfl⟩
     have hb9 : Below w8.heap.size w8 W9 := by rw [← hW9]; exact (Below.refl _ _).alloc (Nat.le_refl _) _
     have hx6 : Blk W9 B6 233 #[.slice A2 m2 q2, .slice A3 m3 q3] := by rw [← hW9, ← hB6]; exact Blk.new _ _ _
     have hX4 := HX48.out.below hb9 (Blk.lt HX48.out)
     have hB9 : Below (B + 2) W2 W9 := HB8.out.trans (hb9.mono (by have := HB8.out.size; have := H2.out.2.2.2; omega))
     have hKA := HKA8.out.below hb9
     have hKB := HK8.out.below hb9
     have hX0 : Blk W9 B 233 #[.slice none 0 0, .slice none 0 0] := H2.out.2.1.below hB9 (by omega)
     have hX1 : Blk W9 (B + 1) 233 #[.slice none 0 0, .slice none 0 0] := H2.out.2.2.1.below hB9 (by omega)
     have hB64 : B4 < B6 := by rw [← hB6]; exact Blk.lt HX48.out
     rw [hB6, hW9]
     have y40 : W9.cell? ⟨B4, 0, none⟩ = some (.slice A0 m0 q0) := hX4.cell 0
     have y41 : W9.cell? ⟨B4, 1, none⟩ = some (.slice A1 m1 q1) := hX4.cell 1
     have y60 : W9.cell? ⟨B6, 0, none⟩ = some (.slice A2 m2 q2) := hx6.cell 0
     have y61 : W9.cell? ⟨B6, 1, none⟩ = some (.slice A3 m3 q3) := hx6.cell 1
     have x00 : W9.cell? ⟨B, 0, none⟩ = some (.slice none 0 0) := hX0.cell 0
     have x01 : W9.cell? ⟨B, 1, none⟩ = some (.slice none 0 0) := hX0.cell 1
     have x10 : W9.cell? ⟨B + 1, 0, none⟩ = some (.slice none 0 0) := hX1.cell 0
     have x11 : W9.cell? ⟨B + 1, 1, none⟩ = some (.slice none 0 0) := hX1.cell 1
     have f00 := hX0.frozen 0
     have f01 := hX0.frozen 1
     have f10 := hX1.frozen 0
     have f11 := hX1.frozen 1
     have n04 : ¬ B = B4 := by omega
     have n06 : ¬ B = B6 := by omega
     have n14 : ¬ B + 1 = B4 := by omega
     have n16 : ¬ B + 1 = B6 := by omega
     have n40 : ¬ B4 = B := by omega
     have n60 : ¬ B6 = B := by omega
     have n41 : ¬ B4 = B + 1 := by omega
     have n61 : ¬ B6 = B + 1 := by omega
     have HX0 := Lib.hid hX0
     have HX1 := Lib.hid hX1
     have HKA := Lib.hid hKA
     have HKB := Lib.hid hKB
     have HB9 := Lib.hid hB9
     clear hb9 hx6 hX4 hB9 hKA hKB hX0 hX1 hB6 hW9 HKA8 HK8 HX48 HB8
     go_region_held3 (fun w' => w'.cell? ⟨B4, 0, none⟩ = some (.slice A0 m0 q0) ∧ w'.cell? ⟨B4, 1, none⟩ = some (.slice A1 m1 q1) ∧ w'.cell? ⟨B6, 0, none⟩ = some (.slice A2 m2 q2) ∧ w'.cell? ⟨B6, 1, none⟩ = some (.slice A3 m3 q3)) (go_keep) (fail)
     all_goals go_wp2
     refine bodyPost_ret (fixed_ret HX0.out HX1.out (by omega) _ _ _ _ _ rfl rfl) rfl ?_
     refine ⟨A0, m0, q0, A1, m1, q1, A2, m2, q2, A3, m3, q3, rfl, HKA.out.out HX0.out HX1.out (by omega) _ _ _ _, HKB.out.out HX0.out HX1.out (by omega) _ _ _ _, ?_⟩
     exact (((((H2.out.1.trans (HB9.out.mono (by omega))).setCell (p := ⟨B, 0, none⟩) (Nat.le_refl _) _).setCell (p := ⟨B, 1, none⟩) (Nat.le_refl _) _).setCell (p := ⟨B + 1, 0, none⟩) (Nat.le_succ B) _).setCell (p := ⟨B + 1, 1, none⟩) (Nat.le_succ B) _).drew
end Go.Proofs.YtnpkgmgedgcjmaaGreatDoor
end
section
namespace Go.Proofs.YtnpkgmgedgcjmaaGreatDoor
open Go Go.RowKit Png Go.Proofs.YtnpkgmgedgcjmaaGreatDoorW.PrintWords Go.Proofs.YtnpkgmgedgcjmaaGreatDoorW.PrintMore Go.Proofs.YtnpkgmgedgcjmaaGreatDoor.Pr
theorem storedM_facts (l : List UInt8) (at_ : Nat) (o : List UInt8) : (storedM l at_ o).2.1 ≤ 1 ∧ ((storedM l at_ o).2.1 = 0 → at_ < (storedM l at_ o).2.2 ∧ (storedM l at_ o).2.2 ≤ 8 * l.length) := by
 unfold storedM
 split
 ·
  exact ⟨by simp, fun h => by simp at h⟩
 ·
  rename_i h
  exact ⟨by simp, fun _ => ⟨by simp; omega, by simp; omega⟩⟩
theorem codesM_facts (l : List UInt8) (at_ : Nat) : (codesM l at_).1 = 0 → at_ < (codesM l at_).2.1 ∧ (codesM l at_).2.1 ≤ 8 * l.length ∧ (codesM l at_).2.2.1.length ≤ 288 ∧ (codesM l at_).2.2.2.length ≤ 32 := by
 unfold codesM
 simp only
 have b1 := numAt_lt (ints l) at_ 5
 have b2 := numAt_lt (ints l) (at_ + 5) 5
 have b3 := numAt_lt (ints l) (at_ + 10) 4
 generalize numAt (ints l) at_ 5 = n1 at b1 ⊢
 generalize numAt (ints l) (at_ + 5) 5 = n2 at b2 ⊢
 generalize numAt (ints l) (at_ + 10) 4 = n3 at b3 ⊢
 have hl := lensTo_len (ints l) (at_ + 14) (4 + n3)
 generalize lensTo (ints l) (at_ + 14) (4 + n3) = lens at hl ⊢
 split
 ·
  intro h; simp at h
 ·
  split
  ·
   intro h; simp at h
  ·
   have hc := code_of lens (by omega)
   rw [hl] at hc
   have hT := toldM_facts hc (ints l) (257 + n1 + (1 + n2)) (257 + n1 + (1 + n2)) [] (at_ + 14 + 3 * (4 + n3)) (by simp) (fun x h => by cases h)
   rw [hl]
   change (toldC (cntOf lens 19) (listTo lens 15) (ints l) (257 + n1 + (1 + n2)) (at_ + 14 + 3 * (4 + n3))).2.1 ≤ 1 ∧ at_ + 14 + 3 * (4 + n3) ≤ (toldC (cntOf lens 19) (listTo lens 15) (ints l) (257 + n1 + (1 + n2)) (at_ + 14 + 3 * (4 + n3))).2.2 ∧ _ ∧ ((toldC (cntOf lens 19) (listTo lens 15) (ints l) (257 + n1 + (1 + n2)) (at_ + 14 + 3 * (4 + n3))).2.1 = 0 → (toldC (cntOf lens 19) (listTo lens 15) (ints l) (257 + n1 + (1 + n2)) (at_ + 14 + 3 * (4 + n3))).1.length = _ ∧ _ ∧ (toldC (cntOf lens 19) (listTo lens 15) (ints l) (257 + n1 + (1 + n2)) (at_ + 14 + 3 * (4 + n3))).2.2 ≤ _) at hT
   generalize toldC (cntOf lens 19) (listTo lens 15) (ints l) (257 + n1 + (1 + n2)) (at_ + 14 + 3 * (4 + n3)) = T at hT ⊢
   obtain ⟨Tl, st, b⟩ := T
   obtain ⟨t1, t2, t3, t4⟩ := hT
   simp only at t1 t2 t4 ⊢
   rw [ints_length] at t4
   split
   ·
    rename_i h; intro h2; exact absurd h2 h
   ·
    rename_i h
    obtain ⟨u1, u2, u3⟩ := t4 (by omega)
    split
    ·
     intro h; simp at h
    ·
     split
     ·
      intro h; simp at h
     ·
      intro _
      exact ⟨show at_ < b by omega, u3, by rw [List.length_take]; omega, by rw [List.length_drop]; omega⟩
def blockM (l : List UInt8) (win most : Nat) (o : List UInt8) (at_ : Nat) : List UInt8 × Nat × Nat :=
 if numAt (ints l) at_ 2 = 0 then storedM l (at_ + 2) o
 else if numAt (ints l) at_ 2 = 1 then symM (cntOf fixL fixL.length) (listTo fixL 15) (cntOf fixD fixD.length) (listTo fixD 15) l win most (most + 1) o (at_ + 2)
 else if numAt (ints l) at_ 2 = 2 then
  if (codesM l (at_ + 2)).1 = 0 then symM (cntOf (codesM l (at_ + 2)).2.2.1 (codesM l (at_ + 2)).2.2.1.length) (listTo (codesM l (at_ + 2)).2.2.1 15) (cntOf (codesM l (at_ + 2)).2.2.2 (codesM l (at_ + 2)).2.2.2.length) (listTo (codesM l (at_ + 2)).2.2.2 15) l win most (most + 1) o (codesM l (at_ + 2)).2.1
  else (o, (codesM l (at_ + 2)).1, (codesM l (at_ + 2)).2.1)
 else (o, 1, at_ + 2)
theorem blockM_facts (l : List UInt8) (win most : Nat) (o : List UInt8) (at_ : Nat) : (blockM l win most o at_).2.1 = 0 → at_ < (blockM l win most o at_).2.2 ∧ (blockM l win most o at_).2.2 ≤ 8 * l.length := by
 unfold blockM
 split
 ·
  intro h; have := (storedM_facts l (at_ + 2) o).2 h; omega
 ·
  split
  ·
   intro h; have := (symM_facts (cntOf fixL fixL.length) (listTo fixL 15) (cntOf fixD fixD.length) (listTo fixD 15) l win most (most + 1) o (at_ + 2)).2.2.2.1 h; omega
  ·
   split
   ·
    split
    ·
     rename_i hc
     intro h
     have h1 := codesM_facts l (at_ + 2) hc
     have := (symM_facts (cntOf (codesM l (at_ + 2)).2.2.1 (codesM l (at_ + 2)).2.2.1.length) (listTo (codesM l (at_ + 2)).2.2.1 15) (cntOf (codesM l (at_ + 2)).2.2.2 (codesM l (at_ + 2)).2.2.2.length) (listTo (codesM l (at_ + 2)).2.2.2 15) l win most (most + 1) o (codesM l (at_ + 2)).2.1).2.2.2.1 h
     omega
    ·
     rename_i hc; intro h; exact absurd h hc
   ·
    intro h; simp at h
def infM (l : List UInt8) (win most : Nat) : Nat → List UInt8 → Nat → List UInt8 × Nat × Nat
 | 0, o, _ => (o, 0, 2)
 | d + 1, o, at_ =>
  if (blockM l win most o (at_ + 1)).2.1 ≠ 0 then ((blockM l win most o (at_ + 1)).1, 0, (blockM l win most o (at_ + 1)).2.1)
  else if most < (blockM l win most o (at_ + 1)).1.length then ((blockM l win most o (at_ + 1)).1, 0, 2)
  else if bitAt (ints l) at_ = 0 then infM l win most d (blockM l win most o (at_ + 1)).1 (blockM l win most o (at_ + 1)).2.2
  else ((blockM l win most o (at_ + 1)).1, ((blockM l win most o (at_ + 1)).2.2 + 7) / 8, 0)
structure II (w w1 : World) (g : Nat) (l : List UInt8) (p : Option Addr) (n cap : Nat) (o : List UInt8) (at_ : Nat) : Prop where
 o : Ob w1 w.heap.size p n cap o
 i : IsS229 w w1 g (ints l) (at_ : Nat)
 b : Below w.heap.size w w1
theorem II.step {w w1 w2 : World} {g : Nat} {l : List UInt8} {p : Option Addr} {n cap : Nat} {o : List UInt8} {at_ at2 : Nat} (h : II w w1 g l p n cap o at_) (hi : IsS229 w w2 g (ints l) (at2 : Nat)) (hb : Below w.heap.size w w2) (hk : KeepBut w1 w2 g Option.none) : II w w2 g l p n cap o at2 :=
 ⟨h.o.keepbut hk (h.o.ne_xs h.i), hi, hb⟩
theorem II.below {w w1 w2 : World} {g : Nat} {l : List UInt8} {p : Option Addr} {n cap : Nat} {o : List UInt8} {at_ : Nat} (h : II w w1 g l p n cap o at_) (hb : Below w1.heap.size w1 w2) : II w w2 g l p n cap o at_ :=
 ⟨h.o.kept hb, h.i.below hb, h.b.trans (hb.mono h.b.size)⟩
set_option maxHeartbeats 8000000 in
theorem inflate_c {w : World} {l : List UInt8} {A : Option Addr} {c : Nat} (hA : Bsl w A l) (hc : l.length ≤ c) (hl : l.length ≤ 1073741824) (win most : Nat) (hwin : win ≤ 1099511627776) (hmost : most ≤ 1099511627776) :
  Calls Tryz.prog 103 #[.slice A l.length c, .int .i64 (win : Int), .int .i64 (most : Int)] w fun e w' => ∃ p n cap, e = .returned (.tuple #[.slice p n cap, .int .i64 (((infM l win most (8 * l.length + 1) [] 0).2.1 : Nat) : Int), .int .i64 (((infM l win most (8 * l.length + 1) [] 0).2.2 : Nat) : Int)]) ∧
   Ob w' w.heap.size p n cap (infM l win most (8 * l.length + 1) [] 0).1 ∧ Below w.heap.size w w' := by
 obtain ⟨R, hR⟩ : ∃ R, R = infM l win most (8 * l.length + 1) [] 0 := ⟨_, rfl⟩
 rw [← hR]
 have HR0 := Lib.hid hR.symm
 have HA := Lib.hid hA
 have hcl := C_bsl hA (by omega)
 have Hcl := Lib.hid hcl
 clear hR hA hcl
 go_enter Tryz.func103, Tryz.ntmps103
 go_wp2
 obtain ⟨g, hg⟩ : ∃ g, w.heap.size = g := ⟨_, rfl⟩
 generalize hW1 : World.alloc (World.alloc w _) _ = W1
 have hF : Below w.heap.size w W1 := by rw [← hW1]; exact ((Below.refl _ _).alloc (Nat.le_refl _) _).alloc (by simp) _
 have HS : Hid (II w W1 g l (some ⟨w.heap.size + 1, 0, none⟩) 0 0 [] 0) := by
  refine Lib.hid ⟨?_, ?_, hF⟩
  ·
   rw [← hW1]
   have := Ob.made (w.alloc (.cells #[.slice A l.length c, .int .i64 0] 229)) w.heap.size [] (by simp) (by simp [maxLen])
   simpa [bvals] using this
  ·
   have h0 := IsS229.new w w A (c - l.length) (ints l) 0 (Below.refl _ _) Hcl.out
   rw [ints_length, show l.length + (c - l.length) = c by omega, hg] at h0
   have h1 := h0.alloc (.cells (bvals []).toArray 5)
   rw [← hW1]
   exact h1
 rw [hg]
 clear hW1 hF Hcl
 go_loopg [10, 11] (8 * l.length + 1) (fun gh v u wr => ∃ p n c o at_ last, v = .slice p n c ∧ u = .int .i64 ((last : Nat) : Int) ∧ (last ≤ 1 ∧ n ≤ most ∧ at_ ≤ 8 * l.length ∧ (last = 0 → 8 * l.length + 1 ≤ gh + at_)) ∧ Hid ((last = 0 → infM l win most gh o at_ = R) ∧ (last ≠ 0 → R = (o, (at_ + 7) / 8, 0))) ∧
  Hid (II w wr g l p n c o at_))
 case atStart => exact ⟨_, 0, 0, [], 0, 0, rfl, rfl, ⟨by omega, by omega, by omega, fun _ => by omega⟩, Lib.hid ⟨fun _ => HR0.out, fun h => absurd rfl h⟩, by rw [← hg]; rw [← hg] at HS; exact HS⟩
 case round =>
  obtain ⟨p, n, cap, o, at_, last, rfl, rfl, ⟨hl1, hn, hat, hgh⟩, HR, HS⟩ := hrel
  clear HR0
  by_cases hlast : last = 0
  ·
   subst hlast
   have hgh := hgh rfl
   obtain ⟨d, hd⟩ : ∃ d, gk = d + 1 := ⟨gk - 1, by omega⟩
   have HR1 := Lib.hid (show infM l win most (d + 1) o at_ = R by rw [← hd]; exact HR.out.1 rfl)
   have hgd : 8 * l.length ≤ d + at_ := by omega
   have Hd := Lib.hid hd
   clear hd hgh hl1 HR
   go_wp2_with fail
   refine (one_l (by omega) at_ (by omega) HS.out.i HS.out.b).mono ?_
   rintro e w2 ⟨rfl, hi, hb, hk⟩
   have HS2 := Lib.hid (HS.out.step hi hb hk)
   obtain ⟨lb, hlb⟩ : ∃ lb, lb = bitAt (ints l) at_ := ⟨_, rfl⟩
   have hlb1 : lb ≤ 1 := by rw [hlb]; exact bitAt_le _ _
   rw [← hlb]
   have HR2 := Lib.hid (show (if (blockM l win most o (at_ + 1)).2.1 ≠ 0 then ((blockM l win most o (at_ + 1)).1, 0, (blockM l win most o (at_ + 1)).2.1)
    else if most < (blockM l win most o (at_ + 1)).1.length then ((blockM l win most o (at_ + 1)).1, 0, 2)
    else if lb = 0 then infM l win most d (blockM l win most o (at_ + 1)).1 (blockM l win most o (at_ + 1)).2.2
    else ((blockM l win most o (at_ + 1)).1, ((blockM l win most o (at_ + 1)).2.2 + 7) / 8, 0)) = R by rw [hlb]; exact HR1.out)
   clear hi hb hk HS hlb HR1
   go_wp2_with fail
   refine (many_l (by omega) 2 2 rfl (at_ + 1) (by omega) (by omega) HS2.out.i HS2.out.b).mono ?_
   rintro e w3 ⟨rfl, hi, hb, hk⟩
   have HS3 := Lib.hid (HS2.out.step hi hb hk)
   obtain ⟨kd, hkd⟩ : ∃ kd, kd = numAt (ints l) (at_ + 1) 2 := ⟨_, rfl⟩
   rw [← hkd]
   have hbm := blockM_facts l win most o (at_ + 1)
   have HBM := Lib.hid (show blockM l win most o (at_ + 1) = if kd = 0 then storedM l (at_ + 1 + 2) o
    else if kd = 1 then symM (cntOf fixL fixL.length) (listTo fixL 15) (cntOf fixD fixD.length) (listTo fixD 15) l win most (most + 1) o (at_ + 1 + 2)
    else if kd = 2 then
     if (codesM l (at_ + 1 + 2)).1 = 0 then symM (cntOf (codesM l (at_ + 1 + 2)).2.2.1 (codesM l (at_ + 1 + 2)).2.2.1.length) (listTo (codesM l (at_ + 1 + 2)).2.2.1 15) (cntOf (codesM l (at_ + 1 + 2)).2.2.2 (codesM l (at_ + 1 + 2)).2.2.2.length) (listTo (codesM l (at_ + 1 + 2)).2.2.2 15) l win most (most + 1) o (codesM l (at_ + 1 + 2)).2.1
     else (o, (codesM l (at_ + 1 + 2)).1, (codesM l (at_ + 1 + 2)).2.1)
    else (o, 1, at_ + 1 + 2) by rw [hkd]; rfl)
   have HR2' := HR2.out
   generalize blockM l win most o (at_ + 1) = Bm at hbm HBM HR2'
   obtain ⟨bo, bs, ba⟩ := Bm
   simp only at hbm HR2'
   have Hbm := Lib.hid hbm
   have HR2 := Lib.hid HR2'
   clear hi hb hk HS2 hkd hbm HR2'
   go_upto_block 2 with (fail)
   go_cut [10, 12] (fun v10 v12 wr => ∃ p n c, v10 = .slice p n c ∧ v12 = .int .i64 (bs : Int) ∧ Hid (II w wr g l p n c bo ba))
   case first =>
    by_cases hk0 : kd = 0
    ·
     have HB1 := Lib.hid (HBM.out.trans (if_pos hk0))
     subst hk0
     go_wp2_with fail
     refine (stored_c hl (at_ + 1 + 2) (by omega) p n cap (by omega) HS3.out.i HS3.out.b HS3.out.o).mono ?_
     rintro e w4 ⟨p4, n4, c4, rfl, ho, hi, hb⟩
     rw [← HB1.out] at ho hi ⊢
     have HS4 : Hid (II w w4 g l p4 n4 c4 bo ba) := Lib.hid ⟨ho, hi, hb⟩
     clear ho hi hb
     go_wp2
     go_meet
     case rel => exact ⟨p4, n4, c4, rfl, rfl, HS4⟩
    ·
     have hk0i : ((kd : Int) == 0) = false := by simp; omega
     by_cases hk1 : kd = 1
     ·
      have HB1 := Lib.hid (HBM.out.trans ((if_neg hk0).trans (if_pos hk1)))
      subst hk1
      have hgl := HS3.out.i.lt
      have hFC := fixed_c (w := w3) (g := g) (base := w.heap.size) hgl HS3.out.b.size
      have HFC := Lib.hid hFC
      clear hFC hgl
      go_wp2_with fail
      refine HFC.out.mono ?_
      rintro e w4 ⟨A0, n0, q0, A1, n1, q1, A2, n2, q2, A3, n3, q3, rfl, ca, cb, hbl⟩
      have HS4 := Lib.hid (HS3.out.below hbl)
      have HCA := Lib.hid ca
      have HCB := Lib.hid cb
      clear ca cb hbl HFC HS3
      go_wp2_with fail
      have hFa : Below w4.heap.size w4 ((w4.alloc (.cells #[.slice A0 n0 q0, .slice A1 n1 q1] 233)).alloc (.cells #[.slice A2 n2 q2, .slice A3 n3 q3] 233)) := ((Below.refl _ _).alloc (Nat.le_refl _) _).alloc (by simp) _
      have HSa := Lib.hid (HS4.out.below hFa)
      refine (symbols_c hl (at_ + 1 + 2) win most (by omega) hwin hmost p n cap (by omega) HSa.out.i HSa.out.b HSa.out.o ((code_of fixL (by decide)).more (by decide)) ((code_of fixD (by decide)).more (by decide)) (HCA.out.below hFa) (HCB.out.below hFa)).mono ?_
      rintro e w5 ⟨p5, n5, c5, rfl, ho, hi, hb⟩
      rw [← HB1.out] at ho hi ⊢
      have HS5 : Hid (II w w5 g l p5 n5 c5 bo ba) := Lib.hid ⟨ho, hi, hb⟩
      clear ho hi hb hFa HSa
      go_wp2
      go_meet
      case rel => exact ⟨p5, n5, c5, rfl, rfl, HS5⟩
     ·
      have hk1i : ((kd : Int) == 1) = false := by simp; omega
      by_cases hk2 : kd = 2
      ·
       have HB1 := Lib.hid (HBM.out.trans ((if_neg hk0).trans ((if_neg hk1).trans (if_pos hk2))))
       subst hk2
       have hCC := codes_c hl (at_ + 1 + 2) (by omega) HS3.out.i HS3.out.b
       have hcf := codesM_facts l (at_ + 1 + 2)
       have HB1' := HB1.out
       generalize codesM l (at_ + 1 + 2) = C at hCC hcf HB1'
       obtain ⟨cst, ca, cx, cy⟩ := C
       simp only at hCC hcf HB1'
       have HCC := Lib.hid hCC
       have Hcf := Lib.hid hcf
       have HB1 := Lib.hid HB1'
       clear hCC hcf HB1'
       go_wp2_with fail
       refine HCC.out.mono ?_
       rintro e w4 ⟨va, vb, vc, vd, ⟨⟨A0, n0, q0, rfl⟩, ⟨A1, n1, q1, rfl⟩, ⟨A2, n2, q2, rfl⟩, ⟨A3, n3, q3, rfl⟩⟩, rfl, hi, hb, hk, hgood⟩
       have HS4 := Lib.hid (HS3.out.step hi hb hk)
       have Hgood := Lib.hid hgood
       clear hi hb hk hgood HS3 HCC
       by_cases hcs : cst = 0
       ·
        subst hcs
        obtain ⟨kA, kB⟩ := Hgood.out rfl
        obtain ⟨f1, f2, f3, f4⟩ := Hcf.out rfl
        have HB2 := Lib.hid (HB1.out.trans (if_pos rfl))
        have HCA := Lib.hid kA
        have HCB := Lib.hid kB
        clear kA kB Hgood Hcf HB1
        go_wp2_with fail
        have hFa : Below w4.heap.size w4 ((w4.alloc (.cells #[.slice A0 n0 q0, .slice A1 n1 q1] 233)).alloc (.cells #[.slice A2 n2 q2, .slice A3 n3 q3] 233)) := ((Below.refl _ _).alloc (Nat.le_refl _) _).alloc (by simp) _
        have HSa := Lib.hid (HS4.out.below hFa)
        refine (symbols_c hl ca win most (by omega) hwin hmost p n cap (by omega) HSa.out.i HSa.out.b HSa.out.o ((code_of cx (by omega)).more f3) ((code_of cy (by omega)).more f4) (HCA.out.below hFa) (HCB.out.below hFa)).mono ?_
        rintro e w5 ⟨p5, n5, c5, rfl, ho, hi, hb⟩
        rw [← HB2.out] at ho hi ⊢
        have HS5 : Hid (II w w5 g l p5 n5 c5 bo ba) := Lib.hid ⟨ho, hi, hb⟩
        clear ho hi hb hFa HSa
        go_wp2
        go_meet
        case rel => exact ⟨p5, n5, c5, rfl, rfl, HS5⟩
       ·
        have hcsi : ((cst : Int) == 0) = false := by simp; omega
        have e := HB1.out.trans (if_neg hcs)
        injection e with e1 e2
        injection e2 with e2 e3
        subst e1 e2 e3
        have hFa : Below w4.heap.size w4 ((w4.alloc (.cells #[.slice A0 n0 q0, .slice A1 n1 q1] 233)).alloc (.cells #[.slice A2 n2 q2, .slice A3 n3 q3] 233)) := ((Below.refl _ _).alloc (Nat.le_refl _) _).alloc (by simp) _
        have HSa := Lib.hid (HS4.out.below hFa)
        clear hFa
        go_wp2
        go_meet
        case rel => exact ⟨p, n, cap, rfl, rfl, HSa⟩
      ·
       have hk2i : ((kd : Int) == 2) = false := by simp; omega
       have e := HBM.out.trans ((if_neg hk0).trans ((if_neg hk1).trans (if_neg hk2)))
       injection e with e1 e2
       injection e2 with e2 e3
       subst e1 e2 e3
       go_wp2
       go_meet
       case rel => exact ⟨p, n, cap, rfl, rfl, HS3⟩
   case rest =>
    obtain ⟨p4, n4, c4, rfl, rfl, HS4⟩ := hcut
    have hbol := HS4.out.o.1
    clear HS3
    by_cases hbs : bs = 0
    ·
     subst hbs
     obtain ⟨g1, g2⟩ := Hbm.out rfl
     by_cases hm : most < n4
     ·
      have hmi : (most : Int) < (n4 : Int) := by omega
      have HRe := Lib.hid (show (bo, 0, 2) = R by rw [← HR2.out, if_neg (by simp), if_pos (by omega)])
      have Hbol := Lib.hid hbol
      clear hbol
      go_wp2
      go_ret3
      rw [← HRe.out, ← hg]
      exact ⟨p4, n4, c4, rfl, HS4.out.o, HS4.out.b⟩
     ·
      have hmi : ¬ (most : Int) < (n4 : Int) := by omega
      have HR3 := Lib.hid ((if_neg (show ¬ most < bo.length by omega)).symm.trans ((if_neg (show ¬ ((0 : Nat) ≠ 0) from fun h => h rfl)).symm.trans HR2.out))
      have Hbol := Lib.hid hbol
      clear hbol
      go_wp2
      go_roundg d
      case measure => have := Hd.out; omega
      case rel =>
       refine ⟨p4, n4, c4, bo, ba, lb, rfl, rfl, ⟨hlb1, by omega, g2, fun _ => by omega⟩, Lib.hid ⟨fun h => ?_, fun h => ?_⟩, HS4⟩
       ·
        rw [← HR3.out, if_pos h]
       ·
        rw [← HR3.out, if_neg h]
    ·
     have hbsi : ((bs : Int) == 0) = false := by simp; omega
     have hbsi2 : ((bs : Int) != 0) = true := by simp; omega
     have HRe := Lib.hid (show (bo, 0, bs) = R by rw [← HR2.out, if_pos hbs])
     have Hbs := Lib.hid hbs
     clear hbs
     go_wp2
     go_ret3
     rw [← HRe.out, ← hg]
     exact ⟨p4, n4, c4, rfl, HS4.out.o, HS4.out.b⟩
  ·
   obtain rfl : last = 1 := by omega
   have HRe := Lib.hid (HR.out.2 (by omega))
   clear HR hlast hgh hl1
   obtain ⟨A', c', hX, -, -, -⟩ := XS_open HS.out.i
   have c1 := (hX.cell 1).trans rfl
   obtain ⟨a, ha⟩ : ∃ a, a = (at_ + 7) / 8 := ⟨_, rfl⟩
   have ea : ((at_ : Int) + 7) / 8 = (a : Int) := by omega
   have ew : IntKind.i64.wrap ((at_ : Int) + 7) = (at_ : Int) + 7 := IntWalk.i64_in _ (by omega)
   have ew2 : IntKind.i64.wrap (a : Int) = (a : Int) := IntWalk.i64_in _ (by omega)
   have et : Int.tdiv ((at_ : Int) + 7) 8 = (a : Int) := by rw [Int.tdiv_eq_ediv_of_nonneg (by omega)]; exact ea
   rw [← ha] at HRe
   clear hX ha
   go_wp2
   go_quiet (fail)
   go_wp2
   go_ret3
   rw [HRe.out]
   exact ⟨p, n, cap, rfl, (HS.out.below (pw_below_drewN (Below.refl _ _) _)).o, (HS.out.below (pw_below_drewN (Below.refl _ _) _)).b⟩
end Go.Proofs.YtnpkgmgedgcjmaaGreatDoor
end
