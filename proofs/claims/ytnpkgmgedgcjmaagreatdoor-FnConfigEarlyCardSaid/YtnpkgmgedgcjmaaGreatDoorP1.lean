/- The file that the reference writes. -/
import Derived.Test.YtnpkgmgedgcjmaaGreatDoorW7
import Derived.Test.YtnpkgmgedgcjmaaGreatDoorW8
import Derived.Test.YtnpkgmgedgcjmaaGreatDoorPa
set_option linter.all false

/- Words for the file's chunks. -/
namespace Go.Proofs.YtnpkgmgedgcjmaaGreatDoor
open Go Go.RowKit Png

theorem palBytes_one (l : List Q4) (d : Q4) : palBytes (l ++ [d]) = palBytes l ++ [UInt8.ofNat (d.r / 257), UInt8.ofNat (d.g / 257), UInt8.ofNat (d.b / 257)] := by simp [palBytes]
theorem aBytes_one (l : List Q4) (d : Q4) : aBytes (l ++ [d]) = aBytes l ++ [UInt8.ofNat (d.a / 257)] := by simp [aBytes]
theorem anyA_one (l : List Q4) (d : Q4) : anyA (l ++ [d]) = (anyA l || d.a != 65535) := by simp [anyA]
theorem clrBytes_one (l : List Nat) (v : Nat) : clrBytes (l ++ [v]) = clrBytes l ++ [UInt8.ofNat (v / 256), UInt8.ofNat v] := by simp [clrBytes]
theorem clrBytes_length (l : List Nat) : (clrBytes l).length = 2 * l.length := by
  induction l with
  | nil => rfl
  | cons d l ih => simp [clrBytes] at ih ⊢; omega
end Go.Proofs.YtnpkgmgedgcjmaaGreatDoor

namespace Go.Proofs.YtnpkgmgedgcjmaaGreatDoor
open Go Go.RowKit Png

set_option maxHeartbeats 40000000 in
set_option maxRecDepth 100000 in
theorem write_ok (W H dp ct sb ns scap dN dcap cN ccap : Nat) (il : Bool) (zs : List Nat) (ds : List Q4) (cs : List Nat) (pd pc : Option Addr) (w : World)
    (hk : Kinds ct dp) (hW1 : 1 ≤ W) (hW : W ≤ 40) (hH1 : 1 ≤ H) (hH : H ≤ 40) (hz : IntsAt w sb zs) (hsb : sb < w.heap.size) (hl : zs.length = ns)
    (hns : ns = H * W * chan ct) (hcap : ns ≤ scap) (hcap2 : scap ≤ 9223372036854775807) (hv : ∀ k, zs.getD k 0 ≤ 65535)
    (hd : 0 < dN → ∃ db, pd = some ⟨db, 0, none⟩ ∧ db < w.heap.size ∧ DotsAt w db ds) (hdl : ds.length = dN) (hdn : dN ≤ 256) (hdv : ∀ d ∈ ds, d.r ≤ 65535 ∧ d.g ≤ 65535 ∧ d.b ≤ 65535 ∧ d.a ≤ 65535)
    (hc : 0 < cN → ∃ cb, pc = some ⟨cb, 0, none⟩ ∧ cb < w.heap.size ∧ IntsAt w cb cs) (hcl : cs.length = cN) (hcn : cN ≤ 4) (hcv : ∀ k, cs.getD k 0 ≤ 65535) (h3 : 0 < dN → cN = 0) :
    Calls Tryz.prog 40 #[.agg #[.int .i64 W, .int .i64 H, .int .i64 dp, .int .i64 ct, .bool il], .slice (some ⟨sb, 0, none⟩) ns scap, .slice pd dN dcap, .slice pc cN ccap, .agg #[.slice none 0 0, .int .i64 1000, .int .i64 1, .slice none 0 0], .slice none 0 0, .slice none 0 0] w fun e w' =>
      ∃ p m c packed, e = .returned (.slice p m c) ∧ Ob w' w.heap.size p m c (fileOf W H dp ct (if il then 1 else 0) ds cs packed) ∧ packed.length ≤ 20000000 ∧ Below w.heap.size w w' := by
  have Hz := Lib.hid hz
  have Hl := Lib.hid hl
  have Hv := Lib.hid hv
  have Hd := Lib.hid hd
  have Hc := Lib.hid hc
  have Hdl := Lib.hid hdl
  have Hcl := Lib.hid hcl
  have Hdv := Lib.hid hdv
  have Hcv := Lib.hid hcv
  have H3 := Lib.hid h3
  have Hns := Lib.hid hns
  have Hk := Lib.hid hk
  obtain ⟨hdp, hctb⟩ := hk.bounds
  clear hz hl hv hd hc hdl hcl hdv hcv h3 hns hk
  obtain ⟨iv, hiv⟩ : ∃ iv : Nat, iv = if il then 1 else 0 := ⟨_, rfl⟩
  have hiv1 : iv ≤ 1 := by rw [hiv]; split <;> omega
  rw [← hiv]
  have Hiv := Lib.hid hiv
  clear hiv
  obtain ⟨B, hB⟩ : ∃ B, w.heap.size = B := ⟨_, rfl⟩
  rw [hB] at hsb ⊢
  have HB := Lib.hid hB
  clear hB
  go_enter Tryz.func40, Tryz.ntmps40
  go_upto_if 29 with (fail)
  have hX0 := Box.new w B W H dp ct il HB.out.symm
  generalize hW0 : World.alloc w _ = W0
  rw [hW0] at hX0
  have z0 : W0.heap.size = B + 1 := by rw [← hW0]; simp [HB.out]
  have hC0 := CBox.new W0 (B + 1) z0.symm
  generalize hW1' : World.alloc W0 _ = W1
  rw [hW1'] at hC0
  have F1 : Below B w W1 := by rw [← hW1', ← hW0]; exact ((Below.refl _ _).alloc (Nat.le_of_eq HB.out.symm) _).alloc (by simp [HB.out]) _
  have X1 : Box W1 B W H dp ct il := by rw [← hW1']; exact hX0.below ((Below.refl (B + 1) W0).alloc (Nat.le_of_eq z0.symm) _) (Nat.lt_succ_self B)
  have S1 : W1.heap.size = B + 2 := by rw [← hW1']; simp [z0]
  have HF1 := Lib.hid F1
  have HX1 := Lib.hid X1
  have HC1 := Lib.hid hC0
  have HS1 := Lib.hid S1
  have hS1 : B + 2 ≤ W1.heap.size := Nat.le_of_eq S1.symm
  obtain ⟨x0, x1, x2, x3, x4⟩ := X1
  rw [HB.out]
  clear hW0 hW1' hX0 F1 z0 S1 hC0
  have eW : IntKind.u32.wrap (W : Int) = (W : Int) := by rw [IntKind.wrap_u32']; omega
  have eH : IntKind.u32.wrap (H : Int) = (H : Int) := by rw [IntKind.wrap_u32']; omega
  have ed : IntKind.u8.wrap (dp : Int) = (dp : Int) := by rw [IntKind.wrap_u8']; omega
  have ec : IntKind.u8.wrap (ct : Int) = (ct : Int) := by rw [IntKind.wrap_u8']; omega
  obtain ⟨vi, hvi⟩ : ∃ vi : Value, vi = .int .u8 (iv : Int) := ⟨_, rfl⟩
  have Hvi := Lib.hid hvi
  clear hvi
  go_cut [15] (fun v wr => v = vi ∧ W1 = wr)
  case first =>
    have Hiv2 := Lib.hid (show (iv : Int) = if il then 1 else 0 by rw [Hiv.out]; split <;> rfl)
    cases il
    all_goals
      go_wp2
      go_meet
      case rel => exact ⟨by rw [Hvi.out, Hiv2.out]; rfl, rfl⟩
  case rest =>
    obtain ⟨hu, rfl⟩ := hcut
    rw [Hvi.out] at hu
    subst hu
    go_upto_region 4 with (fail)
    go_cut [16] (fun v wr => ∃ p c, v = .slice p 13 c ∧ Ob wr W1.heap.size p 13 c (h13 W H dp ct iv) ∧ Below W1.heap.size W1 wr)
    case first =>
      go_region_held3 (fun w' => w'.cell? ⟨B, 0, none⟩ = some (.int .i64 W) ∧ w'.cell? ⟨B, 1, none⟩ = some (.int .i64 H) ∧ w'.cell? ⟨B, 2, none⟩ = some (.int .i64 dp) ∧ w'.cell? ⟨B, 3, none⟩ = some (.int .i64 ct))
        (first | exact ⟨x0, x1, x2, x3⟩ | exact ⟨f0, f1, f2, f3⟩ | exact ⟨g0, g1, g2, g3⟩ | exact ⟨i0, i1, i2, i3⟩ | exact ⟨k0, k1, k2, k3⟩ | exact (HX1.out.below (Hb4.out.alloc Hb4.out.size _) (Nat.lt_of_lt_of_le (Nat.lt_add_of_pos_right (by decide)) hS1)).four_ | exact (HX1.out.below (Hb23.out.alloc Hb23.out.size _) (Nat.lt_of_lt_of_le (Nat.lt_add_of_pos_right (by decide)) hS1)).four_ | exact (HX1.out.below (Hb2.out.alloc Hb2.out.size _) (Nat.lt_of_lt_of_le (Nat.lt_add_of_pos_right (by decide)) hS1)).four_ | exact (HX1.out.below ((Below.refl _ W1).drew.alloc (Nat.le_refl _) _) (Nat.lt_of_lt_of_le (Nat.lt_add_of_pos_right (by decide)) hS1)).four_ | (refine ⟨?_, ?_, ?_, ?_⟩ <;> go_simp))
        (first
          | (go_at_call 38; have hO2' := HO2.out; clear hO2'; refine (four_any H _ (Nat.lt_of_le_of_lt hH (by decide))).mono ?_; rintro e w3 ⟨q3, rfl, hO3, hb3⟩; have HO3 := Lib.hid hO3; have Hb3 := Lib.hid (show Below w2.heap.size w2 w3 from (by first | exact hb3 | exact (((Below.refl _ w2).alloc (Nat.le_refl _) _).trans (hb3.mono (by simp))))); (first | (have HQ3 := Lib.hid (HQ.out.below hb3 HQ.out.lt)) | (have HQ3 := Lib.hid ((Blk.new w2 5 _).below hb3 (by simp))) | skip); have Hb23 := Lib.hid (Hb2.out.trans (Hb3.out.mono Hb2.out.size)); obtain ⟨g0, g1, g2, g3, g4⟩ := HX1.out.below Hb23.out (Nat.lt_of_lt_of_le (Nat.lt_add_of_pos_right (by decide)) hS1); clear hO3 hb3)
          | (go_at_call 38; refine (four_any W _ (Nat.lt_of_le_of_lt hW (by decide))).mono ?_; rintro e w2 ⟨q2, rfl, hO2, hb2⟩; have HN := Lib.hid (hO2.lt _ rfl).1; have HO2 := Lib.hid (hO2.lower (base' := W1.heap.size) (by first | exact Nat.le_refl _ | simp)); have Hb2 := Lib.hid (show Below W1.heap.size W1 w2 from (by first | exact ((Below.refl _ W1).drew.trans hb2) | exact (((Below.refl _ W1).drew.alloc (Nat.le_refl _) _).trans (hb2.mono (by simp))))); (first | (have HQ := Lib.hid ((Blk.new W1.drew 5 _).below hb2 (by simp))) | skip); obtain ⟨f0, f1, f2, f3, f4⟩ := HX1.out.below Hb2.out (Nat.lt_of_lt_of_le (Nat.lt_add_of_pos_right (by decide)) hS1); clear hO2 hb2)
          | (refine step_app rfl (.tmp 33) (.tmp 37) (by rfl) W1.heap.size 4 4 4 4 _ _ (four W) (four H) (by rfl) (by rfl) (by first | exact HO2.out.kept Hb3.out | exact (HO2.out.kept Hb3.out).keep fun j hj => heap_alloc_old w3 _ ((HO2.out.kept Hb3.out).lt j hj).2) w3.heap.size (by first | exact HO3.out.reads | exact HO3.out.reads.alloc (Nat.le_refl _) _) (by decide) (Nat.le_trans Hb23.out.size (by simp)) ?_; intro p4 c4 w4 hO4 hG4 hL4; have HO4 := Lib.hid hO4; have HR4 := HO2.out.lt; (first | (have HQ4 := Lib.hid (HQ3.out.grown hG4 (by intro e; injection e with e; first | exact absurd e (Nat.ne_of_gt (HO2.out.lt _ rfl).2) | exact absurd e (Nat.ne_of_gt (Nat.lt_of_lt_of_le (HO2.out.lt _ rfl).2 Hb3.out.size)) | exact absurd e (Nat.ne_of_lt (Nat.lt_of_lt_of_le (by simp) HN.out))))) | (have HQ4 := Lib.hid ((Blk.new w3 5 _).grown hG4 (by intro e; injection e with e; first | exact absurd e (Nat.ne_of_gt (HO2.out.lt _ rfl).2) | exact absurd e (Nat.ne_of_gt (Nat.lt_of_lt_of_le (HO2.out.lt _ rfl).2 Hb3.out.size)) | exact absurd e (Nat.ne_of_lt (Nat.lt_of_lt_of_le (by simp) HN.out))))) | skip); have Hb4 := Lib.hid (show Below W1.heap.size W1 w4 from (by first | exact (Hb23.out.grown hG4 Hb23.out.size (fun k hk => (HR4 k hk).1)) | exact ((Hb23.out.alloc Hb23.out.size _).grown hG4 (Nat.le_trans Hb23.out.size (by simp)) (fun k hk => (HR4 k hk).1)))); obtain ⟨i0, i1, i2, i3, i4⟩ := HX1.out.below Hb4.out (Nat.lt_of_lt_of_le (Nat.lt_add_of_pos_right (by decide)) hS1); clear hO4 hG4 hL4 HR4)
          | (refine step_app rfl (.tmp 38) (.tmp 46) (by rfl) W1.heap.size 8 c4 5 5 p4 _ (four W ++ four H) [UInt8.ofNat dp, UInt8.ofNat ct, 0, 0, UInt8.ofNat iv] (by rfl) (by rfl) (by first | exact HO4.out | exact HO4.out.keep fun j hj => heap_alloc_old w4 _ (HO4.out.lt j hj).2) (w4.heap.size + 1) (by first | exact (Reads.of_blk HQ4.out (by rfl) (by simp [bvals, ed, ec]; omega)).more (Nat.le_succ _) | exact reads_new w4 _ 5 _ 1 5 _ (by rfl) (by simp [bvals, ed, ec]; omega) (Nat.lt_succ_self _) _ (by rfl)) (by decide) (Nat.le_trans Hb4.out.size (by simp)) ?_; intro p5 c5 w5 hO5 hG5 hL5; have HO5 := Lib.hid hO5; have Hb5 := Lib.hid (show Below W1.heap.size W1 w5 from (by first | exact (Hb4.out.grown hG5 Hb4.out.size (fun k hk => (HO4.out.lt k hk).1)) | exact ((Hb4.out.alloc Hb4.out.size _).grown hG5 (Nat.le_trans Hb4.out.size (by simp)) (fun k hk => (HO4.out.lt k hk).1)))); obtain ⟨k0, k1, k2, k3, k4⟩ := HX1.out.below Hb5.out (Nat.lt_of_lt_of_le (Nat.lt_add_of_pos_right (by decide)) hS1); clear hO5 hG5 hL5)
          | fail)
      all_goals
        clear f0 f1 f2 f3 f4 g0 g1 g2 g3 g4 i0 i1 i2 i3 i4 k0 k1 k2 k3 k4
        go_wp2
        go_meet
        case rel => exact ⟨p5, c5, rfl, by unfold h13; rw [← List.append_assoc]; exact HO5.out, Hb5.out⟩
    case rest =>
      obtain ⟨w5, rfl⟩ : ∃ x : World, x = wc := ⟨_, rfl⟩
      obtain ⟨p5, c5, rfl, hO5, hb5⟩ := hcut
      have HO5 := Lib.hid hO5
      have Hb5 := Lib.hid hb5
      clear hO5 hb5 x0 x1 x2 x3 x4
      go_wp2_with fail
      refine (signature_ok _).mono ?_
      rintro e w6 ⟨rfl, hO6, hb6⟩
      have HO6 := Lib.hid hO6
      have Hb6 := Lib.hid hb6
      have hO5' := HO5.out.kept hb6
      clear hO6 hb6
      go_wp2_with fail
      refine (chunk_ok ⟨#[73, 72, 68, 82]⟩ p5 13 c5 w6.heap.size (h13 W H dp ct iv) w6 hO5'.reads hO5'.spot (fun a ha => (hO5'.lt a.block (by rw [ha]; rfl)).2) (by decide) rfl).mono ?_
      rintro e w7 ⟨p7, n7, c7, rfl, hn7, hO7, hb7⟩
      have HO7 := Lib.hid hO7
      have Hb7 := Lib.hid hb7
      have Hn7 := Lib.hid hO7.1
      clear hO7 hb7 hO5'
      go_wp2_with (at_builtin; go_must (refine wp_app rfl (.tmp 48) (.tmp 50) rfl w5.heap.size 8 8 n7 c7 _ p7 sig (ck (nIHDR, h13 W H dp ct iv)) rfl rfl (HO6.out.kept Hb7.out) _ HO7.out.reads (by omega) (Nat.le_trans Hb6.out.size Hb7.out.size) ?_); intro p8 c8 w8 hO8 hG8 hL8; have HO8 := Lib.hid hO8; have Hb8 := Lib.hid ((Hb6.out.trans (Hb7.out.mono Hb6.out.size)).grown hG8 (Nat.le_trans Hb6.out.size Hb7.out.size) (fun k hk => ((HO6.out.kept Hb7.out).lt k hk).1)); clear hO8 hG8 hL8)
      obtain ⟨L0, hL0⟩ : ∃ L0, L0 = sig ++ ck (nIHDR, h13 W H dp ct iv) := ⟨_, rfl⟩
      rw [← hL0] at HO8
      have HL0 := Lib.hid hL0
      clear hL0
      have hn7b : n7 ≤ 25 := hn7
      clear hn7
      obtain ⟨S, hS⟩ : ∃ S, w8.heap.size = S := ⟨_, rfl⟩
      have HS := Lib.hid hS
      rw [hS]
      have hP0 : Ob (w8.alloc (.cells #[] 5)) S (some ⟨S, 0, none⟩) 0 0 [] := by rw [← hS]; exact Ob.made w8 _ [] (Nat.le_refl _) (by simp)
      have hP1 : Ob ((w8.alloc (.cells #[] 5)).alloc (.cells #[] 5)) S (some ⟨S, 0, none⟩) 0 0 [] := hP0.keep fun j hj => heap_alloc_old _ _ (hP0.lt j hj).2
      have hA1 : Ob ((w8.alloc (.cells #[] 5)).alloc (.cells #[] 5)) S (some ⟨S + 1, 0, none⟩) 0 0 [] := by
        have := Ob.made (w8.alloc (.cells #[] 5)) S [] (by simp [hS]) (by simp)
        simpa [hS, bvals] using this
      have hb9 : Below S w8 ((w8.alloc (.cells #[] 5)).alloc (.cells #[] 5)) := ((Below.refl _ _).alloc (Nat.le_of_eq hS.symm) _).alloc (by simp [hS]) _
      generalize hw9 : World.alloc (World.alloc w8 _) _ = w9
      rw [hw9] at hP1 hA1 hb9
      have HP1 := Lib.hid hP1
      have HA1 := Lib.hid hA1
      have Hb9 := Lib.hid hb9
      clear hP0 hP1 hA1 hb9 hw9 hS
      go_loopg [18, 19, 20, 56] dN (fun g pl al cl i wr => ∃ k n1 p1 c1 p2 c2, k + g = dN ∧ n1 = 3 * k ∧ i = .int .i64 (k : Nat) ∧ pl = .slice p1 n1 c1 ∧ al = .slice p2 k c2 ∧ cl = .bool (anyA (ds.take k)) ∧
        Ob wr S p1 n1 c1 (palBytes (ds.take k)) ∧ Ob wr S p2 k c2 (aBytes (ds.take k)) ∧ (∀ j, p1.map (·.block) = some j → p2.map (·.block) ≠ some j) ∧ Below S w8 wr)
      case atStart => exact ⟨0, 0, _, _, _, _, by omega, by omega, rfl, rfl, rfl, by simp [anyA], by simpa [palBytes] using HP1.out, by simpa [aBytes] using HA1.out, by rintro j ⟨⟩ e; simp at e, Hb9.out⟩
      case round =>
        obtain ⟨k, n1, p1, c1, p2, c2, hk, hn1, rfl, rfl, rfl, rfl, hPl, hAl, hne, hbl⟩ := hrel
        have HPl := Lib.hid hPl
        have HAl := Lib.hid hAl
        have Hne := Lib.hid hne
        have Hb := Lib.hid hbl
        have Hk2 := Lib.hid hk
        have Hn1 := Lib.hid hn1
        have hm1 : n1 ≤ 1000 := by omega
        have hSw : S ≤ wr.heap.size := by rw [← HS.out]; exact hbl.size
        have HF := Lib.hid (show Below w5.heap.size w5 wr from Hb8.out.trans (hbl.mono (by rw [← HS.out]; exact Hb8.out.size)))
        have HO9 := Lib.hid (HO8.out.kept (by rw [HS.out]; exact hbl))
        by_cases hlt : k < dN
        · obtain ⟨db, rfl, hdb, hDa⟩ := Hd.out (by omega)
          have hkd : k < ds.length := by rw [Hdl.out]; exact hlt
          have hall : Below B w wr := HF1.out.trans ((Hb5.out.trans (HF.out.mono Hb5.out.size)).mono (by omega))
          obtain ⟨y0, y1, y2, y3⟩ := (hDa.below hall (by rw [← HB.out]; exact hdb)) k hkd
          obtain ⟨b0, b1, b2, b3⟩ := Hdv.out _ (List.getElem_mem hkd)
          have hdk : ds.take (k + 1) = ds.take k ++ [ds[k]] := List.take_succ_eq_append_getElem hkd
          obtain ⟨r, hr⟩ : ∃ r, ds[k].r = r := ⟨_, rfl⟩
          obtain ⟨g, hg⟩ : ∃ g, ds[k].g = g := ⟨_, rfl⟩
          obtain ⟨u, hu⟩ : ∃ u, ds[k].b = u := ⟨_, rfl⟩
          obtain ⟨a, ha⟩ : ∃ a, ds[k].a = a := ⟨_, rfl⟩
          obtain ⟨r1, hr1⟩ : ∃ r1, r1 = r / 257 := ⟨_, rfl⟩
          obtain ⟨g1, hg1⟩ : ∃ g1, g1 = g / 257 := ⟨_, rfl⟩
          obtain ⟨u1, hu1⟩ : ∃ u1, u1 = u / 257 := ⟨_, rfl⟩
          obtain ⟨a1, ha1⟩ : ∃ a1, a1 = a / 257 := ⟨_, rfl⟩
          rw [hr] at y0 b0
          rw [hg] at y1 b1
          rw [hu] at y2 b2
          rw [ha] at y3 b3
          have HPb := Lib.hid (show palBytes (ds.take (k + 1)) = palBytes (ds.take k) ++ [UInt8.ofNat r1, UInt8.ofNat g1, UInt8.ofNat u1] by rw [hdk, palBytes_one, hr, hg, hu, hr1, hg1, hu1])
          have HAb := Lib.hid (show aBytes (ds.take (k + 1)) = aBytes (ds.take k) ++ [UInt8.ofNat a1] by rw [hdk, aBytes_one, ha, ha1])
          have HAn := Lib.hid (show anyA (ds.take (k + 1)) = (anyA (ds.take k) || a != 65535) by rw [hdk, anyA_one, ha])
          have l1 : r1 ≤ 255 := by omega
          have l2 : g1 ≤ 255 := by omega
          have l3 : u1 ≤ 255 := by omega
          have l4 : a1 ≤ 255 := by omega
          have e1 : (r : Int) / 257 = (r1 : Int) := by omega
          have e2 : (g : Int) / 257 = (g1 : Int) := by omega
          have e3 : (u : Int) / 257 = (u1 : Int) := by omega
          have e4 : (a : Int) / 257 = (a1 : Int) := by omega
          have hki : (k : Int) < (dN : Int) := by omega
          clear hPl hAl hne hbl hk hn1 hall hDa hr hg hu ha hr1 hg1 hu1 ha1 hdk hkd
          obtain ⟨ab, hab⟩ : ∃ ab, anyA (ds.take k) = ab := ⟨_, rfl⟩
          rw [hab] at HAn ⊢
          clear hab
          obtain ⟨cb, hcb⟩ : ∃ cb, ((a : Int) != 65535) = cb := ⟨_, rfl⟩
          have Hcb := Lib.hid (show cb = (a != 65535) by rw [← hcb, Bool.eq_iff_iff]; simp; omega)
          cases ab
          all_goals
            go_wp2_with (first
              | (at_builtin; refine wp_app rfl (.tmp 60) (.tmp 73) rfl S n1 c1 3 3 p1 (some ⟨wr.heap.size + 1, 0, none⟩) (palBytes (ds.take k)) [UInt8.ofNat r1, UInt8.ofNat g1, UInt8.ofNat u1] rfl rfl ((HPl.out.alloc _).alloc _) (wr.heap.size + 2) (reads_new (wr.alloc _) _ 5 _ 1 3 _ rfl (by simp [bvals]; omega) (by simp) _ (by simp)) (by omega) (by simp; omega) ?_; intro pA cA wA hOA hGA hLA
                 have HOA := Lib.hid hOA
                 have HGA := Lib.hid hGA
                 have HLA := Lib.hid hLA
                 have HQA := Lib.hid (((Blk.new wr 75 _).alloc _).grown hGA (by intro e; exact absurd (HPl.out.lt _ e.symm).2 (Nat.lt_irrefl _)))
                 have qA := HQA.out.cell 3
                 have HAlA := Lib.hid (((HAl.out.alloc _).alloc _).grownN hGA (fun j hj e => Hne.out j e.symm hj))
                 have hsA := hGA.size
                 have HbA := Lib.hid (((Hb.out.alloc hSw _).alloc (by simp; omega) _).grown hGA (by simp; omega) (fun j hj => (HPl.out.lt j hj).1))
                 have HdA := Lib.hid (show ∀ j, pA.map (·.block) = some j → p2.map (·.block) ≠ some j from fun j hj e => by
                   rcases HLA.out with h' | h'
                   · rw [h'] at hj; exact Hne.out j hj e
                   · rw [h'] at hj; have := (HAl.out.lt j e).2; simp at hj; omega)
                 clear hOA hGA hLA)
              | (at_builtin; refine wp_app rfl (.tmp 75) (.tmp 80) rfl S k c2 1 1 p2 (some ⟨wA.heap.size, 0, none⟩) (aBytes (ds.take k)) [UInt8.ofNat a1] rfl rfl (HAlA.out.alloc _) (wA.heap.size + 1) (reads_new wA _ 5 _ 1 1 _ rfl (by simp [bvals]; omega) (Nat.lt_succ_self _) _ rfl) (by omega) (by simp; have := HbA.out.size; rw [HS.out] at this; omega) ?_; intro pB cB wB hOB hGB hLB
                 have HOB := Lib.hid hOB
                 have HGB := Lib.hid hGB
                 have HLB := Lib.hid hLB
                 have HQB := Lib.hid ((HQA.out.alloc _).grown hGB (by intro e; exact absurd (HAl.out.lt _ e.symm).2 (Nat.lt_irrefl _)))
                 have qB := HQB.out.cell 3
                 clear hOB hGB hLB))
            go_roundg (gk - 1)
            case measure => have := Hk2.out; omega
            case rel =>
              have t1 := Hk2.out
              have t2 := Hn1.out
              have t3 := HbA.out.size
              rw [HS.out] at t3
              refine ⟨k + 1, n1 + 3, pA, cA, pB, cB, by omega, by omega, by go_num, rfl, rfl, ?_, ?_, ?_, ?_, ?_⟩
              · rw [HAn.out, ← Hcb.out]; first | rfl | simp
              · rw [HPb.out]; exact (HOA.out.alloc _).grownN HGB.out (fun j hj e => HdA.out j hj e.symm)
              · rw [HAb.out]; exact HOB.out
              · intro j hj e
                have t4 := (HOA.out.lt j hj).2
                rcases HLB.out with h | h
                · rw [h] at e; exact HdA.out j hj e
                · rw [h] at e; simp at e; omega
              · exact (HbA.out.alloc t3 _).grown HGB.out (by simp; omega) (fun j hj => (HAl.out.lt j hj).1)
        · have hkn : dN = k := by omega
          subst hkn
          have htk : ds.take dN = ds := List.take_of_length_le (Nat.le_of_eq Hdl.out)
          rw [htk] at HPl HAl ⊢
          have HS8 := Lib.hid (show ∀ j, p2.map (·.block) = some j → some j ≠ p8.map (·.block) from fun j hj e => by
            have t1 := (HAl.out.lt j hj).1
            have t2 := (HO8.out.lt j e.symm).2
            have t3 := HS.out
            omega)
          have he : ds.isEmpty = !decide (0 < dN) := by
            have := Hdl.out
            cases ds with
            | nil => simp at this; subst this; rfl
            | cons a l => simp at this; subst this; simp
          have HE := Lib.hid he
          have hw5 : w5.heap.size ≤ wr.heap.size := HF.out.size
          clear hPl hAl hne hbl hk hn1 htk he
          go_upto_if 91 with (fail)
          go_cut [17] (fun v wx => ∃ n p c, v = .slice p n c ∧ n ≤ 1000 ∧ Ob wx w5.heap.size p n c (L0 ++ cks (if ds.isEmpty then [] else [(nPLTE, palBytes ds)])) ∧ Ob wx S p2 dN c2 (aBytes ds) ∧ Below w5.heap.size w5 wx)
          case first =>
            by_cases h0 : 0 < dN
            · have h0i : (0 : Int) < (dN : Int) := by omega
              have HE2 := Lib.hid (show ds.isEmpty = false by rw [HE.out]; simp; omega)
              go_wp2_with fail
              refine (chunk_ok ⟨#[80, 76, 84, 69]⟩ p1 n1 c1 wr.heap.size (palBytes ds) wr HPl.out.reads HPl.out.spot (fun a ha => (HPl.out.lt a.block (by rw [ha]; rfl)).2) (by omega) rfl).mono ?_
              rintro e w2 ⟨q, m, c, rfl, hm, hO, hb⟩
              have HOq := Lib.hid hO
              have Hbq := Lib.hid hb
              clear hO hb
              go_wp2_with (at_builtin; go_must (refine wp_app rfl (.tmp 92) (.tmp 94) rfl w5.heap.size (8 + n7) c8 m c p8 q L0 (ck (nPLTE, palBytes ds)) rfl rfl (HO9.out.kept Hbq.out) _ HOq.out.reads (by omega) (Nat.le_trans hw5 Hbq.out.size) ?_); intro p3 c3 w3 hO3 hG3 hL3; have HO3 := Lib.hid hO3; have HG3 := Lib.hid hG3; clear hO3 hG3 hL3)
              go_meet
              case rel =>
                refine ⟨_, p3, c3, rfl, by have := Hn1.out; omega, ?_, ?_, ?_⟩
                · rw [HE2.out]; simpa [cks_cons, cks_nil] using HO3.out
                · exact (HAl.out.kept Hbq.out).grownN HG3.out HS8.out
                · exact (HF.out.trans (Hbq.out.mono hw5)).grown HG3.out (Nat.le_trans hw5 Hbq.out.size) (fun j hj => (HO9.out.lt j hj).1)
            · have h0i : ¬ (0 : Int) < (dN : Int) := by omega
              have HE2 := Lib.hid (show ds.isEmpty = true by rw [HE.out]; simp; omega)
              go_wp2
              go_meet
              case rel =>
                refine ⟨_, p8, c8, rfl, by omega, ?_, HAl.out, HF.out⟩
                rw [HE2.out]; simpa [cks_nil] using HO9.out
          case rest =>
            obtain ⟨w10, rfl⟩ : ∃ x : World, x = wc := ⟨_, rfl⟩
            obtain ⟨n3, p3, c3, rfl, hn3, hO3, hA3, hF3⟩ := hcut
            obtain ⟨L1, hL1⟩ : ∃ L1, L1 = L0 ++ cks (if ds.isEmpty then [] else [(nPLTE, palBytes ds)]) := ⟨_, rfl⟩
            rw [← hL1] at hO3
            have HL1 := Lib.hid hL1
            have HO3 := Lib.hid hO3
            have HA3 := Lib.hid hA3
            have HF3 := Lib.hid hF3
            have hw10 : w5.heap.size ≤ w10.heap.size := hF3.size
            clear hO3 hA3 hF3 hL1
            go_upto_if 96 with (fail)
            go_cut [17, 20] (fun v _ wx => ∃ n p c, v = .slice p n c ∧ n ≤ 1300 ∧ Ob wx w5.heap.size p n c (L1 ++ cks (if anyA ds then [(ntRNS, aBytes ds)] else [])) ∧ Below w5.heap.size w5 wx)
            case first =>
              obtain ⟨ab, hab⟩ : ∃ ab, anyA ds = ab := ⟨_, rfl⟩
              have HAB := Lib.hid hab
              rw [hab]
              clear hab
              cases ab
              · go_wp2
                go_meet
                case rel =>
                  refine ⟨_, p3, c3, rfl, by omega, ?_, HF3.out⟩
                  rw [HAB.out]; simpa [cks_nil] using HO3.out
              · go_wp2_with fail
                refine (chunk_ok ⟨#[116, 82, 78, 83]⟩ p2 dN c2 w10.heap.size (aBytes ds) w10 HA3.out.reads HA3.out.spot (fun a ha => (HA3.out.lt a.block (by rw [ha]; rfl)).2) (by omega) rfl).mono ?_
                rintro e w2 ⟨q, m, c, rfl, hm, hO, hb⟩
                have HOq := Lib.hid hO
                have Hbq := Lib.hid hb
                clear hO hb
                go_wp2_with (at_builtin; go_must (refine wp_app rfl (.tmp 97) (.tmp 99) rfl w5.heap.size n3 c3 m c p3 q L1 (ck (ntRNS, aBytes ds)) rfl rfl (HO3.out.kept Hbq.out) _ HOq.out.reads (by omega) (Nat.le_trans hw10 Hbq.out.size) ?_); intro p4 c4 w4 hO4 hG4 hL4; have HO4 := Lib.hid hO4; have HG4 := Lib.hid hG4; clear hO4 hG4 hL4)
                go_meet
                case rel =>
                  refine ⟨_, p4, c4, rfl, by omega, ?_, ?_⟩
                  · rw [HAB.out]; simpa [cks_cons, cks_nil] using HO4.out
                  · exact (HF3.out.trans (Hbq.out.mono hw10)).grown HG4.out (Nat.le_trans hw10 Hbq.out.size) (fun j hj => (HO3.out.lt j hj).1)
            case rest =>
              obtain ⟨w11, rfl⟩ : ∃ x : World, x = wc := ⟨_, rfl⟩
              obtain ⟨n4, p4, c4, rfl, hn4, hO4, hF4⟩ := hcut
              obtain ⟨L2, hL2⟩ : ∃ L2, L2 = L1 ++ cks (if anyA ds then [(ntRNS, aBytes ds)] else []) := ⟨_, rfl⟩
              rw [← hL2] at hO4
              have HL2 := Lib.hid hL2
              have HO4 := Lib.hid hO4
              have HF4 := Lib.hid hF4
              have hw11 : w5.heap.size ≤ w11.heap.size := hF4.size
              have he : cs.isEmpty = !decide (0 < cN) := by
                have := Hcl.out
                cases cs with
                | nil => simp at this; subst this; rfl
                | cons a l => simp at this; subst this; simp
              have HC := Lib.hid he
              clear hO4 hF4 hL2 he
              go_upto_if 103 with (fail)
              go_cut [17, 19] (fun v _ wx => ∃ n p c, v = .slice p n c ∧ n ≤ 1500 ∧ Ob wx w5.heap.size p n c (L2 ++ cks (if cs.isEmpty then [] else [(ntRNS, clrBytes cs)])) ∧ Below w5.heap.size w5 wx)
              case first =>
                by_cases h0 : 0 < cN
                · have h0i : (0 : Int) < (cN : Int) := by omega
                  have HC2 := Lib.hid (show cs.isEmpty = false by rw [HC.out]; simp; omega)
                  obtain ⟨T, hT⟩ : ∃ T, w11.heap.size = T := ⟨_, rfl⟩
                  have hP0 : Ob (w11.alloc (.cells #[] 5)) T (some ⟨T, 0, none⟩) 0 0 [] := by rw [← hT]; exact Ob.made w11 _ [] (Nat.le_refl _) (by simp)
                  have HP0 := Lib.hid hP0
                  have HT := Lib.hid hT
                  go_wp2
                  rw [hT] at hw11
                  clear hP0 hT
                  go_loopg [19, 107] cN (fun g cl i wr => ∃ k n p c, k + g = cN ∧ n = 2 * k ∧ i = .int .i64 (k : Nat) ∧ cl = .slice p n c ∧ Ob wr T p n c (clrBytes (cs.take k)) ∧ Below T w11 wr)
                  case atStart => exact ⟨0, 0, _, _, by omega, by omega, rfl, rfl, by simpa [clrBytes] using HP0.out, (Below.refl _ _).alloc (Nat.le_of_eq HT.out.symm) _⟩
                  case round =>
                    obtain ⟨k, n, p, c, hk, hn, rfl, rfl, hO, hb⟩ := hrel
                    have HO := Lib.hid hO
                    have Hb := Lib.hid hb
                    have Hk3 := Lib.hid hk
                    have Hn3 := Lib.hid hn
                    have hm2 : n ≤ 100 := by omega
                    have hTw : T ≤ wr.heap.size := by rw [← HT.out]; exact hb.size
                    by_cases hlt : k < cN
                    · obtain ⟨cb, rfl, hcb, hIa⟩ := Hc.out (by omega)
                      have hkd : k < cs.length := by rw [Hcl.out]; exact hlt
                      have hall : Below B w wr := HF1.out.trans ((Hb5.out.trans ((HF4.out.trans (hb.mono (by omega))).mono Hb5.out.size)).mono (by omega))
                      have y0 := (hIa.below hall (by rw [← HB.out]; exact hcb)) k hkd
                      have b0 := Hcv.out k
                      have hcd : cs.take (k + 1) = cs.take k ++ [cs.getD k 0] := by rw [List.take_succ_eq_append_getElem hkd]; simp [List.getD_eq_getElem?_getD, hkd]
                      obtain ⟨v, hv⟩ : ∃ v, cs.getD k 0 = v := ⟨_, rfl⟩
                      rw [hv] at y0 b0 hcd
                      obtain ⟨v1, hv1⟩ : ∃ v1, v1 = v / 256 := ⟨_, rfl⟩
                      obtain ⟨v0, hv0⟩ : ∃ v0, v0 = v % 256 := ⟨_, rfl⟩
                      have HCb := Lib.hid (show clrBytes (cs.take (k + 1)) = clrBytes (cs.take k) ++ [UInt8.ofNat v1, UInt8.ofNat v0] by
                        rw [hcd, clrBytes_one, hv1, hv0]
                        have : UInt8.ofNat v = UInt8.ofNat (v % 256) := UInt8.toNat_inj.1 (by simp)
                        rw [this])
                      have l1 : v1 ≤ 255 := by omega
                      have l0 : v0 ≤ 255 := by omega
                      have e1 : (v : Int) / 256 = (v1 : Int) := by omega
                      have e0 : IntKind.u8.wrap (v : Int) = (v0 : Int) := by rw [IntKind.wrap_u8']; omega
                      have hki : (k : Int) < (cN : Int) := by omega
                      clear hO hb hk hn hkd hall hIa hcd hv hv1 hv0
                      go_wp2_with (at_builtin; go_must (refine wp_app rfl (.tmp 111) (.tmp 117) rfl T n c 2 2 p (some ⟨wr.heap.size, 0, none⟩) (clrBytes (cs.take k)) [UInt8.ofNat v1, UInt8.ofNat v0] rfl rfl (HO.out.alloc _) (wr.heap.size + 1) (reads_new wr _ 5 _ 1 2 _ rfl (by simp [bvals]; omega) (Nat.lt_succ_self _) _ rfl) (by omega) (by simp; omega) ?_); intro p5 c5 w12 hO5 hG5 hL5; have HO5 := Lib.hid hO5; have Hb5' := Lib.hid ((Hb.out.alloc hTw _).grown hG5 (by simp; omega) (fun j hj => (HO.out.lt j hj).1)); clear hO5 hG5 hL5)
                      go_roundg (gk - 1)
                      case measure => have := Hk3.out; omega
                      case rel =>
                        have t1 := Hk3.out
                        have t2 := Hn3.out
                        exact ⟨k + 1, n + 2, p5, c5, by omega, by omega, by go_num, rfl, by rw [HCb.out]; exact HO5.out, Hb5'.out⟩
                    · have hkn : cN = k := by omega
                      subst hkn
                      have htk : cs.take cN = cs := List.take_of_length_le (Nat.le_of_eq Hcl.out)
                      rw [htk] at HO
                      have HOw := Lib.hid (HO4.out.kept (by rw [HT.out]; exact hb))
                      have HFw := Lib.hid (show Below w5.heap.size w5 wr from HF4.out.trans (hb.mono hw11))
                      have hw12 : w5.heap.size ≤ wr.heap.size := HFw.out.size
                      clear hO hb hk hn htk
                      go_wp2_with fail
                      refine (chunk_ok ⟨#[116, 82, 78, 83]⟩ p n c wr.heap.size (clrBytes cs) wr HO.out.reads HO.out.spot (fun a ha => (HO.out.lt a.block (by rw [ha]; rfl)).2) (by omega) rfl).mono ?_
                      rintro e w2 ⟨q, m, c', rfl, hm, hO, hb⟩
                      have HOq := Lib.hid hO
                      have Hbq := Lib.hid hb
                      clear hO hb
                      go_wp2_with (at_builtin; go_must (refine wp_app rfl (.tmp 120) (.tmp 122) rfl w5.heap.size n4 c4 m c' p4 q L2 (ck (ntRNS, clrBytes cs)) rfl rfl (HOw.out.kept Hbq.out) _ HOq.out.reads (by omega) (Nat.le_trans hw12 Hbq.out.size) ?_); intro p6 c6 w6' hO6 hG6 hL6; have HO6' := Lib.hid hO6; have HG6 := Lib.hid hG6; clear hO6 hG6 hL6)
                      go_meet
                      case rel =>
                        refine ⟨_, p6, c6, rfl, by omega, ?_, ?_⟩
                        · rw [HC2.out]; simpa [cks_cons, cks_nil] using HO6'.out
                        · exact (HFw.out.trans (Hbq.out.mono hw12)).grown HG6.out (Nat.le_trans hw12 Hbq.out.size) (fun j hj => (HOw.out.lt j hj).1)
                · have h0i : ¬ (0 : Int) < (cN : Int) := by omega
                  have HC2 := Lib.hid (show cs.isEmpty = true by rw [HC.out]; simp; omega)
                  go_wp2
                  go_meet
                  case rel =>
                    refine ⟨_, p4, c4, rfl, by omega, ?_, HF4.out⟩
                    rw [HC2.out]; simpa [cks_nil] using HO4.out
              case rest =>
                obtain ⟨w13, rfl⟩ : ∃ x : World, x = wc := ⟨_, rfl⟩
                obtain ⟨n5, p5, c5, rfl, hn5, hO5, hF5⟩ := hcut
                obtain ⟨L3, hL3⟩ : ∃ L3, L3 = L2 ++ cks (if cs.isEmpty then [] else [(ntRNS, clrBytes cs)]) := ⟨_, rfl⟩
                rw [← hL3] at hO5
                have HL3 := Lib.hid hL3
                have HO5' := Lib.hid hO5
                have HF5 := Lib.hid hF5
                have hw13 : w5.heap.size ≤ w13.heap.size := hF5.size
                clear hO5 hF5 hL3
                go_upto_region 27 with (at_builtin; go_must (refine wp_app rfl (.tmp 124) (.tmp 125) rfl w5.heap.size n5 c5 0 0 p5 none L3 [] rfl rfl HO5'.out 0 (show Reads _ 0 1 none 0 (bvals []) from Reads.none_) (by omega) hw13 ?_); intro p6 c6 w14 hO6 hG6 hL6; simp only [Nat.add_zero, List.append_nil] at hO6 ⊢; have HO7' := Lib.hid hO6; have HF6 := Lib.hid (HF5.out.grown hG6 hw13 (fun j hj => (HO5'.out.lt j hj).1)); clear hO6 hG6 hL6)
                have hw14 : w5.heap.size ≤ w14.heap.size := HF6.out.size
                have HW := Lib.hid (show Below W1.heap.size W1 w14 from Hb5.out.trans (HF6.out.mono Hb5.out.size))
                have HX := Lib.hid (HX1.out.below HW.out (Nat.lt_of_lt_of_le (Nat.lt_add_of_pos_right (by decide)) hS1))
                have HCB := Lib.hid (HC1.out.below HW.out (by omega))
                have Hz14 := Lib.hid (Hz.out.below (HF1.out.trans (HW.out.mono (by omega))) hsb)
                have hsb14 : sb < w14.heap.size := by have := HW.out.size; omega
                have hB14 : B + 1 < w14.heap.size := by have := HW.out.size; omega
                obtain ⟨x0, x1, x2, x3, x4⟩ := HX.out
                obtain ⟨z0, z1, z2, z3⟩ := HCB.out
                go_cut [25] (fun v wx => ∃ g n c l, v = .slice (some ⟨g, 0, none⟩) n c ∧ 0 < n ∧ n ≤ 20000000 ∧ n ≤ c ∧ c ≤ 9223372036854775807 ∧ Ob wx w14.heap.size (some ⟨g, 0, none⟩) n c l ∧ Below w14.heap.size w14 wx)
                case first =>
                  go_region_held3 (fun w' => w'.cell? ⟨B, 0, none⟩ = some (.int .i64 W) ∧ w'.cell? ⟨B, 1, none⟩ = some (.int .i64 H) ∧ w'.cell? ⟨B, 2, none⟩ = some (.int .i64 dp) ∧ w'.cell? ⟨B, 3, none⟩ = some (.int .i64 ct) ∧ w'.cell? ⟨B, 4, none⟩ = some (.bool il) ∧
                      w'.cell? ⟨B + 1, 0, none⟩ = some (.slice none 0 0) ∧ w'.cell? ⟨B + 1, 1, none⟩ = some (.int .i64 1000) ∧ w'.cell? ⟨B + 1, 2, none⟩ = some (.int .i64 1) ∧ w'.cell? ⟨B + 1, 3, none⟩ = some (.slice none 0 0))
                    (first | exact ⟨x0, x1, x2, x3, x4, z0, z1, z2, z3⟩ | exact ⟨f0, f1, f2, f3, f4, g0, g1, g2, g3⟩ | exact ⟨i0, i1, i2, i3, i4, k0, k1, k2, k3⟩ | (refine ⟨?_, ?_, ?_, ?_, ?_, ?_, ?_, ?_, ?_⟩ <;> go_simp))
                    (first
                      | (go_at_call 56; refine (bare_ok W H dp ct sb ns scap il zs w14.drew Hk.out hW1 hW hH1 hH Hz14.out hsb14 Hl.out Hns.out hcap hcap2 Hv.out).mono ?_; rintro e w2 ⟨q2, m2, c2, l2, rfl, hO2, hm0, hm2, hb2⟩; obtain ⟨g2, rfl, hq1, hq2⟩ := hO2.capge hm0; have HO2 := Lib.hid hO2; have Hb2 := Lib.hid (show Below w14.heap.size w14 w2 from (by first | exact (Below.refl _ w14).drew.trans hb2 | exact hb2)); obtain ⟨f0, f1, f2, f3, f4⟩ := HX.out.below Hb2.out (Nat.lt_of_succ_lt hB14); obtain ⟨g0, g1, g2', g3⟩ := HCB.out.below Hb2.out hB14; clear hO2 hb2)
                      | (go_at_call 55; refine (packed_ok g2 m2 c2 1000 1 l2 _ HO2.out.1 HO2.out.bsl (HO2.out.lt g2 rfl).2 hm0 (Nat.le_trans hm2 (by decide)) hq1 hq2 (by decide) (by decide)).mono ?_; rintro e w3 ⟨q3, m3, c3', l3, rfl, hO3, h6, hm3, hb3⟩; obtain ⟨g3', rfl, hq3, hq4⟩ := hO3.capge (Nat.lt_of_lt_of_le (by decide) h6); have HO3' := Lib.hid hO3; have Hb3 := Lib.hid (show Below w14.heap.size w14 w3 from Hb2.out.trans (hb3.mono Hb2.out.size)); obtain ⟨i0, i1, i2, i3, i4⟩ := HX.out.below Hb3.out (Nat.lt_of_succ_lt hB14); obtain ⟨k0, k1, k2, k3⟩ := HCB.out.below Hb3.out hB14; clear hO3 hb3)
                      | fail)
                  all_goals
                    clear f0 f1 f2 f3 f4 g0 g1 g2' g3 i0 i1 i2 i3 i4 k0 k1 k2 k3
                    go_wp2
                    go_meet
                    case rel => exact ⟨g3', m3, c3', l3, rfl, Nat.lt_of_lt_of_le (by decide) h6, hm3, hq3, hq4, HO3'.out.lower Hb2.out.size, Hb3.out⟩
                case rest =>
                  obtain ⟨w15, rfl⟩ : ∃ x : World, x = wc := ⟨_, rfl⟩
                  obtain ⟨g, m, c, l, rfl, hm0, hm, hmc, hc63, hO, hb⟩ := hcut
                  have HOd := Lib.hid hO
                  have HOo := Lib.hid (HO7'.out.kept hb)
                  have HF7 := Lib.hid (HF6.out.trans (hb.mono hw14))
                  have hw15 : w5.heap.size ≤ w15.heap.size := HF7.out.size
                  have hz3 := (HCB.out.below hb hB14).2.2.2
                  clear hO hb x0 x1 x2 x3 x4 z0 z1 z2 z3
                  go_wp2
                  go_loopg [17, 25, 26] 1 (fun gh o d i wr => (gh = 1 ∧ o = .slice p6 n5 c6 ∧ d = .slice (some ⟨g, 0, none⟩) m c ∧ i = .int .i64 0 ∧ w15 = wr) ∨
                    (gh = 0 ∧ i = .int .i64 1 ∧ ∃ pd' cd no po co, d = .slice pd' 0 cd ∧ o = .slice po no co ∧ no ≤ 20002000 ∧ Ob wr w5.heap.size po no co (L3 ++ ck (nIDAT, l)) ∧ Below w5.heap.size w5 wr))
                  case atStart => exact .inl ⟨rfl, rfl, rfl, rfl, rfl⟩
                  case round =>
                    rcases hrel with ⟨hg1, rfl, rfl, rfl, rfl⟩ | ⟨hg0, rfl, pd', cd, no, po, co, rfl, rfl, hno, hO, hF⟩
                    · have Hg1 := Lib.hid hg1
                      have hm0i : (0 : Int) < (m : Int) := by omega
                      clear hg1
                      have hcm : m = c ∨ ¬ m = c := by omega
                      rcases hcm with rfl | hcm
                      all_goals
                        (first | (have hcm' : ¬ c = m := fun e => hcm e.symm) | skip)
                        go_wp2_with fail
                        refine (chunk_ok ⟨#[73, 68, 65, 84]⟩ (some ⟨g, 0, none⟩) m _ w15.heap.size l w15 HOd.out.reads HOd.out.spot (fun a ha => (HOd.out.lt a.block (by rw [ha]; rfl)).2) (by omega) rfl).mono ?_
                        rintro e w2 ⟨q, mm, cc, rfl, hmm, hO, hb⟩
                        have HOq := Lib.hid hO
                        have Hbq := Lib.hid hb
                        clear hO hb
                        go_wp2_with (at_builtin; refine wp_app rfl (.tmp 157) (.tmp 161) rfl w5.heap.size n5 c6 mm cc p6 q L3 (ck (nIDAT, l)) rfl rfl (HOo.out.kept Hbq.out) _ HOq.out.reads (by omega) (Nat.le_trans hw15 Hbq.out.size) ?_; intro p9 c9 w9' hO9 hG9 hL9; have HO10 := Lib.hid hO9; have HG10 := Lib.hid hG9; clear hO9 hG9 hL9)
                        go_roundg (gk - 1)
                        case measure => have := Hg1.out; omega
                        case rel =>
                          exact .inr ⟨by have := Hg1.out; omega, by go_num, _, _, _, p9, c9, rfl, rfl, by omega, HO10.out, (HF7.out.trans (Hbq.out.mono hw15)).grown HG10.out (Nat.le_trans hw15 Hbq.out.size) (fun j hj => (HOo.out.lt j hj).1)⟩
                    · have HO10 := Lib.hid hO
                      have HF8 := Lib.hid hF
                      have hw16 : w5.heap.size ≤ wr.heap.size := hF.size
                      have hl2 : l.length ≤ 20000000 := by rw [HOd.out.1]; exact hm
                      have HL9 := Lib.hid (show fileOf W H dp ct iv ds cs l = (L3 ++ ck (nIDAT, l)) ++ ck (nIEND, []) by
                        rw [HL3.out, HL2.out, HL1.out, HL0.out]
                        simp [fileOf, mids, cks_cons, cks_append, List.append_assoc])
                      have hB5 : B ≤ w5.heap.size := by have := Hb5.out.size; omega
                      clear hO hF hg0
                      go_wp2_with (at_builtin; go_must (refine wp_app rfl (.tmp 166) (.tmp 167) rfl w5.heap.size no co 0 0 po none (L3 ++ ck (nIDAT, l)) [] rfl rfl HO10.out 0 (show Reads _ 0 1 none 0 (bvals []) from Reads.none_) (by omega) hw16 ?_); intro p11 c11 w17 hO11 hG11 hL11; simp only [Nat.add_zero, List.append_nil] at hO11 ⊢; have HO11 := Lib.hid hO11; have HF11 := Lib.hid (HF8.out.grown hG11 hw16 (fun j hj => (HO10.out.lt j hj).1)); clear hO11 hG11 hL11)
                      refine (chunk_ok ⟨#[73, 69, 78, 68]⟩ none 0 0 0 [] _ (show Reads _ 0 1 none 0 (bvals []) from Reads.none_) (fun a ha => by cases ha) (fun a ha => by cases ha) (by decide) rfl).mono ?_
                      rintro e w18 ⟨q, mm, cc, rfl, hmm, hO, hb⟩
                      have HOq := Lib.hid hO
                      have Hbq := Lib.hid hb
                      have hw17 : w5.heap.size ≤ w17.heap.size := HF11.out.size
                      clear hO hb
                      go_wp2_with (at_builtin; go_must (refine wp_app rfl (.tmp 168) (.tmp 169) rfl w5.heap.size no c11 mm cc p11 q (L3 ++ ck (nIDAT, l)) (ck (nIEND, [])) rfl rfl (HO11.out.kept Hbq.out) _ HOq.out.reads (by omega) (Nat.le_trans hw17 Hbq.out.size) ?_); intro p12 c12 w19 hO12 hG12 hL12; have HO12 := Lib.hid hO12; have HF12 := Lib.hid ((HF11.out.trans (Hbq.out.mono hw17)).grown hG12 (Nat.le_trans hw17 Hbq.out.size) (fun j hj => (HO11.out.lt j hj).1)); clear hO12 hG12 hL12)
                      go_ret
                      refine ⟨p12, _, c12, l, rfl, ?_, hl2, HF1.out.trans ((Hb5.out.trans (HF12.out.mono Hb5.out.size)).mono (by omega))⟩
                      rw [HL9.out]
                      exact HO12.out.lower hB5
end Go.Proofs.YtnpkgmgedgcjmaaGreatDoor
