/- A part of the proof: L1, Lc. -/
import Derived.Laws.StructEq
import Derived.Test.YtnpkgmgedgcjmaaGreatDoorZD0
import Derived.Test.YtnpkgmgedgcjmaaGreatDoorZDc
import Derived.Test.YtnpkgmgedgcjmaaGreatDoorZDl
import Derived.Test.YtnpkgmgedgcjmaaGreatDoorZEo
import Derived.Test.YtnpkgmgedgcjmaaGreatDoorZW6
import Derived.Test.YtnpkgmgedgcjmaaGreatDoorZWc
set_option linter.all false
set_option maxRecDepth 100000
section
namespace Go.Proofs.YtnpkgmgedgcjmaaGreatDoor
open Go Go.RowKit Png
set_option maxHeartbeats 4000000 in
theorem same_ok (p p' : Option Addr) (n c c' base base' : Nat) (l : List Q4) (w : World) (h : Od w base p n c l) (h' : Od w base' p' n c' l) (hn : n ≤ 4294967296) :
  Calls Tryz.prog 29 #[.slice p n c, .slice p' n c'] w fun e w' => e = .returned (.bool true) ∧ Dr w w' := by
 by_cases h0 : 0 < n
 ·
  obtain ⟨g, hg⟩ : ∃ g, p = some ⟨g, 0, none⟩ := by
   obtain ⟨g, c, hv, _⟩ := h.2.form h0
   injection hv with hv
   exact ⟨g, hv⟩
  obtain ⟨g', hg'⟩ : ∃ g, p' = some ⟨g, 0, none⟩ := by
   obtain ⟨g, c, hv, _⟩ := h'.2.form h0
   injection hv with hv
   exact ⟨g, hv⟩
  subst hg
  subst hg'
  have H := Lib.hid h
  have H' := Lib.hid h'
  clear h h'
  have hnn : ((n : Int) != (n : Int)) = false := by simp
  go_enter Tryz.func29, Tryz.ntmps29
  go_wp2
  go_loopg [13] n (fun gh i wr => ∃ k, k + gh = n ∧ i = .int .i64 (k : Nat) ∧ Dr w wr)
  case atStart => exact ⟨0, by omega, rfl, Dr.refl _⟩
  case round =>
   obtain ⟨k, hk, rfl, hD⟩ := hrel
   have HD := Lib.hid hD
   have Hk := Lib.hid hk
   by_cases hlt : k < n
   ·
    obtain ⟨a0, a1, a2, a3⟩ := H.out.cells (k := k) (by rw [H.out.1]; exact hlt)
    obtain ⟨b0, b1, b2, b3⟩ := H'.out.cells (k := k) (by rw [H.out.1]; exact hlt)
    have kk : k < l.length := by rw [H.out.1]; exact hlt
    obtain ⟨x0, hx0⟩ : ∃ x, x = l[k].r := ⟨_, rfl⟩
    obtain ⟨x1, hx1⟩ : ∃ x, x = l[k].g := ⟨_, rfl⟩
    obtain ⟨x2, hx2⟩ : ∃ x, x = l[k].b := ⟨_, rfl⟩
    obtain ⟨x3, hx3⟩ : ∃ x, x = l[k].a := ⟨_, rfl⟩
    rw [← hx0] at a0 b0
    rw [← hx1] at a1 b1
    rw [← hx2] at a2 b2
    rw [← hx3] at a3 b3
    have F := hD.fr []
    have f0 := F.cell' (by simp) a0
    have f1 := F.cell' (by simp) a1
    have f2 := F.cell' (by simp) a2
    have f3 := F.cell' (by simp) a3
    have j0 := F.cell' (by simp) b0
    have j1 := F.cell' (by simp) b1
    have j2 := F.cell' (by simp) b2
    have j3 := F.cell' (by simp) b3
    have hki : (k : Int) < (n : Int) := by omega
    clear hx0 hx1 hx2 hx3 kk a0 a1 a2 a3 b0 b1 b2 b3 F hD hk
    go_wp2
    go_quiet (fail)
    go_wp2
    go_roundg (gk - 1)
    case measure => have := Hk.out; omega
    case rel => exact ⟨k + 1, by have := Hk.out; omega, by go_num, HD.out.drewN _⟩
   ·
    clear hD hk
    go_wp2
    go_ret
    exact ⟨rfl, HD.out⟩
 ·
  have hz : n = 0 := by omega
  subst hz
  go_enter Tryz.func29, Tryz.ntmps29
  go_wp2
  refine wp_loop_rounds 1 ?_
  rw [rounds_succ]
  go_wp2
  go_ret
  exact ⟨rfl, Dr.refl _⟩
end Go.Proofs.YtnpkgmgedgcjmaaGreatDoor
end
section
namespace Go.Proofs.YtnpkgmgedgcjmaaGreatDoor
open Go Go.RowKit Png Go.Proofs.YtnpkgmgedgcjmaaGreatDoorW.PrintWords Go.Proofs.YtnpkgmgedgcjmaaGreatDoorW.PrintMore Go.Proofs.YtnpkgmgedgcjmaaGreatDoor.Pr
theorem small_c (l : List UInt8) (hl : l.length ≤ 1099511627776) : ∃ b, (b = true ↔ SmallQ l) ∧ ∀ (A : Option Addr) (c : Nat) (hc : l.length ≤ c) (w : World) (h : Kd.C (Kd.int .u8) w A (ints l).length (ints l)), Calls Tryz.prog 23 #[.slice A l.length c] w fun e w' => e = .returned (.bool b) ∧ Dr w w' := by
 obtain ⟨b, h1, h2⟩ := small_f l hl
 refine ⟨b, h2, fun A c hc w h => ?_⟩
 have := spec_Small.calls A c (ints l) _ w h (by rw [ints_length]; exact hc) h1
 rw [ints_length] at this
 refine this.mono ?_
 rintro e w' ⟨rfl, h⟩
 first
 | exact ⟨rfl, by obtain ⟨n, rfl⟩ := h; exact ⟨n, rfl⟩⟩
 | exact ⟨rfl, by subst h; exact Dr.refl _⟩
theorem cks_mem (cs : List (List UInt8 × List UInt8)) : ∀ c ∈ cs, c.2.length ≤ (cks cs).length := by
 induction cs with
 | nil => intro c hc; cases hc
 | cons d cs ih =>
  intro c hc
  rw [cks_cons, List.length_append]
  rcases List.mem_cons.1 hc with rfl | h
  ·
   unfold ck
   simp only [List.length_append]
   omega
  ·
   have := ih c h
   omega
theorem pal_of {w : World} {base np : Nat} {R G U A : Nat → Nat} {v : Value} (ho : w.ownsRow base 96 4 v np (shadesV R G U A np)) (hb : ∀ k, R k < 256 ∧ G k < 256 ∧ U k < 256 ∧ A k < 256) : ∃ q c, v = .slice q np c ∧ Pal w q np R G U A := by
 by_cases hp0 : 0 < np
 ·
  obtain ⟨gv, cv, rfl, hg1, hg2⟩ := ho.form hp0
  exact ⟨_, cv, rfl, .inr ⟨gv, 0, rfl, hg2, shades_of ho (fun k _ => hb k)⟩⟩
 ·
  obtain rfl : np = 0 := by omega
  obtain ⟨p, cap, rfl⟩ := owns_slice ho
  exact ⟨p, cap, rfl, .inl rfl⟩
set_option maxHeartbeats 16000000 in
theorem conf_law (A : Option Addr) (c : Nat) (l : List UInt8) (w : World) (hA : Bsl w A l) (hc : l.length ≤ c) (hc2 : c ≤ 9223372036854775807) (hT : Tab w 3 .u32 256 crc8) :
  Calls Tryz.prog 13 #[.slice A l.length c] w fun e w' => e = .returned (.bool true) ∧ Below w.heap.size w w' := by
 have h3w : 3 < w.heap.size := (cell_lt (hT 0 (by decide))).1
 have HA := Lib.hid hA
 have HT := Lib.hid hT
 obtain ⟨n, hn⟩ : ∃ n, n = l.length := ⟨_, rfl⟩
 have Hn := Lib.hid hn
 by_cases k1 : (2147483647 : Int) < (n : Int)
 ·
  rw [← hn]
  clear hA hT hn
  go_enter Tryz.func13, Tryz.ntmps13
  go_wp2
  go_ret
  exact ⟨rfl, Below.refl _ _⟩
 obtain ⟨sb, hsb, hsc⟩ := small_c l (by omega)
 have HSm := Lib.hid hsb
 have HSc := Lib.hid (fun W' (h : Bsl W' A l) => hsc A c hc W' (C_bsl h (by omega)))
 have HRd := Lib.hid (fun W' (h : Bsl W' A l) (hq : SmallQ l) => read_file_c h hc hc2 hq)
 rw [← hn] at hc HSc HRd ⊢
 clear hA hT hn hsb hsc
 go_enter Tryz.func13, Tryz.ntmps13
 go_wp2_with fail
 refine (HSc.out w HA.out).mono ?_
 rintro e w1 ⟨rfl, ⟨d1, rfl⟩⟩
 have hb1 : Below w.heap.size w (w.drewN d1) := pw_below_drewN (Below.refl _ _) d1
 generalize w.drewN d1 = w1 at hb1 ⊢
 have Hb1 := Lib.hid hb1
 clear hb1
 by_cases hsm : sb = true
 ·
  subst hsm
  have HQ := Lib.hid (HSm.out.1 rfl)
  clear HSm HSc
  go_wp2_with fail
  refine (HRd.out w1 (HA.out.belowE Hb1.out) HQ.out).mono ?_
  rintro e w2 ⟨s, v5, pp, pn, pc, cp, cn, cc, used, st, rfl, hb2, hsl, hgood⟩
  obtain ⟨a5, n5, q5, rfl⟩ := hsl
  have Hb2 := Lib.hid (Hb1.out.trans (hb2.mono Hb1.out.size))
  have Hb2' := Lib.hid hb2
  have Hgood := Lib.hid hgood
  obtain ⟨C, hC⟩ : ∃ C, w2.heap.size = C := ⟨_, rfl⟩
  have hbl : Blk (w2.alloc (.cells #[.int .i64 (s.W : Int), .int .i64 (s.H : Int), .int .i64 (s.dp : Int), .int .i64 (s.ct : Int), .bool s.il, .slice a5 n5 q5, .slice pp pn pc, .slice cp cn cc, .int .i64 (used : Int), .int .i64 st] 47)) C 47 #[.int .i64 (s.W : Int), .int .i64 (s.H : Int), .int .i64 (s.dp : Int), .int .i64 (s.ct : Int), .bool s.il, .slice a5 n5 q5, .slice pp pn pc, .slice cp cn cc, .int .i64 (used : Int), .int .i64 st] := by rw [← hC]; exact Blk.new _ _ _
  have hb3 : Below w2.heap.size w2 (w2.alloc (.cells #[.int .i64 (s.W : Int), .int .i64 (s.H : Int), .int .i64 (s.dp : Int), .int .i64 (s.ct : Int), .bool s.il, .slice a5 n5 q5, .slice pp pn pc, .slice cp cn cc, .int .i64 (used : Int), .int .i64 st] 47)) := (Below.refl _ _).alloc (Nat.le_refl _) _
  have HC := Lib.hid hC
  have Hbl := Lib.hid hbl
  have Hb3 := Lib.hid hb3
  clear HRd hb2 hgood hC hbl hb3
  by_cases hst : st = 0
  ·
   have t1 : (st != 0) = false := by simp; omega
   obtain ⟨g6, ⟨cs, hfile⟩, hpal, hclr⟩ := Hgood.out hst
   have hok := hfile.okay HQ.out (by rw [g6]; decide)
   have HFile := Lib.hid hfile
   have Hok := Lib.hid hok
   have Hg6 := Lib.hid g6
   have HPal := Lib.hid hpal
   have Hst := Lib.hid hst
   have hdata : l = sig ++ (cks cs ++ l.drop used) := by
    have := (List.take_append_drop used l).symm
    rw [hfile.file, List.append_assoc] at this
    exact this
   obtain ⟨ab, ao, rfl, hseg⟩ : ∃ ab ao, A = some ⟨ab, ao, none⟩ ∧ Seg w ab ao l := by
    rcases HA.out with h | ⟨b0, off, h1, h2⟩
    ·
     exfalso; rw [h] at hdata; simp [sig] at hdata
    ·
     exact ⟨b0, off, h1, h2⟩
   have hab0 : ab < w.heap.size := World.block_lt_of_cell? w ⟨ab, ao + 0, none⟩ (hseg 0 (by have := hfile.eight; have := hfile.le; omega))
   have HIc := Lib.hid (fun W' (hW' : Below w.heap.size w W') => iconf_run ab ao c s cs (l.drop used) l W' hdata hfile.run g6 hok.W hok.H (fun c hc => by have h1 := cks_mem cs c hc; have h2 := hfile.eight; have h3 := hfile.le; have h4 := Hn.out; omega) (hseg.below hW' hab0) (by have := Hn.out; omega) (fun k hk => by rw [hW'.cell (p := ⟨3, k, none⟩) h3w]; exact HT.out k hk))
   rw [← Hn.out] at HIc
   obtain ⟨kk, hkk⟩ : ∃ kk, kk = 100 * s.ct + s.dp := ⟨_, rfl⟩
   rw [← hkk] at HIc
   have hkb := hok.k.bounds
   obtain ⟨k100, hk100⟩ : ∃ k100, k100 = 100 * s.ct := ⟨_, rfl⟩
   have ek1 : (100 : Int) * (s.ct : Int) = (k100 : Int) := by omega
   have ek2 : (k100 : Int) + (s.dp : Int) = (kk : Int) := by omega
   have ewk1 : IntKind.i64.wrap (k100 : Int) = (k100 : Int) := IntWalk.i64_in _ (by omega)
   have ewk2 : IntKind.i64.wrap (kk : Int) = (kk : Int) := IntWalk.i64_in _ (by omega)
   clear hfile hok g6 hpal hst hdata hseg hclr hkk hk100 hkb
   go_wp2_with fail
   have hbl := Hbl.out
   have hb3 := Hb3.out
   rw [HC.out]
   generalize hw3 : World.alloc w2 _ = w3
   rw [hw3] at hbl hb3
   have HB3 := Lib.hid (show Below w.heap.size w w3 from Hb2.out.trans (hb3.mono Hb2.out.size))
   have HP3 : Hid (Od w3 w1.heap.size pp pn pc s.pal) := Lib.hid (HPal.out.kept hb3)
   have Hbl3 := Lib.hid hbl
   clear hw3 hbl hb3 Hbl Hb3
   refine (HIc.out w3 HB3.out).mono ?_
   rintro e w4 ⟨v, rfl, F4, hv⟩
   have hb4 : Below w3.heap.size w3 w4 := F4.to_below
   obtain ⟨q, n1, m1, rfl, hq⟩ : ∃ q n1 m1, v = .slice q n1 m1 ∧ (s.ct = 3 → ∃ (R G U A : Nat → Nat), s.pal = q4s R G U A n1 ∧ n1 ≤ 256 ∧ Pal w4 q n1 R G U A) := by
    rcases hv with ⟨h3, rfl⟩ | ⟨h3, np, R, G, U, A, h4, h5, h6, h7⟩
    ·
     exact ⟨_, _, _, rfl, fun e => absurd e h3⟩
    ·
     obtain ⟨q, c', rfl, hp⟩ := pal_of h7 h6
     exact ⟨q, np, c', rfl, fun _ => ⟨R, G, U, A, h4, h5, hp⟩⟩
   have Hq := Lib.hid hq
   have Hbl4 := Lib.hid (Hbl3.out.below hb4 (Blk.lt Hbl3.out))
   have HP4 := Lib.hid (HP3.out.kept hb4)
   have HB4 := Lib.hid (show Below w.heap.size w w4 from HB3.out.trans (hb4.mono HB3.out.size))
   obtain ⟨D, hD⟩ : ∃ D, w4.heap.size = D := ⟨_, rfl⟩
   have hbD : Blk (w4.alloc (.cells #[.int .i64 (kk : Int), .int .i64 (s.W : Int), .int .i64 (s.H : Int), .slice q n1 m1] 64)) D 64 #[.int .i64 (kk : Int), .int .i64 (s.W : Int), .int .i64 (s.H : Int), .slice q n1 m1] := by rw [← hD]; exact Blk.new _ _ _
   have hb5 : Below w4.heap.size w4 (w4.alloc (.cells #[.int .i64 (kk : Int), .int .i64 (s.W : Int), .int .i64 (s.H : Int), .slice q n1 m1] 64)) := (Below.refl _ _).alloc (Nat.le_refl _) _
   have HD := Lib.hid hD
   have HbD := Lib.hid hbD
   have Hb5 := Lib.hid hb5
   clear hq hb4 hD hbD hb5 F4 hv HIc HB3 HP3 Hbl3
   go_upto_region 9 with (fail)
   have hbD := HbD.out
   have hb5 := Hb5.out
   rw [HD.out]
   generalize hw5 : World.alloc w4 _ = w5
   rw [hw5] at hbD hb5
   have HB5 := Lib.hid (show Below w.heap.size w w5 from HB4.out.trans (hb5.mono HB4.out.size))
   have HP5 := Lib.hid (HP4.out.kept hb5)
   have HblC := Lib.hid (Hbl4.out.below hb5 (Blk.lt Hbl4.out))
   have Hq5 := Lib.hid (show s.ct = 3 → ∃ (R G U A : Nat → Nat), s.pal = q4s R G U A n1 ∧ n1 ≤ 256 ∧ Pal w5 q n1 R G U A from fun e => by
    obtain ⟨R, G, U, A, h1, h2, h3⟩ := Hq.out e
    exact ⟨R, G, U, A, h1, h2, h3.below hb5⟩)
   have HbD5 := Lib.hid hbD
   have hCD : ¬ C = D := by have h1 := Blk.lt Hbl4.out; have h2 := HD.out; omega
   clear hw5 hbD hb5 HbD Hb5 HP4 Hbl4 Hq
   have y0 : w5.cell? ⟨D, 0, none⟩ = some (.int .i64 (kk : Int)) := HbD5.out.cell 0
   have y1 : w5.cell? ⟨D, 1, none⟩ = some (.int .i64 (s.W : Int)) := HbD5.out.cell 1
   have y2 : w5.cell? ⟨D, 2, none⟩ = some (.int .i64 (s.H : Int)) := HbD5.out.cell 2
   have y3 : w5.cell? ⟨D, 3, none⟩ = some (.slice q n1 m1) := HbD5.out.cell 3
   have x0 : w5.cell? ⟨C, 0, none⟩ = some (.int .i64 (s.W : Int)) := HblC.out.cell 0
   have x1 : w5.cell? ⟨C, 1, none⟩ = some (.int .i64 (s.H : Int)) := HblC.out.cell 1
   have x2 : w5.cell? ⟨C, 2, none⟩ = some (.int .i64 (s.dp : Int)) := HblC.out.cell 2
   have x3 : w5.cell? ⟨C, 3, none⟩ = some (.int .i64 (s.ct : Int)) := HblC.out.cell 3
   have x6 : w5.cell? ⟨C, 6, none⟩ = some (.slice pp pn pc) := HblC.out.cell 6
   have u1 : ((s.W : Int) != (s.W : Int)) = false := by simp
   have u2 : ((s.H : Int) != (s.H : Int)) = false := by simp
   have u3 : ((kk : Int) != (kk : Int)) = false := by simp
   go_upto_region 11 with (fail)
   clear y0 y1 y2 x0 x1 x2 u1 u2 u3 ek1 ek2 ewk1 ewk2
   by_cases h3 : s.ct = 3
   ·
    have t3 : ((s.ct : Int) != 3) = false := by simp; omega
    obtain ⟨R, G, U, A, hpq, hn256, hPq⟩ := Hq5.out h3
    have hpn : pn = n1 := by have := HP5.out.1; rw [hpq, q4s_length] at this; exact this.symm
    subst hpn
    have HOp : Hid (Od w5 w1.heap.size pp pn pc (q4s R G U A pn)) := Lib.hid (by rw [← hpq]; exact HP5.out)
    have HPq := Lib.hid hPq
    have hq9 : pn ≤ 2147483647 := by omega
    have hq8 : pn ≤ 4294967296 := by omega
    have hDlt : D < w5.heap.size := Blk.lt HbD5.out
    have hClt : C < w5.heap.size := Blk.lt HblC.out
    have HCells := Lib.hid (show ∀ w', Below w5.heap.size w5 w' → (w'.cell? ⟨C, 3, none⟩ = some (.int .i64 (s.ct : Int)) ∧ w'.cell? ⟨D, 3, none⟩ = some (.slice q pn m1) ∧ w'.cell? ⟨C, 6, none⟩ = some (.slice pp pn pc)) from fun w' hb =>
     ⟨(hb.cell (p := ⟨C, 3, none⟩) hClt).trans x3, (hb.cell (p := ⟨D, 3, none⟩) hDlt).trans y3, (hb.cell (p := ⟨C, 6, none⟩) hClt).trans x6⟩)
    have H3 := Lib.hid h3
    clear hpq hPq h3
    go_region_held3 (fun w' => w'.cell? ⟨C, 3, none⟩ = some (.int .i64 (s.ct : Int)) ∧ w'.cell? ⟨D, 3, none⟩ = some (.slice q pn m1) ∧ w'.cell? ⟨C, 6, none⟩ = some (.slice pp pn pc))
     (first | exact ⟨x3, y3, x6⟩ | exact HCells.out _ HbC.out | exact HCells.out _ HbA.out | (refine ⟨?_, ?_, ?_⟩ <;> go_simp))
     (first
      | (go_at_call 30; refine (pal_dots q pn m1 R G U A w5.drew HPq.out hq9).mono ?_; rintro e w8 ⟨t1, tc1, rfl, hO1, hb8⟩; have HO1 := Lib.hid hO1; have HbA := Lib.hid (show Below w5.heap.size w5 w8 from (by first | exact (Below.refl _ w5).drew.trans hb8 | exact hb8)); clear hO1 hb8)
      | (go_at_call 29; refine (same_ok t1 pp pn tc1 pc _ _ (q4s R G U A pn) w8 HO1.out (HOp.out.keep fun k hk => HbA.out.block k (owns_lt HOp.out.2 k hk).2) hq8).mono ?_; rintro e w10 ⟨rfl, hD10⟩; have HbC := Lib.hid (show Below w5.heap.size w5 w10 from (by obtain ⟨nq, rfl⟩ := hD10; exact ⟨HbA.out.os, HbA.out.tape, HbA.out.output, HbA.out.size, HbA.out.block⟩)); clear hD10)
      | fail)
    all_goals
     go_wp2
     go_ret
     exact ⟨rfl, HB5.out.trans (HbC.out.mono HB5.out.size)⟩
   ·
    have t3 : ((s.ct : Int) != 3) = true := by simp; omega
    go_quiet (fail)
    go_wp2
    go_ret
    exact ⟨rfl, pw_below_drewN HB5.out _⟩
  ·
   have t1 : (st != 0) = true := by simp; omega
   have Hst := Lib.hid hst
   clear hst
   go_wp2
   go_ret
   exact ⟨rfl, Hb2.out.trans (Hb3.out.mono Hb2.out.size)⟩
 ·
  have hsm : sb = false := by simpa using hsm
  subst hsm
  go_wp2
  go_ret
  exact ⟨rfl, Hb1.out⟩
end Go.Proofs.YtnpkgmgedgcjmaaGreatDoor
end
