/- A part of the proof: Eb. -/
import Derived.Test.YtnpkgmgedgcjmaaGreatDoorZE9
set_option linter.all false
set_option maxRecDepth 100000
section
namespace Go.Proofs.YtnpkgmgedgcjmaaGreatDoor
open Go Go.RowKit Png Go.Proofs.YtnpkgmgedgcjmaaGreatDoorW.PrintWords Go.Proofs.YtnpkgmgedgcjmaaGreatDoorW.PrintMore Go.Proofs.YtnpkgmgedgcjmaaGreatDoor.Pr
set_option maxHeartbeats 8000000 in
theorem symbols_c {w0 w : World} {g : Nat} {l o : List UInt8} {c1 l1 c2 l2 : List Nat} {A1 B1 A2 B2 : Option Addr} {m1 d1 k1 e1 m2 d2 k2 e2 : Nat} (hl : l.length ≤ 1073741824) (at_ win most : Nat) (hat : at_ ≤ 8 * l.length + 64) (hwin : win ≤ 1099511627776) (hmost : most ≤ 1099511627776)
  (p : Option Addr) (n cap : Nat) (hn : n ≤ most + 300) (hI : IsS229 w0 w g (ints l) (at_ : Int)) (hB : Below w0.heap.size w0 w) (hO : Ob w w0.heap.size p n cap o)
  (hc1 : Code c1 l1 288) (hc2 : Code c2 l2 32) (hC1 : CodeAt w g w0.heap.size (.slice A1 m1 d1) (.slice B1 k1 e1) c1 l1) (hC2 : CodeAt w g w0.heap.size (.slice A2 m2 d2) (.slice B2 k2 e2) c2 l2) :
  Calls Tryz.prog 120 #[.pointer (some ⟨g, 0, none⟩), .slice p n cap, .agg #[.slice A1 m1 d1, .slice B1 k1 e1], .agg #[.slice A2 m2 d2, .slice B2 k2 e2], .int .i64 (win : Int), .int .i64 (most : Int)] w fun e w' =>
   ∃ p' n' c', e = .returned (.tuple #[.slice p' n' c', .int .i64 (((symM c1 l1 c2 l2 l win most (most + 1) o at_).2.1 : Nat) : Int)]) ∧ Ob w' w0.heap.size p' n' c' (symM c1 l1 c2 l2 l win most (most + 1) o at_).1 ∧
   IsS229 w0 w' g (ints l) (((symM c1 l1 c2 l2 l win most (most + 1) o at_).2.2 : Nat) : Int) ∧ Below w0.heap.size w0 w' := by
 obtain ⟨R, hR⟩ : ∃ R, R = symM c1 l1 c2 l2 l win most (most + 1) o at_ := ⟨_, rfl⟩
 rw [← hR]
 have HR0 := Lib.hid hR.symm
 have HI := Lib.hid hI
 have HB := Lib.hid hB
 have HO := Lib.hid hO
 have Hc1 := Lib.hid hc1
 have Hc2 := Lib.hid hc2
 have HC1 := Lib.hid hC1
 have HC2 := Lib.hid hC2
 clear hR hI hB hO hc1 hc2 hC1 hC2
 go_enter Tryz.func120, Tryz.ntmps120
 go_wp2
 generalize hW1 : World.alloc (World.alloc w _) _ = W1
 obtain ⟨b1, hb1⟩ : ∃ b1, b1 = w.heap.size := ⟨_, rfl⟩
 have hsz : w.heap.size + 1 = b1 + 1 := by omega
 have hX1 : Blk W1 b1 233 #[.slice A1 m1 d1, .slice B1 k1 e1] := by rw [← hW1, hb1]; exact (Blk.new w _ _).alloc _
 have hX2 : Blk W1 (b1 + 1) 233 #[.slice A2 m2 d2, .slice B2 k2 e2] := by
  rw [← hW1, hb1]
  have := Blk.new (w.alloc (.cells #[.slice A1 m1 d1, .slice B1 k1 e1] 233)) 233 #[.slice A2 m2 d2, .slice B2 k2 e2]
  simpa using this
 have F1 : Below w.heap.size w W1 := by rw [← hW1]; exact ((Below.refl _ _).alloc (Nat.le_refl _) _).alloc (by simp) _
 have HS1 : Hid (SI w0 W1 g b1 l (.slice A1 m1 d1) (.slice B1 k1 e1) (.slice A2 m2 d2) (.slice B2 k2 e2) c1 l1 c2 l2 p n cap o at_) :=
  Lib.hid ⟨HO.out.kept F1, HI.out.below F1, HB.out.trans (F1.mono HB.out.size), hX1, hX2, HC1.out.below F1, HC2.out.below F1⟩
 rw [hsz, ← hb1]
 clear hW1 hX1 hX2 F1 HI HB HO HC1 HC2 hsz hb1
 go_loopg [1] (most + 1) (fun gh v wr => ∃ p n c o at_, v = .slice p n c ∧ (n ≤ most + 300 ∧ at_ ≤ 8 * l.length + 64 ∧ most + 1 ≤ gh + n) ∧ Hid (symM c1 l1 c2 l2 l win most gh o at_ = R) ∧
  Hid (SI w0 wr g b1 l (.slice A1 m1 d1) (.slice B1 k1 e1) (.slice A2 m2 d2) (.slice B2 k2 e2) c1 l1 c2 l2 p n c o at_))
 case atStart => exact ⟨p, n, cap, o, at_, rfl, ⟨hn, hat, by omega⟩, HR0, HS1⟩
 case round =>
  obtain ⟨p, n, cap, o, at_, rfl, ⟨hn, hat, hgk⟩, HR, HS⟩ := hrel
  have x10 := HS.out.x1.cell 0
  have x11 := HS.out.x1.cell 1
  simp only [List.getElem?_toArray, List.getElem?_cons_zero, List.getElem?_cons_succ] at x10 x11
  have Hol := Lib.hid HS.out.o.1
  clear HS1 HR0
  by_cases hm : n ≤ most
  ·
   have hmi : (n : Int) ≤ (most : Int) := by omega
   obtain ⟨d, hd⟩ : ∃ d, gk = d + 1 := ⟨gk - 1, by omega⟩
   have HR := Lib.hid (show symM c1 l1 c2 l2 l win most (d + 1) o at_ = R by rw [← hd]; exact HR.out)
   have Hd := Lib.hid hd
   have hgd : most ≤ d + n := by omega
   have Hmo := Lib.hid (show ¬ most < o.length by rw [Hol.out]; omega)
   have hra := readC_at c1 l1 (ints l) at_
   have hrx := readC_lt Hc1.out (ints l) at_
   have HRD := Lib.hid (read_c Hc1.out (Byt_ints l) (by rw [ints_length]; omega) at_ (by omega) HS.out.i HS.out.b HS.out.k1)
   obtain ⟨rc, hrc⟩ : ∃ rc, rc = readC c1 l1 (ints l) at_ := ⟨_, rfl⟩
   rw [← hrc] at hra hrx HRD
   obtain ⟨ox, a⟩ := rc
   simp only at hra hrx HRD
   have Hrc := Lib.hid hrc.symm
   have Hrx := Lib.hid hrx
   clear hd hrx hrc
   go_wp2_with fail
   refine HRD.out.mono ?_
   rintro e w2 ⟨rfl, hi, hb, hk⟩
   have HS2 := Lib.hid (HS.out.step hi hb hk)
   clear hi hb hk x10 x11 HS HRD
   cases ox with
   | none =>
    simp only [symI]
    have HRe := Lib.hid (show (o, 1, a) = R by rw [← HR.out, symM_none Hmo.out Hrc.out])
    go_wp2
    go_ret2
    rw [← HRe.out]
    exact ⟨p, n, cap, rfl, HS2.out.o, HS2.out.i, HS2.out.b⟩
   | some x =>
    have hx := Hrx.out x rfl
    simp only [symI]
    by_cases hx285 : 285 < x
    ·
     have hxi : (285 : Int) < (x : Int) := by omega
     have HRe := Lib.hid (show (o, 1, a) = R by rw [← HR.out, symM_bad Hmo.out Hrc.out (.inl hx285)])
     go_wp2
     go_ret2
     rw [← HRe.out]
     exact ⟨p, n, cap, rfl, HS2.out.o, HS2.out.i, HS2.out.b⟩
    ·
     have hxi : ¬ (285 : Int) < (x : Int) := by omega
     by_cases hsh : 8 * l.length < a
     ·
      have HRe := Lib.hid (show (o, 1, a) = R by rw [← HR.out, symM_bad Hmo.out Hrc.out (.inr hsh)])
      go_wp2_with fail
      refine (short_l (by omega) a true (by simpa using hsh) HS2.out.i HS2.out.b).mono ?_
      rintro e w3 ⟨rfl, hi, hb, hk⟩
      have HS3 := Lib.hid (HS2.out.step hi hb hk)
      clear hi hb hk
      go_wp2
      go_ret2
      rw [← HRe.out]
      exact ⟨p, n, cap, rfl, HS3.out.o, HS3.out.i, HS3.out.b⟩
     ·
      have HRr := Lib.hid ((symM_lit Hmo.out Hrc.out hx285 hsh).symm.trans HR.out)
      go_wp2_with fail
      refine (short_l (by omega) a false (by simpa using hsh) HS2.out.i HS2.out.b).mono ?_
      rintro e w3 ⟨rfl, hi, hb, hk⟩
      have HS3 := Lib.hid (HS2.out.step hi hb hk)
      clear hi hb hk HS2 HR Hrc
      by_cases h256 : x = 256
      ·
       have HRe := Lib.hid (show (o, 0, a) = R by rw [← HRr.out, if_pos h256])
       subst h256
       go_wp2
       go_ret2
       rw [← HRe.out]
       exact ⟨p, n, cap, rfl, HS3.out.o, HS3.out.i, HS3.out.b⟩
      ·
       have h256i : ((x : Int) == 256) = false := by simp; omega
       have hw3 : w0.heap.size ≤ w3.heap.size := HS3.out.b.size
       by_cases hlt : x < 256
       ·
        have hlti : (x : Int) < 256 := by omega
        have HRe := Lib.hid (show symM c1 l1 c2 l2 l win most d (o ++ [UInt8.ofNat x]) a = R by rw [← HRr.out, if_neg h256, if_pos hlt])
        go_wp2_with (at_builtin; refine wp_app rfl (.tmp 44) (.tmp 47) rfl w0.heap.size n cap 1 1 p (some ⟨w3.heap.size, 0, none⟩) o [UInt8.ofNat x] rfl rfl (HS3.out.o.keep fun j hj => heap_alloc_old w3 _ (HS3.out.o.lt j hj).2) (w3.heap.size + 1) (reads_new w3 _ 5 _ 1 1 _ rfl (by simp [bvals]; omega) (by omega) _ rfl) (by omega) (by simp; omega) ?_; intro p1 cap1 w4 hO4 hG hL)
        have HS4 := Lib.hid (HS3.out.app hO4 hG)
        clear hO4 hG hL
        go_roundg d
        case measure => have := Hd.out; omega
        case rel => exact ⟨p1, n + 1, cap1, _, a, rfl, ⟨by omega, by omega, by omega⟩, Lib.hid HRe.out, Lib.hid HS4.out⟩
       ·
        have hlti : ¬ (x : Int) < 256 := by omega
        have HRe := Lib.hid (show symD c2 l2 l win o x a (symM c1 l1 c2 l2 l win most d) = R by rw [← HRr.out, if_neg h256, if_neg hlt])
        obtain ⟨ll1, ll2, ll3⟩ := lenOf_le x (by omega) (by omega)
        obtain ⟨lx, hlx⟩ : ∃ lx, lx = lenOf x := ⟨_, rfl⟩
        have HLC := Lib.hid (lenOf_c x (by omega) (by omega))
        have hnm := numAt_lt (ints l) a lx.2
        have HRe2 := HRe.out
        unfold symD at HRe2
        rw [← hlx] at ll1 ll2 ll3 HLC HRe2
        obtain ⟨lb, le⟩ := lx
        simp only at ll1 ll2 ll3 HLC hnm HRe2
        obtain ⟨nm, hnme⟩ : ∃ nm, nm = numAt (ints l) a le := ⟨_, rfl⟩
        rw [← hnme] at hnm HRe2
        have hple : 2 ^ le ≤ 2 ^ 5 := Nat.pow_le_pow_right (by decide) ll3
        have hnm32 : nm < 32 := by omega
        obtain ⟨LL, hLL⟩ : ∃ LL, LL = lb + nm := ⟨_, rfl⟩
        have eLL : (lb : Int) + (nm : Int) = (LL : Int) := by omega
        have hLL2 : LL ≤ 290 := by omega
        have hLL3 : 1 ≤ LL := by omega
        rw [← hLL] at HRe2
        have HRe2 := Lib.hid HRe2
        have Hnme := Lib.hid hnme
        clear HRr HRe hlx hLL hnme hnm hple
        go_wp2_with fail
        refine (HLC.out w3).mono ?_
        rintro e w4 ⟨rfl, hdr⟩
        have HS4 := Lib.hid (HS3.out.dr hdr)
        clear hdr HS3 hw3 HLC
        go_wp2_with fail
        refine (many_l (by omega) le (le : Int) rfl a (by omega) (by omega) HS4.out.i HS4.out.b).mono ?_
        rintro e w5 ⟨rfl, hi, hb, hk⟩
        have HS5 := Lib.hid (HS4.out.step hi hb hk)
        rw [← Hnme.out]
        clear hi hb hk HS4
        have y10 := HS5.out.x2.cell 0
        have y11 := HS5.out.x2.cell 1
        simp only [List.getElem?_toArray, List.getElem?_cons_zero, List.getElem?_cons_succ] at y10 y11
        have hrb := readC_at c2 l2 (ints l) (a + le)
        have hry := readC_lt Hc2.out (ints l) (a + le)
        have HRD2 := Lib.hid (read_c Hc2.out (Byt_ints l) (by rw [ints_length]; omega) (a + le) (by omega) HS5.out.i HS5.out.b HS5.out.k2)
        have HRe3 := HRe2.out
        generalize readC c2 l2 (ints l) (a + le) = rc2 at hrb hry HRD2 HRe3
        obtain ⟨oy, b⟩ := rc2
        simp only at hrb hry HRD2 HRe3
        have HRe3 := Lib.hid HRe3
        have Hry := Lib.hid hry
        clear hry HRe2
        go_wp2_with fail
        refine HRD2.out.mono ?_
        rintro e w6 ⟨rfl, hi, hb, hk⟩
        have HS6 := Lib.hid (HS5.out.step hi hb hk)
        clear hi hb hk y10 y11 HS5 HRD2
        cases oy with
        | none =>
         simp only [symI]
         have HRe := Lib.hid (show (o, 1, b) = R from HRe3.out)
         go_wp2
         go_ret2
         rw [← HRe.out]
         exact ⟨p, n, cap, rfl, HS6.out.o, HS6.out.i, HS6.out.b⟩
        | some y =>
         have hy := Hry.out y rfl
         simp only [symI]
         have HRe3 := HRe3.out
         simp only at HRe3
         by_cases hy29 : 29 < y
         ·
          have hyi : (29 : Int) < (y : Int) := by omega
          rw [if_pos hy29] at HRe3
          have HRe := Lib.hid HRe3
          clear HRe3
          go_wp2
          go_ret2
          rw [← HRe.out]
          exact ⟨p, n, cap, rfl, HS6.out.o, HS6.out.i, HS6.out.b⟩
         ·
          have hyi : ¬ (29 : Int) < (y : Int) := by omega
          rw [if_neg hy29] at HRe3
          obtain ⟨q1, q2, q3⟩ := distOf_le y (by omega)
          have HDC := Lib.hid (distOf_c y (by omega))
          generalize distOf y = dy at q1 q2 q3 HDC HRe3
          obtain ⟨db, de⟩ := dy
          simp only at q1 q2 q3 HDC HRe3
          have hnd := numAt_lt (ints l) b de
          obtain ⟨nd, hnde⟩ : ∃ nd, nd = numAt (ints l) b de := ⟨_, rfl⟩
          rw [← hnde] at hnd HRe3
          have hpde : 2 ^ de ≤ 2 ^ 13 := Nat.pow_le_pow_right (by decide) q3
          have hnd2 : nd < 8192 := by omega
          obtain ⟨DD, hDD⟩ : ∃ DD, DD = db + nd := ⟨_, rfl⟩
          have eDD : (db : Int) + (nd : Int) = (DD : Int) := by omega
          have hDD1 : 1 ≤ DD := by omega
          have hDD2 : DD ≤ 40000 := by omega
          rw [← hDD] at HRe3
          have HRe3 := Lib.hid HRe3
          have Hnde := Lib.hid hnde
          clear hDD hnde hnd hpde
          go_wp2_with fail
          refine (HDC.out w6).mono ?_
          rintro e w7 ⟨rfl, hdr⟩
          have HS7 := Lib.hid (HS6.out.dr hdr)
          clear hdr HS6 HDC
          go_wp2_with fail
          refine (many_l (by omega) de (de : Int) rfl b (by omega) (by omega) HS7.out.i HS7.out.b).mono ?_
          rintro e w8 ⟨rfl, hi, hb, hk⟩
          have HS8 := Lib.hid (HS7.out.step hi hb hk)
          rw [← Hnde.out]
          clear hi hb hk HS7
          by_cases hs2 : 8 * l.length < b + de
          ·
           have HRe := Lib.hid (show (o, 1, b + de) = R by rw [← HRe3.out, if_pos (.inl hs2)])
           go_wp2_with fail
           refine (short_l (by omega) (b + de) true (by simpa using hs2) HS8.out.i HS8.out.b).mono ?_
           rintro e w9 ⟨rfl, hi, hb, hk⟩
           have HS9 := Lib.hid (HS8.out.step hi hb hk)
           clear hi hb hk
           go_wp2
           go_ret2
           rw [← HRe.out]
           exact ⟨p, n, cap, rfl, HS9.out.o, HS9.out.i, HS9.out.b⟩
          ·
           by_cases hfar : n < DD
           ·
            have hfari : (n : Int) < (DD : Int) := by omega
            have HRe := Lib.hid (show (o, 1, b + de) = R by rw [← HRe3.out, if_pos (.inr (by rw [Hol.out]; exact hfar))])
            go_wp2_with fail
            refine (short_l (by omega) (b + de) false (by simpa using hs2) HS8.out.i HS8.out.b).mono ?_
            rintro e w9 ⟨rfl, hi, hb, hk⟩
            have HS9 := Lib.hid (HS8.out.step hi hb hk)
            clear hi hb hk
            go_wp2
            go_ret2
            rw [← HRe.out]
            exact ⟨p, n, cap, rfl, HS9.out.o, HS9.out.i, HS9.out.b⟩
           ·
            have hfari : ¬ (n : Int) < (DD : Int) := by omega
            have HRe4 := Lib.hid ((if_neg (show ¬ (8 * l.length < b + de ∨ o.length < DD) from fun h => h.elim hs2 (by rw [Hol.out]; exact hfar))).symm.trans HRe3.out)
            go_wp2_with fail
            refine (short_l (by omega) (b + de) false (by simpa using hs2) HS8.out.i HS8.out.b).mono ?_
            rintro e w9 ⟨rfl, hi, hb, hk⟩
            have HS9 := Lib.hid (HS8.out.step hi hb hk)
            clear hi hb hk HS8 HRe3
            by_cases hwn : win < DD
            ·
             have hwni : (win : Int) < (DD : Int) := by omega
             have HRe := Lib.hid (show (o, 2, b + de) = R by rw [← HRe4.out, if_pos hwn])
             go_wp2
             go_ret2
             rw [← HRe.out]
             exact ⟨p, n, cap, rfl, HS9.out.o, HS9.out.i, HS9.out.b⟩
            ·
             have hwni : ¬ (win : Int) < (DD : Int) := by omega
             have HRe := Lib.hid (show symM c1 l1 c2 l2 l win most d (againM DD o LL) (b + de) = R by rw [← HRe4.out, if_neg hwn])
             clear HRe4
             go_wp2
             go_loopg [1, 93] LL (fun gh v u wr => ∃ p n1 c j, v = .slice p n1 c ∧ u = .int .i64 ((j : Nat) : Int) ∧ (n1 = n + j ∧ j + gh = LL) ∧
              Hid (SI w0 wr g b1 l (.slice A1 m1 d1) (.slice B1 k1 e1) (.slice A2 m2 d2) (.slice B2 k2 e2) c1 l1 c2 l2 p n1 c (againM DD o j) (b + de)))
             case atStart => exact ⟨p, n, cap, 0, rfl, rfl, ⟨rfl, by omega⟩, HS9⟩
             case round =>
              obtain ⟨p, n1, cap, j, rfl, rfl, ⟨hn1, hj⟩, HS⟩ := hrel
              by_cases hjl : j < LL
              ·
               have hjli : (j : Int) < (LL : Int) := by omega
               have hn1b : n1 ≤ most + 300 := by omega
               obtain ⟨ix, hix⟩ : ∃ ix, ix = n1 - DD := ⟨_, rfl⟩
               have hixn : ix < n1 := by omega
               have eix : (n1 : Int) - (DD : Int) = (ix : Int) := by omega
               obtain ⟨ad, rfl, hcell⟩ := HS.out.o.at_ ix hixn
               have hw5 : w0.heap.size ≤ wr.heap.size := HS.out.b.size
               have Hag := Lib.hid (show againM DD o (j + 1) = againM DD o j ++ [(againM DD o j).getD ix 0] by
                simp only [againM]
                have := HS.out.o.1
                rw [this, ← hix])
               have Hix := Lib.hid hix
               have Hn1 := Lib.hid hn1
               have Hj := Lib.hid hj
               clear hix hn1 hj
               go_wp2_with (at_builtin; go_loud (refine wp_app rfl (.tmp 95) (.tmp 103) rfl w0.heap.size n1 cap 1 1 (some ad) (some ⟨wr.heap.size, 0, none⟩) (againM DD o j) [(againM DD o j).getD ix 0] rfl rfl (HS.out.o.keep fun j hj => heap_alloc_old wr _ (HS.out.o.lt j hj).2) (wr.heap.size + 1) (reads_new wr _ 5 _ 1 1 _ rfl (by simp [bvals, nb]) (by omega) _ rfl) (by omega) (by simp; omega) ?_; intro p1 cap1 w4 hO4 hG hL))
               have HS4 := Lib.hid (HS.out.app hO4 hG)
               clear hO4 hG hL hcell
               go_roundg (gk - 1)
               case measure => have := Hj.out; omega
               case rel => exact ⟨p1, n1 + 1, cap1, j + 1, rfl, by first | rfl | simp, ⟨by have := Hn1.out; omega, by have := Hj.out; omega⟩, Lib.hid (by rw [Hag.out]; exact HS4.out)⟩
              ·
               have hjli : ¬ (j : Int) < (LL : Int) := by omega
               obtain rfl : j = LL := by omega
               have Hn1 := Lib.hid hn1
               clear hn1 hj
               go_wp2
               go_roundg d
               case measure => have := Hd.out; omega
               case rel => have hn1 := Hn1.out; exact ⟨p, n1, cap, _, b + de, rfl, ⟨by omega, by omega, by omega⟩, HRe, HS⟩
  ·
   have hmi : ¬ (n : Int) ≤ (most : Int) := by omega
   have HRe := Lib.hid (show (o, 2, at_) = R by rw [← HR.out, symM_full (by rw [Hol.out]; omega)])
   go_wp2
   go_ret2
   rw [← HRe.out]
   exact ⟨p, n, cap, rfl, HS.out.o, HS.out.i, HS.out.b⟩
end Go.Proofs.YtnpkgmgedgcjmaaGreatDoor
end
