/- A part of the proof: Ee, Ef. -/
import Derived.Deep.RegionHeld3
import Derived.Test.YtnpkgmgedgcjmaaGreatDoorZE4
import Derived.Test.YtnpkgmgedgcjmaaGreatDoorZE8
import Derived.Test.YtnpkgmgedgcjmaaGreatDoorZFx
set_option linter.all false
set_option maxRecDepth 100000
section
namespace Go.Proofs.YtnpkgmgedgcjmaaGreatDoor
open Go Go.RowKit Png Go.Proofs.YtnpkgmgedgcjmaaGreatDoorW.PrintWords Go.Proofs.YtnpkgmgedgcjmaaGreatDoorW.PrintMore Go.Proofs.YtnpkgmgedgcjmaaGreatDoor.Pr
def unpackM (l : List UInt8) (most : Nat) : List UInt8 × Nat :=
 if l.length < 2 ∨ nb l 0 % 16 ≠ 8 ∨ 127 < nb l 0 ∨ (nb l 0 * 256 + nb l 1) % 31 ≠ 0 then ([], 1)
 else if nb l 1 / 32 % 2 ≠ 0 then ([], 2)
 else
  let R := infM (l.drop 2) (256 * 2 ^ (nb l 0 / 16)) most (8 * (l.length - 2) + 1) [] 0
  if R.2.2 ≠ 0 then ([], R.2.2)
  else if l.length < R.2.1 + 6 ∨ be4 l (R.2.1 + 2) ≠ adler R.1 ∨ R.1.length < most then ([], 1)
  else if R.2.1 + 6 < l.length then ([], 2)
  else (R.1, 0)
theorem infM_facts (l : List UInt8) (win most : Nat) : ∀ d o at_, (infM l win most d o at_).2.1 ≤ l.length := by
 intro d
 induction d with
 | zero => intro o at_; simp [infM]
 | succ d ih =>
  intro o at_
  have h := blockM_facts l win most o (at_ + 1)
  simp only [infM]
  split
  ·
   simp
  ·
   rename_i h1
   split
   ·
    simp
   ·
    split
    ·
     exact ih _ _
    ·
     have := h (by omega)
     simp
     omega
theorem infM_most (l : List UInt8) (win most : Nat) : ∀ d o at_, (infM l win most d o at_).2.2 = 0 → (infM l win most d o at_).1.length ≤ most := by
 intro d
 induction d with
 | zero => intro o at_ h; simp [infM] at h
 | succ d ih =>
  intro o at_
  simp only [infM]
  split
  ·
   rename_i h1; intro h; exact absurd h h1
  ·
   split
   ·
    intro h; simp at h
   ·
    rename_i h1
    split
    ·
     exact ih _ _
    ·
     intro _; exact Nat.not_lt.1 h1
theorem Ob.nle {w : World} {base n cap : Nat} {p : Option Addr} {l : List UInt8} (h : Ob w base p n cap l) : n ≤ cap := by
 rcases Nat.eq_zero_or_pos n with h0 | h0
 ·
  omega
 ·
  obtain ⟨g, c, hv, _⟩ := h.2.form h0
  injection hv with hv hn hc
  rcases h.2.2 with ⟨e, _⟩ | ⟨g', c', cur, e, hb, hh, h1, h2, h3⟩
  ·
   cases e; omega
  ·
   injection e with e1 e2 e3
   subst e3
   exact h1
theorem and15 (x : Nat) (h : x < 256) : Go.bits .and .u8 (x : Int) 15 = ((x % 16 : Nat) : Int) := by
 have key : ∀ x : Fin 256, Go.bits .and .u8 ((x.val : Nat) : Int) 15 = ((x.val % 16 : Nat) : Int) := by decide +kernel
 exact key ⟨x, h⟩
theorem and32 (x : Nat) (h : x < 256) : Go.bits .and .u8 (x : Int) 32 = ((32 * (x / 32 % 2) : Nat) : Int) := by
 have key : ∀ x : Fin 256, Go.bits .and .u8 ((x.val : Nat) : Int) 32 = ((32 * (x.val / 32 % 2) : Nat) : Int) := by decide +kernel
 exact key ⟨x, h⟩
set_option maxHeartbeats 8000000 in
theorem unpack_c {w : World} {l : List UInt8} {A : Option Addr} {c : Nat} (hA : Bsl w A l) (hc : l.length ≤ c) (hl : l.length ≤ 1073741824) (most : Nat) (hmost : most ≤ 1099511627776) :
  Calls Tryz.prog 80 #[.slice A l.length c, .int .i64 (most : Int)] w fun e w' => ∃ p n cap, e = .returned (.tuple #[.slice p n cap, .int .i64 (((unpackM l most).2 : Nat) : Int)]) ∧
   Ob w' w.heap.size p n cap (unpackM l most).1 ∧ Below w.heap.size w w' := by
 obtain ⟨R, hR⟩ : ∃ R, R = unpackM l most := ⟨_, rfl⟩
 have hR2 := hR
 unfold unpackM at hR2
 rw [← hR]
 have HR := Lib.hid hR2
 have HA := Lib.hid hA
 clear hR hR2 hA
 go_enter Tryz.func80, Tryz.ntmps80
 go_wp2
 by_cases h2 : l.length < 2
 ·
  have h2i : (l.length : Int) < 2 := by omega
  go_quiet (fail)
  go_wp2
  go_ret2
  rw [HR.out, if_pos (.inl h2)]
  exact ⟨none, 0, 0, rfl, Ob.none _ _, pw_below_drewN (Below.refl _ _) _⟩
 ·
  have h2i : ¬ (l.length : Int) < 2 := by omega
  have h2d : decide ((l.length : Int) < 2) = false := decide_eq_false h2i
  obtain ⟨ab, ao, rfl, hseg⟩ : ∃ ab ao, A = some ⟨ab, ao, none⟩ ∧ Seg w ab ao l := by
   rcases HA.out with h | ⟨b0, off, h1, h2⟩
   ·
    rw [h] at h2; simp at h2
   ·
    exact ⟨b0, off, h1, h2⟩
  have k0 := hseg 0 (by omega)
  have k1 := hseg 1 (by omega)
  rw [Nat.add_zero] at k0
  obtain ⟨x, hx⟩ : ∃ x, x = nb l 0 := ⟨_, rfl⟩
  obtain ⟨y, hy⟩ : ∃ y, y = nb l 1 := ⟨_, rfl⟩
  rw [← hx] at k0
  rw [← hy] at k1
  have hx256 : x < 256 := by rw [hx]; exact nb_lt l 0
  have hy256 : y < 256 := by rw [hy]; exact nb_lt l 1
  have Hx := Lib.hid hx
  have Hy := Lib.hid hy
  have HSeg := Lib.hid hseg
  clear hx hy hseg
  have i0 : (0 : Int) < (l.length : Int) := by omega
  have i1 : (1 : Int) < (l.length : Int) := by omega
  have j0 : 0 < l.length := by omega
  have j1 : 1 < l.length := by omega
  have e15 := and15 x hx256
  obtain ⟨xl, hxl⟩ : ∃ xl, xl = x % 16 := ⟨_, rfl⟩
  rw [← hxl] at e15
  by_cases c8 : xl = 8
  ·
   have c8i : ((xl : Int) != 8) = false := by simp; omega
   by_cases c127 : 127 < x
   ·
    have c127i : (127 : Int) < (x : Int) := by omega
    have c127d : decide ((127 : Int) < (x : Int)) = true := decide_eq_true c127i
    have Hc8 := Lib.hid c8
    clear c8 hxl
    go_quiet (fail)
    go_wp2
    go_ret2
    rw [HR.out, if_pos (.inr (.inr (.inl (by rw [← Hx.out]; exact c127))))]
    exact ⟨none, 0, 0, rfl, Ob.none _ _, pw_below_drewN (Below.refl _ _) _⟩
   ·
    have c127i : ¬ (127 : Int) < (x : Int) := by omega
    have c127d : decide ((127 : Int) < (x : Int)) = false := decide_eq_false c127i
    obtain ⟨z, hz⟩ : ∃ z, z = (x * 256 + y) % 31 := ⟨_, rfl⟩
    have ez : Int.tmod ((x : Int) * 256 + (y : Int)) 31 = (z : Int) := by rw [Int.tmod_eq_emod_of_nonneg (by omega)]; omega
    have ew0 : IntKind.i64.wrap (x : Int) = (x : Int) := IntWalk.i64_in _ (by omega)
    have ew1 : IntKind.i64.wrap ((x : Int) * 256) = (x : Int) * 256 := IntWalk.i64_in _ (by omega)
    have ew2 : IntKind.i64.wrap (y : Int) = (y : Int) := IntWalk.i64_in _ (by omega)
    have ew3 : IntKind.i64.wrap ((x : Int) * 256 + (y : Int)) = (x : Int) * 256 + (y : Int) := IntWalk.i64_in _ (by omega)
    have Hc8 := Lib.hid (show x % 16 = 8 by omega)
    have Hz := Lib.hid hz
    clear c8 hxl
    by_cases cz : z = 0
    ·
     have czi : ((z : Int) != 0) = false := by simp; omega
     have HR2 := Lib.hid (HR.out.trans (if_neg (by rw [← Hx.out, ← Hy.out, ← Hz.out]; have := Hc8.out; omega)))
     clear cz hz HR
     have e32 := and32 y hy256
     obtain ⟨yy, hyy⟩ : ∃ yy, yy = 32 * (y / 32 % 2) := ⟨_, rfl⟩
     rw [← hyy] at e32
     go_quiet (fail)
     by_cases cy : yy = 0
     ·
      have cyi : ((yy : Int) != 0) = false := by simp; omega
      have HR3 := Lib.hid (HR2.out.trans (if_neg (by rw [← Hy.out]; omega)))
      clear HR2 cy hyy
      have hR3 := HR3.out
      simp only [← Hx.out] at hR3
      have HR3 := Lib.hid hR3
      obtain ⟨win, hwin⟩ : ∃ win, win = 256 * 2 ^ (x / 16) := ⟨_, rfl⟩
      have hx16 : x / 16 ≤ 7 := by omega
      have hp : 2 ^ (x / 16) ≤ 2 ^ 7 := Nat.pow_le_pow_right (by decide) hx16
      have hwb : win ≤ 1099511627776 := by rw [hwin]; omega
      have hd : ∀ W : World, Dr w W → Bsl W (some ⟨ab, ao + 2, none⟩) (l.drop 2) := fun W hW => by
       obtain ⟨n, rfl⟩ := hW
       refine .inr ⟨ab, ao + 2, rfl, ?_⟩
       have h1 := Bsl.cut (w := w) HSeg.out (k := 2) (n := l.length - 2) (by omega)
       rw [List.take_of_length_le (by simp)] at h1
       exact h1
      have hinf : ∀ (W : World) (P : Option Addr) (c2 : Nat), l.length - 2 ≤ c2 → Dr w W → Bsl W P (l.drop 2) → Calls Tryz.prog 103 #[.slice P (l.length - 2) c2, .int .i64 (win : Int), .int .i64 (most : Int)] W fun e w' => ∃ p n cap, e = .returned (.tuple #[.slice p n cap, .int .i64 (((infM (l.drop 2) win most (8 * (l.length - 2) + 1) [] 0).2.1 : Nat) : Int), .int .i64 (((infM (l.drop 2) win most (8 * (l.length - 2) + 1) [] 0).2.2 : Nat) : Int)]) ∧
        Ob w' w.heap.size p n cap (infM (l.drop 2) win most (8 * (l.length - 2) + 1) [] 0).1 ∧ Below w.heap.size w w' := fun W P c2 hc2 hW hP => by
       have h1 := inflate_c (c := c2) hP (by rw [List.length_drop]; omega) (by rw [List.length_drop]; omega) win most hwb hmost
       rw [List.length_drop] at h1
       obtain ⟨n, rfl⟩ := hW
       refine h1.mono ?_
       rintro e w' ⟨p, n', cap, h, ho, hb⟩
       exact ⟨p, n', cap, h, ho, (pw_below_drewN (Below.refl _ _) n).trans hb⟩
      have HInf := Lib.hid hinf
      have Hwin := Lib.hid hwin
      have i2 : (2 : Int) ≤ (l.length : Int) := by omega
      have i3 : (l.length : Int) ≤ (c : Int) := by omega
      have j2 : 2 ≤ l.length := by omega
      have Hd := Lib.hid hd
      clear hd hinf hwin hp hx16
      have ewin : IntKind.i64.wrap (256 * 2 ^ ((x : Int) / 16).toNat) = (win : Int) := by
       have e1 : ((x : Int) / 16).toNat = x / 16 := by omega
       have e2 : (256 : Int) * 2 ^ (x / 16) = ((256 * 2 ^ (x / 16) : Nat) : Int) := by simp
       rw [e1, e2, ← Hwin.out]
       exact IntWalk.i64_in _ (by omega)
      obtain ⟨Z, hZ⟩ : ∃ Z, Z = infM (l.drop 2) win most (8 * (l.length - 2) + 1) [] 0 := ⟨_, rfl⟩
      have hR4 := HR3.out
      have hI := HInf.out
      simp only [← hZ] at hI
      rw [← Hwin.out, ← hZ] at hR4
      have hztb := infM_facts (l.drop 2) win most (8 * (l.length - 2) + 1) [] 0
      rw [← hZ, List.length_drop] at hztb
      have hzm := infM_most (l.drop 2) win most (8 * (l.length - 2) + 1) [] 0
      rw [← hZ] at hzm
      obtain ⟨zo, zt, zs⟩ := Z
      simp only at hI hR4 hztb hzm
      have Hztb := Lib.hid (show zt ≤ l.length by omega)
      have Hzm := Lib.hid hzm
      clear hztb hzm
      have HInf := Lib.hid hI
      have HR4 := Lib.hid hR4
      clear hR3 hR4 hI hZ HR3
      have hab : ab < w.heap.size := (cell_lt k0).1
      go_wp2
      go_cut [6, 7, 8] (fun v6 v7 v8 wr => ∃ p n cap, v6 = .slice p n cap ∧ v7 = .int .i64 (zt : Int) ∧ v8 = .int .i64 (zs : Int) ∧ Hid (Ob wr w.heap.size p n cap zo) ∧ Hid (Below w.heap.size w wr))
      case first =>
       by_cases hc2 : c = 2
       ·
        have hl2 : l.drop 2 = [] := List.eq_nil_of_length_eq_zero (by rw [List.length_drop]; omega)
        have Hl2 := Lib.hid hl2
        clear hl2
        have hc2i : (c = 2) = True := eq_true hc2
        have hc2z : c - 2 = 0 := by omega
        clear hc2
        go_region_held3 (fun w' => w'.cell? ⟨ab, ao, none⟩ = some (.int .u8 (x : Int))) (go_keep)
         (first | (go_at_call 103; refine (HInf.out _ (some ⟨ab, ao, none⟩) 0 (by omega) ⟨_, rfl⟩ (.inl Hl2.out)).mono ?_; rintro e w5 ⟨p, n, cap, rfl, ho, hb⟩; have k5 := (hb.cell (p := ⟨ab, ao, none⟩) hab).trans k0))
        all_goals go_wp2
        go_meet
        case rel => exact ⟨p, n, cap, rfl, rfl, rfl, Lib.hid ho, Lib.hid hb⟩
       ·
        have hc2i : ¬ (c : Int) = 2 := by omega
        go_region_held3 (fun w' => w'.cell? ⟨ab, ao, none⟩ = some (.int .u8 (x : Int))) (go_keep)
         (first | (go_at_call 103; refine (HInf.out _ (some ⟨ab, ao + 2, none⟩) (c - 2) (by omega) ⟨_, rfl⟩ (Hd.out _ ⟨_, rfl⟩)).mono ?_; rintro e w5 ⟨p, n, cap, rfl, ho, hb⟩; have k5 := (hb.cell (p := ⟨ab, ao, none⟩) hab).trans k0))
        all_goals go_wp2
        go_meet
        case rel => exact ⟨p, n, cap, rfl, rfl, rfl, Lib.hid ho, Lib.hid hb⟩
      case rest =>
       obtain ⟨p, n, cap, rfl, rfl, rfl, HO, HBl⟩ := hcut
       have hztl := Hztb.out
       have hOn := HO.out.1
       have HOn := Lib.hid hOn
       clear HInf Hd ewin hOn
       by_cases hzs : zs = 0
       ·
        have hzsi : ((zs : Int) != 0) = false := by simp; omega
        subst hzs
        have hzm := Hzm.out rfl
        have hncap := HO.out.nle
        have HR5 := Lib.hid (HR4.out.trans (if_neg (fun h => h rfl)))
        clear HR4
        have HR4 := HR5
        by_cases hlen : l.length < zt + 6
        ·
         have hleni : (l.length : Int) < (zt : Int) + 6 := by omega
         go_wp2
         go_ret2
         rw [HR4.out, if_pos (.inl hlen)]
         exact ⟨none, 0, 0, rfl, Ob.none _ _, HBl.out⟩
        ·
         have hleni : ¬ (l.length : Int) < (zt : Int) + 6 := by omega
         obtain ⟨z2, hz2⟩ : ∃ z2, z2 = zt + 2 := ⟨_, rfl⟩
         have ez2 : (zt : Int) + 2 = (z2 : Int) := by omega
         have hz24 : z2 + 4 ≤ l.length := by omega
         have HC4 := Lib.hid (four_c l z2 hz24 (by omega) (some ⟨ab, ao, none⟩) c hc wc (C_bsl (HA.out.belowE HBl.out) (by omega)))
         have HCA := Lib.hid (fun (W : World) (hW : Dr wc W) => adler_c zo (by omega) p cap (by rw [HOn.out]; exact hncap) W (C_bsl (by obtain ⟨k, rfl⟩ := hW; exact HO.out.bsl) (by omega)))
         obtain ⟨q4, hq4⟩ : ∃ q4, q4 = be4 l z2 := ⟨_, rfl⟩
         obtain ⟨qa, hqa⟩ : ∃ qa, qa = adler zo := ⟨_, rfl⟩
         rw [← hq4] at HC4
         have hR5 := HR4.out
         rw [← hz2, ← hq4, ← hqa] at hR5
         have HR4 := Lib.hid hR5
         have hCA := HCA.out
         simp only [← hqa, HOn.out] at hCA
         have HCA := Lib.hid hCA
         clear hCA
         have Hq4 := Lib.hid hq4
         have Hqa := Lib.hid hqa
         clear hR5 hq4 hqa HR5 hz2
         go_wp2_with fail
         refine HC4.out.mono ?_
         rintro e w6 ⟨rfl, hdr⟩
         have Hdr := Lib.hid hdr
         clear hdr
         go_wp2_with fail
         refine (HCA.out _ Hdr.out).mono ?_
         rintro e w7 ⟨rfl, hdr2⟩
         have HD7 : Hid (Dr wc w7) := Lib.hid (by obtain ⟨a, ha⟩ := Hdr.out; obtain ⟨b, hb⟩ := hdr2; exact ⟨a + b, by rw [← hb, ← ha]; simp⟩)
         have hb7 : Below w.heap.size w w7 := by
          obtain ⟨k, hk⟩ := HD7.out
          rw [← hk]
          exact pw_below_drewN HBl.out k
         have HB7 := Lib.hid hb7
         have ho7 : Ob w7 w.heap.size p n cap zo := by
          obtain ⟨k, hk⟩ := HD7.out
          rw [← hk]
          exact HO.out.kept (pw_below_drewN (Below.refl _ _) k)
         have HO7 := Lib.hid ho7
         clear hdr2 hb7 ho7 HC4 HCA Hdr
         by_cases hsum : q4 = qa
         ·
          have hsumi : ((q4 : Int) != (qa : Int)) = false := by simp; omega
          by_cases hshort : n < most
          ·
           have hshi : (n : Int) < (most : Int) := by omega
           have Hsum := Lib.hid hsum
           clear hsum
           go_wp2
           go_ret2
           rw [HR4.out, if_pos (.inr (.inr (by rw [HOn.out]; exact hshort)))]
           exact ⟨none, 0, 0, rfl, Ob.none _ _, HB7.out⟩
          ·
           have hshi : ¬ (n : Int) < (most : Int) := by omega
           have HR5 := Lib.hid (HR4.out.trans (if_neg (fun h => h.elim hlen (fun h => h.elim (fun h => h hsum) (by rw [HOn.out]; exact hshort)))))
           have Hsum := Lib.hid hsum
           clear hsum HR4
           have HR4 := HR5
           by_cases hmore : zt + 6 < l.length
           ·
            have hmi : (zt : Int) + 6 < (l.length : Int) := by omega
            go_wp2
            go_ret2
            rw [HR4.out, if_pos hmore]
            exact ⟨none, 0, 0, rfl, Ob.none _ _, HB7.out⟩
           ·
            have hmi : ¬ (zt : Int) + 6 < (l.length : Int) := by omega
            go_wp2
            go_ret2
            rw [HR4.out, if_neg hmore]
            exact ⟨p, n, cap, rfl, HO7.out, HB7.out⟩
         ·
          have hsumi : ((q4 : Int) != (qa : Int)) = true := by simp; omega
          have Hsum := Lib.hid hsum
          clear hsum
          go_wp2
          go_ret2
          rw [HR4.out, if_pos (.inr (.inl Hsum.out))]
          exact ⟨none, 0, 0, rfl, Ob.none _ _, HB7.out⟩
       ·
        have hzsi : ((zs : Int) != 0) = true := by simp; omega
        have Hzs := Lib.hid hzs
        clear hzs
        go_wp2
        go_ret2
        rw [HR4.out, if_pos Hzs.out]
        exact ⟨none, 0, 0, rfl, Ob.none _ _, HBl.out⟩
     ·
      have cyi : ((yy : Int) != 0) = true := by simp; omega
      have HR3 := Lib.hid (HR2.out.trans (if_pos (by rw [← Hy.out]; omega)))
      clear cy hyy
      go_wp2
      go_ret2
      rw [HR3.out]
      exact ⟨none, 0, 0, rfl, Ob.none _ _, pw_below_drewN (Below.refl _ _) _⟩
    ·
     have czi : ((z : Int) != 0) = true := by simp; omega
     have Hcz := Lib.hid cz
     clear cz hz
     go_quiet (fail)
     go_wp2
     go_ret2
     rw [HR.out, if_pos (.inr (.inr (.inr (by rw [← Hx.out, ← Hy.out, ← Hz.out]; exact Hcz.out))))]
     exact ⟨none, 0, 0, rfl, Ob.none _ _, pw_below_drewN (Below.refl _ _) _⟩
  ·
   have c8i : ((xl : Int) != 8) = true := by simp; omega
   have Hc8 := Lib.hid (show x % 16 ≠ 8 by omega)
   clear c8 hxl
   go_quiet (fail)
   go_wp2
   go_ret2
   rw [HR.out, if_pos (.inr (.inl (by rw [← Hx.out]; exact Hc8.out)))]
   exact ⟨none, 0, 0, rfl, Ob.none _ _, pw_below_drewN (Below.refl _ _) _⟩
end Go.Proofs.YtnpkgmgedgcjmaaGreatDoor
end
section
namespace Go.Proofs.YtnpkgmgedgcjmaaGreatDoor
open Go Go.RowKit Png Go.Proofs.YtnpkgmgedgcjmaaGreatDoorW.PrintWords Go.Proofs.YtnpkgmgedgcjmaaGreatDoorW.PrintMore Go.Proofs.YtnpkgmgedgcjmaaGreatDoor.Pr
theorem need_c (W H dp ct : Nat) (il : Bool) (hd : dp ≤ 16) (hW : W ≤ 16384) (hH : H ≤ 16384) (hWH : W * H ≤ 16384) (w : World) :
  Calls Tryz.prog 81 #[.agg #[.int .i64 (W : Int), .int .i64 (H : Int), .int .i64 (dp : Int), .int .i64 (ct : Int), .bool il]] w fun e w' => e = .returned (.int .i64 ((needM W H dp ct il : Nat) : Int)) ∧ Below w.heap.size w w' := by
 obtain ⟨k, hk⟩ := (need_ev W H dp ct il hd hW hH hWH).rounds
 exact spec_Need.calls k _ _ _ _ _ _ w hk
theorem scatTo_lt (W c w X Y DX DY B : Nat) (list out : List Nat) (ho : ∀ x ∈ out, x < B) (hB : 0 < B) (hl : ∀ x ∈ list, x < B) (i : Nat) : ∀ x ∈ scatTo W c w X Y DX DY list out i, x < B := by
 induction i with
 | zero => exact ho
 | succ i ih =>
  intro x hx
  simp only [scatTo] at hx
  rcases List.mem_or_eq_of_mem_set hx with h | h
  ·
   exact ih x h
  ·
   rw [h, List.getD_eq_getElem?_getD]
   rcases hk : list[i]? with _ | v
   ·
    exact hB
   ·
    exact hl v (List.mem_of_getElem? hk)
theorem samM_facts (W H dp ct : Nat) (il : Bool) (hd : dp = 1 ∨ dp = 2 ∨ dp = 4 ∨ dp = 8 ∨ dp = 16) : ∀ d p data out, Byt data → (∀ x ∈ out, x < 2 ^ dp) → (samM W H dp ct il d p data out).2 = 0 → (samM W H dp ct il d p data out).1.length = out.length ∧ ∀ x ∈ (samM W H dp ct il d p data out).1, x < 2 ^ dp := by
 intro d
 induction d with
 | zero => intro p data out _ ho _; exact ⟨rfl, ho⟩
 | succ d ih =>
  intro p data out hD ho
  simp only [samM]
  split
  ·
   rename_i h0
   intro h
   have hf := (partSamples_facts W H dp ct il p data hD hd).2 h0
   have := ih (p + 1) (data.drop (partNeed W H dp ct il p)) (scatM W H ct il p (partSamples W H dp ct il p data).1 out) (hD.drop _) (scatTo_lt _ _ _ _ _ _ _ _ _ _ ho (Nat.two_pow_pos _) hf.2.2 _) h
   rw [show (scatM W H ct il p (partSamples W H dp ct il p data).1 out).length = out.length from scatTo_len _ _ _ _ _ _ _ _ _ _] at this
   exact this
  ·
   rename_i h0; intro h; exact absurd h h0
theorem samplesM_facts (W H dp ct : Nat) (il : Bool) (data : List Int) (hD : Byt data) (hd : dp = 1 ∨ dp = 2 ∨ dp = 4 ∨ dp = 8 ∨ dp = 16) (h : (samplesM W H dp ct il data).2 = 0) : (samplesM W H dp ct il data).1.length = W * H * chan ct ∧ ∀ x ∈ (samplesM W H dp ct il data).1, x < 2 ^ dp := by
 have := samM_facts W H dp ct il hd (npass il) 0 data (List.replicate (W * H * chan ct) 0) hD (fun x hx => by rw [(List.mem_replicate.1 hx).2]; exact Nat.two_pow_pos _) h
 rwa [List.length_replicate] at this
theorem samples_c {w : World} {l : List UInt8} {A : Option Addr} {c : Nat} (hA : Bsl w A l) (hc : l.length ≤ c) (W H dp ct : Nat) (il : Bool) (hd : dp = 1 ∨ dp = 2 ∨ dp = 4 ∨ dp = 8 ∨ dp = 16) (hW : W ≤ 16384) (hH : H ≤ 16384) (hWH : W * H ≤ 16384) (hl : l.length ≤ 1000000000) :
  Calls Tryz.prog 82 #[.agg #[.int .i64 (W : Int), .int .i64 (H : Int), .int .i64 (dp : Int), .int .i64 (ct : Int), .bool il], .slice A l.length c] w fun e w' => ∃ A2 n2 c2, e = .returned (.tuple #[.slice A2 n2 c2, .int .i64 (((samplesM W H dp ct il (ints l)).2 : Nat) : Int)]) ∧
   Kd.R (Kd.int .i64) 3 w' w.heap.size (fun k_ => w.heap.size ≤ k_) (.slice A2 n2 c2) (nats (samplesM W H dp ct il (ints l)).1) ∧ Below w.heap.size w w' := by
 obtain ⟨k, hk⟩ := (samples_ev W H dp ct il (ints l) (Byt_ints l) hd hW hH hWH (by rw [ints_length]; exact hl)).rounds
 have hV : Kd.V (Kd.int .u8) 5 w w.heap.size (fun k => k < w.heap.size) (.slice A (ints l).length c) (ints l) := Kd.V_mk (by rw [ints_length]; exact hc) (Kd.C_F (Kd.heap_int .u8) (C_bsl hA (by omega)))
 have h := spec_Samples.calls k _ _ _ _ _ (fun k => k < w.heap.size) A c (ints l) _ _ w hV hk
 rw [ints_length] at h
 refine h.mono ?_
 rintro e w' ⟨v, rfl, hr, hb⟩
 obtain ⟨A2, c2, rfl⟩ := Kd.R_slice hr
 exact ⟨A2, _, c2, rfl, hr, hb⟩
end Go.Proofs.YtnpkgmgedgcjmaaGreatDoor
end
