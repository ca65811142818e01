/- A part of the proof: En. -/
import Derived.Test.YtnpkgmgedgcjmaaGreatDoorZEk
import Derived.Test.YtnpkgmgedgcjmaaGreatDoorZEl
import Derived.Test.YtnpkgmgedgcjmaaGreatDoorZEm
import Derived.Test.YtnpkgmgedgcjmaaGreatDoorZSk
set_option linter.all false
set_option maxRecDepth 100000
section
namespace Go.Proofs.YtnpkgmgedgcjmaaGreatDoor
open Go Go.RowKit Png Go.Proofs.YtnpkgmgedgcjmaaGreatDoorW.PrintWords Go.Proofs.YtnpkgmgedgcjmaaGreatDoorW.PrintMore Go.Proofs.YtnpkgmgedgcjmaaGreatDoor.Pr
def RS.more (s : RS) : RS := ⟨s.W, s.H, s.dp, s.ct, s.il, s.pal, s.clear, 5, s.rest⟩
theorem Okay.more {s : RS} (h : Okay s) : Okay s.more := ⟨h.k, h.W, h.H, h.WH, h.W1, h.H1⟩
theorem or_u8 (x : Nat) (h : x < 256) : ∃ y : Nat, Go.bits .or .u8 (x : Int) 32 = (y : Int) ∧ y < 256 := by
 have key : ∀ x : Fin 256, Go.bits .or .u8 ((x.val : Nat) : Int) 32 = ((x.val ||| 32 : Nat) : Int) ∧ x.val ||| 32 < 256 := by decide +kernel
 exact ⟨_, key ⟨x, h⟩⟩
set_option maxHeartbeats 8000000 in
theorem chunk_IHDR_c {w0 w : World} {f : Nat} {s : RS} {used : Nat} {v5 : Value} {pp : Option Addr} {pn pc : Nat} {cp : Option Addr} {cn cc : Nat} {rp : Option Addr} {rn rc : Nat} (h : RD w0 w f s used v5 pp pn pc cp cn cc rp rn rc) (hi : RInv s) (ho : s.stage ≠ 0 → Okay s) (hrl : s.rest.length ≤ 1000000000) (h6 : s.stage ≤ 5) {b : List UInt8} {A : Option Addr} {bc : Nat} (hA : Bsl w0 A b) (hbc : b.length ≤ bc) (hbl : b.length ≤ 1000000) :
  Calls Tryz.prog 46 #[.pointer (some ⟨f, 0, none⟩), .string ⟨#[73, 72, 68, 82]⟩, .slice A b.length bc] w fun e w' => ChunkP w0 w' f s used nIHDR b e := by
 have HR := Lib.hid h
 have HI := Lib.hid hi
 have HO := Lib.hid ho
 have HA := Lib.hid hA
 obtain ⟨c0, c1, c2, c3, c4, c5, c6, c7, c8, c9, c10, c11, fz, hhs⟩ := h.cells
 obtain ⟨ct, hct⟩ : ∃ ct, ct = s.ct := ⟨_, rfl⟩
 obtain ⟨stg, hstg⟩ : ∃ stg, stg = s.stage := ⟨_, rfl⟩
 rw [← hct] at c3
 rw [← hstg] at c10 h6
 have Hct := Lib.hid hct
 have Hstg := Lib.hid hstg
 have HH := Lib.hid (And.intro hbc hbl)
 clear h hi ho hA hct hstg hbc hbl c0 c1 c2 c4 c5 c6 c7 c8 c9
 by_cases g4 : stg = 4
 ·
  have t4 : ((stg : Int) == 4) = true := by simp; omega
  have HR5 := Lib.hid (HR.out.far 10 (.int .i64 5) (s2 := s.more) (used2 := used) (v52 := v5) rfl HR.out.sl rfl rfl rfl)
  have HP := Lib.hid (pixels_c HR5.out (HO.out (by rw [← Hstg.out]; omega)).more HI.out.pal HI.out.clear (Nat.le_trans hrl (by decide)))
  have Hg4 := Lib.hid g4
  clear g4 hrl
  go_enter Tryz.func46, Tryz.ntmps46
  go_wp2_with fail
  refine HP.out.mono ?_
  rintro e w1 ⟨st, v52, rfl, hR1⟩
  have HR1 := Lib.hid hR1
  clear c3 c10 c11 fz hhs t4 hR1 HP
  by_cases hst : st = 0
  ·
   have u1 : (st != 0) = false := by simp; omega
   have Hst := Lib.hid hst
   clear hst
   obtain ⟨k0, k1, k2, k3, k4, k5, k6, k7, k8, k9, k10, k11, fz, hhs⟩ := HR1.out.cells
   have c10 : w1.cell? ⟨f, 10, none⟩ = some (.int .i64 5) := k10
   have c3 : w1.cell? ⟨f, 3, none⟩ = some (.int .i64 (ct : Int)) := by rw [Hct.out]; exact k3
   clear k0 k1 k2 k3 k4 k5 k6 k7 k8 k9 k10 k11
   go_wp2
   go_ret
   exact .no (by decide) HR1.out
  ·
   have u1 : (st != 0) = true := by simp; omega
   go_wp2
   go_ret
   exact .no hst HR1.out
 ·
  have t4 : ((stg : Int) == 4) = false := by simp; omega
  by_cases g0 : stg = 0
  ·
   have t0 : ((stg : Int) != 0) = false := by simp; omega
   have HP := Lib.hid (fun W' (h : RD w0 W' f s used v5 pp pn pc cp cn cc rp rn rc) => head_c h (by rw [← Hstg.out]; exact g0) HA.out HH.out.1 (Nat.le_trans HH.out.2 (by decide)))
   clear g0 g4
   go_enter Tryz.func46, Tryz.ntmps46
   go_wp2_with fail
   refine (HP.out w HR.out).mono ?_
   rintro e w1 ⟨st, s', v52, pp2, pn2, pc2, cp2, cn2, cc2, rp2, rn2, rc2, rfl, hR1, hs1⟩
   have HR1 := Lib.hid hR1
   have Hs1 := Lib.hid hs1
   clear hR1 hs1
   go_wp2
   go_ret
   exact .mk s' HR1.out Hs1.out
  ·
   have t0 : ((stg : Int) != 0) = true := by simp; omega
   go_enter Tryz.func46, Tryz.ntmps46
   go_wp2
   go_ret
   exact .no (by decide) HR.out
set_option maxHeartbeats 8000000 in
theorem chunk_PLTE_c {w0 w : World} {f : Nat} {s : RS} {used : Nat} {v5 : Value} {pp : Option Addr} {pn pc : Nat} {cp : Option Addr} {cn cc : Nat} {rp : Option Addr} {rn rc : Nat} (h : RD w0 w f s used v5 pp pn pc cp cn cc rp rn rc) (hi : RInv s) (ho : s.stage ≠ 0 → Okay s) (hrl : s.rest.length ≤ 1000000000) (h6 : s.stage ≤ 5) {b : List UInt8} {A : Option Addr} {bc : Nat} (hA : Bsl w0 A b) (hbc : b.length ≤ bc) (hbl : b.length ≤ 1000000) :
  Calls Tryz.prog 46 #[.pointer (some ⟨f, 0, none⟩), .string ⟨#[80, 76, 84, 69]⟩, .slice A b.length bc] w fun e w' => ChunkP w0 w' f s used nPLTE b e := by
 have HR := Lib.hid h
 have HI := Lib.hid hi
 have HO := Lib.hid ho
 have HA := Lib.hid hA
 obtain ⟨c0, c1, c2, c3, c4, c5, c6, c7, c8, c9, c10, c11, fz, hhs⟩ := h.cells
 obtain ⟨ct, hct⟩ : ∃ ct, ct = s.ct := ⟨_, rfl⟩
 obtain ⟨stg, hstg⟩ : ∃ stg, stg = s.stage := ⟨_, rfl⟩
 rw [← hct] at c3
 rw [← hstg] at c10 h6
 have Hct := Lib.hid hct
 have Hstg := Lib.hid hstg
 have HH := Lib.hid (And.intro hbc hbl)
 clear h hi ho hA hct hstg hbc hbl c0 c1 c2 c4 c5 c6 c7 c8 c9
 by_cases g4 : stg = 4
 ·
  have t4 : ((stg : Int) == 4) = true := by simp; omega
  have HR5 := Lib.hid (HR.out.far 10 (.int .i64 5) (s2 := s.more) (used2 := used) (v52 := v5) rfl HR.out.sl rfl rfl rfl)
  have HP := Lib.hid (pixels_c HR5.out (HO.out (by rw [← Hstg.out]; omega)).more HI.out.pal HI.out.clear (Nat.le_trans hrl (by decide)))
  have Hg4 := Lib.hid g4
  clear g4 hrl
  go_enter Tryz.func46, Tryz.ntmps46
  go_wp2_with fail
  refine HP.out.mono ?_
  rintro e w1 ⟨st, v52, rfl, hR1⟩
  have HR1 := Lib.hid hR1
  clear c3 c10 c11 fz hhs t4 hR1 HP
  by_cases hst : st = 0
  ·
   have u1 : (st != 0) = false := by simp; omega
   have Hst := Lib.hid hst
   clear hst
   obtain ⟨k0, k1, k2, k3, k4, k5, k6, k7, k8, k9, k10, k11, fz, hhs⟩ := HR1.out.cells
   have c10 : w1.cell? ⟨f, 10, none⟩ = some (.int .i64 5) := k10
   have c3 : w1.cell? ⟨f, 3, none⟩ = some (.int .i64 (ct : Int)) := by rw [Hct.out]; exact k3
   clear k0 k1 k2 k3 k4 k5 k6 k7 k8 k9 k10 k11
   go_wp2
   go_ret
   exact .no (by decide) HR1.out
  ·
   have u1 : (st != 0) = true := by simp; omega
   go_wp2
   go_ret
   exact .no hst HR1.out
 ·
  have t4 : ((stg : Int) == 4) = false := by simp; omega
  by_cases g0 : stg = 1
  ·
   have t0 : ((stg : Int) != 1) = false := by simp; omega
   have hs1' : s.stage = 1 := by rw [← Hstg.out]; exact g0
   have HP := Lib.hid (fun W' (h : RD w0 W' f s used v5 pp pn pc cp cn cc rp rn rc) => shades_c h hs1' (HI.out.k (by rw [hs1']; decide)).1 HI.out.pal HA.out HH.out.1 (Nat.le_trans HH.out.2 (by decide)))
   clear g0 g4 hs1'
   go_enter Tryz.func46, Tryz.ntmps46
   go_wp2_with fail
   refine (HP.out w HR.out).mono ?_
   rintro e w1 ⟨st, s', v52, pp2, pn2, pc2, cp2, cn2, cc2, rp2, rn2, rc2, rfl, hR1, hs1⟩
   have HR1 := Lib.hid hR1
   have Hs1 := Lib.hid hs1
   clear hR1 hs1
   go_wp2
   go_ret
   exact .mk s' HR1.out Hs1.out
  ·
   have t0 : ((stg : Int) != 1) = true := by simp; omega
   go_enter Tryz.func46, Tryz.ntmps46
   go_wp2
   go_ret
   exact .no (by decide) HR.out
set_option maxHeartbeats 8000000 in
theorem chunk_tRNS_c {w0 w : World} {f : Nat} {s : RS} {used : Nat} {v5 : Value} {pp : Option Addr} {pn pc : Nat} {cp : Option Addr} {cn cc : Nat} {rp : Option Addr} {rn rc : Nat} (h : RD w0 w f s used v5 pp pn pc cp cn cc rp rn rc) (hi : RInv s) (ho : s.stage ≠ 0 → Okay s) (hrl : s.rest.length ≤ 1000000000) (h6 : s.stage ≤ 5) {b : List UInt8} {A : Option Addr} {bc : Nat} (hA : Bsl w0 A b) (hbc : b.length ≤ bc) (hbl : b.length ≤ 1000000) :
  Calls Tryz.prog 46 #[.pointer (some ⟨f, 0, none⟩), .string ⟨#[116, 82, 78, 83]⟩, .slice A b.length bc] w fun e w' => ChunkP w0 w' f s used ntRNS b e := by
 have HR := Lib.hid h
 have HI := Lib.hid hi
 have HO := Lib.hid ho
 have HA := Lib.hid hA
 obtain ⟨c0, c1, c2, c3, c4, c5, c6, c7, c8, c9, c10, c11, fz, hhs⟩ := h.cells
 obtain ⟨ct, hct⟩ : ∃ ct, ct = s.ct := ⟨_, rfl⟩
 obtain ⟨stg, hstg⟩ : ∃ stg, stg = s.stage := ⟨_, rfl⟩
 rw [← hct] at c3
 rw [← hstg] at c10 h6
 have Hct := Lib.hid hct
 have Hstg := Lib.hid hstg
 have HH := Lib.hid (And.intro hbc hbl)
 clear h hi ho hA hct hstg hbc hbl c0 c1 c2 c4 c5 c6 c7 c8 c9
 by_cases g4 : stg = 4
 ·
  have t4 : ((stg : Int) == 4) = true := by simp; omega
  have HR5 := Lib.hid (HR.out.far 10 (.int .i64 5) (s2 := s.more) (used2 := used) (v52 := v5) rfl HR.out.sl rfl rfl rfl)
  have HP := Lib.hid (pixels_c HR5.out (HO.out (by rw [← Hstg.out]; omega)).more HI.out.pal HI.out.clear (Nat.le_trans hrl (by decide)))
  have Hg4 := Lib.hid g4
  clear g4 hrl
  go_enter Tryz.func46, Tryz.ntmps46
  go_wp2_with fail
  refine HP.out.mono ?_
  rintro e w1 ⟨st, v52, rfl, hR1⟩
  have HR1 := Lib.hid hR1
  clear c3 c10 c11 fz hhs t4 hR1 HP
  by_cases hst : st = 0
  ·
   have u1 : (st != 0) = false := by simp; omega
   have Hst := Lib.hid hst
   clear hst
   obtain ⟨k0, k1, k2, k3, k4, k5, k6, k7, k8, k9, k10, k11, fz, hhs⟩ := HR1.out.cells
   have c10 : w1.cell? ⟨f, 10, none⟩ = some (.int .i64 5) := k10
   have c3 : w1.cell? ⟨f, 3, none⟩ = some (.int .i64 (ct : Int)) := by rw [Hct.out]; exact k3
   clear k0 k1 k2 k3 k4 k5 k6 k7 k8 k9 k10 k11
   by_cases g3 : ct = 3
   ·
    have t3 : ((ct : Int) == 3) = true := by simp; omega
    go_wp2
    go_ret
    exact .no (by decide) HR1.out
   ·
    have t3 : ((ct : Int) == 3) = false := by simp; omega
    go_wp2
    go_ret
    exact .no (by decide) HR1.out
  ·
   have u1 : (st != 0) = true := by simp; omega
   go_wp2
   go_ret
   exact .no hst HR1.out
 ·
  have t4 : ((stg : Int) == 4) = false := by simp; omega
  by_cases g1 : stg = 1
  ·
   have hs1' : s.stage = 1 := by rw [← Hstg.out]; exact g1
   subst g1
   clear g4 t4
   by_cases g3 : ct = 3
   ·
    have t3 : ((ct : Int) == 3) = true := by simp; omega
    clear hs1' g3
    go_enter Tryz.func46, Tryz.ntmps46
    go_wp2
    go_ret
    exact .no (by decide) HR.out
   ·
    have t3 : ((ct : Int) == 3) = false := by simp; omega
    have HP := Lib.hid (fun W' (h : RD w0 W' f s used v5 pp pn pc cp cn cc rp rn rc) => clears_c h (.inl hs1') (fun e => absurd (Hct.out.trans e) g3) (HI.out.k (by rw [hs1']; decide)).1 HI.out.clear HA.out HH.out.1 (Nat.le_trans HH.out.2 (by decide)))
    clear hs1' g3
    go_enter Tryz.func46, Tryz.ntmps46
    go_wp2_with fail
    refine (HP.out w HR.out).mono ?_
    rintro e w1 ⟨st, s', v52, pp2, pn2, pc2, cp2, cn2, cc2, rp2, rn2, rc2, rfl, hR1, hs1⟩
    have HR1 := Lib.hid hR1
    have Hs1 := Lib.hid hs1
    clear hR1 hs1
    go_wp2
    go_ret
    exact .mk s' HR1.out Hs1.out
  ·
   by_cases g2 : stg = 2
   ·
    have hs1' : s.stage = 2 := by rw [← Hstg.out]; exact g2
    subst g2
    clear g4 t4 g1
    by_cases g3 : ct = 3
    ·
     have t3 : ((ct : Int) == 3) = true := by simp; omega
     have HP := Lib.hid (fun W' (h : RD w0 W' f s used v5 pp pn pc cp cn cc rp rn rc) => clears_c h (.inr hs1') (fun _ => hs1') (HI.out.k (by rw [hs1']; decide)).1 HI.out.clear HA.out HH.out.1 (Nat.le_trans HH.out.2 (by decide)))
     clear hs1' g3
     go_enter Tryz.func46, Tryz.ntmps46
     go_wp2_with fail
     refine (HP.out w HR.out).mono ?_
     rintro e w1 ⟨st, s', v52, pp2, pn2, pc2, cp2, cn2, cc2, rp2, rn2, rc2, rfl, hR1, hs1⟩
     have HR1 := Lib.hid hR1
     have Hs1 := Lib.hid hs1
     clear hR1 hs1
     go_wp2
     go_ret
     exact .mk s' HR1.out Hs1.out
    ·
     have t3 : ((ct : Int) == 3) = false := by simp; omega
     have HP := Lib.hid (fun W' (h : RD w0 W' f s used v5 pp pn pc cp cn cc rp rn rc) => clears_c h (.inr hs1') (fun _ => hs1') (HI.out.k (by rw [hs1']; decide)).1 HI.out.clear HA.out HH.out.1 (Nat.le_trans HH.out.2 (by decide)))
     clear hs1' g3
     go_enter Tryz.func46, Tryz.ntmps46
     go_wp2_with fail
     refine (HP.out w HR.out).mono ?_
     rintro e w1 ⟨st, s', v52, pp2, pn2, pc2, cp2, cn2, cc2, rp2, rn2, rc2, rfl, hR1, hs1⟩
     have HR1 := Lib.hid hR1
     have Hs1 := Lib.hid hs1
     clear hR1 hs1
     go_wp2
     go_ret
     exact .mk s' HR1.out Hs1.out
   ·
    have t1 : ((stg : Int) != 1) = true := by simp; omega
    have t2 : ((stg : Int) != 2) = true := by simp; omega
    go_enter Tryz.func46, Tryz.ntmps46
    by_cases g3 : ct = 3
    ·
     have t3 : ((ct : Int) == 3) = true := by simp; omega
     go_wp2
     go_ret
     exact .no (by decide) HR.out
    ·
     have t3 : ((ct : Int) == 3) = false := by simp; omega
     go_wp2
     go_ret
     exact .no (by decide) HR.out
set_option maxHeartbeats 8000000 in
theorem chunk_IDAT_c {w0 w : World} {f : Nat} {s : RS} {used : Nat} {v5 : Value} {pp : Option Addr} {pn pc : Nat} {cp : Option Addr} {cn cc : Nat} {rp : Option Addr} {rn rc : Nat} (h : RD w0 w f s used v5 pp pn pc cp cn cc rp rn rc) (hi : RInv s) (ho : s.stage ≠ 0 → Okay s) (hrl : s.rest.length ≤ 1000000000) (h6 : s.stage ≤ 5) {b : List UInt8} {A : Option Addr} {bc : Nat} (hA : Bsl w0 A b) (hbc : b.length ≤ bc) (hbl : b.length ≤ 1000000) :
  Calls Tryz.prog 46 #[.pointer (some ⟨f, 0, none⟩), .string ⟨#[73, 68, 65, 84]⟩, .slice A b.length bc] w fun e w' => ChunkP w0 w' f s used nIDAT b e := by
 have HR := Lib.hid h
 have HI := Lib.hid hi
 have HO := Lib.hid ho
 have HA := Lib.hid hA
 obtain ⟨c0, c1, c2, c3, c4, c5, c6, c7, c8, c9, c10, c11, fz, hhs⟩ := h.cells
 obtain ⟨ct, hct⟩ : ∃ ct, ct = s.ct := ⟨_, rfl⟩
 obtain ⟨stg, hstg⟩ : ∃ stg, stg = s.stage := ⟨_, rfl⟩
 rw [← hct] at c3
 rw [← hstg] at c10 h6
 have Hct := Lib.hid hct
 have Hstg := Lib.hid hstg
 have HH := Lib.hid (And.intro hbc hbl)
 clear h hi ho hA hct hstg hbc hbl c0 c1 c2 c4 c5 c6 c7 c8 c9
 by_cases g0 : stg = 0
 ·
  have t0 : ((stg : Int) == 0) = true := by simp; omega
  go_enter Tryz.func46, Tryz.ntmps46
  go_wp2
  go_ret
  exact .no (by decide) HR.out
 have t0 : ((stg : Int) == 0) = false := by simp; omega
 by_cases g5 : stg = 5
 ·
  subst g5
  go_enter Tryz.func46, Tryz.ntmps46
  by_cases g3 : ct = 3
  ·
   have t3 : ((ct : Int) == 3) = true := by simp; omega
   go_wp2
   go_ret
   exact .no (by decide) HR.out
  ·
   have t3 : ((ct : Int) == 3) = false := by simp; omega
   go_wp2
   go_ret
   exact .no (by decide) HR.out
 have t5 : ((stg : Int) == 5) = false := by simp; omega
 obtain ⟨t3, t1, hway⟩ : ∃ t3 t1 : Bool, ((ct : Int) == 3) = t3 ∧ ((stg : Int) == 1) = t1 ∧ ((t3 = true ∧ t1 = true) ∨ (t3 = false ∧ ¬ (ct = 3 ∧ stg = 1)) ∨ (t3 = true ∧ t1 = false ∧ ¬ (ct = 3 ∧ stg = 1))) := by
  by_cases g3 : ct = 3
  ·
   by_cases g1 : stg = 1
   ·
    exact ⟨true, true, by simp; omega, by simp; omega, .inl ⟨rfl, rfl⟩⟩
   ·
    exact ⟨true, false, by simp; omega, by simp; omega, .inr (.inr ⟨rfl, rfl, fun h => g1 h.2⟩)⟩
  ·
   exact ⟨false, _, by simp; omega, rfl, .inr (.inl ⟨rfl, fun h => g3 h.1⟩)⟩
 obtain ⟨e3, e1, hway⟩ := hway
 have HR4 := Lib.hid (HR.out.far 10 (.int .i64 4) (s2 := ⟨s.W, s.H, s.dp, s.ct, s.il, s.pal, s.clear, 4, s.rest⟩) (used2 := used) (v52 := v5) rfl HR.out.sl rfl rfl rfl)
 generalize hw4 : w.setCell ⟨f, 10, none⟩ (.int .i64 4) = w4 at HR4
 have d11 : w4.cell? ⟨f, 11, none⟩ = some (.slice rp rn rc) := HR4.out.blk.cell 11
 have dz := HR4.out.blk.frozen 11
 have hrd := Lib.hid ((HA.out.belowE HR4.out.low).reads)
 have hrn : rn ≤ 1000000000 := by have := HR4.out.rest.1; dsimp only at this; omega
 have hge : w0.heap.size ≤ w4.heap.size := HR4.out.low.size
 have Hg := Lib.hid (And.intro g0 g5)
 have hbn : b.length ≤ 1000000 := HH.out.2
 clear g0 g5
 go_enter Tryz.func46, Tryz.ntmps46
 rcases hway with ⟨rfl, rfl⟩ | ⟨rfl, hno⟩ | ⟨rfl, rfl, hno⟩
 ·
  go_wp2
  go_ret
  exact .no (by decide) HR.out
 all_goals
  have Hno := Lib.hid hno
  clear hno
  go_upto_region 26 with (fail)
  try rw [hw4]
  clear hw4 c3 c10 c11 fz hhs
  go_wp2_with (at_builtin; go_must (refine wp_app rfl (.tmp 116) (.tmp 117) rfl w0.heap.size rn rc b.length bc rp A s.rest b rfl rfl HR4.out.rest w4.heap.size hrd.out (by omega) hge ?_); intro p4 c4' w5 hO4 hG4 hL4; have HO4 := Lib.hid hO4; have HG4 := Lib.hid hG4; have hB4 := HR4.out.grownBlk hG4 (.inr (.inr rfl)); have HB4 := Lib.hid hB4; have dz5 := hB4.1.frozen 11; have d115 : w5.cell? ⟨f, 11, none⟩ = some (.slice rp rn rc) := hB4.1.cell 11; clear hO4 hG4 hL4 hB4)
  go_ret
  refine .mk ⟨s.W, s.H, s.dp, s.ct, s.il, s.pal, s.clear, 4, s.rest ++ b⟩ (v52 := v5) (pp2 := pp) (pn2 := pn) (pc2 := pc) (cp2 := cp) (cn2 := cn) (cc2 := cc) (rp2 := p4) (rn2 := rn + b.length) (rc2 := c4') ?_ fun _ => ?_
  ·
   exact RD.put HB4.out.1 HB4.out.2 HR.out.ge (s2 := ⟨s.W, s.H, s.dp, s.ct, s.il, s.pal, s.clear, 4, s.rest ++ b⟩) (used2 := used) (v52 := v5) (HR4.out.keepPal HG4.out (.inr rfl)) (HR4.out.keepClear HG4.out (.inr rfl)) HO4.out HR.out.sl 11 (.slice p4 (rn + b.length) c4') rfl
  ·
   exact StepG.idat s b (by rw [← Hstg.out]; exact Hg.out.1) (by rw [← Hct.out, ← Hstg.out]; exact Hno.out) (by have := Hg.out.2; have := Hstg.out; omega)
set_option maxHeartbeats 8000000 in
theorem chunk_IEND_c {w0 w : World} {f : Nat} {s : RS} {used : Nat} {v5 : Value} {pp : Option Addr} {pn pc : Nat} {cp : Option Addr} {cn cc : Nat} {rp : Option Addr} {rn rc : Nat} (h : RD w0 w f s used v5 pp pn pc cp cn cc rp rn rc) (hi : RInv s) (ho : s.stage ≠ 0 → Okay s) (hrl : s.rest.length ≤ 1000000000) (h6 : s.stage ≤ 5) {b : List UInt8} {A : Option Addr} {bc : Nat} (hA : Bsl w0 A b) (hbc : b.length ≤ bc) (hbl : b.length ≤ 1000000) :
  Calls Tryz.prog 46 #[.pointer (some ⟨f, 0, none⟩), .string ⟨#[73, 69, 78, 68]⟩, .slice A b.length bc] w fun e w' => ChunkP w0 w' f s used nIEND b e := by
 have HR := Lib.hid h
 have HI := Lib.hid hi
 have HO := Lib.hid ho
 have HA := Lib.hid hA
 obtain ⟨c0, c1, c2, c3, c4, c5, c6, c7, c8, c9, c10, c11, fz, hhs⟩ := h.cells
 obtain ⟨ct, hct⟩ : ∃ ct, ct = s.ct := ⟨_, rfl⟩
 obtain ⟨stg, hstg⟩ : ∃ stg, stg = s.stage := ⟨_, rfl⟩
 rw [← hct] at c3
 rw [← hstg] at c10 h6
 have Hct := Lib.hid hct
 have Hstg := Lib.hid hstg
 have HH := Lib.hid (And.intro hbc hbl)
 clear h hi ho hA hct hstg hbc hbl c0 c1 c2 c4 c5 c6 c7 c8 c9
 by_cases g4 : stg = 4
 ·
  have t4 : ((stg : Int) == 4) = true := by simp; omega
  have HR5 := Lib.hid (HR.out.far 10 (.int .i64 5) (s2 := s.more) (used2 := used) (v52 := v5) rfl HR.out.sl rfl rfl rfl)
  have HP := Lib.hid (pixels_c HR5.out (HO.out (by rw [← Hstg.out]; omega)).more HI.out.pal HI.out.clear (Nat.le_trans hrl (by decide)))
  have Hg4 := Lib.hid g4
  clear g4 hrl
  go_enter Tryz.func46, Tryz.ntmps46
  go_wp2_with fail
  refine HP.out.mono ?_
  rintro e w1 ⟨st, v52, rfl, hR1⟩
  have HR1 := Lib.hid hR1
  clear c3 c10 c11 fz hhs t4 hR1 HP
  by_cases hst : st = 0
  ·
   have u1 : (st != 0) = false := by simp; omega
   have Hst := Lib.hid hst
   clear hst
   obtain ⟨k0, k1, k2, k3, k4, k5, k6, k7, k8, k9, k10, k11, fz, hhs⟩ := HR1.out.cells
   have c10 : w1.cell? ⟨f, 10, none⟩ = some (.int .i64 5) := k10
   have c3 : w1.cell? ⟨f, 3, none⟩ = some (.int .i64 (ct : Int)) := by rw [Hct.out]; exact k3
   clear k0 k1 k2 k3 k4 k5 k6 k7 k8 k9 k10 k11
   obtain ⟨n, hn⟩ : ∃ n, n = b.length := ⟨_, rfl⟩
   have Hn := Lib.hid hn
   rw [← hn]
   clear hn
   by_cases hn0 : n = 0
   ·
    have u2 : ((n : Int) != 0) = false := by simp; omega
    have Hn0 := Lib.hid hn0
    clear hn0
    go_wp2
    go_ret
    have hfin := HR1.out.far 10 (.int .i64 6) (s2 := ⟨s.W, s.H, s.dp, s.ct, s.il, s.pal, s.clear, 6, s.rest⟩) (used2 := used) (v52 := v52) rfl HR1.out.sl rfl rfl rfl
    refine .mk ⟨s.W, s.H, s.dp, s.ct, s.il, s.pal, s.clear, 6, s.rest⟩ (by first | exact hfin | exact hfin.drew | exact hfin.drewN _) fun _ => ?_
    obtain rfl : b = [] := List.eq_nil_of_length_eq_zero (by rw [← Hn.out]; exact Hn0.out)
    exact StepG.iend s (by rw [← Hstg.out]; exact .inl Hg4.out)
   ·
    have u2 : ((n : Int) != 0) = true := by simp; omega
    go_wp2
    go_ret
    exact .no (by decide) HR1.out
  ·
   have u1 : (st != 0) = true := by simp; omega
   go_wp2
   go_ret
   exact .no hst HR1.out
 ·
  have t4 : ((stg : Int) == 4) = false := by simp; omega
  go_enter Tryz.func46, Tryz.ntmps46
  by_cases g5 : stg = 5
  ·
   have t5 : ((stg : Int) != 5) = false := by simp; omega
   have Hg5 := Lib.hid g5
   clear g5 g4
   obtain ⟨n, hn⟩ : ∃ n, n = b.length := ⟨_, rfl⟩
   have Hn := Lib.hid hn
   rw [← hn]
   clear hn
   by_cases hn0 : n = 0
   ·
    have u2 : ((n : Int) != 0) = false := by simp; omega
    have Hn0 := Lib.hid hn0
    clear hn0
    go_wp2
    go_ret
    have hfin := HR.out.far 10 (.int .i64 6) (s2 := ⟨s.W, s.H, s.dp, s.ct, s.il, s.pal, s.clear, 6, s.rest⟩) (used2 := used) (v52 := v5) rfl HR.out.sl rfl rfl rfl
    refine .mk ⟨s.W, s.H, s.dp, s.ct, s.il, s.pal, s.clear, 6, s.rest⟩ (by first | exact hfin | exact hfin.drew | exact hfin.drewN _) fun _ => ?_
    obtain rfl : b = [] := List.eq_nil_of_length_eq_zero (by rw [← Hn.out]; exact Hn0.out)
    exact StepG.iend s (by rw [← Hstg.out]; exact .inr Hg5.out)
   ·
    have u2 : ((n : Int) != 0) = true := by simp; omega
    go_wp2
    go_ret
    exact .no (by decide) HR.out
  ·
   have t5 : ((stg : Int) != 5) = true := by simp; omega
   go_wp2
   go_ret
   exact .no (by decide) HR.out
set_option maxHeartbeats 8000000 in
theorem chunk_other_c {w0 w : World} {f : Nat} {s : RS} {used : Nat} {v5 : Value} {pp : Option Addr} {pn pc : Nat} {cp : Option Addr} {cn cc : Nat} {rp : Option Addr} {rn rc : Nat} (h : RD w0 w f s used v5 pp pn pc cp cn cc rp rn rc) (hi : RInv s) (ho : s.stage ≠ 0 → Okay s) (hrl : s.rest.length ≤ 1000000000) (h6 : s.stage ≤ 5) {b : List UInt8} {A : Option Addr} {bc : Nat} (hA : Bsl w0 A b) (hbc : b.length ≤ bc) (hbl : b.length ≤ 1000000) {nm : List UInt8} (h4 : nm.length = 4) (hn1 : nm ≠ nIHDR) (hn2 : nm ≠ nPLTE) (hn3 : nm ≠ ntRNS) (hn4 : nm ≠ nIDAT) (hn5 : nm ≠ nIEND) :
  Calls Tryz.prog 46 #[.pointer (some ⟨f, 0, none⟩), .string ⟨nm.toArray⟩, .slice A b.length bc] w fun e w' => ChunkP w0 w' f s used nm b e := by
 have HR := Lib.hid h
 have HI := Lib.hid hi
 have HO := Lib.hid ho
 have Hn := Lib.hid (And.intro h4 (And.intro hn1 (And.intro hn2 (And.intro hn3 (And.intro hn4 hn5)))))
 obtain ⟨c0, c1, c2, c3, c4, c5, c6, c7, c8, c9, c10, c11, fz, hhs⟩ := h.cells
 obtain ⟨ct, hct⟩ : ∃ ct, ct = s.ct := ⟨_, rfl⟩
 obtain ⟨stg, hstg⟩ : ∃ stg, stg = s.stage := ⟨_, rfl⟩
 rw [← hct] at c3
 rw [← hstg] at c10 h6
 have Hct := Lib.hid hct
 have Hstg := Lib.hid hstg
 obtain ⟨SN, hSN⟩ : ∃ SN : ByteArray, SN = ⟨nm.toArray⟩ := ⟨_, rfl⟩
 have s1 : (SN.toList == [73, 72, 68, 82]) = false := by rw [hSN]; exact name_ne hn1
 have s2 : (SN.toList == [80, 76, 84, 69]) = false := by rw [hSN]; exact name_ne hn2
 have s3 : (SN.toList == [116, 82, 78, 83]) = false := by rw [hSN]; exact name_ne hn3
 have s4 : (SN.toList == [73, 68, 65, 84]) = false := by rw [hSN]; exact name_ne hn4
 have s5 : (SN.toList == [73, 69, 78, 68]) = false := by rw [hSN]; exact name_ne hn5
 have s6 : (SN.toList != [73, 68, 65, 84]) = true := by rw [bne, s4]; rfl
 have hix : ∀ (k : Nat), k < 4 → ∃ x : Nat, x < 256 ∧ ∀ W : World, (Instr.index 9 (.string SN) (.int .i64 (k : Int))).run Tryz.prog W = .ok (.int .u8 (x : Int)) W := fun k hk => by
  have hz : k < SN.size := by rw [hSN]; show k < nm.toArray.size; simpa [h4] using hk
  refine ⟨(SN[k]'hz).toNat, (SN[k]'hz).toNat_lt, fun W => ?_⟩
  rw [run_index_string W 9 SN .i64 (k : Int) Tryz.underlying9, dif_pos ⟨by omega, by omega⟩]
  simp only [Int.toNat_natCast]
 have Hix := Lib.hid hix
 have hfin : ∀ (W' : World) (v : Value) (s1 : RS), RD w0 W' f s1 used v pp pn pc cp cn cc rp rn rc → s1 = ⟨s.W, s.H, s.dp, s.ct, s.il, s.pal, s.clear, if s.stage = 4 then 5 else s.stage, s.rest⟩ → s.stage ≠ 0 → ChunkP w0 W' f s used nm b (.returned (.int .i64 0)) := fun _ _ _ hr e h0 =>
  .mk _ (by rw [← e]; exact hr) fun _ => StepG.other s nm b h4 h0 hn1 hn2 hn3 hn4 hn5
 have Hfin := Lib.hid hfin
 rw [← hSN]
 clear h hi ho hA hct hstg hbc hbl hSN hix hfin h4 hn1 hn2 hn3 hn4 hn5 c0 c1 c2 c4 c5 c6 c7 c8 c9
 by_cases g4 : stg = 4
 ·
  have t4 : ((stg : Int) == 4) = true := by simp; omega
  have HR5 := Lib.hid (HR.out.far 10 (.int .i64 5) (s2 := s.more) (used2 := used) (v52 := v5) rfl HR.out.sl rfl rfl rfl)
  have HP := Lib.hid (pixels_c HR5.out (HO.out (by rw [← Hstg.out]; omega)).more HI.out.pal HI.out.clear (Nat.le_trans hrl (by decide)))
  have Hg4 := Lib.hid g4
  clear g4 hrl
  go_enter Tryz.func46, Tryz.ntmps46
  go_wp2_with fail
  refine HP.out.mono ?_
  rintro e w1 ⟨st, v52, rfl, hR1⟩
  have HR1 := Lib.hid hR1
  clear c3 c10 c11 fz hhs t4 hR1 HP
  by_cases hst : st = 0
  ·
   have u1 : (st != 0) = false := by simp; omega
   have Hst := Lib.hid hst
   clear hst
   obtain ⟨k0, k1, k2, k3, k4, k5, k6, k7, k8, k9, k10, k11, fz, hhs⟩ := HR1.out.cells
   have c10 : w1.cell? ⟨f, 10, none⟩ = some (.int .i64 5) := k10
   have c3 : w1.cell? ⟨f, 3, none⟩ = some (.int .i64 (ct : Int)) := by rw [Hct.out]; exact k3
   clear k0 k1 k2 k3 k4 k5 k6 k7 k8 k9 k10 k11
   go_wp2
   go_loopg [136] 4 (fun gh v wr => ∃ k, v = .int .i64 ((k : Nat) : Int) ∧ k + gh = 4 ∧ wr = w1)
   case atStart => exact ⟨0, rfl, by omega, rfl⟩
   case round =>
    obtain ⟨k, rfl, hj, hwr⟩ := hrel
    subst hwr
    by_cases hlt : k < 4
    ·
     have hki : (k : Int) < 4 := by omega
     have hkd : decide ((k : Int) < 4) = true := decide_eq_true hki
     obtain ⟨x, hx, hrun⟩ := Hix.out k hlt
     obtain ⟨y, hy, hyb⟩ := or_u8 x hx
     by_cases y1 : y < 97
     ·
      have u3 : decide ((y : Int) < 97) = true := by simp; omega
      have u4 : (y : Int) < 97 := by omega
      go_wp2
      go_ret
      exact .no (by decide) HR1.out
     ·
      have u3 : decide ((y : Int) < 97) = false := by simp; omega
      have u4 : ¬ (y : Int) < 97 := by omega
      by_cases y2 : 122 < y
      ·
       have u5 : decide ((122 : Int) < (y : Int)) = true := by simp; omega
       have u6 : (122 : Int) < (y : Int) := by omega
       go_wp2
       go_ret
       exact .no (by decide) HR1.out
      ·
       have u5 : decide ((122 : Int) < (y : Int)) = false := by simp; omega
       have u6 : ¬ (122 : Int) < (y : Int) := by omega
       go_wp2
       go_roundg (gk - 1)
       case measure => omega
       case rel => exact ⟨k + 1, by first | rfl | (simp; done) | (congr 1; omega), by omega, rfl⟩
    ·
     have hki : ¬ (k : Int) < 4 := by omega
     have hkd : decide ((k : Int) < 4) = false := decide_eq_false hki
     obtain ⟨x0, hx0, hrun0⟩ := Hix.out 0 (by omega)
     obtain ⟨x2, hx2, hrun2⟩ := Hix.out 2 (by omega)
     have hrun0 : ∀ W : World, (Instr.index 9 (.string SN) (.int .i64 0)).run Tryz.prog W = .ok (.int .u8 (x0 : Int)) W := hrun0
     have hrun2 : ∀ W : World, (Instr.index 9 (.string SN) (.int .i64 2)).run Tryz.prog W = .ok (.int .u8 (x2 : Int)) W := hrun2
     have a0 := and32 x0 hx0
     have a2 := and32 x2 hx2
     obtain ⟨y0, hy0⟩ : ∃ y, y = 32 * (x0 / 32 % 2) := ⟨_, rfl⟩
     obtain ⟨y2, hy2⟩ : ∃ y, y = 32 * (x2 / 32 % 2) := ⟨_, rfl⟩
     rw [← hy0] at a0
     rw [← hy2] at a2
     clear hy0 hy2
     by_cases z0 : y0 = 0
     ·
      have u7 : ((y0 : Int) == 0) = true := by simp; omega
      go_wp2
      go_ret
      exact .no (by decide) HR1.out
     have u7 : ((y0 : Int) == 0) = false := by simp; omega
     by_cases z2 : y2 = 0
     ·
      have u8 : ((y2 : Int) != 0) = false := by simp; omega
      go_wp2
      go_ret
      exact Hfin.out _ _ _ HR1.out (by have := Hg4.out; have := Hstg.out; rw [if_pos (by omega)]; rfl) (by have := Hg4.out; have := Hstg.out; omega)
     ·
      have u8 : ((y2 : Int) != 0) = true := by simp; omega
      go_wp2
      go_ret
      exact .no (by decide) HR1.out
  ·
   have u1 : (st != 0) = true := by simp; omega
   go_wp2
   go_ret
   exact .no hst HR1.out
 ·
  have t4 : ((stg : Int) == 4) = false := by simp; omega
  go_enter Tryz.func46, Tryz.ntmps46
  by_cases g0 : stg = 0
  ·
   have t0 : ((stg : Int) == 0) = true := by simp; omega
   go_wp2
   go_loopg [136] 4 (fun gh v wr => ∃ k, v = .int .i64 ((k : Nat) : Int) ∧ k + gh = 4 ∧ wr = w)
   case atStart => exact ⟨0, rfl, by omega, rfl⟩
   case round =>
    obtain ⟨k, rfl, hj, hwr⟩ := hrel
    subst hwr
    by_cases hlt : k < 4
    ·
     have hki : (k : Int) < 4 := by omega
     have hkd : decide ((k : Int) < 4) = true := decide_eq_true hki
     obtain ⟨x, hx, hrun⟩ := Hix.out k hlt
     obtain ⟨y, hy, hyb⟩ := or_u8 x hx
     by_cases y1 : y < 97
     ·
      have u3 : decide ((y : Int) < 97) = true := by simp; omega
      have u4 : (y : Int) < 97 := by omega
      go_wp2
      go_ret
      exact .no (by decide) HR.out
     ·
      have u3 : decide ((y : Int) < 97) = false := by simp; omega
      have u4 : ¬ (y : Int) < 97 := by omega
      by_cases y2 : 122 < y
      ·
       have u5 : decide ((122 : Int) < (y : Int)) = true := by simp; omega
       have u6 : (122 : Int) < (y : Int) := by omega
       go_wp2
       go_ret
       exact .no (by decide) HR.out
      ·
       have u5 : decide ((122 : Int) < (y : Int)) = false := by simp; omega
       have u6 : ¬ (122 : Int) < (y : Int) := by omega
       go_wp2
       go_roundg (gk - 1)
       case measure => omega
       case rel => exact ⟨k + 1, by first | rfl | (simp; done) | (congr 1; omega), by omega, rfl⟩
    ·
     have hki : ¬ (k : Int) < 4 := by omega
     have hkd : decide ((k : Int) < 4) = false := decide_eq_false hki
     obtain ⟨x0, hx0, hrun0⟩ := Hix.out 0 (by omega)
     obtain ⟨x2, hx2, hrun2⟩ := Hix.out 2 (by omega)
     have hrun0 : ∀ W : World, (Instr.index 9 (.string SN) (.int .i64 0)).run Tryz.prog W = .ok (.int .u8 (x0 : Int)) W := hrun0
     have hrun2 : ∀ W : World, (Instr.index 9 (.string SN) (.int .i64 2)).run Tryz.prog W = .ok (.int .u8 (x2 : Int)) W := hrun2
     have a0 := and32 x0 hx0
     have a2 := and32 x2 hx2
     obtain ⟨y0, hy0⟩ : ∃ y, y = 32 * (x0 / 32 % 2) := ⟨_, rfl⟩
     obtain ⟨y2, hy2⟩ : ∃ y, y = 32 * (x2 / 32 % 2) := ⟨_, rfl⟩
     rw [← hy0] at a0
     rw [← hy2] at a2
     clear hy0 hy2
     go_wp2
     go_ret
     exact .no (by decide) HR.out
  ·
   have t0 : ((stg : Int) == 0) = false := by simp; omega
   go_wp2
   go_loopg [136] 4 (fun gh v wr => ∃ k, v = .int .i64 ((k : Nat) : Int) ∧ k + gh = 4 ∧ wr = w)
   case atStart => exact ⟨0, rfl, by omega, rfl⟩
   case round =>
    obtain ⟨k, rfl, hj, hwr⟩ := hrel
    subst hwr
    by_cases hlt : k < 4
    ·
     have hki : (k : Int) < 4 := by omega
     have hkd : decide ((k : Int) < 4) = true := decide_eq_true hki
     obtain ⟨x, hx, hrun⟩ := Hix.out k hlt
     obtain ⟨y, hy, hyb⟩ := or_u8 x hx
     by_cases y1 : y < 97
     ·
      have u3 : decide ((y : Int) < 97) = true := by simp; omega
      have u4 : (y : Int) < 97 := by omega
      go_wp2
      go_ret
      exact .no (by decide) HR.out
     ·
      have u3 : decide ((y : Int) < 97) = false := by simp; omega
      have u4 : ¬ (y : Int) < 97 := by omega
      by_cases y2 : 122 < y
      ·
       have u5 : decide ((122 : Int) < (y : Int)) = true := by simp; omega
       have u6 : (122 : Int) < (y : Int) := by omega
       go_wp2
       go_ret
       exact .no (by decide) HR.out
      ·
       have u5 : decide ((122 : Int) < (y : Int)) = false := by simp; omega
       have u6 : ¬ (122 : Int) < (y : Int) := by omega
       go_wp2
       go_roundg (gk - 1)
       case measure => omega
       case rel => exact ⟨k + 1, by first | rfl | (simp; done) | (congr 1; omega), by omega, rfl⟩
    ·
     have hki : ¬ (k : Int) < 4 := by omega
     have hkd : decide ((k : Int) < 4) = false := decide_eq_false hki
     obtain ⟨x0, hx0, hrun0⟩ := Hix.out 0 (by omega)
     obtain ⟨x2, hx2, hrun2⟩ := Hix.out 2 (by omega)
     have hrun0 : ∀ W : World, (Instr.index 9 (.string SN) (.int .i64 0)).run Tryz.prog W = .ok (.int .u8 (x0 : Int)) W := hrun0
     have hrun2 : ∀ W : World, (Instr.index 9 (.string SN) (.int .i64 2)).run Tryz.prog W = .ok (.int .u8 (x2 : Int)) W := hrun2
     have a0 := and32 x0 hx0
     have a2 := and32 x2 hx2
     obtain ⟨y0, hy0⟩ : ∃ y, y = 32 * (x0 / 32 % 2) := ⟨_, rfl⟩
     obtain ⟨y2, hy2⟩ : ∃ y, y = 32 * (x2 / 32 % 2) := ⟨_, rfl⟩
     rw [← hy0] at a0
     rw [← hy2] at a2
     clear hy0 hy2
     by_cases z0 : y0 = 0
     ·
      have u7 : ((y0 : Int) == 0) = true := by simp; omega
      go_wp2
      go_ret
      exact .no (by decide) HR.out
     have u7 : ((y0 : Int) == 0) = false := by simp; omega
     by_cases z2 : y2 = 0
     ·
      have u8 : ((y2 : Int) != 0) = false := by simp; omega
      go_wp2
      go_ret
      exact Hfin.out _ _ _ HR.out (by have := Hstg.out; rw [if_neg (by omega)]) (by have := Hstg.out; omega)
     ·
      have u8 : ((y2 : Int) != 0) = true := by simp; omega
      go_wp2
      go_ret
      exact .no (by decide) HR.out
end Go.Proofs.YtnpkgmgedgcjmaaGreatDoor
end
