/- A part of the proof: Ek. -/
import Derived.Test.YtnpkgmgedgcjmaaGreatDoorZEj
set_option linter.all false
set_option maxRecDepth 100000
section
namespace Go.Proofs.YtnpkgmgedgcjmaaGreatDoor
open Go Go.RowKit Png Go.Proofs.YtnpkgmgedgcjmaaGreatDoorW.PrintWords Go.Proofs.YtnpkgmgedgcjmaaGreatDoorW.PrintMore Go.Proofs.YtnpkgmgedgcjmaaGreatDoor.Pr
theorem isKind_c (ct dp : Nat) : ∃ kb, (kb = true ↔ Kinds ct dp) ∧ ∀ w : World, Calls Tryz.prog 83 #[.int .i64 (ct : Int), .int .i64 (dp : Int)] w fun e w' => e = .returned (.bool kb) ∧ Dr w w' := by
 obtain ⟨kb, h1, h2⟩ := isKind_f ct dp
 refine ⟨kb, h2, fun w => (spec_IsKind.calls _ _ _ w h1).mono ?_⟩
 rintro e w' ⟨rfl, h⟩
 first
 | exact ⟨rfl, by obtain ⟨n, rfl⟩ := h; exact ⟨n, rfl⟩⟩
 | exact ⟨rfl, by subst h; exact Dr.refl _⟩
set_option maxHeartbeats 8000000 in
theorem head_c {w0 w : World} {f : Nat} {s : RS} {used : Nat} {v5 : Value} {pp : Option Addr} {pn pc : Nat} {cp : Option Addr} {cn cc : Nat} {rp : Option Addr} {rn rc : Nat} (h : RD w0 w f s used v5 pp pn pc cp cn cc rp rn rc) (h0 : s.stage = 0) {b : List UInt8} {A : Option Addr} {bc : Nat} (hA : Bsl w0 A b) (hbc : b.length ≤ bc) (hbl : b.length ≤ 1073741824) :
  Calls Tryz.prog 60 #[.pointer (some ⟨f, 0, none⟩), .slice A b.length bc] w fun e w' => ChunkP w0 w' f s used nIHDR b e := by
 have HR := Lib.hid h
 by_cases hl : b.length = 13
 ·
  obtain ⟨ab, ao, rfl, hseg0⟩ : ∃ ab ao, A = some ⟨ab, ao, none⟩ ∧ Seg w0 ab ao b := by
   rcases hA with h | ⟨b0, off, h1, h2⟩
   ·
    rw [h] at hl; simp at hl
   ·
    exact ⟨b0, off, h1, h2⟩
  have hab0 : ab < w0.heap.size := World.block_lt_of_cell? w0 ⟨ab, ao + 0, none⟩ (hseg0 0 (by omega))
  have hseg : ∀ W', Below w0.heap.size w0 W' → Seg W' ab ao b := fun W' hb => hseg0.below hb hab0
  have Hseg := Lib.hid hseg
  have hs := hseg w h.low
  have k8 := hs 8 (by omega)
  have k9 := hs 9 (by omega)
  have k12 := hs 12 (by omega)
  have hfab : f ≠ ab := by have := h.ge; omega
  obtain ⟨x8, hx8⟩ : ∃ x, x = nb b 8 := ⟨_, rfl⟩
  obtain ⟨x9, hx9⟩ : ∃ x, x = nb b 9 := ⟨_, rfl⟩
  obtain ⟨x10, hx10⟩ : ∃ x, x = nb b 10 := ⟨_, rfl⟩
  obtain ⟨x11, hx11⟩ : ∃ x, x = nb b 11 := ⟨_, rfl⟩
  obtain ⟨x12, hx12⟩ : ∃ x, x = nb b 12 := ⟨_, rfl⟩
  rw [← hx8] at k8
  rw [← hx9] at k9
  rw [← hx12] at k12
  have y8 : x8 < 256 := by rw [hx8]; exact nb_lt b 8
  have y9 : x9 < 256 := by rw [hx9]; exact nb_lt b 9
  have y10 : x10 < 256 := by rw [hx10]; exact nb_lt b 10
  have y11 : x11 < 256 := by rw [hx11]; exact nb_lt b 11
  have y12 : x12 < 256 := by rw [hx12]; exact nb_lt b 12
  have e8 : IntKind.i64.wrap (x8 : Int) = (x8 : Int) := IntWalk.i64_in _ (by omega)
  have e9 : IntKind.i64.wrap (x9 : Int) = (x9 : Int) := IntWalk.i64_in _ (by omega)
  obtain ⟨W, hW⟩ : ∃ W, W = be4 b 0 := ⟨_, rfl⟩
  obtain ⟨H, hH⟩ : ∃ H, H = be4 b 4 := ⟨_, rfl⟩
  have hWb : W < 4294967296 := by rw [hW]; exact be4_lt b 0
  have hHb : H < 4294967296 := by rw [hH]; exact be4_lt b 4
  have eW : IntKind.i64.wrap (W : Int) = (W : Int) := IntWalk.i64_in _ (by omega)
  have eH : IntKind.i64.wrap (H : Int) = (H : Int) := IntWalk.i64_in _ (by omega)
  have HF : Hid (∀ (z : Int) (W' : World), Dr w W' → (z = 0 ∨ z = 4) → Calls Tryz.prog 44 #[.slice (some ⟨ab, ao, none⟩) 13 bc, .int .i64 z] W' fun e w' => ∃ x : Int, e = .returned (.int .u32 x) ∧ (z = 0 → x = (W : Int)) ∧ (z = 4 → x = (H : Int)) ∧ Dr W' w') := Lib.hid fun z W' hW' hz => by
   obtain ⟨n, rfl⟩ := hW'
   have hb : Kd.C (Kd.int .u8) (w.drewN n) (some ⟨ab, ao, none⟩) (ints b).length (ints b) := C_bsl (show Bsl (w.drewN n) (some ⟨ab, ao, none⟩) b from .inr ⟨ab, ao, rfl, hs⟩) (by omega)
   rcases hz with rfl | rfl
   ·
    have q := four_c b 0 (by omega) (by omega) (some ⟨ab, ao, none⟩) bc hbc (w.drewN n) hb
    rw [hl, ← hW] at q
    refine q.mono ?_
    rintro e w' ⟨rfl, h⟩
    exact ⟨_, rfl, fun _ => rfl, fun h => absurd h (by decide), h⟩
   ·
    have q := four_c b 4 (by omega) (by omega) (some ⟨ab, ao, none⟩) bc hbc (w.drewN n) hb
    rw [hl, ← hH] at q
    refine q.mono ?_
    rintro e w' ⟨rfl, h⟩
    exact ⟨_, rfl, fun h => absurd h (by decide), fun _ => rfl, h⟩
  obtain ⟨iv, hiv⟩ : ∃ iv : Bool, iv = (x12 == 1) := ⟨_, rfl⟩
  have eiv : ((x12 : Int) == 1) = iv := by rw [hiv, Bool.eq_iff_iff]; simp; omega
  obtain ⟨kb, hkb, hkc⟩ := isKind_c x9 x8
  have HX := Lib.hid (And.intro hx8 (And.intro hx9 (And.intro hx10 (And.intro hx11 (And.intro hx12 (And.intro hW (And.intro hH hiv)))))))
  have HK := Lib.hid (And.intro hkb hkc)
  have H0 := Lib.hid h0
  have Hl := Lib.hid hl
  obtain ⟨c0, c1, c2, c3, c4, c5, c6, c7, c8, c9, c10, c11, fz, hhs⟩ := h.cells
  rw [hl]
  clear h hA hs hseg hseg0 hx8 hx9 hx10 hx11 hx12 hW hH hiv hkb hkc h0 hl hbl hbc c5 c6 c7 c8 c9 c10 c11
  go_enter Tryz.func60, Tryz.ntmps60
  go_wp2
  go_cut [] (fun wx => Hid (RD w0 wx f ⟨W, H, x8, x9, iv, s.pal, s.clear, s.stage, s.rest⟩ used v5 pp pn pc cp cn cc rp rn rc))
  case first =>
   go_region_held3 (fun w' => w'.cell? ⟨ab, ao + 8, none⟩ = some (.int .u8 (x8 : Int)) ∧ w'.cell? ⟨ab, ao + 9, none⟩ = some (.int .u8 (x9 : Int)) ∧ w'.cell? ⟨ab, ao + 12, none⟩ = some (.int .u8 (x12 : Int)))
    (refine ⟨?_, ?_, ?_⟩ <;> go_simp)
    (first
     | (go_at_call 44; refine (HF.out _ _ ⟨_, rfl⟩ (by decide)).mono ?_; rintro e w5 ⟨x, rfl, hx0, hx4, ⟨m5, rfl⟩⟩; (first | (have hx := hx0 rfl; subst hx; clear hx0 hx4) | (have hx := hx4 rfl; subst hx; clear hx0 hx4)))
     | fail)
   all_goals
    go_wp2
    go_meet
    case rel =>
     refine Lib.hid ?_
     have q0 := HR.out.far 0 (.int .i64 (W : Int)) (s2 := ⟨W, s.H, s.dp, s.ct, s.il, s.pal, s.clear, s.stage, s.rest⟩) (used2 := used) (v52 := v5) rfl HR.out.sl rfl rfl rfl
     have q1 := q0.far 1 (.int .i64 (H : Int)) (s2 := ⟨W, H, s.dp, s.ct, s.il, s.pal, s.clear, s.stage, s.rest⟩) (used2 := used) (v52 := v5) rfl HR.out.sl rfl rfl rfl
     have q2 := q1.far 2 (.int .i64 (x8 : Int)) (s2 := ⟨W, H, x8, s.ct, s.il, s.pal, s.clear, s.stage, s.rest⟩) (used2 := used) (v52 := v5) rfl HR.out.sl rfl rfl rfl
     have q3 := q2.far 3 (.int .i64 (x9 : Int)) (s2 := ⟨W, H, x8, x9, s.il, s.pal, s.clear, s.stage, s.rest⟩) (used2 := used) (v52 := v5) rfl HR.out.sl rfl rfl rfl
     have q4 := q3.far 4 (.bool iv) (s2 := ⟨W, H, x8, x9, iv, s.pal, s.clear, s.stage, s.rest⟩) (used2 := used) (v52 := v5) rfl HR.out.sl rfl rfl rfl
     first | exact q4 | exact q4.drew | exact q4.drewN _ | (trace_state; fail)
  case rest =>
   have HR3 := hcut
   obtain ⟨d0, d1, d2, d3, d4, d5, d6, d7, d8, d9, d10, d11, dz, ds⟩ := HR3.out.cells
   dsimp only at d0 d1 d2 d3
   have hsc := Hseg.out wc HR3.out.low
   have m10 := hsc 10 (by have := Hl.out; omega)
   have m11 := hsc 11 (by have := Hl.out; omega)
   have m12 := hsc 12 (by have := Hl.out; omega)
   rw [← HX.out.2.2.1] at m10
   rw [← HX.out.2.2.2.1] at m11
   rw [← HX.out.2.2.2.2.1] at m12
   have HKc := Lib.hid HK.out.2
   clear c0 c1 c2 c3 c4 fz hhs k8 k9 k12 HF d4 d5 d6 d7 d8 d9 d11 hsc hcut
   go_wp2
   by_cases w1 : W = 0
   ·
    have t1 : ((W : Int) == 0) = true := by simp; omega
    go_quiet (fail)
    go_wp2
    go_ret
    exact .no (by decide) (HR3.out.drewN _)
   have t1 : ((W : Int) == 0) = false := by simp; omega
   by_cases w2 : H = 0
   ·
    have t2 : ((H : Int) == 0) = true := by simp; omega
    go_quiet (fail)
    go_wp2
    go_ret
    exact .no (by decide) (HR3.out.drewN _)
   have t2 : ((H : Int) == 0) = false := by simp; omega
   by_cases w3 : kb = true
   ·
    subst w3
    by_cases w4 : x10 = 0
    ·
     have t4 : ((x10 : Int) != 0) = false := by simp; omega
     by_cases w5 : x11 = 0
     ·
      have t5 : ((x11 : Int) != 0) = false := by simp; omega
      by_cases w6 : 1 < x12
      ·
       have t6 : decide ((1 : Int) < (x12 : Int)) = true := by simp; omega
       have t7 : (1 : Int) < (x12 : Int) := by omega
       go_quiet ((go_at_call 83; exact calls_dr (HKc.out _)))
       go_wp2
       go_ret
       exact .no (by decide) (HR3.out.drewN _)
      ·
       have t6 : decide ((1 : Int) < (x12 : Int)) = false := by simp; omega
       have t7 : ¬ (1 : Int) < (x12 : Int) := by omega
       go_quiet ((go_at_call 83; exact calls_dr (HKc.out _)))
       go_wp2
       go_ret
       refine .mk ⟨W, H, x8, x9, iv, s.pal, s.clear, 1, s.rest⟩ ((HR3.out.drewN _).far 10 (.int .i64 1) (s2 := ⟨W, H, x8, x9, iv, s.pal, s.clear, 1, s.rest⟩) (used2 := used) (v52 := v5) rfl HR.out.sl rfl rfl rfl) fun _ => ?_
       ·
        obtain ⟨a8, a9, a10, a11, a12, aW, aH, ai⟩ := HX.out
        rw [ai, aW, aH, a8, a9, a12]
        refine StepG.ihdr s b H0.out Hl.out (by omega) (by omega) ?_ (by omega) (by omega) (by omega)
        rw [← a8, ← a9]
        first | exact HK.out.1.1 rfl | exact HK.out.1.1 trivial
     ·
      have t5 : ((x11 : Int) != 0) = true := by simp; omega
      go_quiet ((go_at_call 83; exact calls_dr (HKc.out _)))
      go_wp2
      go_ret
      exact .no (by decide) (HR3.out.drewN _)
    ·
     have t4 : ((x10 : Int) != 0) = true := by simp; omega
     go_quiet ((go_at_call 83; exact calls_dr (HKc.out _)))
     go_wp2
     go_ret
     exact .no (by decide) (HR3.out.drewN _)
   ·
    have w3 : kb = false := by simpa using w3
    subst w3
    go_quiet ((go_at_call 83; exact calls_dr (HKc.out _)))
    go_wp2
    go_ret
    exact .no (by decide) (HR3.out.drewN _)
 ·
  obtain ⟨n, hn⟩ : ∃ n, n = b.length := ⟨_, rfl⟩
  have t1 : ((n : Int) != 13) = true := by simp; omega
  rw [← hn]
  clear h hA hbc hbl hl hn
  go_enter Tryz.func60, Tryz.ntmps60
  go_wp2
  go_ret
  exact .no (by decide) HR.out
end Go.Proofs.YtnpkgmgedgcjmaaGreatDoor
end
