/- A part of the proof: El. -/
import Derived.Test.YtnpkgmgedgcjmaaGreatDoorZEj
set_option linter.all false
set_option maxRecDepth 100000
section
namespace Go.Proofs.YtnpkgmgedgcjmaaGreatDoor
open Go Go.RowKit Png Go.Proofs.YtnpkgmgedgcjmaaGreatDoorW.PrintWords Go.Proofs.YtnpkgmgedgcjmaaGreatDoorW.PrintMore Go.Proofs.YtnpkgmgedgcjmaaGreatDoor.Pr
theorem palQ_succ (b : List UInt8) (j : Nat) : palQ b (j + 1) = palQ b j ++ [⟨257 * nb b (3 * j), 257 * nb b (3 * j + 1), 257 * nb b (3 * j + 2), 65535⟩] := q4s_succ _ _ _ _ _
set_option maxHeartbeats 8000000 in
theorem shades_c {w0 w : World} {f : Nat} {s : RS} {used : Nat} {v5 : Value} {pp : Option Addr} {pn pc : Nat} {cp : Option Addr} {cn cc : Nat} {rp : Option Addr} {rn rc : Nat} (h : RD w0 w f s used v5 pp pn pc cp cn cc rp rn rc) (h1 : s.stage = 1) (hk : Kinds s.ct s.dp) (hpn : s.pal.length ≤ 256) {b : List UInt8} {A : Option Addr} {bc : Nat} (hA : Bsl w0 A b) (hbc : b.length ≤ bc) (hbl : b.length ≤ 1073741824) :
  Calls Tryz.prog 61 #[.pointer (some ⟨f, 0, none⟩), .slice A b.length bc] w fun e w' => ChunkP w0 w' f s used nPLTE b e := by
 have HR := Lib.hid h
 obtain ⟨W, H, dp, ct, il, pal, clr, stage, rest⟩ := s
 dsimp only at h1 hk hpn
 subst h1
 obtain ⟨c0, c1, c2, c3, c4, c5, c6, c7, c8, c9, c10, c11, fz, hhs⟩ := h.cells
 dsimp only at c2 c3
 have hsh : Op.shift .shl .i64 1 .i64 (dp : Int) = pure (.int .i64 ((2 ^ dp : Nat) : Int)) := by
  rcases hk.dps with rfl | rfl | rfl | rfl | rfl <;> rfl
 have hsh2 : wrap64 ((2 : Int) ^ dp) = ((2 ^ dp : Nat) : Int) := by
  rcases hk.dps with rfl | rfl | rfl | rfl | rfl <;> (unfold wrap64; rfl)
 have htop := hk.tops.2
 obtain ⟨T, hT⟩ : ∃ T, T = 2 ^ dp := ⟨_, rfl⟩
 rw [← hT] at hsh hsh2 htop
 obtain ⟨n, hn⟩ : ∃ n, n = b.length := ⟨_, rfl⟩
 have hnb : n ≤ 1073741824 := by omega
 obtain ⟨r, hr⟩ : ∃ r, r = n % 3 := ⟨_, rfl⟩
 obtain ⟨q, hq⟩ : ∃ q, q = n / 3 := ⟨_, rfl⟩
 have er : Int.tmod (n : Int) 3 = (r : Int) := by rw [Int.tmod_eq_emod_of_nonneg (by omega)]; omega
 have eq1 : Int.tdiv (n : Int) 3 = (q : Int) := by rw [Int.tdiv_eq_ediv_of_nonneg (by omega)]; omega
 have ew : IntKind.i64.wrap (q : Int) = (q : Int) := IntWalk.i64_in _ (by omega)
 have ewr : IntKind.i64.wrap (r : Int) = (r : Int) := IntWalk.i64_in _ (by omega)
 have hA2 : Bsl w0 A b := hA
 have HA := Lib.hid hA
 have Hn := Lib.hid hn
 have Hbc := Lib.hid hbc
 have Hrq := Lib.hid (And.intro hr hq)
 have HT := Lib.hid hT
 have Hk := Lib.hid hk
 have Hpn := Lib.hid hpn
 have hge := h.low.size
 rw [← hn]
 clear h hA hA2 hbc hbl hn hr hq hT hk hpn c0 c1 c4 c5 c6 c7 c8 c9 c10 c11
 go_enter Tryz.func61, Tryz.ntmps61
 by_cases g0 : ct = 0
 ·
  have t0 : ((ct : Int) == 0) = true := by simp; omega
  go_wp2
  go_ret
  exact .no (by decide) (HR.out)
 have t0 : ((ct : Int) == 0) = false := by simp; omega
 by_cases g4 : ct = 4
 ·
  have t4 : ((ct : Int) == 4) = true := by simp; omega
  go_wp2
  go_ret
  exact .no (by decide) (HR.out)
 have t4 : ((ct : Int) == 4) = false := by simp; omega
 by_cases g5 : n = 0
 ·
  have t5 : ((n : Int) == 0) = true := by simp; omega
  go_wp2
  go_ret
  exact .no (by decide) (HR.out)
 have t5 : ((n : Int) == 0) = false := by simp; omega
 by_cases g6 : r = 0
 ·
  have t6 : ((r : Int) != 0) = false := by simp; omega
  by_cases g7 : 768 < n
  ·
   have t7 : decide ((768 : Int) < (n : Int)) = true := by simp; omega
   have t8 : (768 : Int) < (n : Int) := by omega
   go_wp2
   go_ret
   exact .no (by decide) (HR.out)
  have t7 : decide ((768 : Int) < (n : Int)) = false := by simp; omega
  have t8 : ¬ (768 : Int) < (n : Int) := by omega
  by_cases g8 : T < q
  ·
   have t9 : decide ((T : Int) < (q : Int)) = true := by simp; omega
   have t10 : (T : Int) < (q : Int) := by omega
   go_wp2
   go_ret
   exact .no (by decide) (HR.out)
  have t9 : decide ((T : Int) < (q : Int)) = false := by simp; omega
  have t10 : ¬ (T : Int) < (q : Int) := by omega
  obtain ⟨ab, ao, rfl, hseg0⟩ : ∃ ab ao, A = some ⟨ab, ao, none⟩ ∧ Seg w0 ab ao b := by
   rcases HA.out with h | ⟨b0, off, h1, h2⟩
   ·
    exact absurd (Hn.out.trans (by rw [h]; rfl)) g5
   ·
    exact ⟨b0, off, h1, h2⟩
  have hab0 : ab < w0.heap.size := World.block_lt_of_cell? w0 ⟨ab, ao + 0, none⟩ (hseg0 0 (by have := Hn.out; omega))
  have Hseg := Lib.hid (show ∀ W', Below w0.heap.size w0 W' → Seg W' ab ao b from fun W' hb => hseg0.below hb hab0)
  have Hn3 := Lib.hid (show n = 3 * q by have := Hrq.out; omega)
  have hfab : f ≠ ab := by have := HR.out.ge; omega
  clear hseg0
  go_wp2
  clear c2 c3 fz hhs er eq1 ew ewr hsh hsh2 t0 t4 t5 t6 t7 t8 t9 t10
  go_loopg [6] q (fun gh v wr => ∃ j kk pp2 pn2 pc2, v = .int .i64 ((kk : Nat) : Int) ∧ j + gh = q ∧ Hid (kk = 3 * j) ∧ Hid (RD w0 wr f ⟨W, H, dp, ct, il, pal ++ palQ b j, clr, 1, rest⟩ used v5 pp2 pn2 pc2 cp cn cc rp rn rc))
  case atStart => exact ⟨0, 0, pp, pn, pc, rfl, by omega, Lib.hid rfl, Lib.hid (by rw [show palQ b 0 = [] from rfl, List.append_nil]; exact HR.out)⟩
  case round =>
   obtain ⟨j, kk, pp2, pn2, pc2, rfl, hj, Hkk, HRr⟩ := hrel
   have Hj := Lib.hid hj
   have hkk := Hkk.out
   have hn3 := Hn3.out
   by_cases hlt : kk < n
   ·
    have hjq : j < q := by omega
    have hki : (kk : Int) < (n : Int) := by omega
    have hkd : decide ((kk : Int) < (n : Int)) = true := decide_eq_true hki
    obtain ⟨k1, hk1⟩ : ∃ k1, k1 = kk + 1 := ⟨_, rfl⟩
    obtain ⟨k2, hk2⟩ : ∃ k2, k2 = kk + 2 := ⟨_, rfl⟩
    have ek1 : (kk : Int) + 1 = (k1 : Int) := by omega
    have ek2 : (kk : Int) + 2 = (k2 : Int) := by omega
    have ew1 : IntKind.i64.wrap (k1 : Int) = (k1 : Int) := IntWalk.i64_in _ (by omega)
    have ew2 : IntKind.i64.wrap (k2 : Int) = (k2 : Int) := IntWalk.i64_in _ (by omega)
    have hk1i : (k1 : Int) < (n : Int) := by omega
    have hk2i : (k2 : Int) < (n : Int) := by omega
    have hs := Hseg.out wr HRr.out.low
    have l0 := hs kk (by have := Hn.out; omega)
    have l1 := hs k1 (by have := Hn.out; omega)
    have l2 := hs k2 (by have := Hn.out; omega)
    obtain ⟨x0, hx0⟩ : ∃ x, x = nb b kk := ⟨_, rfl⟩
    obtain ⟨x1, hx1⟩ : ∃ x, x = nb b k1 := ⟨_, rfl⟩
    obtain ⟨x2, hx2⟩ : ∃ x, x = nb b k2 := ⟨_, rfl⟩
    rw [← hx0] at l0
    rw [← hx1] at l1
    rw [← hx2] at l2
    have z0 : x0 < 256 := by rw [hx0]; exact nb_lt b kk
    have z1 : x1 < 256 := by rw [hx1]; exact nb_lt b k1
    have z2 : x2 < 256 := by rw [hx2]; exact nb_lt b k2
    obtain ⟨u0, hu0⟩ : ∃ u, u = 257 * x0 := ⟨_, rfl⟩
    obtain ⟨u1, hu1⟩ : ∃ u, u = 257 * x1 := ⟨_, rfl⟩
    obtain ⟨u2, hu2⟩ : ∃ u, u = 257 * x2 := ⟨_, rfl⟩
    have eu0 : (257 : Int) * (x0 : Int) = (u0 : Int) := by omega
    have eu1 : (257 : Int) * (x1 : Int) = (u1 : Int) := by omega
    have eu2 : (257 : Int) * (x2 : Int) = (u2 : Int) := by omega
    have ewx0 : IntKind.i64.wrap (x0 : Int) = (x0 : Int) := IntWalk.i64_in _ (by omega)
    have ewx1 : IntKind.i64.wrap (x1 : Int) = (x1 : Int) := IntWalk.i64_in _ (by omega)
    have ewx2 : IntKind.i64.wrap (x2 : Int) = (x2 : Int) := IntWalk.i64_in _ (by omega)
    have ewu0 : IntKind.i64.wrap (u0 : Int) = (u0 : Int) := IntWalk.i64_in _ (by omega)
    have ewu1 : IntKind.i64.wrap (u1 : Int) = (u1 : Int) := IntWalk.i64_in _ (by omega)
    have ewu2 : IntKind.i64.wrap (u2 : Int) = (u2 : Int) := IntWalk.i64_in _ (by omega)
    have Hpq := Lib.hid (show palQ b (j + 1) = palQ b j ++ [⟨u0, u1, u2, 65535⟩] by rw [palQ_succ, hu0, hu1, hu2, hx0, hx1, hx2, hk1, hk2, hkk])
    have hpl : pn2 ≤ 512 := by
     have e1 := HRr.out.pal.1
     have e2 : (palQ b j).length = j := q4s_length _ _ _ _ _
     simp only [List.length_append, e2] at e1
     have := Hpn.out
     omega
    have HO : Hid (Od wr w0.heap.size pp2 pn2 pc2 (pal ++ palQ b j)) := Lib.hid HRr.out.pal
    obtain ⟨c0, c1, c2, c3, c4, c5, c6, c7, c8, c9, c10, c11, fz, hhs⟩ := HRr.out.cells
    have hwr : w0.heap.size ≤ wr.heap.size := HRr.out.low.size
    have hfw : f < wr.heap.size := HRr.out.lt
    have habw : ab < wr.heap.size := Nat.lt_of_lt_of_le hab0 hwr
    clear hn3 hx0 hx1 hx2 hu0 hu1 hu2 hk1 hk2 hs hj hkk c0 c1 c2 c3 c4 c5 c7 c8 c9 c10 c11
    have HabK : Hid (∀ W4 : World, (wr.drew.alloc (.cells #[.int .i64 (u0 : Int), .int .i64 (u1 : Int), .int .i64 (u2 : Int), .int .i64 65535] 75)).grownBy W4 (pp2.map (·.block)) → ∀ o, W4.cell? ⟨ab, o, none⟩ = wr.cell? ⟨ab, o, none⟩) := Lib.hid fun W4 hG o =>
     World.cell?_of_block (a := ⟨ab, o, none⟩) ((hG.block ab (Nat.lt_of_lt_of_le habw (by simp)) (fun e => absurd (owns_lt HO.out.2 _ e.symm).1 (Nat.not_le_of_lt hab0))).trans (heap_alloc_old wr.drew _ habw))
    go_upto_region 7 with (fail)
    go_region_law (first
     | (refine step_appD rfl (.tmp 64) (.tmp 86) (by rfl) w0.heap.size pn2 pc2 1 1 pp2 (some ⟨wr.heap.size, 0, none⟩) (pal ++ palQ b j) [⟨u0, u1, u2, 65535⟩] (by rfl) (by rfl) (Od.alloc (w := wr.drew) HO.out _) (wr.heap.size + 1) (reads_new wr.drew _ 75 _ 4 1 _ (by rfl) (by simp [dvals, dval]) (Nat.lt_succ_self _) _ (by rfl)) (Nat.le_trans (Nat.add_le_add_right hpl 1) (by decide)) (Nat.le_trans hwr (by simp)) ?_; intro p4 c4' w4 hO4 hG4 hL4; have HO4 := Lib.hid hO4; have HG4 := Lib.hid hG4; have HRa := Lib.hid ((HRr.out.drew).alloc (.cells #[.int .i64 (u0 : Int), .int .i64 (u1 : Int), .int .i64 (u2 : Int), .int .i64 65535] 75)); have hB4 := HRa.out.grownBlk hG4 (.inl rfl); have HB4 := Lib.hid hB4; have d6 := hB4.1.cell 6; have dz := hB4.1.frozen 6; have d6' : w4.cell? ⟨f, 6, none⟩ = some (.slice pp2 pn2 pc2) := d6; have m0 := (HabK.out _ hG4 _).trans l0; have m1 := (HabK.out _ hG4 _).trans l1; have m2 := (HabK.out _ hG4 _).trans l2; clear hO4 hG4 hL4 hB4 d6)
     | fail)
    all_goals
     go_wp2
     go_roundg (gk - 1)
     case measure => have := Hj.out; omega
     case rel =>
      refine ⟨j + 1, kk + 3, p4, pn2 + 1, c4', by first | rfl | (simp; done) | (congr 1; omega), by have := Hj.out; omega, Lib.hid (by have := Hkk.out; omega), Lib.hid ?_⟩
      exact RD.put HB4.out.1 HB4.out.2 HR.out.ge (s2 := ⟨W, H, dp, ct, il, pal ++ palQ b (j + 1), clr, 1, rest⟩) (used2 := used) (v52 := v5) (by rw [Hpq.out, ← List.append_assoc]; exact HO4.out) (HRa.out.keepClear HG4.out (.inl rfl)) (HRa.out.keepRest HG4.out (.inl rfl)) HR.out.sl 6 (.slice p4 (pn2 + 1) c4') rfl
   ·
    have hki : ¬ (kk : Int) < (n : Int) := by omega
    have hkd : decide ((kk : Int) < (n : Int)) = false := decide_eq_false hki
    obtain ⟨c0, c1, c2, c3, c4, c5, c6, c7, c8, c9, c10, c11, fz, hhs⟩ := HRr.out.cells
    dsimp only at c10
    clear c0 c1 c2 c3 c4 c5 c6 c7 c8 c9 c11 hj hkk hn3
    go_wp2
    go_ret
    have hjq : j = q := by have := Hj.out; have := Hkk.out; have := Hn3.out; omega
    have hfin := HRr.out.far 10 (.int .i64 2) (s2 := ⟨W, H, dp, ct, il, pal ++ palQ b j, clr, 2, rest⟩) (used2 := used) (v52 := v5) rfl HR.out.sl rfl rfl rfl
    refine .mk ⟨W, H, dp, ct, il, pal ++ palQ b j, clr, 2, rest⟩ (by first | exact hfin | exact hfin.drew | exact hfin.drewN _) fun _ => ?_
    have hbq : j = b.length / 3 := by rw [hjq, Hrq.out.2, Hn.out]
    rw [hbq]
    refine StepG.plte ⟨W, H, dp, ct, il, pal, clr, 1, rest⟩ b rfl ?_ ?_ ?_ ?_
    ·
     have := Hn.out; omega
    ·
     have := Hrq.out.1; rw [← Hn.out]; omega
    ·
     rw [← Hn.out]; omega
    ·
     show b.length / 3 ≤ 2 ^ dp
     rw [← hbq, ← HT.out]; omega
 ·
  have t6 : ((r : Int) != 0) = true := by simp; omega
  go_wp2
  go_ret
  exact .no (by decide) (HR.out)
end Go.Proofs.YtnpkgmgedgcjmaaGreatDoor
end
