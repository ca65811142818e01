/- A part of the proof: Em. -/
import Derived.Test.YtnpkgmgedgcjmaaGreatDoorZEj
set_option linter.all false
set_option maxRecDepth 100000
section
namespace Go.Proofs.YtnpkgmgedgcjmaaGreatDoor
open Go Go.RowKit Png Go.Proofs.YtnpkgmgedgcjmaaGreatDoorW.PrintWords Go.Proofs.YtnpkgmgedgcjmaaGreatDoorW.PrintMore Go.Proofs.YtnpkgmgedgcjmaaGreatDoor.Pr
theorem dvals_setA (l : List Q4) : ∀ (k v : Nat), k < l.length → (dvals l).set (k * 4 + 3) (Value.int .i64 (v : Int)) = dvals (l.set k ⟨(l.getD k q0).r, (l.getD k q0).g, (l.getD k q0).b, v⟩) := by
 induction l with
 | nil => intro k v h; simp at h
 | cons d l ih =>
  intro k v h
  have e : ∀ d l, dvals (d :: l) = dval d ++ dvals l := fun _ _ => rfl
  cases k with
  | zero => rfl
  | succ k =>
   have := ih k v (by simpa using h)
   rw [List.set_cons_succ, e, e, List.set_append, if_neg (by show ¬ (k + 1) * 4 + 3 < 4; omega), show (k + 1) * 4 + 3 - (dval d).length = k * 4 + 3 by show (k + 1) * 4 + 3 - 4 = _; omega, this]
   rfl
theorem RD.alpha {w0 w : World} {f g : Nat} {s : RS} {used : Nat} {v5 : Value} {pn pc : Nat} {cp : Option Addr} {cn cc : Nat} {rp : Option Addr} {rn rc : Nat} (h : RD w0 w f s used v5 (some ⟨g, 0, none⟩) pn pc cp cn cc rp rn rc) (k a : Nat) (hk : k < s.pal.length) :
  RD w0 (w.setCell ⟨g, k * 4 + 3, none⟩ (.int .i64 (a : Int))) f ⟨s.W, s.H, s.dp, s.ct, s.il, s.pal.set k ⟨(s.pal.getD k q0).r, (s.pal.getD k q0).g, (s.pal.getD k q0).b, a⟩, s.clear, s.stage, s.rest⟩ used v5 (some ⟨g, 0, none⟩) pn pc cp cn cc rp rn rc := by
 obtain ⟨hx, hgb⟩ := h.pal.2.stored (k * 4 + 3) (.int .i64 (a : Int))
 rw [dvals_setA _ _ _ hk] at hx
 exact ⟨(h.grownBlk hgb (.inl rfl)).1, h.sl, ⟨by rw [List.length_set]; exact h.pal.1, hx⟩, h.keepClear hgb (.inl rfl), h.keepRest hgb (.inl rfl), (h.grownBlk hgb (.inl rfl)).2, h.ge⟩
theorem or_i64 (x y : Nat) (hx : x < 256) (hy : y < 256) : Go.bits .or .i64 ((x : Int) * 256) (y : Int) = ((x * 256 + y : Nat) : Int) := by
 have h1 := or64 (x * 256) y (by omega) (by omega)
 have h2 := Nat.two_pow_add_eq_or_of_lt (show y < 2 ^ 8 by omega) x
 rw [show 2 ^ 8 * x = x * 256 by omega] at h2
 rw [← h2] at h1
 rw [← h1]
 congr 1
theorem clrQ_succ (b : List UInt8) (j : Nat) : clrQ b (j + 1) = clrQ b j ++ [nb b (2 * j) * 256 + nb b (2 * j + 1)] := by simp [clrQ, List.range_succ]
theorem clrQ_length (b : List UInt8) (j : Nat) : (clrQ b j).length = j := by simp [clrQ]
set_option maxHeartbeats 8000000 in
theorem clears_c {w0 w : World} {f : Nat} {s : RS} {used : Nat} {v5 : Value} {pp : Option Addr} {pn pc : Nat} {cp : Option Addr} {cn cc : Nat} {rp : Option Addr} {rn rc : Nat} (h : RD w0 w f s used v5 pp pn pc cp cn cc rp rn rc) (h1 : s.stage = 1 ∨ s.stage = 2) (h3 : s.ct = 3 → s.stage = 2) (hk : Kinds s.ct s.dp) (hcn : s.clear.length ≤ 4) {b : List UInt8} {A : Option Addr} {bc : Nat} (hA : Bsl w0 A b) (hbc : b.length ≤ bc) (hbl : b.length ≤ 1073741824) :
  Calls Tryz.prog 62 #[.pointer (some ⟨f, 0, none⟩), .slice A b.length bc] w fun e w' => ChunkP w0 w' f s used ntRNS b e := by
 have HR := Lib.hid h
 obtain ⟨W, H, dp, ct, il, pal, clr, stage, rest⟩ := s
 dsimp only at h1 h3 hk hcn
 obtain ⟨c0, c1, c2, c3, c4, c5, c6, c7, c8, c9, c10, c11, fz, hhs⟩ := h.cells
 dsimp only at c3 c10
 have hsh : Op.shift .shl .i64 1 .i64 (dp : Int) = pure (.int .i64 ((2 ^ dp : Nat) : Int)) := by
  rcases hk.dps with rfl | rfl | rfl | rfl | rfl <;> rfl
 have hsh2 : wrap64 ((2 : Int) ^ dp) = ((2 ^ dp : Nat) : Int) := by
  rcases hk.dps with rfl | rfl | rfl | rfl | rfl <;> (unfold wrap64; rfl)
 have htop := hk.tops.2
 obtain ⟨T, hT⟩ : ∃ T, T = 2 ^ dp := ⟨_, rfl⟩
 rw [← hT] at hsh hsh2 htop
 obtain ⟨n, hn⟩ : ∃ n, n = b.length := ⟨_, rfl⟩
 have hnb : n ≤ 1073741824 := by omega
 have hge := h.low.size
 have hfg := h.ge
 have HR1 := Lib.hid (h.far 10 (.int .i64 3) (s2 := ⟨W, H, dp, ct, il, pal, clr, 3, rest⟩) (used2 := used) (v52 := v5) rfl h.sl rfl rfl rfl)
 have hpl : pal.length = pn := h.pal.1
 have hcl : clr.length = cn := h.clear.1
 have HA := Lib.hid hA
 have Hn := Lib.hid hn
 have Hbc := Lib.hid hbc
 have HT := Lib.hid hT
 have Hk := Lib.hid hk
 have H1 := Lib.hid (And.intro h1 h3)
 have HC := Lib.hid (chan_ok ct hk.ct)
 have hch := chan_le ct
 obtain ⟨c, hc⟩ : ∃ c, c = chan ct := ⟨_, rfl⟩
 rw [← hc] at HC hch
 have Hc := Lib.hid hc
 rw [← hn]
 clear h hA hbc hbl hn hT hk h1 h3 hc c0 c1 c2 c4 c5 c6 c7 c8 c9 c11
 go_enter Tryz.func62, Tryz.ntmps62
 by_cases hA02 : ct = 0 ∨ ct = 2
 ·
  have HA02 := Lib.hid hA02
  have hway : (((ct : Int) == 0) = true) ∨ (((ct : Int) == 0) = false ∧ ((ct : Int) == 2) = true) := by
   rcases hA02 with h | h
   ·
    exact .inl (by simp; omega)
   ·
    exact .inr ⟨by simp; omega, by simp; omega⟩
  clear hA02
  go_upto_if 18 with (fail)
  go_cut [18] (fun v wx => v = .bool true ∧ wx = w.setCell ⟨f, 10, none⟩ (.int .i64 3))
  case first =>
   rcases hway with q0 | ⟨q0, q2⟩
   all_goals
    go_wp2
    go_meet
    case rel => exact ⟨by first | rfl | (rw [q0]) | (rw [q2]) | (rw [q0, q2]), rfl⟩
  case rest =>
   obtain ⟨rfl, hw1⟩ := hcut
   have HR2 : Hid (RD w0 wc f ⟨W, H, dp, ct, il, pal, clr, 3, rest⟩ used v5 pp pn pc cp cn cc rp rn rc) := Lib.hid (by rw [hw1]; exact HR1.out)
   clear hw1 c3 c10 fz hhs hway
   obtain ⟨c0, c1, c2, c3, c4, c5, c6, c7, c8, c9, c10, c11, fz, hhs⟩ := HR2.out.cells
   dsimp only at c3
   clear c0 c1 c2 c4 c5 c6 c7 c8 c9 c10 c11 fz hhs
   go_wp2_with fail
   refine (HC.out wc).mono ?_
   rintro e w2 ⟨rfl, rfl⟩
   clear c3
   obtain ⟨n2, hn2⟩ : ∃ n2, n2 = 2 * c := ⟨_, rfl⟩
   have en2 : (2 : Int) * (c : Int) = (n2 : Int) := by omega
   have ewn2 : IntKind.i64.wrap (n2 : Int) = (n2 : Int) := IntWalk.i64_in _ (by omega)
   have Hn2 := Lib.hid hn2
   clear hn2
   by_cases hnn : n = n2
   ·
    have t1 : ((n : Int) != (n2 : Int)) = false := by simp; omega
    have Hnn := Lib.hid hnn
    clear hnn
    obtain ⟨ab, ao, rfl, hseg0⟩ : ∃ ab ao, A = some ⟨ab, ao, none⟩ ∧ Seg w0 ab ao b := by
     rcases HA.out with h | ⟨b0, off, h1, h2⟩
     ·
      have := Hn.out; have := Hnn.out; have := Hn2.out; rw [h] at *; simp at *; omega
     ·
      exact ⟨b0, off, h1, h2⟩
    have hab0 : ab < w0.heap.size := World.block_lt_of_cell? w0 ⟨ab, ao + 0, none⟩ (hseg0 0 (by have := Hn.out; have := Hnn.out; have := Hn2.out; omega))
    have Hseg := Lib.hid (show ∀ W', Below w0.heap.size w0 W' → Seg W' ab ao b from fun W' hb => hseg0.below hb hab0)
    clear hseg0
    go_wp2
    clear t1 en2 ewn2
    go_loopg [5] c (fun gh v wr => ∃ j kk cp2 cn2 cc2, v = .int .i64 ((kk : Nat) : Int) ∧ j + gh = c ∧ Hid (kk = 2 * j) ∧ Hid (∀ i, i < j → nb b (2 * i) * 256 + nb b (2 * i + 1) < T) ∧ Hid (RD w0 wr f ⟨W, H, dp, ct, il, pal, clr ++ clrQ b j, 3, rest⟩ used v5 pp pn pc cp2 cn2 cc2 rp rn rc))
    case atStart => exact ⟨0, 0, cp, cn, cc, rfl, by omega, Lib.hid rfl, Lib.hid (fun i hi => absurd hi (Nat.not_lt_zero _)), Lib.hid (by rw [show clrQ b 0 = [] from rfl, List.append_nil]; exact HR2.out)⟩
    case round =>
     obtain ⟨j, kk, cp2, cn2, cc2, rfl, hj, Hkk, Hlt, HRr⟩ := hrel
     have Hj := Lib.hid hj
     have hkk := Hkk.out
     by_cases hlt : kk < n
     ·
      have hjc : j < c := by have := Hnn.out; have := Hn2.out; omega
      have hki : (kk : Int) < (n : Int) := by omega
      have hkd : decide ((kk : Int) < (n : Int)) = true := decide_eq_true hki
      obtain ⟨k1, hk1⟩ : ∃ k1, k1 = kk + 1 := ⟨_, rfl⟩
      have ek1 : (kk : Int) + 1 = (k1 : Int) := by omega
      have ew1 : IntKind.i64.wrap (k1 : Int) = (k1 : Int) := IntWalk.i64_in _ (by omega)
      have hk1n : k1 < n := by have := Hnn.out; have := Hn2.out; omega
      have hk1i : (k1 : Int) < (n : Int) := by omega
      have hs := Hseg.out wr HRr.out.low
      have l0 := hs kk (by have := Hn.out; omega)
      have l1 := hs k1 (by have := Hn.out; omega)
      obtain ⟨x0, hx0⟩ : ∃ x, x = nb b kk := ⟨_, rfl⟩
      obtain ⟨x1, hx1⟩ : ∃ x, x = nb b k1 := ⟨_, rfl⟩
      rw [← hx0] at l0
      rw [← hx1] at l1
      have z0 : x0 < 256 := by rw [hx0]; exact nb_lt b kk
      have z1 : x1 < 256 := by rw [hx1]; exact nb_lt b k1
      have ewx0 : IntKind.i64.wrap (x0 : Int) = (x0 : Int) := IntWalk.i64_in _ (by omega)
      have ewx1 : IntKind.i64.wrap (x1 : Int) = (x1 : Int) := IntWalk.i64_in _ (by omega)
      have ewx2 : IntKind.i64.wrap ((x0 : Int) * 256) = (x0 : Int) * 256 := IntWalk.i64_in _ (by omega)
      have hor := or_i64 x0 x1 z0 z1
      obtain ⟨v, hv⟩ : ∃ v, v = x0 * 256 + x1 := ⟨_, rfl⟩
      rw [← hv] at hor
      have hv6 : v ≤ 65535 := by omega
      have ewv : IntKind.i64.wrap (v : Int) = (v : Int) := IntWalk.i64_in _ (by omega)
      have Hv := Lib.hid (show v = nb b (2 * j) * 256 + nb b (2 * j + 1) by rw [hv, hx0, hx1, hk1, hkk])
      obtain ⟨c0, c1, c2, c3, c4, c5, c6, c7, c8, c9, c10, c11, fz, hhs⟩ := HRr.out.cells
      dsimp only at c2
      have hwr : w0.heap.size ≤ wr.heap.size := HRr.out.low.size
      clear hx0 hx1 hk1 hs hj hkk hv c0 c1 c3 c4 c5 c6 c8 c9 c10 c11
      go_wp2
      go_quiet (fail)
      by_cases hvT : T ≤ v
      ·
       have t2 : decide ((T : Int) ≤ (v : Int)) = true := by simp; omega
       have t3 : (T : Int) ≤ (v : Int) := by omega
       have t4 : ¬ (v : Int) < (T : Int) := by omega
       go_wp2
       go_ret
       exact .no (by decide) (HRr.out.drewN _)
      ·
       have t2 : decide ((T : Int) ≤ (v : Int)) = false := by simp; omega
       have t3 : ¬ (T : Int) ≤ (v : Int) := by omega
       have t4 : (v : Int) < (T : Int) := by omega
       have HO : Hid (Oi wr w0.heap.size cp2 cn2 cc2 (clr ++ clrQ b j)) := Lib.hid HRr.out.clear
       have hcl2 : cn2 ≤ 16 := by
        have e1 := HRr.out.clear.1
        simp only [List.length_append, clrQ_length] at e1
        omega
       generalize hwd : World.drewN wr _ = wd
       have HRd : Hid (RD w0 wd f ⟨W, H, dp, ct, il, pal, clr ++ clrQ b j, 3, rest⟩ used v5 pp pn pc cp2 cn2 cc2 rp rn rc) := Lib.hid (by rw [← hwd]; exact HRr.out.drewN _)
       have d2 : wd.cell? ⟨f, 2, none⟩ = some (.int .i64 (dp : Int)) := HRd.out.cells.2.2.1
       have d7 : wd.cell? ⟨f, 7, none⟩ = some (.slice cp2 cn2 cc2) := HRd.out.cells.2.2.2.2.2.2.2.1
       have hwd2 : w0.heap.size ≤ wd.heap.size := HRd.out.low.size
       clear hwd c2 c7 fz hhs l0 l1 HO
       have HO : Hid (Oi wd w0.heap.size cp2 cn2 cc2 (clr ++ clrQ b j)) := Lib.hid HRd.out.clear
       go_wp2_with (at_builtin; go_must (refine wp_appI rfl (.tmp 65) (.tmp 67) rfl w0.heap.size cn2 cc2 1 1 cp2 (some ⟨wd.heap.size, 0, none⟩) (clr ++ clrQ b j) [v] rfl rfl (Oi.alloc HO.out _) (wd.heap.size + 1) (reads_new wd _ 3 _ 1 1 _ rfl (by simp [nvals]) (Nat.lt_succ_self _) _ rfl) (by omega) (Nat.le_trans hwd2 (by simp)) ?_); intro p4 c4' w4 hO4 hG4 hL4; have HO4 := Lib.hid hO4; have HG4 := Lib.hid hG4; have HRa := Lib.hid (HRd.out.alloc (.cells #[.int .i64 (v : Int)] 3)); have hB4 := HRa.out.grownBlk hG4 (.inr (.inl rfl)); have HB4 := Lib.hid hB4; have dz := hB4.1.frozen 7; have d7' : w4.cell? ⟨f, 7, none⟩ = some (.slice cp2 cn2 cc2) := hB4.1.cell 7; clear hO4 hG4 hL4 hB4)
       go_roundg (gk - 1)
       case measure => have := Hj.out; omega
       case rel =>
        refine ⟨j + 1, kk + 2, p4, cn2 + 1, c4', by first | rfl | (simp; done) | (congr 1; omega), by have := Hj.out; omega, Lib.hid (by have := Hkk.out; omega), Lib.hid (fun i hi => ?_), Lib.hid ?_⟩
        ·
         by_cases hij : i = j
         ·
          subst hij
          rw [← Hv.out]; omega
         ·
          exact Hlt.out i (by omega)
        ·
         exact RD.put HB4.out.1 HB4.out.2 hfg (s2 := ⟨W, H, dp, ct, il, pal, clr ++ clrQ b (j + 1), 3, rest⟩) (used2 := used) (v52 := v5) (HRa.out.keepPal HG4.out (.inl rfl)) (by rw [clrQ_succ, ← Hv.out, ← List.append_assoc]; exact HO4.out) (HRa.out.keepRest HG4.out (.inr rfl)) HR.out.sl 7 (.slice p4 (cn2 + 1) c4') rfl
     ·
      have hki : ¬ (kk : Int) < (n : Int) := by omega
      have hkd : decide ((kk : Int) < (n : Int)) = false := decide_eq_false hki
      clear hj hkk
      go_wp2
      go_ret
      have hjc : j = c := by have := Hj.out; have := Hkk.out; have := Hnn.out; have := Hn2.out; omega
      refine .mk ⟨W, H, dp, ct, il, pal, clr ++ clrQ b j, 3, rest⟩ (HRr.out) fun _ => ?_
      rw [hjc, Hc.out]
      refine StepG.trns ⟨W, H, dp, ct, il, pal, clr, stage, rest⟩ b H1.out.1 HA02.out ?_ fun k hk => ?_
      ·
       show b.length = 2 * chan ct
       rw [← Hn.out, Hnn.out, Hn2.out, Hc.out]
      ·
       have := Hlt.out k (by rw [hjc, Hc.out]; exact hk)
       rwa [HT.out] at this
   ·
    have t1 : ((n : Int) != (n2 : Int)) = true := by simp; omega
    have Hnn := Lib.hid hnn
    clear hnn
    go_wp2
    go_ret
    exact .no (by decide) (HR2.out)
 ·
  have q0 : ((ct : Int) == 0) = false := by simp; omega
  have q2 : ((ct : Int) == 2) = false := by simp; omega
  by_cases q3n : ct = 3
  ·
   have q3 : ((ct : Int) == 3) = true := by simp; omega
   have Hct3 := Lib.hid q3n
   clear hA02 q3n
   by_cases hn0 : n = 0
   ·
    have t1 : ((n : Int) == 0) = true := by simp; omega
    go_wp2
    go_ret
    exact .no (by decide) (HR1.out)
   have t1 : ((n : Int) == 0) = false := by simp; omega
   obtain ⟨e0, e1, e2, e3, e4, e5, e6, e7, e8, e9, e10, e11, ez, ehs⟩ := HR.out.cells
   clear e0 e1 e2 e3 e4 e5 e7 e8 e9 e10 e11 ez ehs
   by_cases hnp : pn < n
   ·
    have t2 : decide ((pn : Int) < (n : Int)) = true := by simp; omega
    have t3 : (pn : Int) < (n : Int) := by omega
    go_wp2
    go_ret
    exact .no (by decide) (HR1.out)
   have t2 : decide ((pn : Int) < (n : Int)) = false := by simp; omega
   have t3 : ¬ (pn : Int) < (n : Int) := by omega
   obtain ⟨ab, ao, rfl, hseg0⟩ : ∃ ab ao, A = some ⟨ab, ao, none⟩ ∧ Seg w0 ab ao b := by
    rcases HA.out with h | ⟨b0, off, h1, h2⟩
    ·
     exact absurd (Hn.out.trans (by rw [h]; rfl)) hn0
    ·
     exact ⟨b0, off, h1, h2⟩
   have hab0 : ab < w0.heap.size := World.block_lt_of_cell? w0 ⟨ab, ao + 0, none⟩ (hseg0 0 (by have := Hn.out; omega))
   have Hseg := Lib.hid (show ∀ W', Below w0.heap.size w0 W' → Seg W' ab ao b from fun W' hb => hseg0.below hb hab0)
   obtain ⟨g, rfl, hg0, hg1, _, _⟩ := HR.out.pal.ptr (by omega)
   clear hseg0
   go_wp2
   clear c3 c10 fz hhs q0 q2 q3 t1 t2 t3 e6
   go_loopg [90] n (fun gh v wr => ∃ k, v = .int .i64 ((k : Nat) : Int) ∧ k + gh = n ∧ Hid (RD w0 wr f ⟨W, H, dp, ct, il, setA pal b k, clr, 3, rest⟩ used v5 (some ⟨g, 0, none⟩) pn pc cp cn cc rp rn rc))
   case atStart => exact ⟨0, rfl, by omega, Lib.hid (by rw [setA_zero]; exact HR1.out)⟩
   case round =>
    obtain ⟨k, rfl, hj, HRr⟩ := hrel
    have Hj := Lib.hid hj
    by_cases hlt : k < n
    ·
     have hki : (k : Int) < (n : Int) := by omega
     have hkd : decide ((k : Int) < (n : Int)) = true := decide_eq_true hki
     have hkp : (k : Int) < (pn : Int) := by omega
     have hkpn : k < pn := by omega
     have hs := Hseg.out wr HRr.out.low
     have l0 := hs k (by have := Hn.out; omega)
     obtain ⟨x0, hx0⟩ : ∃ x, x = nb b k := ⟨_, rfl⟩
     rw [← hx0] at l0
     have z0 : x0 < 256 := by rw [hx0]; exact nb_lt b k
     obtain ⟨u0, hu0⟩ : ∃ u, u = 257 * x0 := ⟨_, rfl⟩
     have eu0 : (257 : Int) * (x0 : Int) = (u0 : Int) := by omega
     have ewx0 : IntKind.i64.wrap (x0 : Int) = (x0 : Int) := IntWalk.i64_in _ (by omega)
     have ewu0 : IntKind.i64.wrap (u0 : Int) = (u0 : Int) := IntWalk.i64_in _ (by omega)
     have hsl : k < (setA pal b k).length := by rw [setA_length]; omega
     have Hu := Lib.hid (show setA pal b (k + 1) = (setA pal b k).set k ⟨((setA pal b k).getD k q0).r, ((setA pal b k).getD k q0).g, ((setA pal b k).getD k q0).b, u0⟩ by rw [setA_succ _ _ _ (by omega), hu0, hx0])
     obtain ⟨c0, c1, c2, c3, c4, c5, c6, c7, c8, c9, c10, c11, fz, hhs⟩ := HRr.out.cells
     have p3 := (HRr.out.pal.cells (k := k) hsl).2.2.2
     have pz := HRr.out.pal.2.frozenAt (k * 4 + 3)
     have Hsl := Lib.hid hsl
     generalize (setA pal b k)[k].a = a3 at p3
     have hfgn : f ≠ g := fun e => own_blk_ne HRr.out.pal.2 HRr.out.blk (by decide) (by rw [e]; rfl)
     clear hx0 hu0 hs hj hsl c0 c1 c2 c3 c4 c5 c7 c8 c9 c10 c11 fz hhs
     go_wp2
     go_roundg (gk - 1)
     case measure => have := Hj.out; omega
     case rel =>
      refine ⟨k + 1, by first | rfl | (simp; done) | (congr 1; omega), by have := Hj.out; omega, Lib.hid ?_⟩
      rw [Hu.out]
      exact HRr.out.alpha k u0 Hsl.out
    ·
     have hki : ¬ (k : Int) < (n : Int) := by omega
     have hkd : decide ((k : Int) < (n : Int)) = false := decide_eq_false hki
     clear hj
     go_wp2
     go_ret
     have hkn : k = b.length := by have := Hj.out; have := Hn.out; omega
     refine .mk ⟨W, H, dp, ct, il, setA pal b k, clr, 3, rest⟩ (HRr.out) fun _ => ?_
     rw [hkn]
     refine StepG.trns3 ⟨W, H, dp, ct, il, pal, clr, stage, rest⟩ b (H1.out.2 Hct3.out) Hct3.out ?_ ?_
     ·
      have := Hn.out; omega
     ·
      show b.length ≤ pal.length
      have := Hn.out; omega
  ·
   have q3 : ((ct : Int) == 3) = false := by simp; omega
   clear hA02 q3n
   go_wp2
   go_ret
   exact .no (by decide) (HR1.out)
end Go.Proofs.YtnpkgmgedgcjmaaGreatDoor
end
