/- A part of the proof: Dl. -/
import Derived.Test.YtnpkgmgedgcjmaaGreatDoorZDc
import Derived.Test.YtnpkgmgedgcjmaaGreatDoorZDk
set_option linter.all false
set_option maxRecDepth 100000
section
namespace Go.Proofs.YtnpkgmgedgcjmaaGreatDoor
open Go Go.RowKit Png
set_option maxHeartbeats 8000000 in
theorem iconf_run (b off cap : Nat) (sF : RS) (cs : List (List UInt8 × List UInt8)) (tail l : List UInt8) (w : World) (hl0 : l = sig ++ (cks cs ++ tail)) (hrun : RunG cs RS.init sF) (h6 : sF.stage = 6) (hW1 : sF.W ≤ 16384) (hH1 : sF.H ≤ 16384) (hbd : ∀ c ∈ cs, c.2.length ≤ 2147483647) (hs : Seg w b off l) (hl : l.length ≤ 140737488355328)
  (hT : Tab w 3 .u32 256 crc8) :
  Calls Tryz.prog 33 #[.slice (some ⟨b, off, none⟩) l.length cap] w fun e w' =>
   ∃ v, e = .returned (.tuple #[.agg #[.int .i64 ((100 * sF.ct + sF.dp : Nat) : Int), .int .i64 (sF.W : Int), .int .i64 (sF.H : Int), v], .int .i64 0]) ∧ Fr [] w w' ∧
    ((sF.ct ≠ 3 ∧ v = .slice none 0 0) ∨ (sF.ct = 3 ∧ ∃ (np : Nat) (R G U A : Nat → Nat), sF.pal = q4s R G U A np ∧ np ≤ 256 ∧ (∀ k, R k < 256 ∧ G k < 256 ∧ U k < 256 ∧ A k < 256) ∧ w'.ownsRow w.heap.size 96 4 v np (shadesV R G U A np))) := by
 obtain ⟨W, H, dp, ct, il, pal, clr, stage, rest⟩ := sF
 have hk : Kinds ct dp := (hrun.inv.k (by rw [h6]; decide)).1
 have Hh := Lib.hid (And.intro hl0 (And.intro hrun (And.intro h6 (And.intro hW1 (And.intro hH1 (And.intro hbd hk))))))
 dsimp only
 clear hl0 hrun h6 hW1 hH1 hbd hk
 have Hs := Lib.hid hs
 have HT := Lib.hid hT
 have h3 : 3 < w.heap.size := World.block_lt_of_cell? w ⟨3, 0, none⟩ (hT 0 (by omega))
 clear hs hT
 obtain ⟨n, hn⟩ : ∃ n, n = w.heap.size := ⟨_, rfl⟩
 have Hn := Lib.hid hn
 have hnw : w.heap.size = n := hn.symm
 rw [← hn] at h3
 clear hn
 go_enter Tryz.func33, Tryz.ntmps33
 go_wp2_with fail
 generalize hW0 : World.alloc _ _ = W0
 have F0 : Fr [] w W0 := by rw [← hW0]; exact (Fr.refl _ _).alloc _
 have R0 : Row W0 n 64 4 := by rw [← hW0, ← hnw]; exact Row.alloc_new _ _
 have z0 : W0.heap.size = n + 1 := by rw [← hW0]; simp [hnw]
 have Hz0 := Lib.hid z0
 have HF0 := Lib.hid F0
 have HR0 := Lib.hid R0
 clear hW0 F0 R0 z0
 refine (clone_ok b off cap l W0 (Hs.out.fr HF0.out (by simp)) hl).mono ?_
 rintro e w1 ⟨g, cap', rfl, F1, hg1, hg2, S1, hc1, hc2⟩
 have HF1 := Lib.hid F1
 have HS1 := Lib.hid S1
 have Hg := Lib.hid (And.intro hg1 (And.intro hg2 (And.intro hc1 hc2)))
 clear F1 S1 hg1 hg2 hc1 hc2
 go_wp2_with fail
 refine (newReader_ok g cap' l w1 HS1.out Hg.out.2.1 Hg.out.2.2.1 Hg.out.2.2.2).mono ?_
 rintro e w2 ⟨rfl, F2, S2, z2⟩
 have HF2 := Lib.hid F2
 have HS2 := Lib.hid S2
 have Hz2 := Lib.hid z2
 clear F2 S2 z2
 go_wp2_with fail
 obtain ⟨rb, hrb⟩ : ∃ rb, rb = w1.heap.size := ⟨_, rfl⟩
 rw [← hrb]
 have Hrb := Lib.hid hrb
 have hrb3 : rb ≠ 3 := by
  have := HF1.out.size; have := Hz0.out; omega
 have hs2 := HS2.out
 rw [← hrb] at hs2
 clear hrb
 rw [Hh.out.1] at hs2
 refine (dconf_run rb g ⟨W, H, dp, ct, il, pal, clr, stage, rest⟩ cs tail w2 Hh.out.2.1 Hh.out.2.2.1 Hh.out.2.2.2.1 Hh.out.2.2.2.2.1 Hh.out.2.2.2.2.2.1 hs2 ((((HT.out.fr HF0.out (by simp)).fr HF1.out (by simp)).fr HF2.out (by simp))) hrb3).mono ?_
 rintro e w3 ⟨pv, rfl, F3, hpv0⟩
 dsimp only
 obtain ⟨np, R, G, U, A, hpq, hpv⟩ : ∃ (np : Nat) (R G U A : Nat → Nat), (ct = 3 → pal = q4s R G U A np ∧ np ≤ 256 ∧ ∀ k, R k < 256 ∧ G k < 256 ∧ U k < 256 ∧ A k < 256) ∧
   ((ct ≠ 3 ∧ pv = .slice none 0 0) ∨ (ct = 3 ∧ np ≤ 256 ∧ ∃ B, pv = .slice (some ⟨B, 0, none⟩) np 256 ∧ B < w3.heap.size ∧
     ∀ k, k < np → w3.cell? ⟨B, k, none⟩ = some (nrgbV (R k) (G k) (U k) (A k)) ∨ (w3.cell? ⟨B, k, none⟩ = some (rgbV (R k) (G k) (U k)) ∧ A k = 255))) := by
  rcases hpv0 with ⟨h1, h2⟩ | ⟨h1, np, R, G, U, A, h2, h3, h4, B, h5, h6, h7⟩
  ·
   exact ⟨0, fun _ => 0, fun _ => 0, fun _ => 0, fun _ => 0, fun e => absurd e h1, .inl ⟨h1, h2⟩⟩
  ·
   exact ⟨np, R, G, U, A, fun _ => ⟨h2, h3, h4⟩, .inr ⟨h1, h3, B, h5, h6, h7⟩⟩
 have Hpq := Lib.hid hpq
 clear hpq hpv0
 have HF3 := Lib.hid F3
 obtain ⟨pa, pn, pc, rfl⟩ : ∃ pa pn pc, pv = .slice pa pn pc := by
  rcases hpv with ⟨_, rfl⟩ | ⟨_, _, B, rfl, _⟩
  ·
   exact ⟨_, _, _, rfl⟩
  ·
   exact ⟨_, _, _, rfl⟩
 have Hpv := Lib.hid hpv
 clear F3 hpv hs2
 go_wp2
 obtain ⟨c, hc⟩ : ∃ c, c = w3.heap.size := ⟨_, rfl⟩
 rw [← hc]
 have Hc := Lib.hid hc
 have hb4 := heap_alloc_new w3 (Obj.cells #[.int .i64 (cbOf ct dp : Nat), .slice pa pn pc, .int .i64 W, .int .i64 H] 104)
 rw [← hc] at hb4
 generalize hW4 : World.alloc _ _ = W4
 rw [hW4] at hb4
 have F4 : Fr [] w3 W4 := by rw [← hW4]; exact (Fr.refl _ _).alloc _
 have x0 : W4.cell? ⟨c, 0, none⟩ = some (.int .i64 (cbOf ct dp : Nat)) := by unfold World.cell?; rw [hb4]; rfl
 have x1 : W4.cell? ⟨c, 1, none⟩ = some (.slice pa pn pc) := by unfold World.cell?; rw [hb4]; rfl
 have x2 : W4.cell? ⟨c, 2, none⟩ = some (.int .i64 W) := by unfold World.cell?; rw [hb4]; rfl
 have x3 : W4.cell? ⟨c, 3, none⟩ = some (.int .i64 H) := by unfold World.cell?; rw [hb4]; rfl
 have F14 : Fr [rb] w W4 := ((((HF0.out.mono (by simp)).trans (HF1.out.mono (by simp))).trans (HF2.out.mono (by simp))).trans HF3.out).trans (F4.mono (by simp))
 have Rn4 := Lib.hid (F4.row _ _ _ (HF3.out.row _ _ _ (HF2.out.row _ _ _ (HF1.out.row _ _ _ HR0.out))))
 have hSh : Calls Tryz.prog 54 #[.slice pa pn pc] W4.drew fun e w' => ∃ va vn vc, e = .returned (.slice va vn vc) ∧ Fr [] W4.drew w' ∧
   ((ct ≠ 3 ∧ Value.slice va vn vc = .slice none 0 0) ∨ (ct = 3 ∧ w'.ownsRow W4.drew.heap.size 96 4 (.slice va vn vc) np (shadesV R G U A np))) := by
  refine shadesOf_any ct np R G U A W4.drew pa pn pc ?_
  rcases Hpv.out with h | ⟨h3, h256, B, he, hB, hcell⟩
  ·
   exact .inl h
  ·
   refine .inr ⟨h3, h256, B, he, Nat.lt_of_lt_of_le hB F4.size, fun k hk => ?_⟩
   have := F4.cell (b := B) hB (by simp) k
   rcases hcell k hk with h | h
   ·
    exact .inl (this.trans h)
   ·
    exact .inr ⟨this.trans h.1, h.2⟩
 have HSh := Lib.hid hSh
 have HF14 := Lib.hid F14
 have HF4 := Lib.hid F4
 have hkk : Calls Tryz.prog 53 #[.int .i64 (cbOf ct dp : Nat)] W4.drew fun e w'' => e = .returned (.int .i64 ((100 * ct + dp : Nat) : Int)) ∧ w'' = W4.drew := (kindOf_ok ct dp W4.drew Hh.out.2.2.2.2.2.2).mono fun _ _ ⟨a, b⟩ => ⟨a, b.symm⟩
 have Hkk := Lib.hid hkk
 have hcn : n ≠ c := by
  have := F4.size; have := HF3.out.size; have := HF2.out.size; have := HF1.out.size; have := Hz0.out; omega
 clear hb4 hW4 F4 F14 hSh hkk hc
 go_region_held3 (fun w' => w'.cell? ⟨c, 0, none⟩ = some (.int .i64 (cbOf ct dp : Nat)) ∧ w'.cell? ⟨c, 1, none⟩ = some (.slice pa pn pc) ∧ w'.cell? ⟨c, 2, none⟩ = some (.int .i64 W) ∧ w'.cell? ⟨c, 3, none⟩ = some (.int .i64 H))
  (first | exact ⟨x0, x1, x2, x3⟩ | exact ⟨e0, e1, e2, e3⟩ | (refine ⟨?_, ?_, ?_, ?_⟩ <;> go_simp))
  (first
   | (go_at_call 53; refine (kindOf_ok ct dp _ Hh.out.2.2.2.2.2.2).mono ?_; rintro e w' ⟨rfl, rfl⟩)
   | (go_at_call 54; refine HSh.out.mono ?_; rintro e w5 ⟨va, vn, vc, rfl, F5, hv⟩; have Rn5 := F5.row _ _ _ Rn4.out; have hfn := Rn5.frozen; have hgn := Rn5.has; obtain ⟨v0, y0⟩ := Rn5.cell (o := 0) (by omega); obtain ⟨v1, y1⟩ := Rn5.cell (o := 1) (by omega); obtain ⟨v2, y2⟩ := Rn5.cell (o := 2) (by omega); obtain ⟨v3, y3⟩ := Rn5.cell (o := 3) (by omega); have e0 := F5.cell' (by simp) x0; have e1 := F5.cell' (by simp) x1; have e2 := F5.cell' (by simp) x2; have e3 := F5.cell' (by simp) x3; have HF5 := Lib.hid F5; have Hv := Lib.hid hv; clear hv Rn5 F5))
 all_goals
  go_wp2
  refine bodyPost_ret (v := .tuple #[.agg #[.int .i64 (100 * (ct : Int) + dp), .int .i64 W, .int .i64 H, .slice va vn vc], .int .i64 0]) (by rw [results_cell_tmp rfl]; go_simp) rfl ⟨.slice va vn vc, by simp, ?_, ?_⟩
  ·
   have F5n : Fr [n] W4.drew _ := (((((HF5.out.mono (by simp)).setCell ⟨n, 0, none⟩ (.int .i64 (100 * (ct : Int) + dp)) (.inl (by simp))).setCell ⟨n, 1, none⟩ (.int .i64 W) (.inl (by simp))).setCell ⟨n, 2, none⟩ (.int .i64 H) (.inl (by simp))).setCell ⟨n, 3, none⟩ (.slice va vn vc) (.inl (by simp)))
   have h14 : Fr [rb, n] w W4 := HF14.out.mono (by simp)
   have := h14.trans (F5n.undrew.mono (by simp))
   refine (Fr.refl [] w).new' this ?_
   have h1 := HF1.out.size
   have h2 := Hz0.out
   have h3 := Hrb.out
   simp; omega
  ·
   rcases Hv.out with h | ⟨h3, ho⟩
   ·
    exact .inl h
   ·
    refine .inr ⟨h3, np, R, G, U, A, (Hpq.out h3).1, (Hpq.out h3).2.1, (Hpq.out h3).2.2, ?_⟩
    have hsz : w.heap.size ≤ W4.drew.heap.size := HF14.out.size
    have ho2 := owns_base ho hsz
    obtain ⟨o1, o2 | ⟨g', cap2, cur, o2, o3, o4, o5⟩⟩ := ho
    ·
     exact ⟨o1, .inl o2⟩
    ·
     refine ⟨o1, .inr ⟨g', cap2, cur, o2, by omega, ?_, o5⟩⟩
     have hng : n ≠ g' := by
      have := HF4.out.size; have := HF3.out.size; have := HF2.out.size; have := HF1.out.size; have := Hz0.out
      simp at o3; omega
     simp only [World.setCell, Array.getElem?_modify, hng, if_false]
     exact o4
end Go.Proofs.YtnpkgmgedgcjmaaGreatDoor
end
