/- impl.DecodeConfig on good heads. -/
import Derived.Test.YtnpkgmgedgcjmaaGreatDoorSh
import Derived.Deep.RegionHeld3
set_option linter.all false
namespace Go.Proofs.YtnpkgmgedgcjmaaGreatDoor
open Go Go.RowKit Png

/-- The bytes of a head: what they say of the picture, and the palette's colours (with how far each is seen through). -/
def Head (l : List UInt8) (ct dp W H np : Nat) (R G U A : Nat → Nat) : Prop :=
  ∃ (h : List UInt8) (il : Nat), h.length = 13 ∧ be4 h 0 = W ∧ be4 h 4 = H ∧ nb h 8 = dp ∧ nb h 9 = ct ∧ nb h 10 = 0 ∧ nb h 11 = 0 ∧ nb h 12 = il ∧ (il = 0 ∨ il = 1) ∧
    Kinds ct dp ∧ 0 < W ∧ 0 < H ∧ W ≤ 16384 ∧ H ≤ 16384 ∧
    ((ct ≠ 3 ∧ np = 0 ∧ ∃ rest, l = sig ++ ((four 13 ++ nIHDR) ++ (h ++ (four (crc (nIHDR ++ h)) ++ rest)))) ∨
     (ct = 3 ∧ 0 < np ∧ np ≤ 2 ^ dp ∧ ∃ p ni rest, p.length = 3 * np ∧ ni < 4294967296 ∧
        l = sig ++ ((four 13 ++ nIHDR) ++ (h ++ (four (crc (nIHDR ++ h)) ++ ((four (3 * np) ++ nPLTE) ++ (p ++ (four (crc (nPLTE ++ p)) ++ ((four ni ++ nIDAT) ++ rest))))))) ∧
        ∀ k, k < np → R k = nb p (3 * k) ∧ G k = nb p (3 * k + 1) ∧ U k = nb p (3 * k + 2) ∧ A k = 255) ∨
     (ct = 3 ∧ 0 < np ∧ np ≤ 2 ^ dp ∧ ∃ p q rest, p.length = 3 * np ∧ 0 < q.length ∧ q.length ≤ np ∧
        l = sig ++ ((four 13 ++ nIHDR) ++ (h ++ (four (crc (nIHDR ++ h)) ++ ((four (3 * np) ++ nPLTE) ++ (p ++ (four (crc (nPLTE ++ p)) ++ ((four q.length ++ ntRNS) ++ (q ++ (four (crc (ntRNS ++ q)) ++ rest))))))))) ∧
        ∀ k, k < np → R k = nb p (3 * k) ∧ G k = nb p (3 * k + 1) ∧ U k = nb p (3 * k + 2) ∧ A k = if k < q.length then nb q k else 255))

theorem dconf_head (rb sb ct dp W H np : Nat) (R G U A : Nat → Nat) (l : List UInt8) (w : World) (hh : Head l ct dp W H np R G U A) (hs : Src w rb sb l) (hT : Tab w 3 .u32 256 crc8) (hT3 : rb ≠ 3) :
    Calls Tryz.prog 51 #[.iface 84 (.pointer (some ⟨rb, 0, none⟩))] w fun e w' =>
      ∃ pv, e = .returned (.tuple #[.agg #[.int .i64 (cbOf ct dp : Nat), pv, .int .i64 W, .int .i64 H], .nilIface]) ∧ Fr [rb] w w' ∧
        ((ct ≠ 3 ∧ pv = .slice none 0 0) ∨ (ct = 3 ∧ np ≤ 256 ∧ ∃ B, pv = .slice (some ⟨B, 0, none⟩) np 256 ∧ B < w'.heap.size ∧
          ∀ k, k < np → w'.cell? ⟨B, k, none⟩ = some (nrgbV (R k) (G k) (U k) (A k)) ∨ (w'.cell? ⟨B, k, none⟩ = some (rgbV (R k) (G k) (U k)) ∧ A k = 255))) := by
  obtain ⟨h, il, hl, hW, hH, hdp, hct, h10, h11, h12, hil, hk, hW0, hH0, hW1, hH1, hc⟩ := hh
  have hdp8 : ct = 3 → dp ≤ 8 := by
    intro e
    have := hk
    unfold Kinds at this
    omega
  have h256 : ct = 3 → np ≤ 2 ^ dp → np ≤ 256 := fun e h => Nat.le_trans h (Nat.pow_le_pow_right (n := 2) (i := dp) (j := 8) (by omega) (hdp8 e))
  rcases hc with ⟨hn3, hnp, rest, rfl⟩ | ⟨rfl, hnp0, hnp, p, ni, rest, hp, hni, rfl, hA⟩ | ⟨rfl, hnp0, hnp, p, q, rest, hp, hq0, hq, rfl, hA⟩
  · refine (dconf_plain rb sb W H dp ct il h rest w hs hl hT hT3 hW hH hdp hct h10 h11 h12 hil hk hn3 hW0 hH0 hW1 hH1).mono ?_
    rintro e w' ⟨rfl, F⟩
    exact ⟨_, rfl, F, .inl ⟨hn3, rfl⟩⟩
  · refine (dconf_plte rb sb W H dp il np (3 * np) ni h p rest w hs hl hp rfl hni hT hT3 hW hH hdp hct h10 h11 h12 hil hk hW0 hH0 hW1 hH1 hnp0 hnp).mono ?_
    rintro e w' ⟨B, rfl, F, hB, hR, hcell⟩
    refine ⟨_, rfl, F, .inr ⟨rfl, h256 rfl hnp, B, rfl, hR.lt, fun k hk => .inr ⟨?_, (hA k hk).2.2.2⟩⟩⟩
    obtain ⟨a, b, c, _⟩ := hA k hk
    rw [a, b, c]; exact hcell k hk
  · refine (dconf_trns rb sb W H dp il np (3 * np) q.length h p q rest w hs hl hp rfl rfl hq0 hq hT hT3 hW hH hdp hct h10 h11 h12 hil hk hW0 hH0 hW1 hH1 hnp0 hnp).mono ?_
    rintro e w' ⟨B, rfl, F, hB, hR, hc1, hc2⟩
    refine ⟨_, rfl, F, .inr ⟨rfl, h256 rfl hnp, B, rfl, hR.lt, fun k hk => ?_⟩⟩
    obtain ⟨a, b, c, d⟩ := hA k hk
    rw [a, b, c, d]
    by_cases hkq : k < q.length
    · left; simp only [hkq, if_true]; exact hc1 k hkq
    · right; simp only [hkq, if_false]; exact ⟨hc2 k (by omega) hk, trivial⟩

theorem owns_base {w : World} {base base' : Nat} {e : TypeId} {size : Nat} {v : Value} {n : Nat} {xs : List Value} (h : w.ownsRow base e size v n xs) (hb : base' ≤ base) : w.ownsRow base' e size v n xs := by
  obtain ⟨a, b | ⟨g, cap, cur, rfl, c, d⟩⟩ := h
  · exact ⟨a, .inl b⟩
  · exact ⟨a, .inr ⟨g, cap, cur, rfl, by omega, d⟩⟩

/-- The shades of either palette. -/
theorem shadesOf_any (ct np : Nat) (R G U A : Nat → Nat) (w : World) (pa : Option Addr) (pn pc : Nat)
    (h : (ct ≠ 3 ∧ Value.slice pa pn pc = .slice none 0 0) ∨ (ct = 3 ∧ np ≤ 256 ∧ ∃ B, Value.slice pa pn pc = .slice (some ⟨B, 0, none⟩) np 256 ∧ B < w.heap.size ∧
          ∀ k, k < np → w.cell? ⟨B, k, none⟩ = some (nrgbV (R k) (G k) (U k) (A k)) ∨ (w.cell? ⟨B, k, none⟩ = some (rgbV (R k) (G k) (U k)) ∧ A k = 255))) :
    Calls Tryz.prog 54 #[.slice pa pn pc] w fun e w' => ∃ va vn vc, e = .returned (.slice va vn vc) ∧ Fr [] w w' ∧
      ((ct ≠ 3 ∧ Value.slice va vn vc = .slice none 0 0) ∨ (ct = 3 ∧ w'.ownsRow w.heap.size 96 4 (.slice va vn vc) np (shadesV R G U A np))) := by
  rcases h with ⟨h3, he⟩ | ⟨h3, hnp, B, he, hB, hc⟩
  · rw [he]
    refine (shadesOf_nil w).mono ?_
    rintro e w' ⟨rfl, rfl⟩
    exact ⟨_, _, _, rfl, Fr.refl _ _, .inl ⟨h3, rfl⟩⟩
  · rw [he]
    refine (shadesOf_some B np 256 R G U A w hnp hB hc).mono ?_
    rintro e w' ⟨v, rfl, F, ho⟩
    rcases ho.2 with ⟨rfl, _⟩ | ⟨g, cap, cur, rfl, _⟩
    · exact ⟨_, _, _, rfl, F, .inr ⟨h3, ho⟩⟩
    · exact ⟨_, _, _, rfl, F, .inr ⟨h3, ho⟩⟩

theorem Head.kinds {l : List UInt8} {ct dp W H np : Nat} {R G U A : Nat → Nat} (h : Head l ct dp W H np R G U A) : Kinds ct dp := by
  obtain ⟨h, il, hl, hW, hH, hdp, hct, h10, h11, h12, hil, hk, _⟩ := h
  exact hk

set_option maxHeartbeats 8000000 in
set_option maxRecDepth 100000 in
theorem iconf_ok (b off cap ct dp W H np : Nat) (R G U A : Nat → Nat) (l : List UInt8) (w : World) (hh : Head l ct dp W H np R G U A) (hs : Seg w b off l) (hl : l.length ≤ 140737488355328)
    (hT : Tab w 3 .u32 256 crc8) :
    Calls Tryz.prog 33 #[.slice (some ⟨b, off, none⟩) l.length cap] w fun e w' =>
      ∃ v, e = .returned (.tuple #[.agg #[.int .i64 ((100 * ct + dp : Nat) : Int), .int .i64 W, .int .i64 H, v], .int .i64 0]) ∧ Fr [] w w' ∧
        ((ct ≠ 3 ∧ v = .slice none 0 0) ∨ (ct = 3 ∧ w'.ownsRow w.heap.size 96 4 v np (shadesV R G U A np))) := by
  have Hh := Lib.hid hh
  have Hs := Lib.hid hs
  have HT := Lib.hid hT
  have h3 : 3 < w.heap.size := World.block_lt_of_cell? w ⟨3, 0, none⟩ (hT 0 (by omega))
  clear hh hs hT
  obtain ⟨n, hn⟩ : ∃ n, n = w.heap.size := ⟨_, rfl⟩
  have Hn := Lib.hid hn
  have hnw : w.heap.size = n := hn.symm
  rw [← hn] at h3
  clear hn
  go_enter Tryz.func33, Tryz.ntmps33
  go_wp2_with fail
  generalize hW0 : World.alloc _ _ = W0
  have F0 : Fr [] w W0 := by rw [← hW0]; exact (Fr.refl _ _).alloc _
  have R0 : Row W0 n 64 4 := by rw [← hW0, ← hnw]; exact Row.alloc_new _ _
  have z0 : W0.heap.size = n + 1 := by rw [← hW0]; simp [hnw]
  have Hz0 := Lib.hid z0
  have HF0 := Lib.hid F0
  have HR0 := Lib.hid R0
  clear hW0 F0 R0 z0
  refine (clone_ok b off cap l W0 (Hs.out.fr HF0.out (by simp)) hl).mono ?_
  rintro e w1 ⟨g, cap', rfl, F1, hg1, hg2, S1, hc1, hc2⟩
  have HF1 := Lib.hid F1
  have HS1 := Lib.hid S1
  have Hg := Lib.hid (And.intro hg1 (And.intro hg2 (And.intro hc1 hc2)))
  clear F1 S1 hg1 hg2 hc1 hc2
  go_wp2_with fail
  refine (newReader_ok g cap' l w1 HS1.out Hg.out.2.1 Hg.out.2.2.1 Hg.out.2.2.2).mono ?_
  rintro e w2 ⟨rfl, F2, S2, z2⟩
  have HF2 := Lib.hid F2
  have HS2 := Lib.hid S2
  have Hz2 := Lib.hid z2
  clear F2 S2 z2
  go_wp2_with fail
  obtain ⟨rb, hrb⟩ : ∃ rb, rb = w1.heap.size := ⟨_, rfl⟩
  rw [← hrb]
  have Hrb := Lib.hid hrb
  have hrb3 : rb ≠ 3 := by
    have := HF1.out.size; have := Hz0.out; omega
  have hs2 := HS2.out
  rw [← hrb] at hs2
  clear hrb
  refine (dconf_head rb g ct dp W H np R G U A l w2 Hh.out hs2 ((((HT.out.fr HF0.out (by simp)).fr HF1.out (by simp)).fr HF2.out (by simp))) hrb3).mono ?_
  rintro e w3 ⟨pv, rfl, F3, hpv⟩
  have HF3 := Lib.hid F3
  obtain ⟨pa, pn, pc, rfl⟩ : ∃ pa pn pc, pv = .slice pa pn pc := by
    rcases hpv with ⟨_, rfl⟩ | ⟨_, _, B, rfl, _⟩
    · exact ⟨_, _, _, rfl⟩
    · exact ⟨_, _, _, rfl⟩
  have Hpv := Lib.hid hpv
  clear F3 hpv hs2
  go_wp2
  obtain ⟨c, hc⟩ : ∃ c, c = w3.heap.size := ⟨_, rfl⟩
  rw [← hc]
  have Hc := Lib.hid hc
  have hb4 := heap_alloc_new w3 (Obj.cells #[.int .i64 (cbOf ct dp : Nat), .slice pa pn pc, .int .i64 W, .int .i64 H] 104)
  rw [← hc] at hb4
  generalize hW4 : World.alloc _ _ = W4
  rw [hW4] at hb4
  have F4 : Fr [] w3 W4 := by rw [← hW4]; exact (Fr.refl _ _).alloc _
  have x0 : W4.cell? ⟨c, 0, none⟩ = some (.int .i64 (cbOf ct dp : Nat)) := by unfold World.cell?; rw [hb4]; rfl
  have x1 : W4.cell? ⟨c, 1, none⟩ = some (.slice pa pn pc) := by unfold World.cell?; rw [hb4]; rfl
  have x2 : W4.cell? ⟨c, 2, none⟩ = some (.int .i64 W) := by unfold World.cell?; rw [hb4]; rfl
  have x3 : W4.cell? ⟨c, 3, none⟩ = some (.int .i64 H) := by unfold World.cell?; rw [hb4]; rfl
  have F14 : Fr [rb] w W4 := ((((HF0.out.mono (by simp)).trans (HF1.out.mono (by simp))).trans (HF2.out.mono (by simp))).trans HF3.out).trans (F4.mono (by simp))
  have Rn4 := Lib.hid (F4.row _ _ _ (HF3.out.row _ _ _ (HF2.out.row _ _ _ (HF1.out.row _ _ _ HR0.out))))
  have hSh : Calls Tryz.prog 54 #[.slice pa pn pc] W4.drew fun e w' => ∃ va vn vc, e = .returned (.slice va vn vc) ∧ Fr [] W4.drew w' ∧
      ((ct ≠ 3 ∧ Value.slice va vn vc = .slice none 0 0) ∨ (ct = 3 ∧ w'.ownsRow W4.drew.heap.size 96 4 (.slice va vn vc) np (shadesV R G U A np))) := by
    refine shadesOf_any ct np R G U A W4.drew pa pn pc ?_
    rcases Hpv.out with h | ⟨h3, h256, B, he, hB, hcell⟩
    · exact .inl h
    · refine .inr ⟨h3, h256, B, he, Nat.lt_of_lt_of_le hB F4.size, fun k hk => ?_⟩
      have := F4.cell (b := B) hB (by simp) k
      rcases hcell k hk with h | h
      · exact .inl (this.trans h)
      · exact .inr ⟨this.trans h.1, h.2⟩
  have HSh := Lib.hid hSh
  have HF14 := Lib.hid F14
  have HF4 := Lib.hid F4
  have hkk : Calls Tryz.prog 53 #[.int .i64 (cbOf ct dp : Nat)] W4.drew fun e w'' => e = .returned (.int .i64 ((100 * ct + dp : Nat) : Int)) ∧ w'' = W4.drew := (kindOf_ok ct dp W4.drew Hh.out.kinds).mono fun _ _ ⟨a, b⟩ => ⟨a, b.symm⟩
  have Hkk := Lib.hid hkk
  have hcn : n ≠ c := by
    have := F4.size; have := HF3.out.size; have := HF2.out.size; have := HF1.out.size; have := Hz0.out; omega
  clear hb4 hW4 F4 F14 hSh hkk hc
  go_region_held3 (fun w' => w'.cell? ⟨c, 0, none⟩ = some (.int .i64 (cbOf ct dp : Nat)) ∧ w'.cell? ⟨c, 1, none⟩ = some (.slice pa pn pc) ∧ w'.cell? ⟨c, 2, none⟩ = some (.int .i64 W) ∧ w'.cell? ⟨c, 3, none⟩ = some (.int .i64 H))
    (first | exact ⟨x0, x1, x2, x3⟩ | exact ⟨e0, e1, e2, e3⟩ | (refine ⟨?_, ?_, ?_, ?_⟩ <;> go_simp))
    (first
      | (go_at_call 53; refine (kindOf_ok ct dp _ Hh.out.kinds).mono ?_; rintro e w' ⟨rfl, rfl⟩)
      | (go_at_call 54; refine HSh.out.mono ?_; rintro e w5 ⟨va, vn, vc, rfl, F5, hv⟩; have Rn5 := F5.row _ _ _ Rn4.out; have hfn := Rn5.frozen; have hgn := Rn5.has; obtain ⟨v0, y0⟩ := Rn5.cell (o := 0) (by omega); obtain ⟨v1, y1⟩ := Rn5.cell (o := 1) (by omega); obtain ⟨v2, y2⟩ := Rn5.cell (o := 2) (by omega); obtain ⟨v3, y3⟩ := Rn5.cell (o := 3) (by omega); have e0 := F5.cell' (by simp) x0; have e1 := F5.cell' (by simp) x1; have e2 := F5.cell' (by simp) x2; have e3 := F5.cell' (by simp) x3; have HF5 := Lib.hid F5; have Hv := Lib.hid hv; clear hv Rn5 F5))
  all_goals
    go_wp2
    refine bodyPost_ret (v := .tuple #[.agg #[.int .i64 (100 * (ct : Int) + dp), .int .i64 W, .int .i64 H, .slice va vn vc], .int .i64 0]) (by rw [results_cell_tmp rfl]; go_simp) rfl ⟨.slice va vn vc, by simp, ?_, ?_⟩
    · have F5n : Fr [n] W4.drew _ := (((((HF5.out.mono (by simp)).setCell ⟨n, 0, none⟩ (.int .i64 (100 * (ct : Int) + dp)) (.inl (by simp))).setCell ⟨n, 1, none⟩ (.int .i64 W) (.inl (by simp))).setCell ⟨n, 2, none⟩ (.int .i64 H) (.inl (by simp))).setCell ⟨n, 3, none⟩ (.slice va vn vc) (.inl (by simp)))
      have h14 : Fr [rb, n] w W4 := HF14.out.mono (by simp)
      have := h14.trans (F5n.undrew.mono (by simp))
      refine (Fr.refl [] w).new' this ?_
      have h1 := HF1.out.size
      have h2 := Hz0.out
      have h3 := Hrb.out
      simp; omega
    · rcases Hv.out with h | ⟨h3, ho⟩
      · exact .inl h
      · refine .inr ⟨h3, ?_⟩
        have hsz : w.heap.size ≤ W4.drew.heap.size := HF14.out.size
        have ho2 := owns_base ho hsz
        obtain ⟨o1, o2 | ⟨g', cap2, cur, o2, o3, o4, o5⟩⟩ := ho
        · exact ⟨o1, .inl o2⟩
        · refine ⟨o1, .inr ⟨g', cap2, cur, o2, by omega, ?_, o5⟩⟩
          have hng : n ≠ g' := by
            have := HF4.out.size; have := HF3.out.size; have := HF2.out.size; have := HF1.out.size; have := Hz0.out
            simp at o3; omega
          simp only [World.setCell, Array.getElem?_modify, hng, if_false]
          exact o4
end Go.Proofs.YtnpkgmgedgcjmaaGreatDoor
