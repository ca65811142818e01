/- A part of the proof: Pl. -/
import Derived.Deep.CutBlock
import Derived.Deep.DeepCutAuto
import Derived.Deep.LoopGhost
import Derived.IntWalk
import Derived.Test.YtnpkgmgedgcjmaaGreatDoorZHd
set_option linter.all false
set_option maxRecDepth 100000
section
namespace Go.Proofs.YtnpkgmgedgcjmaaGreatDoor
open Go Go.RowKit Png
def rgbV (r g b : Nat) : Value := .iface 142 (.agg #[.int .u8 r, .int .u8 g, .int .u8 b, .int .u8 255])
theorem make256 (w : World) : ∃ W, (Instr.makeSlice 102 (.int .i64 256) (.int .i64 256)).run Tryz.prog w = .ok (.slice (some ⟨w.heap.size, 0, none⟩) 256 256) W ∧
  Fr [] w W ∧ Row W w.heap.size 140 256 ∧ W.heap.size = w.heap.size + 1 := by
 have h := run_makeSlice (P := Tryz.prog) w 102 140 Tryz.t140 .nilIface Tryz.underlying102 (by kernel_rfl) (by kernel_rfl) .i64 .i64 256 256 (by omega) (by omega) (by decide) (by decide) (by omega)
 exact ⟨_, h, (Fr.refl [] w).alloc _, by simpa [size_madeCells, show Tryz.t140.size = 1 from by kernel_rfl] using Row.alloc_new (w := w) (madeCells Value.nilIface.cells ((256 : Int).toNat * Tryz.t140.size)) 140, by simp⟩
set_option maxHeartbeats 8000000 in
theorem parsePLTE_ok (d c rb sb m np dp cb : Nat) (td : TypeId) (p acc rest : List UInt8) (w : World) (hd : Dec w d c rb td)
  (hs : Src w rb sb (p ++ (four (crc (acc ++ p)) ++ rest))) (hds : d ≠ sb) (hcs : c ≠ sb) (hp : p.length = m) (hm : m = 3 * np)
  (hc : w.cell? ⟨c, 0, none⟩ = some (.int .u32 (crc acc : Nat))) (hT : Tab w 3 .u32 256 crc8) (hT3 : d ≠ 3 ∧ rb ≠ 3)
  (h5 : w.cell? ⟨d, 5, none⟩ = some (.int .i64 dp)) (h7 : w.cell? ⟨d, 7, none⟩ = some (.int .i64 cb)) (hcb : cb = 7 ∨ cb = 8 ∨ cb = 9 ∨ cb = 10)
  (hdp : dp ≤ 8) (hnp0 : 0 < np) (hnp : np ≤ 2 ^ dp) :
  Calls Tryz.prog 89 #[.pointer (some ⟨d, 0, none⟩), .int .u32 (m : Int)] w fun e w' => 
   e = .returned .nilIface ∧ Fr [d, rb, c] w w' ∧
    (∀ o, (o ≠ 6 ∧ (o < 10 ∨ 778 ≤ o)) → w'.cell? ⟨d, o, none⟩ = w.cell? ⟨d, o, none⟩) ∧ Src w' rb sb rest ∧
    ∃ B, w.heap.size ≤ B ∧ w'.cell? ⟨d, 6, none⟩ = some (.slice (some ⟨B, 0, none⟩) np 256) ∧ Row w' B 140 256 ∧
     (∀ k, k < np → w'.cell? ⟨B, k, none⟩ = some (rgbV (nb p (3 * k)) (nb p (3 * k + 1)) (nb p (3 * k + 2)))) ∧
     ∀ k, np ≤ k → k < 256 → w'.cell? ⟨B, k, none⟩ = some (rgbV 0 0 0) := by
 have hnp2 : np ≤ 256 := Nat.le_trans hnp (Nat.pow_le_pow_right (n := 2) (i := dp) (j := 8) (by omega) hdp)
 have e1 : IntKind.i64.wrap ((m : Int) / 3) = (np : Int) := by rw [IntKind.wrap_i64]; omega
 have e2 : (m : Int) % 3 = 0 := by omega
 have hp256 : 2 ^ dp ≤ 256 := Nat.pow_le_pow_right (n := 2) (i := dp) (j := 8) (by omega) hdp
 have hdp64 : (dp : Int) ≤ 64 := by omega
 have g1 : ¬ ((256 : Int) < (np : Int)) := by omega
 have e5 : wrap64 ((2 : Int) ^ dp) = (2 : Int) ^ dp := by
  have : (2 : Int) ^ dp = ((2 ^ dp : Nat) : Int) := by simp
  rw [this]; unfold wrap64; omega
 have g2 : ¬ ((2 : Int) ^ dp < (np : Int)) := by
  have : (2 : Int) ^ dp = ((2 ^ dp : Nat) : Int) := by simp
  rw [this]; omega
 have e4 : IntKind.i64.wrap (3 * (np : Int)) = (m : Int) := by rw [IntKind.wrap_i64]; omega
 have g3 : (m : Int) ≤ 768 := by omega
 have C := rf_full rb sb d 10 768 786 m td p _ w.drew hs (Lib.hid hp) (by omega) hd.row (by omega) hd.ne.2.2 hds
 have HC := Lib.hid C
 have Hp := Lib.hid hp
 have Hm := Lib.hid hm
 clear C hs hp hm
 have hr := hd.r
 go_enter Tryz.func89, Tryz.ntmps89
 go_wp2
 go_region_with (go_at_call 84; refine HC.out.mono ?_; rintro e w1 ⟨rfl, hF, hS, hsame, hsrc⟩)
 have hcd := hd.ne.1
 have hcr := hd.ne.2.1
 have hdr := hd.ne.2.2
 have r2 : w1.cell? ⟨d, 2, none⟩ = some (.pointer (some ⟨c, 0, none⟩)) := by rw [hsame 2 (by omega)]; exact hd.crc
 have C2 := crcW_acc c d 10 768 m acc p w1.drew Hp.out (by omega) 126 (hF.row _ _ _ hd.crow) ((hF.cell (by simpa using hd.crow.lt) (by simp [hcd, hcr]) 0).trans hc)
  (Tab.fr hF (by simp [hT3.1.symm, hT3.2.symm]) hT) hS
 have HC2 := Lib.hid C2
 have r7 : w1.cell? ⟨d, 7, none⟩ = some (.int .i64 cb) := by rw [hsame 7 (by omega)]; exact h7
 have Hsame := Lib.hid hsame
 have HF := Lib.hid hF
 have Hc := Lib.hid hc
 clear C2 hsame hr hF HC hc h5 h7
 go_wp2
 go_region_with (go_at_call 87; refine HC2.out.mono ?_; rintro e w2 ⟨rfl, hF2, hc2⟩)
 have hdc : d ∉ [c] := by simpa using hcd.symm
 have S2 := hS.fr hF2.undrew hdc
 have R2 := hF2.undrew.row _ _ _ (HF.out.row _ _ _ hd.row)
 have s7 := hF2.undrew.cell' (by simpa using hcd.symm) r7
 have HF2 := Lib.hid hF2.undrew
 have Hc2 := Lib.hid hc2
 have HT := Lib.hid hT
 clear hF2 hc2 hT HC2 hS r7 r2
 have hf := R2.frozen
 have hg := R2.has
 obtain ⟨v6, y6⟩ := R2.cell (o := 6) (by omega)
 rcases hcb with rfl | rfl | rfl | rfl
 all_goals
  obtain ⟨W, hmk, FW, RW, hWs⟩ := make256 w2
  have RdW := FW.row _ _ _ R2
  have hfW := RdW.frozen
  have hgW := RdW.has
  obtain ⟨u6, z6⟩ := RdW.cell (o := 6) (by omega)
  have hmk' := Lib.hid hmk
  have Hs := Lib.hid hsrc
  have HR2 := Lib.hid R2
  have HRW := Lib.hid RdW
  have hdlt : d < w2.heap.size := R2.lt
  have hBlt : w2.heap.size < W.heap.size := by omega
  clear hf hg y6 hsrc R2 RdW
  obtain ⟨B, hB⟩ : ∃ B, B = w2.heap.size := ⟨_, rfl⟩
  rw [← hB] at hmk RW hdlt hBlt
  have HB := Lib.hid hB
  clear hB hmk'
  obtain ⟨W1, hW1⟩ : ∃ W1, W.setCell ⟨d, 6, none⟩ (.slice (some ⟨B, 0, none⟩) 256 256) = W1 := ⟨_, rfl⟩
  have HW1 := Lib.hid hW1
  have hdB : d ∉ [B] := by simp; omega
  have c6 : W1.cell? ⟨d, 6, none⟩ = some (.slice (some ⟨B, 0, none⟩) 256 256) := by rw [← hW1]; exact cell?_setCell_has _ _ _ (hgW 6 (by omega))
  have S1 : Seg W1 d 10 p := by rw [← hW1]; exact (S2.fr FW (by simp)).set _ _ (fun _ => .inl (by simp))
  have F1 : Fr [d] W W1 := by rw [← hW1]; exact (Fr.refl _ _).setCell _ _ (.inl (by simp))
  have RB1 := F1.row _ _ _ RW
  have HF1 := Lib.hid F1
  have FW2 : Fr [d, rb, c] w W1 := (((HF.out.undrew.mono (by simp)).trans (HF2.out.mono (by simp))).trans (FW.mono (by simp))).trans (F1.mono (by simp))
  have K1 : ∀ o, o ≠ 6 → (o < 10 ∨ 10 + m ≤ o) → W1.cell? ⟨d, o, none⟩ = w.cell? ⟨d, o, none⟩ := by
   intro o ho ho2
   rw [← hW1, off_ne _ _ _ _ _ (Ne.symm ho), FW.cell (HB.out ▸ hdlt) (by simp), HF2.out.cell (HF.out.undrew.row _ _ _ hd.row).lt hdc, Hsame.out o ho2]; rfl
  have HDW := Lib.hid (hd.fr FW2 (K1 0 (by omega) (by omega)) (K1 2 (by omega) (by omega)))
  have HSW := Lib.hid (((Hs.out.fr HF2.out (by simpa using hcr.symm) (by simpa using hcs.symm)).fr FW (by simp) (by simp)).fr F1 (by simpa using hdr.symm) (by simpa using hds.symm))
  have HCW := Lib.hid ((FW.cell' (by simp) Hc2.out))
  have HCW1 := Lib.hid (F1.cell' (by simpa using hcd) HCW.out)
  have hcB : c < B := by rw [HB.out]; exact (HF2.out.row _ _ _ (HF.out.undrew.row _ _ _ hd.crow)).lt
  have hrB : rb < B ∧ sb < B := by
   obtain ⟨n, cap, i, tr, a, b, cc, dd, ee, ff, gg, kk⟩ := Hs.out
   rw [HB.out]
   exact ⟨(HF2.out.row _ _ _ cc).lt, Nat.lt_of_lt_of_le (World.block_lt_of_cell? w1 ⟨sb, i + 0, none⟩ (gg 0 (by simp [four]))) HF2.out.size⟩
  have hwB : w.heap.size ≤ B := by rw [HB.out]; exact Nat.le_trans HF.out.undrew.size HF2.out.size
  have HK1 := Lib.hid K1
  have HFW2 := Lib.hid FW2
  have Hlt := Lib.hid (And.intro hcB (And.intro hrB hwB))
  clear K1 FW2 HCW hcB hrB hwB
  have HS1 := Lib.hid S1
  clear S1 F1 S2 FW hWs
  go_wp2
  go_loopg [8] np (fun g i wr => ∃ j : Nat, j + g = np ∧ i = .int .i64 j ∧ Fr [B] W1 wr ∧
   ∀ k, k < j → wr.cell? ⟨B, k, none⟩ = some (rgbV (nb p (3 * k)) (nb p (3 * k + 1)) (nb p (3 * k + 2))))
  case atStart => exact ⟨0, by omega, rfl, Fr.refl _ _, fun k hk => absurd hk (Nat.not_lt_zero k)⟩
  case round =>
   obtain ⟨j, hj, rfl, FL, hL⟩ := hrel
   have q6 := FL.cell' hdB c6
   have Hq := Lib.hid hL
   have HFL := Lib.hid FL
   have RBr := FL.row _ _ _ RB1
   have Hj := Lib.hid hj
   clear hL
   by_cases hlt : j < np
   ·
    have Sr := HS1.out.fr FL hdB
    have hl := Hp.out
    have hm := Hm.out
    obtain ⟨a, ha⟩ : ∃ a, a = 3 * j := ⟨_, rfl⟩
    have x0 := Sr a (by omega)
    have x1 := Sr (a + 1) (by omega)
    have x2 := Sr (a + 2) (by omega)
    have hja : 3 * (j : Int) = (a : Int) := by omega
    have hwa : IntKind.i64.wrap (3 * (j : Int)) = (a : Int) := by rw [IntKind.wrap_i64]; omega
    have wa0 : IntKind.i64.wrap (a : Int) = (a : Int) := by rw [IntKind.wrap_i64]; omega
    have wa1 : IntKind.i64.wrap ((a : Int) + 1) = (a : Int) + 1 := by rw [IntKind.wrap_i64]; omega
    have wa2 : IntKind.i64.wrap ((a : Int) + 2) = (a : Int) + 2 := by rw [IntKind.wrap_i64]; omega
    have ba0 : (a : Int) < 768 := by omega
    have ba1 : (a : Int) + 1 < 768 := by omega
    have ba2 : (a : Int) + 2 < 768 := by omega
    have ta2 : ((a : Int) + 2).toNat = a + 2 := by omega
    have pa1 : (0 : Int) ≤ (a : Int) + 1 := by omega
    have pa2 : (0 : Int) ≤ (a : Int) + 2 := by omega
    have b2 : a + 2 < 768 := by omega
    have Ha := Lib.hid ha
    have hfB := RBr.frozen
    have hgB := RBr.has
    clear Sr FL hj hm hl ha
    obtain ⟨uj, zj⟩ := RBr.cell (o := j) (by omega)
    have hnpi : (j : Int) < 256 := by omega
    clear RBr
    go_wp2
    go_still_tail 32, (by kernel_rfl)
    go_wp2
    go_roundg (gk - 1)
    case measure => have := Hj.out; omega
    case rel =>
     have := Hj.out
     refine ⟨j + 1, by omega, by go_num, ?_, ?_⟩
     ·
      exact HFL.out.drew.setCell _ _ (.inl (by simp))
     ·
      intro k hk
      by_cases hkj : k = j
      ·
       subst hkj
       have hha := Ha.out
       rw [← hha]
       exact cell?_setCell_has wr.drew ⟨B, k, none⟩ (rgbV (nb p a) (nb p (a + 1)) (nb p (a + 2))) (hgB k (by omega))
      ·
       exact (off_ne wr.drew B k j _ (fun e => hkj e.symm)).trans (Hq.out k (by omega))
   ·
    have hjn : j = np := by have := Hj.out; omega
    subst hjn
    clear hlt Hj
    go_wp2
    obtain ⟨wo, hwo⟩ : ∃ wo : World, wo = wr := ⟨_, rfl⟩
    go_loopg [9] (256 - j) (fun g i wr => ∃ t : Nat, t + g = 256 ∧ j ≤ t ∧ i = .int .i64 t ∧ Fr [B] W1 wr ∧
     (∀ k, k < j → wr.cell? ⟨B, k, none⟩ = some (rgbV (nb p (3 * k)) (nb p (3 * k + 1)) (nb p (3 * k + 2)))) ∧
     ∀ k, j ≤ k → k < t → wr.cell? ⟨B, k, none⟩ = some (rgbV 0 0 0))
    case atStart => exact ⟨j, by omega, Nat.le_refl _, rfl, HFL.out, Hq.out, fun k hk hk' => absurd hk (by omega)⟩
    case round =>
     clear HFL Hq q6 RBr
     obtain ⟨t, ht, hjt, rfl, FL, hL, hM⟩ := hrel
     have q6 := FL.cell' hdB c6
     have Hq := Lib.hid hL
     have HM := Lib.hid hM
     have HFL := Lib.hid FL
     have RBr := FL.row _ _ _ RB1
     have Ht := Lib.hid ht
     clear hL hM ht
     by_cases hlt : t < 256
     ·
      have hfB := RBr.frozen
      have hgB := RBr.has
      obtain ⟨uj, zj⟩ := RBr.cell (o := t) hlt
      have hnpi : (t : Int) < 256 := by omega
      clear RBr FL
      go_wp2
      go_roundg (gk - 1)
      case measure => have := Ht.out; omega
      case rel =>
       have := Ht.out
       refine ⟨t + 1, by omega, by omega, by go_num, HFL.out.setCell _ _ (.inl (by simp)), fun k hk => ?_, fun k hk hk' => ?_⟩
       ·
        exact (off_ne _ B k t _ (by omega)).trans (Hq.out k hk)
       ·
        by_cases hkt : k = t
        ·
         subst hkt
         exact cell?_setCell_has _ ⟨B, k, none⟩ (rgbV 0 0 0) (hgB k (by omega))
        ·
         exact (off_ne _ B k t _ (fun e => hkt e.symm)).trans (HM.out k hk (by omega))
     ·
      have ht256 : t = 256 := by have := Ht.out; omega
      subst ht256
      have Rd5 := FL.row _ _ _ (HF1.out.row _ _ _ HRW.out)
      have hf5 := Rd5.frozen
      have hg5 := Rd5.has
      have hj256 : (j : Int) ≤ 256 := by omega
      clear Rd5 FL RBr hlt Ht
      go_wp2_with fail
      generalize hW5 : World.setCell _ _ _ = W5
      have F5 : Fr [d] wr W5 := by rw [← hW5]; exact (Fr.refl _ _).setCell _ _ (.inl (by simp))
      have q65 : W5.cell? ⟨d, 6, none⟩ = some (.slice (some ⟨B, 0, none⟩) j 256) := by rw [← hW5]; exact cell?_setCell_has _ _ _ (hg5 6 (by omega))
      have hdltB : d ≠ B := by omega
      have K5 : ∀ o, o ≠ 6 → W5.cell? ⟨d, o, none⟩ = W1.cell? ⟨d, o, none⟩ := by
       intro o ho
       rw [← hW5, off_ne _ _ _ _ _ (Ne.symm ho), HFL.out.cell (HF1.out.row _ _ _ HRW.out).lt hdB]
      have hlts := Hlt.out
      have D5 := (HDW.out.fr HFL.out (HFL.out.cell HDW.out.row.lt hdB 0) (HFL.out.cell HDW.out.row.lt hdB 2)).fr F5 ((K5 0 (by omega)).trans (HFL.out.cell HDW.out.row.lt hdB 0).symm) ((K5 2 (by omega)).trans (HFL.out.cell HDW.out.row.lt hdB 2).symm)
      have S5 := (HSW.out.fr HFL.out (by simp; omega) (by simp; omega)).fr F5 (by simpa using hdr.symm) (by simpa using hds.symm)
      have C5 := F5.cell' (by simpa using hcd) (HFL.out.cell' (by simp; omega) HCW1.out)
      refine (verify_ok d c rb sb td (four (crc (acc ++ p))) rest W5 D5 S5 hds hcs rfl (by rw [be4_four _ (crc_lt _)]; exact C5)).mono ?_
      rintro e w6 ⟨rfl, F6, K6, S6⟩
      have Hk5 := Lib.hid K5
      have Hk6 := Lib.hid K6
      have Hw5 := Lib.hid hW5
      clear K5 K6 hW5 D5 S5 C5
      go_wp2
      go_ret
      have F16 : Fr [d, rb, c, B] W1 w6 := ((HFL.out.mono (by simp)).trans (F5.mono (by simp))).trans (F6.mono (by simp))
      have hBr : B ∉ [d, rb] := by simp; omega
      have RB5 := F5.row _ _ _ (HFL.out.row _ _ _ RB1)
      refine ⟨rfl, HFW2.out.new' F16 (by simp; omega), ?_, S6, B, hlts.2.2, ?_, F6.row _ _ _ RB5, ?_, ?_⟩
      ·
       rintro o ⟨o6, ho⟩
       exact (Hk6.out o (by omega)).trans ((Hk5.out o o6).trans (HK1.out o o6 (by omega)))
      ·
       exact (Hk6.out 6 (by omega)).trans q65
      ·
       intro k hk
       rw [F6.cell RB5.lt hBr, F5.cell (HFL.out.row _ _ _ RB1).lt (by simp; omega)]; exact Hq.out k hk
      ·
       intro k hk hk'
       rw [F6.cell RB5.lt hBr, F5.cell (HFL.out.row _ _ _ RB1).lt (by simp; omega)]; exact HM.out k hk hk'
end Go.Proofs.YtnpkgmgedgcjmaaGreatDoor
end
