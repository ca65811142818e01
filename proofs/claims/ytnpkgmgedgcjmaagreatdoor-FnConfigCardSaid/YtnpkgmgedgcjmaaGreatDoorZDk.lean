/- A part of the proof: Dk. -/
import Derived.Deep.LoopGhost
import Derived.Test.YtnpkgmgedgcjmaaGreatDoorZDc
import Derived.Test.YtnpkgmgedgcjmaaGreatDoorZEi
import Derived.Test.YtnpkgmgedgcjmaaGreatDoorZSk
set_option linter.all false
set_option maxRecDepth 100000
section
namespace Go.Proofs.YtnpkgmgedgcjmaaGreatDoor
open Go Go.RowKit Png
def DC (w : World) (n : Nat) (s : RS) (k : Nat) : Prop :=
 w.cell? ⟨n + 1 + 1, 8, none⟩ = some (.int .i64 (k : Int)) ∧ w.cell? ⟨n + 1 + 1, 3, none⟩ = some (.int .i64 (s.W : Int)) ∧ w.cell? ⟨n + 1 + 1, 4, none⟩ = some (.int .i64 (s.H : Int)) ∧ w.cell? ⟨n + 1 + 1, 5, none⟩ = some (.int .i64 (s.dp : Int)) ∧ w.cell? ⟨n + 1 + 1, 7, none⟩ = some (.int .i64 (cbOf 3 s.dp : Nat))
def DSt (w : World) (rb sb n : Nat) (s : RS) : Prop :=
 (s.stage = 0 ∧ s.pal = [] ∧ w.cell? ⟨n + 1 + 1, 8, none⟩ = some (.int .i64 0) ∧ w.cell? ⟨n + 1 + 1, 6, none⟩ = some (.slice none 0 0)) ∨
 (s.stage = 1 ∧ s.ct = 3 ∧ s.pal = [] ∧ DC w n s 1) ∨
 (s.stage = 2 ∧ s.ct = 3 ∧ DC w n s 2 ∧ ∃ (B np : Nat) (R G U : Nat → Nat), s.pal = q4s R G U (fun _ => 255) np ∧ 0 < np ∧ np ≤ 256 ∧ (∀ k, R k < 256 ∧ G k < 256 ∧ U k < 256) ∧ n + 3 ≤ B ∧ w.cell? ⟨n + 1 + 1, 6, none⟩ = some (.slice (some ⟨B, 0, none⟩) np 256) ∧ Row w B 140 256 ∧ ∀ k, k < np → w.cell? ⟨B, k, none⟩ = some (rgbV (R k) (G k) (U k)))
structure DI (w wr : World) (rb sb n : Nat) (sF : RS) (tail : List UInt8) (cs : List (List UInt8 × List UInt8)) (s : RS) : Prop where
 run : RunG cs s sF
 inv : RInv s
 fr : Fr [n + 1 + 1, n + 1, rb, n] w wr
 rn : Row wr n 104 4
 dec : Dec wr (n + 1 + 1) (n + 1) rb 130
 src : Src wr rb sb (cks cs ++ tail)
 tab : Tab wr 3 .u32 256 crc8
 st : DSt wr rb sb n s
 big : n + 3 ≤ wr.heap.size
theorem ck_src (nm b x : List UInt8) (cs : List (List UInt8 × List UInt8)) : cks ((nm, b) :: cs) ++ x = (four b.length ++ nm) ++ (b ++ (four (crc (nm ++ b)) ++ (cks cs ++ x))) := by
 simp only [cks_cons, ck, List.append_assoc]
theorem cb_pal (dp : Nat) (hk : Kinds 3 dp) : (cbOf 3 dp = 7 ∨ cbOf 3 dp = 8 ∨ cbOf 3 dp = 9 ∨ cbOf 3 dp = 10) ∧ decide (7 ≤ cbOf 3 dp ∧ cbOf 3 dp ≤ 10) = true ∧ dp ≤ 8 := by
 have h : dp = 1 ∨ dp = 2 ∨ dp = 4 ∨ dp = 8 := by unfold Kinds at hk; omega
 rcases h with rfl | rfl | rfl | rfl <;> decide
theorem cb_plain (ct dp : Nat) (hk : Kinds ct dp) (hct3 : ct ≠ 3) : decide (7 ≤ cbOf ct dp ∧ cbOf ct dp ≤ 10) = false := by
 unfold Kinds at hk
 rcases hk with ⟨rfl, rfl⟩ | ⟨rfl, rfl⟩ | ⟨rfl, rfl⟩ | ⟨rfl, rfl⟩ | ⟨rfl, rfl⟩ | ⟨rfl, rfl⟩ | ⟨rfl, rfl⟩ | ⟨rfl, rfl⟩ | ⟨rfl, rfl⟩ | ⟨rfl, rfl⟩ | ⟨rfl, rfl⟩ | ⟨rfl, rfl⟩ | ⟨rfl, rfl⟩ | ⟨rfl, rfl⟩ | ⟨rfl, rfl⟩ <;> first | rfl | exact absurd rfl hct3
def ConfV (w' : World) (sF : RS) (pv : Value) : Prop :=
 (sF.ct ≠ 3 ∧ pv = .slice none 0 0) ∨ (sF.ct = 3 ∧ ∃ (np : Nat) (R G U A : Nat → Nat), sF.pal = q4s R G U A np ∧ np ≤ 256 ∧ (∀ k, R k < 256 ∧ G k < 256 ∧ U k < 256 ∧ A k < 256) ∧ ∃ B, pv = .slice (some ⟨B, 0, none⟩) np 256 ∧ B < w'.heap.size ∧
  ∀ k, k < np → w'.cell? ⟨B, k, none⟩ = some (nrgbV (R k) (G k) (U k) (A k)) ∨ (w'.cell? ⟨B, k, none⟩ = some (rgbV (R k) (G k) (U k)) ∧ A k = 255))
set_option maxHeartbeats 16000000 in
theorem dconf_run (rb sb : Nat) (sF : RS) (cs : List (List UInt8 × List UInt8)) (tail : List UInt8) (w : World) (hrun : RunG cs RS.init sF) (h6 : sF.stage = 6) (hW1 : sF.W ≤ 16384) (hH1 : sF.H ≤ 16384) (hbd : ∀ c ∈ cs, c.2.length ≤ 2147483647)
  (hs : Src w rb sb (sig ++ (cks cs ++ tail))) (hT : Tab w 3 .u32 256 crc8) (hT3 : rb ≠ 3) :
  Calls Tryz.prog 51 #[.iface 84 (.pointer (some ⟨rb, 0, none⟩))] w fun e w' =>
   ∃ pv, e = .returned (.tuple #[.agg #[.int .i64 (cbOf sF.ct sF.dp : Nat), pv, .int .i64 (sF.W : Int), .int .i64 (sF.H : Int)], .nilIface]) ∧ Fr [rb] w w' ∧ ConfV w' sF pv := by
 have hrb : rb < w.heap.size ∧ sb < w.heap.size ∧ 3 < w.heap.size := by
  obtain ⟨n, cap, i, tr, a, b, cc, dd, ee, ff, gg, kk⟩ := hs
  exact ⟨cc.lt, World.block_lt_of_cell? w ⟨sb, i + 0, none⟩ (gg 0 (by simp [sig])), World.block_lt_of_cell? w ⟨3, 0, none⟩ (hT 0 (by omega))⟩
 have Hs := Lib.hid hs
 clear hs
 obtain ⟨n, hn⟩ : ∃ n, n = w.heap.size := ⟨_, rfl⟩
 have Hn := Lib.hid hn
 have hnw : w.heap.size = n := hn.symm
 rw [← hn] at hrb
 have Hrun := Lib.hid hrun
 have H6 := Lib.hid h6
 have HWH := Lib.hid (And.intro hW1 hH1)
 have Hbd := Lib.hid hbd
 clear hn hrun h6 hW1 hH1 hbd
 go_enter Tryz.func51, Tryz.ntmps51
 go_wp2_with fail
 generalize hW0 : World.alloc _ _ = W0
 obtain ⟨F0, D0, p6, p7, p8, Rr, hsz⟩ := decoder_new rb n w W0 _ _ Hn.out hrb.1 hW0
 have T0 := hT.fr F0 (by simp)
 have HF0 := Lib.hid F0
 have HR0 := Lib.hid Rr
 have Hsz := Lib.hid hsz
 refine (checkHeader_ok (n + 1 + 1) (n + 1) rb sb 130 _ W0 D0 (Hs.out.fr F0 (by simp) (by simp)) (by omega)).mono ?_
 rintro e w1 ⟨rfl, F1, K1, S1⟩
 have HD1 : Hid (DI w w1 rb sb n sF tail cs RS.init) := Lib.hid ⟨Hrun.out, RInv.init, (HF0.out.mono (by simp)).trans (F1.mono (by simp)), F1.row _ _ _ HR0.out, D0.fr F1 (K1 0 (by omega)) (K1 2 (by omega)), S1, T0.fr F1 (by simp; omega), .inl ⟨rfl, rfl, (K1 8 (by omega)).trans p8, (K1 6 (by omega)).trans p6⟩, by have := F1.size; omega⟩
 clear F0 D0 p6 p7 p8 Rr hsz T0 F1 K1 S1 hW0 HR0 HF0 Hsz hT
 go_wp2
 go_loopg [6] cs.length (fun gh v wr => True ∧ ∃ cs2 s2, cs2.length = gh ∧ Hid (∀ c ∈ cs2, c.2.length ≤ 2147483647) ∧ Hid (DI w wr rb sb n sF tail cs2 s2))
 case atStart => exact ⟨trivial, cs, RS.init, rfl, Hbd, HD1⟩
 case round =>
  obtain ⟨_, cs2, s2, hgh, HB2, HD⟩ := hrel
  have Hgh := Lib.hid hgh
  clear hgh HD1 Hbd Hrun
  have hdrb : n + 1 + 1 ≠ 3 ∧ rb ≠ 3 ∧ n + 1 ≠ 3 := by omega
  rcases cs2 with _ | ⟨⟨nm, b⟩, cs3⟩
  ·
   exfalso
   have := HD.out.run
   have hst := HD.out.st
   have h6 := H6.out
   cases this
   rcases hst with ⟨h, _⟩ | ⟨h, _⟩ | ⟨h, _⟩ <;> omega
  ·
   obtain ⟨s3, hstep, hrest⟩ : ∃ s3, StepG s2 nm b s3 ∧ RunG cs3 s3 sF := by
    have := HD.out.run
    cases this with
    | cons c cs' _ s1 _ h1 h2 => exact ⟨_, h1, h2⟩
   have HB3 := Lib.hid (show ∀ c ∈ cs3, c.2.length ≤ 2147483647 from fun c hc => HB2.out c (List.mem_cons_of_mem _ hc))
   have hbl : b.length ≤ 2147483647 := HB2.out _ List.mem_cons_self
   have hsrc := HD.out.src
   rw [ck_src] at hsrc
   have HSrc := Lib.hid hsrc
   have HRest := Lib.hid hrest
   have HInv := Lib.hid (HD.out.inv.step hstep)
   have Hlen := Lib.hid (show cs3.length < gk from by have := Hgh.out; simp at this; omega)
   have HF := Lib.hid HD.out.fr
   clear hsrc hrest HB2 Hgh
   rcases HD.out.st with ⟨k0, kp, k8, k6⟩ | ⟨k1, kc, kp, k8, k3, k4, k5, k7⟩ | ⟨k2, kc, ⟨k8, k3, k4, k5, k7⟩, B, np, R, G, U, hpal, hnp0, hnp, hbd, hB, k6, hRB, hcell⟩
   ·
    -- the head
    cases hstep with
    | ihdr b h0 hl hW hH hk h10 h11 h12 =>
     obtain ⟨eW, eH, edp, ect, _⟩ := HRest.out.shape (by simp)
     dsimp only at eW eH edp ect
     obtain ⟨W, hWe⟩ : ∃ W, W = be4 b 0 := ⟨_, rfl⟩
     obtain ⟨H, hHe⟩ : ∃ H, H = be4 b 4 := ⟨_, rfl⟩
     obtain ⟨dp, hdpe⟩ : ∃ dp, dp = nb b 8 := ⟨_, rfl⟩
     obtain ⟨ct, hcte⟩ : ∃ ct, ct = nb b 9 := ⟨_, rfl⟩
     obtain ⟨il, hile⟩ : ∃ il, il = nb b 12 := ⟨_, rfl⟩
     rw [← hWe] at hW eW
     rw [← hHe] at hH eH
     rw [← hdpe] at hk edp
     rw [← hcte] at hk ect
     rw [← hile] at h12
     have hW1 : W ≤ 16384 := by rw [← eW]; exact HWH.out.1
     have hH1 : H ≤ 16384 := by rw [← eH]; exact HWH.out.2
     have HE := Lib.hid (And.intro eW (And.intro eH (And.intro edp ect)))
     have hsr := HSrc.out
     rw [hl] at hsr
     have HC := Lib.hid (chunk_IHDR (n + 1 + 1) (n + 1) rb sb W H dp ct il true 130 b _ wr HD.out.dec hsr (by omega) (by omega) hl HD.out.tab hdrb k8 hWe.symm hHe.symm hdpe.symm hcte.symm h10 h11 hile.symm (by omega) hk hW hH hW1 hH1)
     have Hk := Lib.hid hk
     have HX := Lib.hid (And.intro hWe (And.intro hHe (And.intro hdpe (And.intro hcte hile))))
     clear hsr hWe hHe hdpe hcte hile hk eW eH edp ect h10 h11 h12 k8 hW hH hW1 hH1 h0
     go_wp2_with fail
     refine HC.out.mono ?_
     rintro e w2 ⟨rfl, F2, K2, S2, v8, v3, v4, v5, v7, vi⟩
     have HF2 := Lib.hid F2
     have v6 := (K2 6 (by omega)).trans k6
     have HF := Lib.hid (HF.out.trans (F2.mono (by simp)))
     have rn2 : Row w2 n 104 4 := F2.row _ _ _ HD.out.rn
     have big2 : n + 3 ≤ w2.heap.size := Nat.le_trans HD.out.big F2.size
     by_cases hct3 : ct = 3
     ·
      subst hct3
      have HDn : Hid (DI w w2 rb sb n sF tail cs3 ⟨be4 b 0, be4 b 4, nb b 8, nb b 9, nb b 12 == 1, s2.pal, s2.clear, 1, s2.rest⟩) := Lib.hid ⟨HRest.out, HInv.out, HF.out, rn2, HD.out.dec.fr F2 (K2 0 (by omega)) (K2 2 (by omega)), S2, HD.out.tab.fr F2 (by simp; omega), .inr (.inl ⟨rfl, HX.out.2.2.2.1.symm, kp, v8, by rw [← HX.out.1]; exact v3, by rw [← HX.out.2.1]; exact v4, by rw [← HX.out.2.2.1]; exact v5, by rw [← HX.out.2.2.1]; exact v7⟩), big2⟩
      clear F2 K2 S2 v3 v4 v5 vi HC k6 v6
      go_wp2_with fail
      have CP := cbPal_any (cbOf 3 dp) w2
      rw [(cb_pal dp Hk.out).2.1] at CP
      refine CP.mono ?_
      rintro e w' ⟨rfl, rfl⟩
      clear CP
      go_wp2
      go_roundg cs3.length
      case measure => exact Hlen.out
      case rel => exact ⟨trivial, cs3, _, rfl, HB3, HDn⟩
     ·
      have hnp := cb_plain ct dp Hk.out hct3
      clear F2 K2 S2 v5 vi HC k6
      go_wp2_with fail
      have CP := cbPal_any (cbOf ct dp) w2
      rw [hnp] at CP
      refine CP.mono ?_
      rintro e w' ⟨rfl, rfl⟩
      clear CP
      go_wp2
      have hfn := rn2.frozen
      obtain ⟨x0, y0⟩ := rn2.cell (o := 0) (by decide)
      obtain ⟨x1, y1⟩ := rn2.cell (o := 1) (by decide)
      obtain ⟨x2, y2⟩ := rn2.cell (o := 2) (by decide)
      obtain ⟨x3, y3⟩ := rn2.cell (o := 3) (by decide)
      have hgn := rn2.has
      clear rn2
      go_still_tail 17, (by kernel_rfl)
      go_wp2
      have F5 : Fr [n] w2 _ := (((((Fr.refl [n] w2).setCell ⟨n, 0, none⟩ (.int .i64 (cbOf ct dp : Nat)) (.inl (by simp))).setCell ⟨n, 1, none⟩ (.slice none 0 0) (.inl (by simp))).setCell ⟨n, 2, none⟩ (.int .i64 (W : Int)) (.inl (by simp))).setCell ⟨n, 3, none⟩ (.int .i64 (H : Int)) (.inl (by simp))).drew
      refine bodyPost_ret (v := .tuple #[.agg #[.int .i64 (cbOf ct dp : Nat), .slice none 0 0, .int .i64 (W : Int), .int .i64 (H : Int)], .nilIface]) (by rw [results_cell_tmp rfl]; go_simp) rfl ⟨.slice none 0 0, ?_, ?_, .inl ⟨?_, rfl⟩⟩
      ·
       rw [HE.out.1, HE.out.2.1, HE.out.2.2.1, HE.out.2.2.2]
      ·
       exact (Fr.refl [rb] w).new' (HF.out.trans (F5.mono (by simp))) (by simp; omega)
      ·
       rw [HE.out.2.2.2]; exact hct3
    | plte b x => exact absurd x (by omega)
    | trns b x => exact absurd x (by omega)
    | trns3 b x => exact absurd x (by omega)
    | idat b x => exact absurd k0 x
    | iend x => exact absurd x (by omega)
    | other nm b x4 x => exact absurd k0 x
   ·
    -- between the head and the palette
    cases hstep with
    | ihdr b h0 => exact absurd h0 (by omega)
    | plte b y1 h0 h3 h768 hd =>
     obtain ⟨W, hWe⟩ : ∃ W, W = s2.W := ⟨_, rfl⟩
     obtain ⟨dp, hdpe⟩ : ∃ dp, dp = s2.dp := ⟨_, rfl⟩
     have hkk : Kinds 3 s2.dp := by have := (HD.out.inv.k (by omega)).1; rwa [kc] at this
     obtain ⟨c1, c2, c3⟩ := cb_pal s2.dp hkk
     obtain ⟨np, hnpe⟩ : ∃ np, np = b.length / 3 := ⟨_, rfl⟩
     rw [← hnpe] at hd
     have hm : b.length = 3 * np := by omega
     have hnp0 : 0 < np := by omega
     have HC := Lib.hid (chunk_PLTE (n + 1 + 1) (n + 1) rb sb b.length np s2.dp (cbOf 3 s2.dp) true 130 b _ wr HD.out.dec HSrc.out (by omega) (by omega) rfl hm HD.out.tab hdrb k8 k5 k7 c1 c3 hnp0 hd)
     have Hnp := Lib.hid hnpe
     have hnp256 : np ≤ 256 := by omega
     clear hkk c1 c3 hm hnpe h768 h3 h0 hd y1 hWe hdpe
     go_wp2_with fail
     refine HC.out.mono ?_
     rintro e w2 ⟨rfl, F2, K2, S2, v8, B, hB, v6, RB, L1, L2⟩
     have v7 := (K2 7 (by omega)).trans k7
     have HDn : Hid (DI w w2 rb sb n sF tail cs3 ⟨s2.W, s2.H, s2.dp, s2.ct, s2.il, s2.pal ++ palQ b (b.length / 3), s2.clear, 2, s2.rest⟩) := Lib.hid ⟨HRest.out, HInv.out, HF.out.trans (F2.mono (by simp)), F2.row _ _ _ HD.out.rn, HD.out.dec.fr F2 (K2 0 (by omega)) (K2 2 (by omega)), S2, HD.out.tab.fr F2 (by simp; omega),
      .inr (.inr ⟨rfl, kc, ⟨v8, (K2 3 (by omega)).trans k3, (K2 4 (by omega)).trans k4, (K2 5 (by omega)).trans k5, v7⟩, B, np, _, _, _, by rw [kp, ← Hnp.out]; rfl, hnp0, hnp256, fun k => ⟨nb_lt _ _, nb_lt _ _, nb_lt _ _⟩, Nat.le_trans HD.out.big hB, v6, RB, L1⟩), Nat.le_trans HD.out.big F2.size⟩
     clear F2 K2 S2 HC k8 k7 k3 k4 k5 L1 L2 RB hB v6
     go_wp2_with fail
     have CP := cbPal_any (cbOf 3 s2.dp) w2
     rw [c2] at CP
     refine CP.mono ?_
     rintro e w' ⟨rfl, rfl⟩
     clear CP c2
     go_wp2
     go_roundg cs3.length
     case measure => exact Hlen.out
     case rel => exact ⟨trivial, cs3, _, rfl, HB3, HDn⟩
    | trns b x hc => exact absurd hc (by omega)
    | trns3 b x => exact absurd x (by omega)
    | idat b x0 x3 => exact absurd ⟨kc, k1⟩ x3
    | iend x => exact absurd x (by omega)
    | other nm b x4 x0 x1 x2 x3 x5 x6 =>
     have HC := Lib.hid (chunk_skip (n + 1 + 1) (n + 1) rb sb true 130 nm b _ wr HD.out.dec HSrc.out (by omega) (by omega) x4 hbl x1 x2 x3 x5 x6 HD.out.tab hdrb)
     clear x0 x1 x2 x3 x5 x6 x4
     go_wp2_with fail
     refine HC.out.mono ?_
     rintro e w2 ⟨rfl, F2, K2, S2⟩
     have v7 := (K2 7 (by omega)).trans k7
     have v8 := (K2 8 (by omega)).trans k8
     have HDn : Hid (DI w w2 rb sb n sF tail cs3 ⟨s2.W, s2.H, s2.dp, s2.ct, s2.il, s2.pal, s2.clear, if s2.stage = 4 then 5 else s2.stage, s2.rest⟩) := Lib.hid ⟨HRest.out, HInv.out, HF.out.trans (F2.mono (by simp)), F2.row _ _ _ HD.out.rn, HD.out.dec.fr F2 (K2 0 (by omega)) (K2 2 (by omega)), S2, HD.out.tab.fr F2 (by simp; omega), .inr (.inl ⟨by show (if s2.stage = 4 then 5 else s2.stage) = 1; rw [if_neg (by omega)]; exact k1, kc, kp, v8, (K2 3 (by omega)).trans k3, (K2 4 (by omega)).trans k4, (K2 5 (by omega)).trans k5, v7⟩), Nat.le_trans HD.out.big F2.size⟩
     clear F2 K2 S2 HC k8 k7
     go_wp2_with fail
     have CP := cbPal_any (cbOf 3 s2.dp) w2
     rw [(cb_pal s2.dp (by have := (HD.out.inv.k (by omega)).1; rwa [kc] at this)).2.1] at CP
     refine CP.mono ?_
     rintro e w' ⟨rfl, rfl⟩
     clear CP
     go_wp2
     go_roundg cs3.length
     case measure => exact Hlen.out
     case rel => exact ⟨trivial, cs3, _, rfl, HB3, HDn⟩
   ·
    -- behind the palette
    cases hstep with
    | ihdr b h0 => exact absurd h0 (by omega)
    | plte b x => exact absurd x (by omega)
    | trns b x hc => exact absurd hc (by omega)
    | trns3 b y1 y3 h0 hl =>
     have hmp : b.length ≤ np := by rw [hpal, q4s_length] at hl; exact hl
     have HC := Lib.hid (chunk_tRNS_pal (n + 1 + 1) (n + 1) rb sb B b.length np (cbOf 3 s2.dp) R G U true 130 b _ wr HD.out.dec HSrc.out (by omega) (by omega) rfl HD.out.tab hdrb k8 k7 (cb_pal s2.dp (by have := (HD.out.inv.k (by omega)).1; rwa [kc] at this)).1 k6 h0 hmp hnp ⟨by omega, by omega, by omega, by omega⟩ hRB hcell)
     go_wp2_with fail
     refine HC.out.mono ?_
     rintro e w2 ⟨rfl, F2', K2, S2, v8, L1, L2⟩
     have F2 : Fr [n + 1 + 1, rb, n + 1, B] wr w2 := F2'
     have HFB : Hid (Fr [n + 1 + 1, n + 1, rb, n, B] w w2) := Lib.hid ((HF.out.mono (by simp)).trans (F2.mono (by simp)))
     have v7 := (K2 7 (by omega)).trans k7
     have v6 := (K2 6 (by omega)).trans k6
     have v3 := (K2 3 (by omega)).trans k3
     have v4 := (K2 4 (by omega)).trans k4
     have rn2 : Row w2 n 104 4 := F2.row _ _ _ HD.out.rn
     have HF := Lib.hid (HFB.out)
     have hkk : Kinds 3 s2.dp := by have := (HD.out.inv.k (by omega)).1; rwa [kc] at this
     have c2 := (cb_pal s2.dp hkk).2.1
     have RB2 := F2.row _ _ _ hRB
     have HRB2 := Lib.hid RB2
     have HCell := Lib.hid (show ∀ k, k < np → w2.cell? ⟨B, k, none⟩ = some (nrgbV (R k) (G k) (U k) (if k < b.length then nb b k else 255)) ∨ (w2.cell? ⟨B, k, none⟩ = some (rgbV (R k) (G k) (U k)) ∧ (if k < b.length then nb b k else 255) = 255) from fun k hk => by
      by_cases hkb : k < b.length
      ·
       left; rw [if_pos hkb]; exact L1 k hkb
      ·
       right; rw [if_neg hkb]; exact ⟨(L2 k (by omega)).trans (hcell k hk), rfl⟩)
     obtain ⟨eW, eH, edp, ect, _⟩ := HRest.out.shape (by simp)
     have epal := HRest.out.late (by simp)
     dsimp only at eW eH edp ect epal
     have HE := Lib.hid (And.intro eW (And.intro eH (And.intro edp (And.intro ect epal))))
     clear F2 K2 S2 HC k8 k7 k6 k3 k4 k5 hcell hRB hkk eW eH edp ect epal RB2 L1 L2 F2' hmp h0 hl y1 y3
     obtain ⟨W, hWe⟩ : ∃ W, W = s2.W := ⟨_, rfl⟩
     obtain ⟨H, hHe⟩ : ∃ H, H = s2.H := ⟨_, rfl⟩
     obtain ⟨cb, hcbe⟩ : ∃ cb, cb = cbOf 3 s2.dp := ⟨_, rfl⟩
     rw [← hWe] at v3
     rw [← hHe] at v4
     rw [← hcbe] at v7 c2
     have HX := Lib.hid (And.intro hWe (And.intro hHe hcbe))
     clear hWe hHe hcbe
     go_wp2_with fail
     have CP := cbPal_any cb w2
     rw [c2] at CP
     refine CP.mono ?_
     rintro e w' ⟨rfl, rfl⟩
     clear CP c2
     go_wp2
     have hfn := rn2.frozen
     obtain ⟨x0, y0⟩ := rn2.cell (o := 0) (by decide)
     obtain ⟨x1, y1⟩ := rn2.cell (o := 1) (by decide)
     obtain ⟨x2, y2⟩ := rn2.cell (o := 2) (by decide)
     obtain ⟨x3, y3⟩ := rn2.cell (o := 3) (by decide)
     have hgn := rn2.has
     clear rn2
     go_still_tail 17, (by kernel_rfl)
     go_wp2
     have F5 : Fr [n] w2 _ := (((((Fr.refl [n] w2).setCell ⟨n, 0, none⟩ (.int .i64 (cb : Int)) (.inl (by simp))).setCell ⟨n, 1, none⟩ (.slice (some ⟨B, 0, none⟩) np 256) (.inl (by simp))).setCell ⟨n, 2, none⟩ (.int .i64 (W : Int)) (.inl (by simp))).setCell ⟨n, 3, none⟩ (.int .i64 (H : Int)) (.inl (by simp))).drew
     have hBn : B ∉ [n] := by simp; omega
     refine bodyPost_ret (v := .tuple #[.agg #[.int .i64 (cb : Int), .slice (some ⟨B, 0, none⟩) np 256, .int .i64 (W : Int), .int .i64 (H : Int)], .nilIface]) (by rw [results_cell_tmp rfl]; go_simp) rfl ⟨.slice (some ⟨B, 0, none⟩) np 256, ?_, ?_, .inr ⟨?_, np, R, G, U, (fun k => if k < b.length then nb b k else 255), ?_, hnp, ?_, B, rfl, (F5.row _ _ _ HRB2.out).lt, ?_⟩⟩
     ·
      rw [HE.out.1, HE.out.2.1, HE.out.2.2.1, HE.out.2.2.2.1, kc, HX.out.1, HX.out.2.1, HX.out.2.2]
     ·
      exact (Fr.refl [rb] w).new' (HF.out.trans (F5.mono (by simp))) (by simp; omega)
     ·
      rw [HE.out.2.2.2.1]; exact kc
     ·
      rw [HE.out.2.2.2.2]; rw [hpal]; exact setA_q4s _ _ _ _ _ _ _
     ·
      intro k; obtain ⟨a1, a2, a3⟩ := hbd k; refine ⟨a1, a2, a3, ?_⟩; dsimp only; split; exact nb_lt _ _; decide
     ·
      intro k hk; rw [F5.cell HRB2.out.lt hBn k]; exact HCell.out k hk
    | idat b x0 x3 x5 =>
     have HC := Lib.hid (chunk_IDAT_cfg (n + 1 + 1) (n + 1) rb sb b.length 0 130 _ wr HD.out.dec HSrc.out (by omega) (by omega) (by omega) HD.out.tab hdrb k8)
     go_wp2_with fail
     refine HC.out.mono ?_
     rintro e w2 ⟨rfl, F2, K2, S2, v8⟩
     have v7 := (K2 7 (by omega)).trans k7
     have v6 := (K2 6 (by omega)).trans k6
     have v3 := (K2 3 (by omega)).trans k3
     have v4 := (K2 4 (by omega)).trans k4
     have rn2 : Row w2 n 104 4 := F2.row _ _ _ HD.out.rn
     have HF := Lib.hid (HF.out.trans (F2.mono (by simp)))
     have hkk : Kinds 3 s2.dp := by have := (HD.out.inv.k (by omega)).1; rwa [kc] at this
     have c2 := (cb_pal s2.dp hkk).2.1
     have RB2 := F2.row _ _ _ hRB
     have HRB2 := Lib.hid RB2
     have HCell := Lib.hid (show ∀ k, k < np → w2.cell? ⟨B, k, none⟩ = some (rgbV (R k) (G k) (U k)) from fun k hk => (F2.cell hRB.lt (by simp; omega) k).trans (hcell k hk))
     obtain ⟨eW, eH, edp, ect, _⟩ := HRest.out.shape (by simp)
     have epal := HRest.out.late (by simp)
     dsimp only at eW eH edp ect epal
     have HE := Lib.hid (And.intro eW (And.intro eH (And.intro edp (And.intro ect epal))))
     clear F2 K2 S2 HC k8 k7 k6 k3 k4 k5 hcell hRB hkk eW eH edp ect epal RB2 x0 x3 x5
     obtain ⟨W, hWe⟩ : ∃ W, W = s2.W := ⟨_, rfl⟩
     obtain ⟨H, hHe⟩ : ∃ H, H = s2.H := ⟨_, rfl⟩
     obtain ⟨cb, hcbe⟩ : ∃ cb, cb = cbOf 3 s2.dp := ⟨_, rfl⟩
     rw [← hWe] at v3
     rw [← hHe] at v4
     rw [← hcbe] at v7 c2
     have HX := Lib.hid (And.intro hWe (And.intro hHe hcbe))
     clear hWe hHe hcbe
     go_wp2_with fail
     have CP := cbPal_any cb w2
     rw [c2] at CP
     refine CP.mono ?_
     rintro e w' ⟨rfl, rfl⟩
     clear CP c2
     go_wp2
     have hfn := rn2.frozen
     obtain ⟨x0, y0⟩ := rn2.cell (o := 0) (by decide)
     obtain ⟨x1, y1⟩ := rn2.cell (o := 1) (by decide)
     obtain ⟨x2, y2⟩ := rn2.cell (o := 2) (by decide)
     obtain ⟨x3, y3⟩ := rn2.cell (o := 3) (by decide)
     have hgn := rn2.has
     clear rn2
     go_still_tail 17, (by kernel_rfl)
     go_wp2
     have F5 : Fr [n] w2 _ := (((((Fr.refl [n] w2).setCell ⟨n, 0, none⟩ (.int .i64 (cb : Int)) (.inl (by simp))).setCell ⟨n, 1, none⟩ (.slice (some ⟨B, 0, none⟩) np 256) (.inl (by simp))).setCell ⟨n, 2, none⟩ (.int .i64 (W : Int)) (.inl (by simp))).setCell ⟨n, 3, none⟩ (.int .i64 (H : Int)) (.inl (by simp))).drew
     have hBn : B ∉ [n] := by simp; omega
     refine bodyPost_ret (v := .tuple #[.agg #[.int .i64 (cb : Int), .slice (some ⟨B, 0, none⟩) np 256, .int .i64 (W : Int), .int .i64 (H : Int)], .nilIface]) (by rw [results_cell_tmp rfl]; go_simp) rfl ⟨.slice (some ⟨B, 0, none⟩) np 256, ?_, ?_, .inr ⟨?_, np, R, G, U, (fun _ => 255), ?_, hnp, ?_, B, rfl, (F5.row _ _ _ HRB2.out).lt, ?_⟩⟩
     ·
      rw [HE.out.1, HE.out.2.1, HE.out.2.2.1, HE.out.2.2.2.1, kc, HX.out.1, HX.out.2.1, HX.out.2.2]
     ·
      exact (Fr.refl [rb] w).new' (HF.out.trans (F5.mono (by simp))) (by simp; omega)
     ·
      rw [HE.out.2.2.2.1]; exact kc
     ·
      rw [HE.out.2.2.2.2]; exact hpal
     ·
      intro k; obtain ⟨a1, a2, a3⟩ := hbd k; exact ⟨a1, a2, a3, by show 255 < 256; decide⟩
     ·
      intro k hk; right; exact ⟨(F5.cell HRB2.out.lt hBn k).trans (HCell.out k hk), rfl⟩
    | iend x => exact absurd x (by omega)
    | other nm b x4 x0 x1 x2 x3 x5 x6 =>
     have HC := Lib.hid (chunk_skip (n + 1 + 1) (n + 1) rb sb true 130 nm b _ wr HD.out.dec HSrc.out (by omega) (by omega) x4 hbl x1 x2 x3 x5 x6 HD.out.tab hdrb)
     clear x0 x1 x2 x3 x5 x6 x4
     go_wp2_with fail
     refine HC.out.mono ?_
     rintro e w2 ⟨rfl, F2, K2, S2⟩
     have v7 := (K2 7 (by omega)).trans k7
     have v8 := (K2 8 (by omega)).trans k8
     have HDn : Hid (DI w w2 rb sb n sF tail cs3 ⟨s2.W, s2.H, s2.dp, s2.ct, s2.il, s2.pal, s2.clear, if s2.stage = 4 then 5 else s2.stage, s2.rest⟩) := Lib.hid ⟨HRest.out, HInv.out, HF.out.trans (F2.mono (by simp)), F2.row _ _ _ HD.out.rn, HD.out.dec.fr F2 (K2 0 (by omega)) (K2 2 (by omega)), S2, HD.out.tab.fr F2 (by simp; omega), .inr (.inr ⟨by show (if s2.stage = 4 then 5 else s2.stage) = 2; rw [if_neg (by omega)]; exact k2, kc, ⟨v8, (K2 3 (by omega)).trans k3, (K2 4 (by omega)).trans k4, (K2 5 (by omega)).trans k5, v7⟩, B, np, R, G, U, hpal, hnp0, hnp, hbd, hB, (K2 6 (by omega)).trans k6, F2.row _ _ _ hRB, fun k hk => (F2.cell hRB.lt (by simp; omega) k).trans (hcell k hk)⟩), Nat.le_trans HD.out.big F2.size⟩
     clear F2 K2 S2 HC k8 k7
     go_wp2_with fail
     have CP := cbPal_any (cbOf 3 s2.dp) w2
     rw [(cb_pal s2.dp (by have := (HD.out.inv.k (by omega)).1; rwa [kc] at this)).2.1] at CP
     refine CP.mono ?_
     rintro e w' ⟨rfl, rfl⟩
     clear CP
     go_wp2
     go_roundg cs3.length
     case measure => exact Hlen.out
     case rel => exact ⟨trivial, cs3, _, rfl, HB3, HDn⟩
end Go.Proofs.YtnpkgmgedgcjmaaGreatDoor
end
