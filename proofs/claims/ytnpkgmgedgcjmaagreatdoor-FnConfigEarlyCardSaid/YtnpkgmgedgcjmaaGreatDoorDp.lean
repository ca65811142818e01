/- png.DecodeConfig on good heads with a palette. (Written by my own script.) -/
import Derived.Test.YtnpkgmgedgcjmaaGreatDoorDc
set_option linter.all false
namespace Go.Proofs.YtnpkgmgedgcjmaaGreatDoor
open Go Go.RowKit Png

set_option maxHeartbeats 4000000 in
set_option maxRecDepth 100000 in
theorem dconf_plte (rb sb W H dp il np m ni : Nat) (h p rest : List UInt8) (w : World) 
    (hs : Src w rb sb (sig ++ ((four 13 ++ nIHDR) ++ (h ++ (four (crc (nIHDR ++ h)) ++ ((four m ++ nPLTE) ++ (p ++ (four (crc (nPLTE ++ p)) ++ ((four ni ++ nIDAT) ++ rest))))))))) (hh : h.length = 13)
    (hp : p.length = m) (hm : m = 3 * np) (hni : ni < 4294967296) (hT : Tab w 3 .u32 256 crc8) (hT3 : rb ≠ 3) 
    (hW : be4 h 0 = W) (hH : be4 h 4 = H) (hdp : nb h 8 = dp) (hct : nb h 9 = 3) (h10 : nb h 10 = 0) (h11 : nb h 11 = 0) (h12 : nb h 12 = il) (hil : il = 0 ∨ il = 1)
    (hk : Kinds 3 dp) (hW0 : 0 < W) (hH0 : 0 < H) (hW1 : W ≤ 16384) (hH1 : H ≤ 16384) (hnp0 : 0 < np) (hnp : np ≤ 2 ^ dp) :
    Calls Tryz.prog 51 #[.iface 84 (.pointer (some ⟨rb, 0, none⟩))] w fun e w' =>
      ∃ B, e = .returned (.tuple #[.agg #[.int .i64 (cbOf 3 dp : Nat), .slice (some ⟨B, 0, none⟩) np 256, .int .i64 W, .int .i64 H], .nilIface]) ∧ Fr [rb] w w' ∧
        w.heap.size ≤ B ∧ Row w' B 140 256 ∧ ∀ k, k < np → w'.cell? ⟨B, k, none⟩ = some (rgbV (nb p (3 * k)) (nb p (3 * k + 1)) (nb p (3 * k + 2))) := by
  have hrb : rb < w.heap.size ∧ sb < w.heap.size ∧ 3 < w.heap.size := by
    obtain ⟨n, cap, i, tr, a, b, cc, dd, ee, ff, gg, kk⟩ := hs
    exact ⟨cc.lt, World.block_lt_of_cell? w ⟨sb, i + 0, none⟩ (gg 0 (by simp [sig])), World.block_lt_of_cell? w ⟨3, 0, none⟩ (hT 0 (by omega))⟩
  have Hs := Lib.hid hs
  clear hs
  obtain ⟨n, hn⟩ : ∃ n, n = w.heap.size := ⟨_, rfl⟩
  have Hn := Lib.hid hn
  have hnw : w.heap.size = n := hn.symm
  rw [← hn] at hrb
  clear hn
  have HX := Lib.hid (And.intro hW (And.intro hH (And.intro hdp (And.intro hct (And.intro h10 (And.intro h11 h12))))))
  have hcb : cbOf 3 dp = 7 ∨ cbOf 3 dp = 8 ∨ cbOf 3 dp = 9 ∨ cbOf 3 dp = 10 := by
    have := hk
    unfold Kinds at this
    rcases this with ⟨a, rfl⟩ | ⟨a, rfl⟩ | ⟨a, rfl⟩ | ⟨a, rfl⟩ | ⟨a, rfl⟩ | ⟨a, rfl⟩ | ⟨a, rfl⟩ | ⟨a, rfl⟩ | ⟨a, rfl⟩ | ⟨a, rfl⟩ | ⟨a, rfl⟩ | ⟨a, rfl⟩ | ⟨a, rfl⟩ | ⟨a, rfl⟩ | ⟨a, rfl⟩ <;> first | (exfalso; omega) | simp [cbOf]
  have hdp8 : dp ≤ 8 := by
    have := hk
    unfold Kinds at this
    omega
  have hnp256 : np ≤ 256 := Nat.le_trans hnp (Nat.pow_le_pow_right (n := 2) (i := dp) (j := 8) (by omega) hdp8)
  obtain ⟨cb, hcbe⟩ : ∃ cb, cb = cbOf 3 dp := ⟨_, rfl⟩
  rw [← hcbe] at hcb ⊢
  have Hcbe := Lib.hid hcbe
  have Hcb := Lib.hid hcb
  have hpal : decide (7 ≤ cb ∧ cb ≤ 10) = true := by simp; omega
  have Hpal := Lib.hid hpal
  have Hk := Lib.hid hk
  have Hp := Lib.hid hp
  have Hm := Lib.hid hm
  
  clear hW hH hdp hct h10 h11 h12 hcbe hcb hpal hk hp hm 
  go_enter Tryz.func51, Tryz.ntmps51
  go_wp2_with fail
  generalize hW0 : World.alloc _ _ = W0
  obtain ⟨F0, D0, p6, p7, p8, Rr, hsz⟩ := decoder_new rb n w W0 _ _ Hn.out hrb.1 hW0
  have T0 := hT.fr F0 (by simp)
  have HF0 := Lib.hid F0
  have HR0 := Lib.hid Rr
  have Hsz := Lib.hid hsz
  refine (checkHeader_ok (n + 1 + 1) (n + 1) rb sb 130 _ W0 D0 (Hs.out.fr F0 (by simp) (by simp)) (by omega)).mono ?_
  rintro e w1 ⟨rfl, F1, K1, S1⟩
  have D1 : Dec w1 (n + 1 + 1) (n + 1) rb 130 := D0.fr F1 (K1 0 (by omega)) (K1 2 (by omega))
  have HD1 := Lib.hid D1
  have HS1 := Lib.hid S1
  have HF1 := Lib.hid F1
  have T1 := Lib.hid (T0.fr F1 (by simp; omega))
  have q8 := (K1 8 (by omega)).trans p8
  have Hq := Lib.hid q8
  clear F0 D0 p6 p7 p8 Rr hsz T0 F1 K1 S1 D1 q8 hW0
  go_wp2
  refine wp_loop_rounds 3 ?_
  rw [rounds_succ]
  go_wp2_with fail
  have hx := HX.out
  refine (chunk_IHDR (n + 1 + 1) (n + 1) rb sb W H dp 3 il true 130 h _ w1 HD1.out HS1.out (by omega) (by omega) hh T1.out (by omega) Hq.out hx.1 hx.2.1 hx.2.2.1 hx.2.2.2.1 hx.2.2.2.2.1 hx.2.2.2.2.2.1 hx.2.2.2.2.2.2 hil Hk.out (by assumption) hH0 hW1 hH1).mono ?_
  rintro e w2 ⟨rfl, F2, K2, S2, v8, v3, v4, v5, v7, vi⟩
  rw [← Hcbe.out] at v7
  have D2 := Lib.hid (HD1.out.fr F2 (K2 0 (by omega)) (K2 2 (by omega)))
  have T2 := Lib.hid (T1.out.fr F2 (by simp; omega))
  have HF2 := Lib.hid F2
  have HS2 := Lib.hid S2
  have HV := Lib.hid (And.intro v3 (And.intro v4 v5))
  clear hx F2 K2 S2 vi v3 v4 v5
  go_wp2_with fail
  have CP := cbPal_any cb w2
  rw [Hpal.out] at CP
  refine CP.mono ?_
  rintro e w' ⟨rfl, rfl⟩
  clear CP
  go_wp2
  rw [rounds_succ]
  go_wp2_with fail
  refine (chunk_PLTE (n + 1 + 1) (n + 1) rb sb m np dp cb true 130 p _ w2 D2.out HS2.out (by omega) (by omega) Hp.out Hm.out T2.out (by omega) v8 HV.out.2.2 v7 Hcb.out hdp8 hnp0 hnp).mono ?_
  rintro e w3 ⟨rfl, F3, K3, S3, u8, B, hB, u6, RB, L1, L2⟩
  have u7 := (K3 7 (by omega)).trans v7
  have HU := Lib.hid (And.intro ((K3 3 (by omega)).trans HV.out.1) ((K3 4 (by omega)).trans HV.out.2.1))
  have D3 := Lib.hid (D2.out.fr F3 (K3 0 (by omega)) (K3 2 (by omega)))
  have T3 := Lib.hid (T2.out.fr F3 (by simp; omega))
  have HF3 := Lib.hid F3
  have HS3 := Lib.hid S3
  have HRB := Lib.hid RB
  have HL := Lib.hid L1
  have hB' : n + 3 ≤ B := by
    have h1 := Hsz.out
    have h2 := HF1.out.size
    have h3 := HF2.out.size
    omega
  clear F3 K3 S3 RB L1 L2 v7 v8
  go_wp2_with fail
  have CP := cbPal_any cb w3
  rw [Hpal.out] at CP
  refine CP.mono ?_
  rintro e w' ⟨rfl, rfl⟩
  clear CP
  go_wp2
  rw [rounds_succ]
  go_wp2_with fail
  refine (chunk_IDAT_cfg (n + 1 + 1) (n + 1) rb sb ni cb 130 rest w3 D3.out HS3.out (by omega) (by omega) hni T3.out (by omega) u8).mono ?_
  rintro e w4 ⟨rfl, F4, K4, S4, s8⟩
  have s7 := (K4 7 (by omega)).trans u7
  have s6 := (K4 6 (by omega)).trans u6
  have s3 := (K4 3 (by omega)).trans HU.out.1
  have s4 := (K4 4 (by omega)).trans HU.out.2
  have HF4 := Lib.hid F4
  have HRB4 := Lib.hid (F4.row _ _ _ HRB.out)
  have HM := Lib.hid (fun k (hk : k < np) => (F4.cell HRB.out.lt (by simp; omega) k).trans (HL.out k hk))
  clear F4 K4 S4 u7 u8 u6
  go_wp2_with fail
  have CP := cbPal_any cb w4
  rw [Hpal.out] at CP
  refine CP.mono ?_
  rintro e w' ⟨rfl, rfl⟩
  clear CP
  go_wp2
  have Rn := HF4.out.row _ _ _ (HF3.out.row _ _ _ (HF2.out.row _ _ _ (HF1.out.row _ _ _ HR0.out)))
  have hfn := Rn.frozen
  obtain ⟨x0, y0⟩ := Rn.cell (o := 0) (by simp)
  obtain ⟨x1, y1⟩ := Rn.cell (o := 1) (by simp)
  obtain ⟨x2, y2⟩ := Rn.cell (o := 2) (by simp)
  obtain ⟨x3, y3⟩ := Rn.cell (o := 3) (by simp)
  have hgn := Rn.has
  clear Rn
  go_still_tail 17, (by kernel_rfl)
  go_wp2
  have F02 : Fr [n + 1 + 1, n + 1, rb, n, B] w w4 := ((((HF0.out.mono (by simp)).trans (HF1.out.mono (by simp))).trans (HF2.out.mono (by simp))).trans (HF3.out.mono (by simp))).trans (HF4.out.mono (by simp))
  have F4e : Fr [n] w4 _ := (((((Fr.refl [n] w4).setCell ⟨n, 0, none⟩ (.int .i64 cb) (.inl (by simp))).setCell ⟨n, 1, none⟩ (.slice (some ⟨B, 0, none⟩) np 256) (.inl (by simp))).setCell ⟨n, 2, none⟩ (.int .i64 W) (.inl (by simp))).setCell ⟨n, 3, none⟩ (.int .i64 H) (.inl (by simp))).drew
  have hBn : B ∉ [n] := by simp; omega
  refine bodyPost_ret (v := .tuple #[.agg #[.int .i64 cb, .slice (some ⟨B, 0, none⟩) np 256, .int .i64 W, .int .i64 H], .nilIface]) (by rw [results_cell_tmp rfl]; go_simp) rfl ⟨B, rfl, ?_, by omega, F4e.row _ _ _ HRB4.out, ?_⟩
  · exact (Fr.refl [rb] w).new' (F02.trans (F4e.mono (by simp))) (by simp; omega)
  · exact fun k hk => (F4e.cell HRB4.out.lt hBn k).trans (HM.out k hk)

set_option maxHeartbeats 4000000 in
set_option maxRecDepth 100000 in
theorem dconf_trns (rb sb W H dp il np m m2 : Nat) (h p q rest : List UInt8) (w : World) 
    (hs : Src w rb sb (sig ++ ((four 13 ++ nIHDR) ++ (h ++ (four (crc (nIHDR ++ h)) ++ ((four m ++ nPLTE) ++ (p ++ (four (crc (nPLTE ++ p)) ++ ((four m2 ++ ntRNS) ++ (q ++ (four (crc (ntRNS ++ q)) ++ rest))))))))))) (hh : h.length = 13)
    (hp : p.length = m) (hm : m = 3 * np) (hq : q.length = m2) (hm2 : 0 < m2) (hmp : m2 ≤ np) (hT : Tab w 3 .u32 256 crc8) (hT3 : rb ≠ 3) 
    (hW : be4 h 0 = W) (hH : be4 h 4 = H) (hdp : nb h 8 = dp) (hct : nb h 9 = 3) (h10 : nb h 10 = 0) (h11 : nb h 11 = 0) (h12 : nb h 12 = il) (hil : il = 0 ∨ il = 1)
    (hk : Kinds 3 dp) (hW0 : 0 < W) (hH0 : 0 < H) (hW1 : W ≤ 16384) (hH1 : H ≤ 16384) (hnp0 : 0 < np) (hnp : np ≤ 2 ^ dp) :
    Calls Tryz.prog 51 #[.iface 84 (.pointer (some ⟨rb, 0, none⟩))] w fun e w' =>
      ∃ B, e = .returned (.tuple #[.agg #[.int .i64 (cbOf 3 dp : Nat), .slice (some ⟨B, 0, none⟩) np 256, .int .i64 W, .int .i64 H], .nilIface]) ∧ Fr [rb] w w' ∧
        w.heap.size ≤ B ∧ Row w' B 140 256 ∧ (∀ k, k < m2 → w'.cell? ⟨B, k, none⟩ = some (nrgbV (nb p (3 * k)) (nb p (3 * k + 1)) (nb p (3 * k + 2)) (nb q k))) ∧
        ∀ k, m2 ≤ k → k < np → w'.cell? ⟨B, k, none⟩ = some (rgbV (nb p (3 * k)) (nb p (3 * k + 1)) (nb p (3 * k + 2))) := by
  have hrb : rb < w.heap.size ∧ sb < w.heap.size ∧ 3 < w.heap.size := by
    obtain ⟨n, cap, i, tr, a, b, cc, dd, ee, ff, gg, kk⟩ := hs
    exact ⟨cc.lt, World.block_lt_of_cell? w ⟨sb, i + 0, none⟩ (gg 0 (by simp [sig])), World.block_lt_of_cell? w ⟨3, 0, none⟩ (hT 0 (by omega))⟩
  have Hs := Lib.hid hs
  clear hs
  obtain ⟨n, hn⟩ : ∃ n, n = w.heap.size := ⟨_, rfl⟩
  have Hn := Lib.hid hn
  have hnw : w.heap.size = n := hn.symm
  rw [← hn] at hrb
  clear hn
  have HX := Lib.hid (And.intro hW (And.intro hH (And.intro hdp (And.intro hct (And.intro h10 (And.intro h11 h12))))))
  have hcb : cbOf 3 dp = 7 ∨ cbOf 3 dp = 8 ∨ cbOf 3 dp = 9 ∨ cbOf 3 dp = 10 := by
    have := hk
    unfold Kinds at this
    rcases this with ⟨a, rfl⟩ | ⟨a, rfl⟩ | ⟨a, rfl⟩ | ⟨a, rfl⟩ | ⟨a, rfl⟩ | ⟨a, rfl⟩ | ⟨a, rfl⟩ | ⟨a, rfl⟩ | ⟨a, rfl⟩ | ⟨a, rfl⟩ | ⟨a, rfl⟩ | ⟨a, rfl⟩ | ⟨a, rfl⟩ | ⟨a, rfl⟩ | ⟨a, rfl⟩ <;> first | (exfalso; omega) | simp [cbOf]
  have hdp8 : dp ≤ 8 := by
    have := hk
    unfold Kinds at this
    omega
  have hnp256 : np ≤ 256 := Nat.le_trans hnp (Nat.pow_le_pow_right (n := 2) (i := dp) (j := 8) (by omega) hdp8)
  obtain ⟨cb, hcbe⟩ : ∃ cb, cb = cbOf 3 dp := ⟨_, rfl⟩
  rw [← hcbe] at hcb ⊢
  have Hcbe := Lib.hid hcbe
  have Hcb := Lib.hid hcb
  have hpal : decide (7 ≤ cb ∧ cb ≤ 10) = true := by simp; omega
  have Hpal := Lib.hid hpal
  have Hk := Lib.hid hk
  have Hp := Lib.hid hp
  have Hm := Lib.hid hm
  have Hq2 := Lib.hid hq
  clear hW hH hdp hct h10 h11 h12 hcbe hcb hpal hk hp hm hq
  go_enter Tryz.func51, Tryz.ntmps51
  go_wp2_with fail
  generalize hW0 : World.alloc _ _ = W0
  obtain ⟨F0, D0, p6, p7, p8, Rr, hsz⟩ := decoder_new rb n w W0 _ _ Hn.out hrb.1 hW0
  have T0 := hT.fr F0 (by simp)
  have HF0 := Lib.hid F0
  have HR0 := Lib.hid Rr
  have Hsz := Lib.hid hsz
  refine (checkHeader_ok (n + 1 + 1) (n + 1) rb sb 130 _ W0 D0 (Hs.out.fr F0 (by simp) (by simp)) (by omega)).mono ?_
  rintro e w1 ⟨rfl, F1, K1, S1⟩
  have D1 : Dec w1 (n + 1 + 1) (n + 1) rb 130 := D0.fr F1 (K1 0 (by omega)) (K1 2 (by omega))
  have HD1 := Lib.hid D1
  have HS1 := Lib.hid S1
  have HF1 := Lib.hid F1
  have T1 := Lib.hid (T0.fr F1 (by simp; omega))
  have q8 := (K1 8 (by omega)).trans p8
  have Hq := Lib.hid q8
  clear F0 D0 p6 p7 p8 Rr hsz T0 F1 K1 S1 D1 q8 hW0
  go_wp2
  refine wp_loop_rounds 3 ?_
  rw [rounds_succ]
  go_wp2_with fail
  have hx := HX.out
  refine (chunk_IHDR (n + 1 + 1) (n + 1) rb sb W H dp 3 il true 130 h _ w1 HD1.out HS1.out (by omega) (by omega) hh T1.out (by omega) Hq.out hx.1 hx.2.1 hx.2.2.1 hx.2.2.2.1 hx.2.2.2.2.1 hx.2.2.2.2.2.1 hx.2.2.2.2.2.2 hil Hk.out (by assumption) hH0 hW1 hH1).mono ?_
  rintro e w2 ⟨rfl, F2, K2, S2, v8, v3, v4, v5, v7, vi⟩
  rw [← Hcbe.out] at v7
  have D2 := Lib.hid (HD1.out.fr F2 (K2 0 (by omega)) (K2 2 (by omega)))
  have T2 := Lib.hid (T1.out.fr F2 (by simp; omega))
  have HF2 := Lib.hid F2
  have HS2 := Lib.hid S2
  have HV := Lib.hid (And.intro v3 (And.intro v4 v5))
  clear hx F2 K2 S2 vi v3 v4 v5
  go_wp2_with fail
  have CP := cbPal_any cb w2
  rw [Hpal.out] at CP
  refine CP.mono ?_
  rintro e w' ⟨rfl, rfl⟩
  clear CP
  go_wp2
  rw [rounds_succ]
  go_wp2_with fail
  refine (chunk_PLTE (n + 1 + 1) (n + 1) rb sb m np dp cb true 130 p _ w2 D2.out HS2.out (by omega) (by omega) Hp.out Hm.out T2.out (by omega) v8 HV.out.2.2 v7 Hcb.out hdp8 hnp0 hnp).mono ?_
  rintro e w3 ⟨rfl, F3, K3, S3, u8, B, hB, u6, RB, L1, L2⟩
  have u7 := (K3 7 (by omega)).trans v7
  have HU := Lib.hid (And.intro ((K3 3 (by omega)).trans HV.out.1) ((K3 4 (by omega)).trans HV.out.2.1))
  have D3 := Lib.hid (D2.out.fr F3 (K3 0 (by omega)) (K3 2 (by omega)))
  have T3 := Lib.hid (T2.out.fr F3 (by simp; omega))
  have HF3 := Lib.hid F3
  have HS3 := Lib.hid S3
  have HRB := Lib.hid RB
  have HL := Lib.hid L1
  have hB' : n + 3 ≤ B := by
    have h1 := Hsz.out
    have h2 := HF1.out.size
    have h3 := HF2.out.size
    omega
  clear F3 K3 S3 RB L1 L2 v7 v8
  go_wp2_with fail
  have CP := cbPal_any cb w3
  rw [Hpal.out] at CP
  refine CP.mono ?_
  rintro e w' ⟨rfl, rfl⟩
  clear CP
  go_wp2
  rw [rounds_succ]
  go_wp2_with fail
  refine (chunk_tRNS_pal (n + 1 + 1) (n + 1) rb sb B m2 np cb (fun k => nb p (3 * k)) (fun k => nb p (3 * k + 1)) (fun k => nb p (3 * k + 2)) true 130 q rest w3 D3.out HS3.out (by omega) (by omega) Hq2.out T3.out (by omega) u8 u7 Hcb.out u6 hm2 hmp hnp256
    (by omega) HRB.out HL.out).mono ?_
  rintro e w4 ⟨rfl, F4, K4, S4, s8, M1, M2⟩
  have s7 := (K4 7 (by omega)).trans u7
  have s6 := (K4 6 (by omega)).trans u6
  have s3 := (K4 3 (by omega)).trans HU.out.1
  have s4 := (K4 4 (by omega)).trans HU.out.2
  have HF4 := Lib.hid F4
  have HRB4 := Lib.hid (F4.row _ _ _ HRB.out)
  have HM := Lib.hid (And.intro M1 (fun k (h1 : m2 ≤ k) (h2 : k < np) => (M2 k h1).trans (HL.out k h2)))
  clear F4 K4 S4 M1 M2 u7 u8 u6
  go_wp2_with fail
  have CP := cbPal_any cb w4
  rw [Hpal.out] at CP
  refine CP.mono ?_
  rintro e w' ⟨rfl, rfl⟩
  clear CP
  go_wp2
  have Rn := HF4.out.row _ _ _ (HF3.out.row _ _ _ (HF2.out.row _ _ _ (HF1.out.row _ _ _ HR0.out)))
  have hfn := Rn.frozen
  obtain ⟨x0, y0⟩ := Rn.cell (o := 0) (by simp)
  obtain ⟨x1, y1⟩ := Rn.cell (o := 1) (by simp)
  obtain ⟨x2, y2⟩ := Rn.cell (o := 2) (by simp)
  obtain ⟨x3, y3⟩ := Rn.cell (o := 3) (by simp)
  have hgn := Rn.has
  clear Rn
  go_still_tail 17, (by kernel_rfl)
  go_wp2
  have F02 : Fr [n + 1 + 1, n + 1, rb, n, B] w w4 := ((((HF0.out.mono (by simp)).trans (HF1.out.mono (by simp))).trans (HF2.out.mono (by simp))).trans (HF3.out.mono (by simp))).trans (HF4.out.mono (by simp))
  have F4e : Fr [n] w4 _ := (((((Fr.refl [n] w4).setCell ⟨n, 0, none⟩ (.int .i64 cb) (.inl (by simp))).setCell ⟨n, 1, none⟩ (.slice (some ⟨B, 0, none⟩) np 256) (.inl (by simp))).setCell ⟨n, 2, none⟩ (.int .i64 W) (.inl (by simp))).setCell ⟨n, 3, none⟩ (.int .i64 H) (.inl (by simp))).drew
  have hBn : B ∉ [n] := by simp; omega
  refine bodyPost_ret (v := .tuple #[.agg #[.int .i64 cb, .slice (some ⟨B, 0, none⟩) np 256, .int .i64 W, .int .i64 H], .nilIface]) (by rw [results_cell_tmp rfl]; go_simp) rfl ⟨B, rfl, ?_, by omega, F4e.row _ _ _ HRB4.out, ?_⟩
  · exact (Fr.refl [rb] w).new' (F02.trans (F4e.mono (by simp))) (by simp; omega)
  · exact ⟨fun k hk => (F4e.cell HRB4.out.lt hBn k).trans (HM.out.1 k hk), fun k h1 h2 => (F4e.cell HRB4.out.lt hBn k).trans (HM.out.2 k h1 h2)⟩
end Go.Proofs.YtnpkgmgedgcjmaaGreatDoor
