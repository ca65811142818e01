/- png.DecodeConfig on good heads. -/
import Derived.Test.YtnpkgmgedgcjmaaGreatDoorPd
set_option linter.all false
namespace Go.Proofs.YtnpkgmgedgcjmaaGreatDoor
open Go Go.RowKit Png

theorem zc_size : Tryz.zeroCells130.size = 786 := by kernel_rfl
theorem zc6 : Tryz.zeroCells130[6]? = some (.slice none 0 0) := by kernel_rfl
theorem zc7 : Tryz.zeroCells130[7]? = some (.int .i64 0) := by kernel_rfl
theorem zc8 : Tryz.zeroCells130[8]? = some (.int .i64 0) := by kernel_rfl

/-- The decoder as it is made: the blocks of the answer, of the sum and of the decoder, one behind the other. -/
theorem decoder_new (rb n : Nat) (w W0 : World) (cs : Array Value) (t : TypeId) (hn : n = w.heap.size) (hrb : rb < n)
    (hW0 : (((w.alloc (Obj.cells cs t)).alloc (Obj.cells #[.int .u32 0] 126)).alloc (Obj.cells ((Tryz.zeroCells130.setIfInBounds 0 (.iface 84 (.pointer (some ⟨rb, 0, none⟩)))).setIfInBounds 2 (.pointer (some ⟨n + 1, 0, none⟩))) 130)) = W0) :
    Fr [] w W0 ∧ Dec W0 (n + 2) (n + 1) rb 130 ∧ W0.cell? ⟨n + 2, 6, none⟩ = some (.slice none 0 0) ∧ W0.cell? ⟨n + 2, 7, none⟩ = some (.int .i64 0) ∧ W0.cell? ⟨n + 2, 8, none⟩ = some (.int .i64 0) ∧
      Row W0 n t cs.size ∧ W0.heap.size = n + 3 := by
  subst hn
  have hd : W0.heap[w.heap.size + 2]? = some (Obj.cells ((Tryz.zeroCells130.setIfInBounds 0 (.iface 84 (.pointer (some ⟨rb, 0, none⟩)))).setIfInBounds 2 (.pointer (some ⟨w.heap.size + 1, 0, none⟩))) 130) := by
    rw [← hW0]
    have := heap_alloc_new ((w.alloc (Obj.cells cs t)).alloc (Obj.cells #[.int .u32 0] 126)) (Obj.cells ((Tryz.zeroCells130.setIfInBounds 0 (.iface 84 (.pointer (some ⟨rb, 0, none⟩)))).setIfInBounds 2 (.pointer (some ⟨w.heap.size + 1, 0, none⟩))) 130)
    simpa using this
  have zs := zc_size
  have z6 := zc6
  have z7 := zc7
  have z8 := zc8
  generalize Tryz.zeroCells130 = z at *
  refine ⟨?_, ⟨?_, ?_, ?_, ?_, by omega⟩, ?_, ?_, ?_, ?_, ?_⟩
  · rw [← hW0]; exact (((Fr.refl _ _).alloc _).alloc _).alloc _
  · exact ⟨_, hd, by simp [zs]⟩
  · simp [World.cell?, hd, zs]
  · simp [World.cell?, hd, zs]
  · rw [← hW0]
    refine Row.alloc ?_ _
    have := Row.alloc_new (w := w.alloc (Obj.cells cs t)) #[.int .u32 0] 126
    simpa using this
  · simp [World.cell?, hd, z6]
  · simp [World.cell?, hd, z7]
  · simp [World.cell?, hd, z8]
  · rw [← hW0]
    exact ((Row.alloc_new cs t).alloc _).alloc _
  · rw [← hW0]; simp

set_option maxHeartbeats 4000000 in
set_option maxRecDepth 100000 in
theorem dconf_plain (rb sb W H dp ct il : Nat) (h rest : List UInt8) (w : World) 
    (hs : Src w rb sb (sig ++ ((four 13 ++ nIHDR) ++ (h ++ (four (crc (nIHDR ++ h)) ++ rest))))) (hh : h.length = 13)
    (hT : Tab w 3 .u32 256 crc8) (hT3 : rb ≠ 3) 
    (hW : be4 h 0 = W) (hH : be4 h 4 = H) (hdp : nb h 8 = dp) (hct : nb h 9 = ct) (h10 : nb h 10 = 0) (h11 : nb h 11 = 0) (h12 : nb h 12 = il) (hil : il = 0 ∨ il = 1)
    (hk : Kinds ct dp) (hct3 : ct ≠ 3) (hW0 : 0 < W) (hH0 : 0 < H) (hW1 : W ≤ 16384) (hH1 : H ≤ 16384) :
    Calls Tryz.prog 51 #[.iface 84 (.pointer (some ⟨rb, 0, none⟩))] w fun e w' =>
      e = .returned (.tuple #[.agg #[.int .i64 (cbOf ct dp : Nat), .slice none 0 0, .int .i64 W, .int .i64 H], .nilIface]) ∧ Fr [rb] w w' := by
  have hrb : rb < w.heap.size ∧ sb < w.heap.size ∧ 3 < w.heap.size := by
    obtain ⟨n, cap, i, tr, a, b, cc, dd, ee, ff, gg, kk⟩ := hs
    exact ⟨cc.lt, World.block_lt_of_cell? w ⟨sb, i + 0, none⟩ (gg 0 (by simp [sig])), World.block_lt_of_cell? w ⟨3, 0, none⟩ (hT 0 (by omega))⟩
  have Hs := Lib.hid hs
  clear hs
  obtain ⟨n, hn⟩ : ∃ n, n = w.heap.size := ⟨_, rfl⟩
  have Hn := Lib.hid hn
  have hnw : w.heap.size = n := hn.symm
  rw [← hn] at hrb
  clear hn
  have HX := Lib.hid (And.intro hW (And.intro hH (And.intro hdp (And.intro hct (And.intro h10 (And.intro h11 h12))))))
  clear hW hH hdp hct h10 h11 h12
  go_enter Tryz.func51, Tryz.ntmps51
  go_wp2_with fail
  generalize hW0 : World.alloc _ _ = W0
  obtain ⟨F0, D0, p6, p7, p8, Rr, hsz⟩ := decoder_new rb n w W0 _ _ Hn.out hrb.1 hW0
  have T0 := hT.fr F0 (by simp)
  have HF0 := Lib.hid F0
  have HR0 := Lib.hid Rr
  refine (checkHeader_ok (n + 1 + 1) (n + 1) rb sb 130 _ W0 D0 (Hs.out.fr F0 (by simp) (by simp)) (by omega)).mono ?_
  rintro e w1 ⟨rfl, F1, K1, S1⟩
  have D1 : Dec w1 (n + 1 + 1) (n + 1) rb 130 := D0.fr F1 (K1 0 (by omega)) (K1 2 (by omega))
  have HD1 := Lib.hid D1
  have HS1 := Lib.hid S1
  have HF1 := Lib.hid F1
  have T1 := Lib.hid (T0.fr F1 (by simp; omega))
  have q8 := (K1 8 (by omega)).trans p8
  have q6 := (K1 6 (by omega)).trans p6
  have Hq := Lib.hid (And.intro q6 q8)
  have hnp : decide (7 ≤ cbOf ct dp ∧ cbOf ct dp ≤ 10) = false := by
    have := hk
    unfold Kinds at this
    rcases this with ⟨rfl, rfl⟩ | ⟨rfl, rfl⟩ | ⟨rfl, rfl⟩ | ⟨rfl, rfl⟩ | ⟨rfl, rfl⟩ | ⟨rfl, rfl⟩ | ⟨rfl, rfl⟩ | ⟨rfl, rfl⟩ | ⟨rfl, rfl⟩ | ⟨rfl, rfl⟩ | ⟨rfl, rfl⟩ | ⟨rfl, rfl⟩ | ⟨rfl, rfl⟩ | ⟨rfl, rfl⟩ | ⟨rfl, rfl⟩ <;> first | rfl | exact absurd rfl hct3
  have Hnp := Lib.hid hnp
  have Hk := Lib.hid hk
  have Hct3 := Lib.hid hct3
  clear F0 D0 p6 p7 p8 Rr hsz T0 F1 K1 S1 D1 q8 q6 hW0 hnp hk hct3
  go_wp2
  refine wp_loop_rounds 1 ?_
  rw [rounds_succ]
  go_wp2_with fail
  have hx := HX.out
  refine (chunk_IHDR (n + 1 + 1) (n + 1) rb sb W H dp ct il true 130 h rest w1 HD1.out HS1.out (by omega) (by omega) hh T1.out (by omega) Hq.out.2 hx.1 hx.2.1 hx.2.2.1 hx.2.2.2.1 hx.2.2.2.2.1 hx.2.2.2.2.2.1 hx.2.2.2.2.2.2 hil Hk.out (by assumption) hH0 hW1 hH1).mono ?_
  rintro e w2 ⟨rfl, F2, K2, S2, v8, v3, v4, v5, v7, vi⟩
  have v6 := (K2 6 (by omega)).trans Hq.out.1
  have HF2 := Lib.hid F2
  clear hx F2 K2 S2 v5 vi
  go_wp2_with fail
  have CP := cbPal_any (cbOf ct dp) w2
  rw [Hnp.out] at CP
  refine CP.mono ?_
  rintro e w' ⟨rfl, rfl⟩
  clear CP
  go_wp2
  have Rn := HF2.out.row _ _ _ (HF1.out.row _ _ _ HR0.out)
  have hfn := Rn.frozen
  obtain ⟨x0, y0⟩ := Rn.cell (o := 0) (by simp)
  obtain ⟨x1, y1⟩ := Rn.cell (o := 1) (by simp)
  obtain ⟨x2, y2⟩ := Rn.cell (o := 2) (by simp)
  obtain ⟨x3, y3⟩ := Rn.cell (o := 3) (by simp)
  have hgn := Rn.has
  clear Rn
  go_still_tail 17, (by kernel_rfl)
  go_wp2
  refine bodyPost_ret (v := .tuple #[.agg #[.int .i64 (cbOf ct dp : Nat), .slice none 0 0, .int .i64 W, .int .i64 H], .nilIface]) (by rw [results_cell_tmp rfl]; go_simp) rfl ⟨rfl, ?_⟩
  have F02 : Fr [n + 1 + 1, n + 1, rb, n] w w2 := ((HF0.out.mono (by simp)).trans (HF1.out.mono (by simp))).trans (HF2.out.mono (by simp))
  have F03 : Fr [n + 1 + 1, n + 1, rb, n] w _ := (((((Fr.setCell F02 ⟨n, 0, none⟩ (.int .i64 (cbOf ct dp : Nat)) (.inl (by simp))).setCell ⟨n, 1, none⟩ (.slice none 0 0) (.inl (by simp))).setCell ⟨n, 2, none⟩ (.int .i64 W) (.inl (by simp))).setCell ⟨n, 3, none⟩ (.int .i64 H) (.inl (by simp))).drew)
  exact (Fr.refl [rb] w).new' F03 (by simp; omega)
end Go.Proofs.YtnpkgmgedgcjmaaGreatDoor
