/- A part of the proof: Eo. -/
import Derived.Test.YtnpkgmgedgcjmaaGreatDoorZE8
import Derived.Test.YtnpkgmgedgcjmaaGreatDoorZEn
import Derived.Test.YtnpkgmgedgcjmaaGreatDoorZW6
set_option linter.all false
set_option maxRecDepth 100000
section
namespace Go.Proofs.YtnpkgmgedgcjmaaGreatDoor
open Go Go.RowKit Png Go.Proofs.YtnpkgmgedgcjmaaGreatDoorW.PrintWords Go.Proofs.YtnpkgmgedgcjmaaGreatDoorW.PrintMore Go.Proofs.YtnpkgmgedgcjmaaGreatDoor.Pr
theorem chunk_c {w0 w : World} {f : Nat} {s : RS} {used : Nat} {v5 : Value} {pp : Option Addr} {pn pc : Nat} {cp : Option Addr} {cn cc : Nat} {rp : Option Addr} {rn rc : Nat} (h : RD w0 w f s used v5 pp pn pc cp cn cc rp rn rc) (hi : RInv s) (ho : s.stage ≠ 0 → Okay s) (hrl : s.rest.length ≤ 1000000000) (h6 : s.stage ≤ 5) {b : List UInt8} {A : Option Addr} {bc : Nat} (hA : Bsl w0 A b) (hbc : b.length ≤ bc) (hbl : b.length ≤ 1000000)
  {nm : List UInt8} (h4 : nm.length = 4) : Calls Tryz.prog 46 #[.pointer (some ⟨f, 0, none⟩), .string ⟨nm.toArray⟩, .slice A b.length bc] w fun e w' => ChunkP w0 w' f s used nm b e := by
 by_cases e1 : nm = nIHDR
 ·
  subst e1; exact chunk_IHDR_c h hi ho hrl h6 hA hbc hbl
 by_cases e2 : nm = nPLTE
 ·
  subst e2; exact chunk_PLTE_c h hi ho hrl h6 hA hbc hbl
 by_cases e3 : nm = ntRNS
 ·
  subst e3; exact chunk_tRNS_c h hi ho hrl h6 hA hbc hbl
 by_cases e4 : nm = nIDAT
 ·
  subst e4; exact chunk_IDAT_c h hi ho hrl h6 hA hbc hbl
 by_cases e5 : nm = nIEND
 ·
  subst e5; exact chunk_IEND_c h hi ho hrl h6 hA hbc hbl
 exact chunk_other_c h hi ho hrl h6 hA hbc hbl h4 e1 e2 e3 e4 e5
def fill10 (w : World) (B : Nat) (a0 a1 a2 a3 a4 a5 a6 a7 a8 a9 : Value) : World :=
 (((((((((w.setCell ⟨B, 0, none⟩ a0).setCell ⟨B, 1, none⟩ a1).setCell ⟨B, 2, none⟩ a2).setCell ⟨B, 3, none⟩ a3).setCell ⟨B, 4, none⟩ a4).setCell ⟨B, 5, none⟩ a5).setCell ⟨B, 6, none⟩ a6).setCell ⟨B, 7, none⟩ a7).setCell ⟨B, 8, none⟩ a8).setCell ⟨B, 9, none⟩ a9
theorem fill10_blk {w : World} {B : Nat} {t : TypeId} {b0 b1 b2 b3 b4 b5 b6 b7 b8 b9 : Value} (h : Blk w B t #[b0, b1, b2, b3, b4, b5, b6, b7, b8, b9]) (a0 a1 a2 a3 a4 a5 a6 a7 a8 a9 : Value) : Blk (fill10 w B a0 a1 a2 a3 a4 a5 a6 a7 a8 a9) B t #[a0, a1, a2, a3, a4, a5, a6, a7, a8, a9] := by
 have h0 : Blk (w.setCell ⟨B, 0, none⟩ a0) B t #[a0, b1, b2, b3, b4, b5, b6, b7, b8, b9] := h.set_ 0 a0
 have h1 : Blk _ B t #[a0, a1, b2, b3, b4, b5, b6, b7, b8, b9] := h0.set_ 1 a1
 have h2 : Blk _ B t #[a0, a1, a2, b3, b4, b5, b6, b7, b8, b9] := h1.set_ 2 a2
 have h3 : Blk _ B t #[a0, a1, a2, a3, b4, b5, b6, b7, b8, b9] := h2.set_ 3 a3
 have h4 : Blk _ B t #[a0, a1, a2, a3, a4, b5, b6, b7, b8, b9] := h3.set_ 4 a4
 have h5 : Blk _ B t #[a0, a1, a2, a3, a4, a5, b6, b7, b8, b9] := h4.set_ 5 a5
 have h6 : Blk _ B t #[a0, a1, a2, a3, a4, a5, a6, b7, b8, b9] := h5.set_ 6 a6
 have h7 : Blk _ B t #[a0, a1, a2, a3, a4, a5, a6, a7, b8, b9] := h6.set_ 7 a7
 have h8 : Blk _ B t #[a0, a1, a2, a3, a4, a5, a6, a7, a8, b9] := h7.set_ 8 a8
 exact h8.set_ 9 a9
theorem fill10_other (w : World) (B : Nat) (a0 a1 a2 a3 a4 a5 a6 a7 a8 a9 : Value) (k : Nat) (hk : k ≠ B) : (fill10 w B a0 a1 a2 a3 a4 a5 a6 a7 a8 a9).heap[k]? = w.heap[k]? := by
 unfold fill10
 rw [Below.heap_setCell _ ⟨B, 9, none⟩ _ k hk, Below.heap_setCell _ ⟨B, 8, none⟩ _ k hk, Below.heap_setCell _ ⟨B, 7, none⟩ _ k hk, Below.heap_setCell _ ⟨B, 6, none⟩ _ k hk, Below.heap_setCell _ ⟨B, 5, none⟩ _ k hk, Below.heap_setCell _ ⟨B, 4, none⟩ _ k hk, Below.heap_setCell _ ⟨B, 3, none⟩ _ k hk, Below.heap_setCell _ ⟨B, 2, none⟩ _ k hk, Below.heap_setCell _ ⟨B, 1, none⟩ _ k hk, Below.heap_setCell _ ⟨B, 0, none⟩ _ k hk]
theorem fill10_below {w0 w : World} {C B : Nat} (h : Below C w0 w) (hB : C ≤ B) (a0 a1 a2 a3 a4 a5 a6 a7 a8 a9 : Value) : Below C w0 (fill10 w B a0 a1 a2 a3 a4 a5 a6 a7 a8 a9) :=
 (((((((((h.setCell (p := ⟨B, 0, none⟩) hB a0).setCell (p := ⟨B, 1, none⟩) hB a1).setCell (p := ⟨B, 2, none⟩) hB a2).setCell (p := ⟨B, 3, none⟩) hB a3).setCell (p := ⟨B, 4, none⟩) hB a4).setCell (p := ⟨B, 5, none⟩) hB a5).setCell (p := ⟨B, 6, none⟩) hB a6).setCell (p := ⟨B, 7, none⟩) hB a7).setCell (p := ⟨B, 8, none⟩) hB a8).setCell (p := ⟨B, 9, none⟩) hB a9
def ZB (w : World) (B : Nat) : Prop := Blk w B 47 #[.int .i64 0, .int .i64 0, .int .i64 0, .int .i64 0, .bool false, .slice none 0 0, .slice none 0 0, .slice none 0 0, .int .i64 0, .int .i64 0]
theorem ten_cells {w : World} {B : Nat} {t : TypeId} {a0 a1 a2 a3 a4 a5 a6 a7 a8 a9 : Value} (h : Blk w B t #[a0, a1, a2, a3, a4, a5, a6, a7, a8, a9]) :
  w.cell? ⟨B, 0, none⟩ = some a0 ∧ w.cell? ⟨B, 1, none⟩ = some a1 ∧ w.cell? ⟨B, 2, none⟩ = some a2 ∧ w.cell? ⟨B, 3, none⟩ = some a3 ∧ w.cell? ⟨B, 4, none⟩ = some a4 ∧ w.cell? ⟨B, 5, none⟩ = some a5 ∧ w.cell? ⟨B, 6, none⟩ = some a6 ∧ w.cell? ⟨B, 7, none⟩ = some a7 ∧ w.cell? ⟨B, 8, none⟩ = some a8 ∧ w.cell? ⟨B, 9, none⟩ = some a9 ∧
   (∀ o, w.frozen? ⟨B, o, none⟩ = false) ∧ (∀ o, o < 10 → hasCell w ⟨B, o, none⟩ = true) :=
 ⟨h.cell 0, h.cell 1, h.cell 2, h.cell 3, h.cell 4, h.cell 5, h.cell 6, h.cell 7, h.cell 8, h.cell 9, fun o => h.frozen o, fun o ho => by
  unfold hasCell
  rw [h.cell o, Array.getElem?_eq_getElem (show o < (#[a0, a1, a2, a3, a4, a5, a6, a7, a8, a9] : Array Value).size from ho)]
  rfl⟩
theorem sig_of (l : List UInt8) (h : ∀ i, i < 8 → i < l.length ∧ nb l i = nb sig i) : l.take 8 = sig := by
 have h7 := (h 7 (by decide)).1
 apply List.ext_getElem (by rw [List.length_take]; show min 8 l.length = 8; omega)
 intro i h1 h2
 have hi : i < 8 := h2
 have := (h i hi).2
 unfold nb at this
 rw [List.getD_eq_getElem?_getD, List.getD_eq_getElem?_getD, List.getElem?_eq_getElem (show i < l.length by omega), List.getElem?_eq_getElem h2] at this
 rw [List.getElem_take]
 exact UInt8.toNat_inj.1 this
def ReadP (w w' : World) (l : List UInt8) (e : Ending) : Prop :=
 ∃ (s : RS) (v5 : Value) (pp : Option Addr) (pn pc : Nat) (cp : Option Addr) (cn cc : Nat) (used : Nat) (st : Int), e = .returned (.agg #[.int .i64 (s.W : Int), .int .i64 (s.H : Int), .int .i64 (s.dp : Int), .int .i64 (s.ct : Int), .bool s.il, v5, .slice pp pn pc, .slice cp cn cc, .int .i64 (used : Int), .int .i64 st]) ∧
  Below w.heap.size w w' ∧ Sl v5 ∧ (st = 0 → s.stage = 6 ∧ (∃ cs, FileG l s cs used) ∧ Od w' w.heap.size pp pn pc s.pal ∧ Oi w' w.heap.size cp cn cc s.clear)
theorem ReadP.no {w w' : World} {l : List UInt8} {st : Int} (hst : st ≠ 0) (s : RS) (hb : Below w.heap.size w w') :
  ReadP w w' l (.returned (.agg #[.int .i64 (s.W : Int), .int .i64 (s.H : Int), .int .i64 (s.dp : Int), .int .i64 (s.ct : Int), .bool s.il, .slice none 0 0, .slice none 0 0, .slice none 0 0, .int .i64 0, .int .i64 st])) :=
 ⟨s, .slice none 0 0, none, 0, 0, none, 0, 0, 0, st, rfl, hb, Sl.mk _ _ _, fun h => absurd h hst⟩
set_option maxHeartbeats 16000000 in
theorem read_file_c {w : World} {l : List UInt8} {A : Option Addr} {c : Nat} (hA : Bsl w A l) (hc : l.length ≤ c) (hc2 : c ≤ 9223372036854775807) (hS : SmallQ l) :
  Calls Tryz.prog 24 #[.slice A l.length c] w fun e w' => ReadP w w' l e := by
 have HA := Lib.hid hA
 have HS := Lib.hid hS
 have hl := hS.1
 obtain ⟨n, hn⟩ : ∃ n, n = l.length := ⟨_, rfl⟩
 have Hn := Lib.hid hn
 rw [← hn] at hl hc ⊢
 clear hA hS hn
 obtain ⟨B, hB⟩ : ∃ B, w.heap.size = B := ⟨_, rfl⟩
 have HB := Lib.hid hB
 go_enter Tryz.func24, Tryz.ntmps24
 go_wp2_with fail
 obtain ⟨W0, hW0⟩ : ∃ W0, w.alloc (.cells #[.int .i64 0, .int .i64 0, .int .i64 0, .int .i64 0, .bool false, .slice none 0 0, .slice none 0 0, .slice none 0 0, .int .i64 0, .int .i64 0] 47) = W0 := ⟨_, rfl⟩
 obtain ⟨W1, hW1⟩ : ∃ W1, W0.alloc (.cells #[.int .i64 0, .int .i64 0, .int .i64 0, .int .i64 0, .bool false, .slice none 0 0, .slice none 0 0, .slice none 0 0, .int .i64 0, .int .i64 0, .int .i64 0, .slice none 0 0] 90) = W1 := ⟨_, rfl⟩
 have hb0 : Below B w W0 := by rw [← hW0, ← hB]; exact (Below.refl _ _).alloc (Nat.le_refl _) _
 have hZ0 : ZB W0 B := by rw [← hW0, ← hB]; exact Blk.new w _ _
 have hs0 : W0.heap.size = B + 1 := by rw [← hW0, ← hB]; simp
 have HLow : Hid (∀ W' : World, Below W0.heap.size W0 W' → Below B w W' ∧ ZB W' B) := Lib.hid fun W' h => ⟨hb0.trans (h.mono (by omega)), Blk.below hZ0 h (by omega)⟩
 have HS0 := Lib.hid hs0
 have HB0 := Lib.hid hb0
 have hF1 : Blk W1 (B + 1) 90 (rdCells RS.init 0 (.slice none 0 0) none 0 0 none 0 0 none 0 0) := by
  have := Blk.new W0 90 (rdCells RS.init 0 (.slice none 0 0) none 0 0 none 0 0 none 0 0)
  rw [hs0] at this
  rw [← hW1]
  exact this
 have HR1 : Hid (RD W0 W1 (B + 1) RS.init 0 (.slice none 0 0) none 0 0 none 0 0 none 0 0) := Lib.hid ⟨hF1, Sl.mk _ _ _, Od.none _ _, Oi.none _ _, Ob.none _ _, by rw [← hW1]; exact (Below.refl _ _).alloc (Nat.le_refl _) _, by rw [hs0]; exact Nat.le_refl _⟩
 try rw [HB.out]
 rw [hW0]
 try rw [HS0.out]
 rw [hW1]
 clear hB hW0 hW1 hb0 hZ0 hs0 hF1
 refine (signature_ok W1).mono ?_
 rintro e w2 ⟨rfl, hO, hb2⟩
 obtain ⟨g, hg⟩ : ∃ g, W1.heap.size = g := ⟨_, rfl⟩
 rw [hg] at hO ⊢
 have HO := Lib.hid hO
 have HR2 := Lib.hid (HR1.out.below hb2)
 clear hO hb2 HR1 hg
 go_wp2
 go_loopg [13] 8 (fun gh v wr => ∃ k, v = .int .i64 ((k : Nat) : Int) ∧ k + gh = 8 ∧ wr = w2 ∧ Hid (∀ i, i < k → i < n ∧ nb l i = nb sig i))
 case atStart => exact ⟨0, rfl, rfl, rfl, Lib.hid (fun i hi => absurd hi (Nat.not_lt_zero _))⟩
 case round =>
  obtain ⟨k, rfl, hj, hwr, HK⟩ := hrel
  subst hwr
  by_cases hk8 : k < 8
  ·
   have hki : (k : Int) < 8 := by omega
   have hkd : decide ((k : Int) < 8) = true := decide_eq_true hki
   have y0 := HO.out.bsl.cellZ (k := k) hk8
   obtain ⟨y, hy⟩ : ∃ y, y = nb sig k := ⟨_, rfl⟩
   rw [← hy] at y0
   have yb : y < 256 := by rw [hy]; exact nb_lt sig k
   have Hy := Lib.hid hy
   clear hy
   by_cases hkn : k < n
   ·
    have t1 : decide ((n : Int) ≤ (k : Int)) = false := by simp; omega
    have t2 : ¬ (n : Int) ≤ (k : Int) := by omega
    have t3 : (k : Int) < (n : Int) := by omega
    obtain ⟨ab, ao, rfl, hseg⟩ : ∃ ab ao, A = some ⟨ab, ao, none⟩ ∧ Seg wr ab ao l := by
     rcases HA.out.belowE (by rw [HB.out]; exact (HLow.out _ HR2.out.low).1) with h | ⟨b0, off, h1, h2⟩
     ·
      have := Hn.out; rw [h] at this; simp at this; omega
     ·
      exact ⟨b0, off, h1, h2⟩
    have l0 := hseg k (by have := Hn.out; omega)
    obtain ⟨x, hx⟩ : ∃ x, x = nb l k := ⟨_, rfl⟩
    rw [← hx] at l0
    have Hx := Lib.hid hx
    clear hx hseg
    by_cases hxy : x = y
    ·
     have t4 : ((x : Int) != (y : Int)) = false := by simp; omega
     have Hxy := Lib.hid hxy
     clear hxy
     go_wp2
     go_roundg (gk - 1)
     case measure => omega
     case rel =>
      refine ⟨k + 1, by first | rfl | (simp; done) | (congr 1; omega), by omega, rfl, Lib.hid fun i hi => ?_⟩
      by_cases hik : i = k
      ·
       subst hik; exact ⟨hkn, by rw [← Hx.out, ← Hy.out]; exact Hxy.out⟩
      ·
       exact HK.out i (by omega)
    ·
     have t4 : ((x : Int) != (y : Int)) = true := by simp; omega
     have Hxy := Lib.hid hxy
     clear hxy
     obtain ⟨s, hs⟩ : ∃ s, s = RS.init := ⟨_, rfl⟩
     obtain ⟨b0, b1, b2, b3, b4, b5, b6, b7, b8, b9, bfz, bhas⟩ := ten_cells (show Blk wr B 47 #[_, _, _, _, _, _, _, _, _, _] from (HLow.out _ HR2.out.low).2)
     go_wp2
     have hE := fill10_blk (show Blk wr B 47 #[_, _, _, _, _, _, _, _, _, _] from (HLow.out _ HR2.out.low).2) (.int .i64 0) (.int .i64 0) (.int .i64 0) (.int .i64 0) (.bool false) (.slice none 0 0) (.slice none 0 0) (.slice none 0 0) (.int .i64 0) (.int .i64 1)
     have hEk := fill10_other wr B (.int .i64 0) (.int .i64 0) (.int .i64 0) (.int .i64 0) (.bool false) (.slice none 0 0) (.slice none 0 0) (.slice none 0 0) (.int .i64 0) (.int .i64 1)
     obtain ⟨WE, hWE⟩ : ∃ WE, fill10 wr B (.int .i64 0) (.int .i64 0) (.int .i64 0) (.int .i64 0) (.bool false) (.slice none 0 0) (.slice none 0 0) (.slice none 0 0) (.int .i64 0) (.int .i64 1) = WE := ⟨_, rfl⟩
     have hEb : Below B w WE := by rw [← hWE]; exact fill10_below (HLow.out _ HR2.out.low).1 (Nat.le_refl _) (.int .i64 0) (.int .i64 0) (.int .i64 0) (.int .i64 0) (.bool false) (.slice none 0 0) (.slice none 0 0) (.slice none 0 0) (.int .i64 0) (.int .i64 1)
     rw [hWE] at hE hEk
     unfold fill10 at hWE
     rw [hWE]
     have HEk := Lib.hid hEk
     have HEb := Lib.hid hEb
     clear hWE hEk hEb
     obtain ⟨z0, z1, z2, z3, z4, z5, z6, z7, z8, z9, zfz, zhas⟩ := ten_cells hE
     refine bodyPost_ret (v := .agg #[.int .i64 0, .int .i64 0, .int .i64 0, .int .i64 0, .bool false, .slice none 0 0, .slice none 0 0, .slice none 0 0, .int .i64 0, .int .i64 1]) (by simp only [results, Tryz.results24]; go_simp) rfl ?_
     exact ReadP.no (by decide) RS.init (by rw [HB.out]; exact HEb.out)
   ·
    have t1 : decide ((n : Int) ≤ (k : Int)) = true := by simp; omega
    have t2 : (n : Int) ≤ (k : Int) := by omega
    obtain ⟨b0, b1, b2, b3, b4, b5, b6, b7, b8, b9, bfz, bhas⟩ := ten_cells (show Blk wr B 47 #[_, _, _, _, _, _, _, _, _, _] from (HLow.out _ HR2.out.low).2)
    go_wp2
    have hE := fill10_blk (show Blk wr B 47 #[_, _, _, _, _, _, _, _, _, _] from (HLow.out _ HR2.out.low).2) (.int .i64 0) (.int .i64 0) (.int .i64 0) (.int .i64 0) (.bool false) (.slice none 0 0) (.slice none 0 0) (.slice none 0 0) (.int .i64 0) (.int .i64 1)
    have hEk := fill10_other wr B (.int .i64 0) (.int .i64 0) (.int .i64 0) (.int .i64 0) (.bool false) (.slice none 0 0) (.slice none 0 0) (.slice none 0 0) (.int .i64 0) (.int .i64 1)
    obtain ⟨WE, hWE⟩ : ∃ WE, fill10 wr B (.int .i64 0) (.int .i64 0) (.int .i64 0) (.int .i64 0) (.bool false) (.slice none 0 0) (.slice none 0 0) (.slice none 0 0) (.int .i64 0) (.int .i64 1) = WE := ⟨_, rfl⟩
    have hEb : Below B w WE := by rw [← hWE]; exact fill10_below (HLow.out _ HR2.out.low).1 (Nat.le_refl _) (.int .i64 0) (.int .i64 0) (.int .i64 0) (.int .i64 0) (.bool false) (.slice none 0 0) (.slice none 0 0) (.slice none 0 0) (.int .i64 0) (.int .i64 1)
    rw [hWE] at hE hEk
    unfold fill10 at hWE
    rw [hWE]
    have HEk := Lib.hid hEk
    have HEb := Lib.hid hEb
    clear hWE hEk hEb
    obtain ⟨z0, z1, z2, z3, z4, z5, z6, z7, z8, z9, zfz, zhas⟩ := ten_cells hE
    refine bodyPost_ret (v := .agg #[.int .i64 0, .int .i64 0, .int .i64 0, .int .i64 0, .bool false, .slice none 0 0, .slice none 0 0, .slice none 0 0, .int .i64 0, .int .i64 1]) (by simp only [results, Tryz.results24]; go_simp) rfl ?_
    exact ReadP.no (by decide) RS.init (by rw [HB.out]; exact HEb.out)
  ·
   have hki : ¬ (k : Int) < 8 := by omega
   have hkd : decide ((k : Int) < 8) = false := decide_eq_false hki
   obtain rfl : k = 8 := by omega
   have h8n : 8 ≤ n := by have := (HK.out 7 (by decide)).1; omega
   have HF8 : Hid (FileG l RS.init [] 8) := Lib.hid (FileG.init l (sig_of l (fun i hi => by obtain ⟨h1, h2⟩ := HK.out i hi; exact ⟨by rw [← Hn.out]; exact h1, h2⟩)) (by rw [← Hn.out]; exact h8n))
   obtain ⟨ab, ao, rfl, hseg0⟩ : ∃ ab ao, A = some ⟨ab, ao, none⟩ ∧ Seg w ab ao l := by
    rcases HA.out with h | ⟨b0, off, h1, h2⟩
    ·
     have := Hn.out; rw [h] at this; simp at this; omega
    ·
     exact ⟨b0, off, h1, h2⟩
   have hab0 : ab < w.heap.size := World.block_lt_of_cell? w ⟨ab, ao + 0, none⟩ (hseg0 0 (by have := Hn.out; omega))
   have Hseg := Lib.hid (show ∀ W', Below W0.heap.size W0 W' → Seg W' ab ao l from fun W' hb => hseg0.below (by have := (HLow.out _ hb).1; rwa [← HB.out] at this) hab0)
   have Hseg0 := Lib.hid (show Seg W0 ab ao l from hseg0.below (by rw [HB.out]; exact HB0.out) hab0)
   clear hseg0 HK HO hki hkd hk8 hj
   go_wp2
   go_loopg [6] (n - 8) (fun gh v wr => ∃ (pos : Nat) (s : RS) (cs : List (List UInt8 × List UInt8)) (used : Nat) (v5 : Value) (pp : Option Addr) (pn pc : Nat) (cp : Option Addr) (cn cc : Nat) (rp : Option Addr) (rn rc : Nat), v = .int .i64 ((pos : Nat) : Int) ∧ pos + gh = n ∧ Hid (FileG l s cs pos) ∧ Hid (RD W0 wr (B + 1) s used v5 pp pn pc cp cn cc rp rn rc) ∧ Hid (s.stage = 0 ∨ used = pos) ∧ Hid (s.rest.length ≤ pos))
   case atStart => exact ⟨8, RS.init, [], 0, _, _, _, _, _, _, _, _, _, _, rfl, by omega, HF8, HR2, Lib.hid (.inl rfl), Lib.hid (by decide)⟩
   case round =>
    obtain ⟨pos, s, cs, used, v5, pp, pn, pc, cp, cn, cc, rp, rn, rc, rfl, hj, HFi, HRr, HU, HRest⟩ := hrel
    have Hj := Lib.hid hj
    have hle : W0.heap.size ≤ wr.heap.size := HRr.out.low.size
    clear HF8 HR2
    by_cases g6 : s.stage = 6
    ·
     have t6 : ((s.stage : Int) != 6) = false := by simp; omega
     have Hg6 := Lib.hid g6
     clear g6 hj
     obtain ⟨b0, b1, b2, b3, b4, b5, b6, b7, b8, b9, bfz, bhas⟩ := ten_cells (show Blk wr B 47 #[_, _, _, _, _, _, _, _, _, _] from (HLow.out _ HRr.out.low).2)
     obtain ⟨c0, c1, c2, c3, c4, c5, c6, c7, c8, c9, c10, c11, fz, hhs⟩ := HRr.out.cells
     obtain ⟨a5, n5, q5, e5⟩ := HRr.out.sl
     subst e5
     clear c11 fz hhs
     go_wp2
     have hE := fill10_blk (show Blk wr B 47 #[_, _, _, _, _, _, _, _, _, _] from (HLow.out _ HRr.out.low).2) (.int .i64 (s.W : Int)) (.int .i64 (s.H : Int)) (.int .i64 (s.dp : Int)) (.int .i64 (s.ct : Int)) (.bool s.il) (.slice a5 n5 q5) (.slice pp pn pc) (.slice cp cn cc) (.int .i64 (used : Int)) (.int .i64 0)
     have hEk := fill10_other wr B (.int .i64 (s.W : Int)) (.int .i64 (s.H : Int)) (.int .i64 (s.dp : Int)) (.int .i64 (s.ct : Int)) (.bool s.il) (.slice a5 n5 q5) (.slice pp pn pc) (.slice cp cn cc) (.int .i64 (used : Int)) (.int .i64 0)
     obtain ⟨WE, hWE⟩ : ∃ WE, fill10 wr B (.int .i64 (s.W : Int)) (.int .i64 (s.H : Int)) (.int .i64 (s.dp : Int)) (.int .i64 (s.ct : Int)) (.bool s.il) (.slice a5 n5 q5) (.slice pp pn pc) (.slice cp cn cc) (.int .i64 (used : Int)) (.int .i64 0) = WE := ⟨_, rfl⟩
     have hEb : Below B w WE := by rw [← hWE]; exact fill10_below (HLow.out _ HRr.out.low).1 (Nat.le_refl _) (.int .i64 (s.W : Int)) (.int .i64 (s.H : Int)) (.int .i64 (s.dp : Int)) (.int .i64 (s.ct : Int)) (.bool s.il) (.slice a5 n5 q5) (.slice pp pn pc) (.slice cp cn cc) (.int .i64 (used : Int)) (.int .i64 0)
     rw [hWE] at hE hEk
     unfold fill10 at hWE
     rw [hWE]
     have HEk := Lib.hid hEk
     have HEb := Lib.hid hEb
     clear hWE hEk hEb
     obtain ⟨z0, z1, z2, z3, z4, z5, z6, z7, z8, z9, zfz, zhas⟩ := ten_cells hE
     refine bodyPost_ret (v := .agg #[.int .i64 (s.W : Int), .int .i64 (s.H : Int), .int .i64 (s.dp : Int), .int .i64 (s.ct : Int), .bool s.il, .slice a5 n5 q5, .slice pp pn pc, .slice cp cn cc, .int .i64 (used : Int), .int .i64 0]) (by simp only [results, Tryz.results24]; go_simp) rfl ?_
     refine ⟨s, .slice a5 n5 q5, pp, pn, pc, cp, cn, cc, used, 0, rfl, by rw [HB.out]; exact HEb.out, HRr.out.sl, fun _ => ⟨Hg6.out, ⟨cs, ?_⟩, ?_, ?_⟩⟩
     ·
      have := HU.out.resolve_left (by rw [Hg6.out]; decide)
      rw [this]; exact HFi.out
     ·
      refine (HRr.out.pal.lower (by rw [HB.out, HS0.out]; exact Nat.le_succ B)).keep fun j hj => HEk.out j fun e => ?_
      exact own_blk_ne HRr.out.pal.2 (HLow.out _ HRr.out.low).2 (by decide) (by rw [ownBlock_slice, hj]; exact congrArg some e)
     ·
      refine (HRr.out.clear.lower (by rw [HB.out, HS0.out]; exact Nat.le_succ B)).keep fun j hj => HEk.out j fun e => ?_
      exact own_blk_ne HRr.out.clear.2 (HLow.out _ HRr.out.low).2 (by decide) (by rw [ownBlock_slice, hj]; exact congrArg some e)
    ·
     have t6 : ((s.stage : Int) != 6) = true := by simp; omega
     have hs5 : s.stage ≤ 5 := by have := HFi.out.run.inv.le; omega
     have c10 : wr.cell? ⟨B + 1, 10, none⟩ = some (.int .i64 (s.stage : Int)) := HRr.out.blk.cell 10
     obtain ⟨p12, hp12⟩ : ∃ p12, p12 = pos + 12 := ⟨_, rfl⟩
     have ep12 : (pos : Int) + 12 = (p12 : Int) := by omega
     have ewp12 : IntKind.i64.wrap (p12 : Int) = (p12 : Int) := IntWalk.i64_in _ (by omega)
     have hposn : pos ≤ n := by omega
     have HP12 := Lib.hid hp12
     clear hp12
     by_cases h12 : n < p12
     ·
      have t7 : decide ((n : Int) < (p12 : Int)) = true := by simp; omega
      have t8 : (n : Int) < (p12 : Int) := by omega
      obtain ⟨b0, b1, b2, b3, b4, b5, b6, b7, b8, b9, bfz, bhas⟩ := ten_cells (show Blk wr B 47 #[_, _, _, _, _, _, _, _, _, _] from (HLow.out _ HRr.out.low).2)
      obtain ⟨c0, c1, c2, c3, c4, c5, c6, c7, c8, c9, c10, c11, fz, hhs⟩ := HRr.out.cells
      clear c5 c6 c7 c8 c9 c10 c11 fz hhs
      go_wp2
      have hE := fill10_blk (show Blk wr B 47 #[_, _, _, _, _, _, _, _, _, _] from (HLow.out _ HRr.out.low).2) (.int .i64 (s.W : Int)) (.int .i64 (s.H : Int)) (.int .i64 (s.dp : Int)) (.int .i64 (s.ct : Int)) (.bool s.il) (.slice none 0 0) (.slice none 0 0) (.slice none 0 0) (.int .i64 0) (.int .i64 1)
      have hEk := fill10_other wr B (.int .i64 (s.W : Int)) (.int .i64 (s.H : Int)) (.int .i64 (s.dp : Int)) (.int .i64 (s.ct : Int)) (.bool s.il) (.slice none 0 0) (.slice none 0 0) (.slice none 0 0) (.int .i64 0) (.int .i64 1)
      obtain ⟨WE, hWE⟩ : ∃ WE, fill10 wr B (.int .i64 (s.W : Int)) (.int .i64 (s.H : Int)) (.int .i64 (s.dp : Int)) (.int .i64 (s.ct : Int)) (.bool s.il) (.slice none 0 0) (.slice none 0 0) (.slice none 0 0) (.int .i64 0) (.int .i64 1) = WE := ⟨_, rfl⟩
      have hEb : Below B w WE := by rw [← hWE]; exact fill10_below (HLow.out _ HRr.out.low).1 (Nat.le_refl _) (.int .i64 (s.W : Int)) (.int .i64 (s.H : Int)) (.int .i64 (s.dp : Int)) (.int .i64 (s.ct : Int)) (.bool s.il) (.slice none 0 0) (.slice none 0 0) (.slice none 0 0) (.int .i64 0) (.int .i64 1)
      rw [hWE] at hE hEk
      unfold fill10 at hWE
      rw [hWE]
      have HEk := Lib.hid hEk
      have HEb := Lib.hid hEb
      clear hWE hEk hEb
      obtain ⟨z0, z1, z2, z3, z4, z5, z6, z7, z8, z9, zfz, zhas⟩ := ten_cells hE
      refine bodyPost_ret (v := .agg #[.int .i64 (s.W : Int), .int .i64 (s.H : Int), .int .i64 (s.dp : Int), .int .i64 (s.ct : Int), .bool s.il, .slice none 0 0, .slice none 0 0, .slice none 0 0, .int .i64 0, .int .i64 1]) (by simp only [results, Tryz.results24]; go_simp) rfl ?_
      rw [← HB.out] at HEb
      exact ReadP.no (by decide) s (HEb.out)
     have t7 : decide ((n : Int) < (p12 : Int)) = false := by simp; omega
     have t8 : ¬ (n : Int) < (p12 : Int) := by omega
     have hp12 := HP12.out
     obtain ⟨m, hm⟩ : ∃ m, m = be4 l pos := ⟨_, rfl⟩
     have hmb : m < 4294967296 := by rw [hm]; exact be4_lt l pos
     have HF4 : Hid (∀ W' : World, Below W0.heap.size W0 W' → ∀ q r, q + 4 ≤ n → r = be4 l q → Calls Tryz.prog 44 #[.slice (some ⟨ab, ao, none⟩) n c, .int .i64 (q : Int)] W' fun e w' => e = .returned (.int .u32 (r : Int)) ∧ Dr W' w') := Lib.hid fun W' hW' q r hq hr => by
      have h := four_c l q (by rw [← Hn.out]; exact hq) (by rw [← Hn.out]; omega) (some ⟨ab, ao, none⟩) c (by rw [← Hn.out]; exact hc) W' (C_bsl (.inr ⟨ab, ao, rfl, Hseg.out W' hW'⟩) (by rw [← Hn.out]; omega))
      rw [← Hn.out, ← hr] at h
      exact h
     have Hm := Lib.hid hm
     have ewm : IntKind.i64.wrap (m : Int) = (m : Int) := IntWalk.i64_in _ (by omega)
     obtain ⟨lf, hlf⟩ : ∃ lf, lf = n - pos := ⟨_, rfl⟩
     obtain ⟨lf2, hlf2⟩ : ∃ lf2, lf2 = n - p12 := ⟨_, rfl⟩
     have elf : (n : Int) - (pos : Int) = (lf : Int) := by omega
     have elf2 : (lf : Int) - 12 = (lf2 : Int) := by omega
     have ewlf : IntKind.i64.wrap (lf : Int) = (lf : Int) := IntWalk.i64_in _ (by omega)
     have ewlf2 : IntKind.i64.wrap (lf2 : Int) = (lf2 : Int) := IntWalk.i64_in _ (by omega)
     have HLf := Lib.hid (And.intro hlf hlf2)
     clear hm hlf hlf2 hp12
     go_wp2_with fail
     refine (HF4.out wr HRr.out.low pos m (by have := HP12.out; omega) Hm.out).mono ?_
     rintro e w3 ⟨rfl, ⟨d3, rfl⟩⟩
     by_cases hmn : lf2 < m
     ·
      have t9 : decide ((lf2 : Int) < (m : Int)) = true := by simp; omega
      have t10 : (lf2 : Int) < (m : Int) := by omega
      have HRd := Lib.hid (HRr.out.drewN d3)
      clear c10
      generalize wr.drewN d3 = wy at HRd ⊢
      obtain ⟨b0, b1, b2, b3, b4, b5, b6, b7, b8, b9, bfz, bhas⟩ := ten_cells (show Blk wy B 47 #[_, _, _, _, _, _, _, _, _, _] from (HLow.out _ HRd.out.low).2)
      obtain ⟨c0, c1, c2, c3, c4, c5, c6, c7, c8, c9, c10, c11, fz, hhs⟩ := HRd.out.cells
      clear c5 c6 c7 c8 c9 c10 c11 fz hhs
      go_wp2
      have hE := fill10_blk (show Blk wy B 47 #[_, _, _, _, _, _, _, _, _, _] from (HLow.out _ HRd.out.low).2) (.int .i64 (s.W : Int)) (.int .i64 (s.H : Int)) (.int .i64 (s.dp : Int)) (.int .i64 (s.ct : Int)) (.bool s.il) (.slice none 0 0) (.slice none 0 0) (.slice none 0 0) (.int .i64 0) (.int .i64 1)
      have hEk := fill10_other wy B (.int .i64 (s.W : Int)) (.int .i64 (s.H : Int)) (.int .i64 (s.dp : Int)) (.int .i64 (s.ct : Int)) (.bool s.il) (.slice none 0 0) (.slice none 0 0) (.slice none 0 0) (.int .i64 0) (.int .i64 1)
      obtain ⟨WE, hWE⟩ : ∃ WE, fill10 wy B (.int .i64 (s.W : Int)) (.int .i64 (s.H : Int)) (.int .i64 (s.dp : Int)) (.int .i64 (s.ct : Int)) (.bool s.il) (.slice none 0 0) (.slice none 0 0) (.slice none 0 0) (.int .i64 0) (.int .i64 1) = WE := ⟨_, rfl⟩
      have hEb : Below B w WE := by rw [← hWE]; exact fill10_below (HLow.out _ HRd.out.low).1 (Nat.le_refl _) (.int .i64 (s.W : Int)) (.int .i64 (s.H : Int)) (.int .i64 (s.dp : Int)) (.int .i64 (s.ct : Int)) (.bool s.il) (.slice none 0 0) (.slice none 0 0) (.slice none 0 0) (.int .i64 0) (.int .i64 1)
      rw [hWE] at hE hEk
      unfold fill10 at hWE
      rw [hWE]
      have HEk := Lib.hid hEk
      have HEb := Lib.hid hEb
      clear hWE hEk hEb
      obtain ⟨z0, z1, z2, z3, z4, z5, z6, z7, z8, z9, zfz, zhas⟩ := ten_cells hE
      refine bodyPost_ret (v := .agg #[.int .i64 (s.W : Int), .int .i64 (s.H : Int), .int .i64 (s.dp : Int), .int .i64 (s.ct : Int), .bool s.il, .slice none 0 0, .slice none 0 0, .slice none 0 0, .int .i64 0, .int .i64 1]) (by simp only [results, Tryz.results24]; go_simp) rfl ?_
      rw [← HB.out] at HEb
      exact ReadP.no (by decide) s (HEb.out)
     have t9 : decide ((lf2 : Int) < (m : Int)) = false := by simp; omega
     have t10 : ¬ (lf2 : Int) < (m : Int) := by omega
     have HRd := Lib.hid (HRr.out.drewN d3)
     clear c10
     generalize wr.drewN d3 = wy at HRd ⊢
     go_wp2_with fail
     refine (HF4.out wy HRd.out.low pos m (by have := HP12.out; omega) Hm.out).mono ?_
     rintro e w4 ⟨rfl, ⟨d4, rfl⟩⟩
     have HRd := Lib.hid (HRd.out.drewN d4)
     generalize wy.drewN d4 = wz at HRd ⊢
     obtain ⟨p4, hp4⟩ : ∃ p4, p4 = pos + 4 := ⟨_, rfl⟩
     obtain ⟨p8, hp8⟩ : ∃ p8, p8 = pos + 8 := ⟨_, rfl⟩
     obtain ⟨pe, hpe⟩ : ∃ pe, pe = p8 + m := ⟨_, rfl⟩
     have ep4 : (pos : Int) + 4 = (p4 : Int) := by omega
     have ep8 : (pos : Int) + 8 = (p8 : Int) := by omega
     have epe : (p8 : Int) + (m : Int) = (pe : Int) := by omega
     have ewp4 : IntKind.i64.wrap (p4 : Int) = (p4 : Int) := IntWalk.i64_in _ (by omega)
     have ewp8 : IntKind.i64.wrap (p8 : Int) = (p8 : Int) := IntWalk.i64_in _ (by omega)
     have ewpe : IntKind.i64.wrap (pe : Int) = (pe : Int) := IntWalk.i64_in _ (by omega)
     have hpen : pe + 4 ≤ n := by have := HP12.out; have := HLf.out; omega
     have i1 : (p4 : Int) ≤ (pe : Int) := by omega
     have i2 : (pe : Int) ≤ (c : Int) := by omega
     have i3 : (p4 : Int) ≤ (p8 : Int) := by omega
     have i4 : (p8 : Int) ≤ (c : Int) := by omega
     have i5 : (p8 : Int) ≤ (pe : Int) := by omega
     have j1 : p4 ≤ pe := by omega
     have j2 : pe ≤ c := by omega
     have j3 : p4 ≤ p8 := by omega
     have j4 : p8 ≤ c := by omega
     have j5 : p8 ≤ pe := by omega
     have n4 : ¬ (c : Int) = (p4 : Int) := by omega
     have n8 : ¬ (c : Int) = (p8 : Int) := by omega
     have n4' : ¬ c = p4 := by omega
     have n8' : ¬ c = p8 := by omega
     obtain ⟨r1, hr1⟩ : ∃ r1, r1 = be4 l pe := ⟨_, rfl⟩
     obtain ⟨r2, hr2⟩ : ∃ r2, r2 = crc ((l.drop p4).take (4 + m)) := ⟨_, rfl⟩
     have HQ1 := Lib.hid (fun W' (hW' : Below W0.heap.size W0 W') => HF4.out W' hW' pe r1 (by omega) hr1)
     have HQ2 : Hid (∀ W' : World, Below W0.heap.size W0 W' → Calls Tryz.prog 39 #[.slice (some ⟨ab, ao + p4, none⟩) (pe - p4) (c - p4)] W' fun e w' => e = .returned (.int .u32 (r2 : Int)) ∧ W' = w') := Lib.hid fun W' hW' => by
      have hsl := Bsl.cut (w := W') (Hseg.out W' hW') (k := p4) (n := 4 + m) (by rw [← Hn.out]; omega)
      have h := crc_ok (some ⟨ab, ao + p4, none⟩) (c - p4) (pe - p4) ((l.drop p4).take (4 + m)) W' (by rw [List.length_take, List.length_drop, ← Hn.out]; omega) (by omega) (.inr ⟨ab, ao + p4, rfl, hsl⟩)
      rw [← hr2] at h
      exact h
     have Hr := Lib.hid (And.intro hr1 hr2)
     have HP := Lib.hid (And.intro hp4 (And.intro hp8 (And.intro hpe HP12.out)))
     clear hr1 hr2 hp4 hp8 hpe t6 t7 t8 t9 t10 ep12 ewp12 elf elf2 ewlf ewlf2
     go_wp2
     go_quiet ((first | (go_at_call 44; exact calls_dr (HQ1.out _ (by first | exact HRd.out.low | exact pw_below_drewN HRd.out.low _))) | (go_at_call 39; exact calls_same (HQ2.out _ (by first | exact HRd.out.low | exact pw_below_drewN HRd.out.low _)))))
     go_upto_if 79 with (fail)
     by_cases hrr : r1 = r2
     ·
      have u1 : ((r1 : Int) != (r2 : Int)) = false := by simp; omega
      have Hrr := Lib.hid hrr
      clear hrr
      generalize hwq : World.drewN wz _ = wq
      have HRd2 : Hid (RD W0 wq (B + 1) s used v5 pp pn pc cp cn cc rp rn rc) := Lib.hid (by rw [← hwq]; exact HRd.out.drewN _)
      clear hwq HRd
      obtain ⟨nm, hnm⟩ : ∃ nm, nm = (l.drop p4).take 4 := ⟨_, rfl⟩
      obtain ⟨b, hb⟩ : ∃ b, b = (l.drop p8).take m := ⟨_, rfl⟩
      have hnm4 : nm.length = p8 - p4 := by rw [hnm, List.length_take, List.length_drop, ← Hn.out]; have := HP.out; omega
      have hbm : b.length = pe - p8 := by rw [hb, List.length_take, List.length_drop, ← Hn.out]; have := HP.out; omega
      have hcv := run_convert_seg (P := Tryz.prog) wq.drew 24 5 9 Tryz.underlying24 Tryz.underlying5 Tryz.underlying9 ab (ao + p4) (p8 - p4) (c - p4) nm hnm4 (by
       have hsl := Bsl.cut (w := wq) (Hseg.out wq HRd2.out.low) (k := p4) (n := 4) (by rw [← Hn.out]; omega)
       rw [← hnm] at hsl; exact hsl)
      have HCH : Hid (Calls Tryz.prog 46 #[.pointer (some ⟨B + 1, 0, none⟩), .string ⟨nm.toArray⟩, .slice (some ⟨ab, ao + p8, none⟩) (pe - p8) (c - p8)] wq.drew fun e w' => ChunkP W0 w' (B + 1) s used nm b e) := Lib.hid (by
       have hsl := Bsl.cut (w := W0) Hseg0.out (k := p8) (n := m) (by rw [← Hn.out]; have := HP.out; omega)
       rw [← hb] at hsl
       have h := chunk_c HRd2.out.drew HFi.out.run.inv (fun h0 => HFi.out.okay HS.out h0) (by have := HRest.out; omega) hs5 (A := some ⟨ab, ao + p8, none⟩) (bc := c - p8) (.inr ⟨ab, ao + p8, rfl, hsl⟩) (by rw [hbm]; omega) (by rw [hbm]; omega) (nm := nm) (by rw [hnm4]; have := HP.out; omega)
       rw [hbm] at h
       exact h)
      have Hnb := Lib.hid (And.intro hnm hb)
      have Hbm := Lib.hid hbm
      clear HQ1 HQ2 HF4 hnm hb hnm4 hbm
      go_wp2
      go_region_with (go_at_call 46; refine HCH.out.mono ?_; rintro e w6 ⟨st, s', v6, pp2, pn2, pc2, cp2, cn2, cc2, rp2, rn2, rc2, rfl, hR6, hs6⟩)
      have HR6 := Lib.hid hR6
      have Hs6 := Lib.hid hs6
      clear hR6 hs6 HCH hcv
      by_cases hst : st = 0
      ·
       have u2 : (st != 0) = false := by simp; omega
       have hstep := Hs6.out hst
       have HFn : Hid (FileG l s' (cs ++ [(nm, b)]) (pos + 12 + m)) := Lib.hid (by
        have hx := HP.out
        have := HFi.out.step (n := m) (by rw [← Hn.out]; omega) Hm.out.symm (by
         have e1 := Hr.out.1
         have e2 := Hr.out.2
         rw [show pos + 8 + m = pe by omega, ← e1, show pos + 4 = p4 by omega, ← e2]; exact Hrr.out) (by
         rw [show pos + 4 = p4 by omega, show pos + 8 = p8 by omega, ← Hnb.out.1, ← Hnb.out.2]; exact hstep)
        rw [show pos + 4 = p4 by omega, show pos + 8 = p8 by omega, ← Hnb.out.1, ← Hnb.out.2] at this
        exact this)
       have HRest2 : Hid (s'.rest.length ≤ pos + 12 + m) := Lib.hid (by have h1 := hstep.rest; have h2 := HRest.out; have h3 := Hbm.out; have hx := HP.out; omega)
       have Hst := Lib.hid hst
       obtain ⟨pn', hpn'⟩ : ∃ pn', pn' = pos + 12 + m := ⟨_, rfl⟩
       obtain ⟨m12, hm12⟩ : ∃ m12, m12 = 12 + m := ⟨_, rfl⟩
       have em12 : (12 : Int) + (m : Int) = (m12 : Int) := by omega
       have ewm12 : IntKind.i64.wrap (m12 : Int) = (m12 : Int) := IntWalk.i64_in _ (by omega)
       have epn' : (pos : Int) + (m12 : Int) = (pn' : Int) := by omega
       have ewpn' : IntKind.i64.wrap (pn' : Int) = (pn' : Int) := IntWalk.i64_in _ (by have := HP.out; omega)
       have HPn := Lib.hid hpn'
       have d8 : w6.cell? ⟨B + 1, 8, none⟩ = some (.int .i64 (used : Int)) := HR6.out.blk.cell 8
       have dz := HR6.out.blk.frozen 8
       rw [← hpn'] at HFn HRest2
       clear hst hstep hpn' hm12
       go_wp2
       go_roundg (gk - (12 + m))
       case measure => have := Hj.out; have := HP.out; omega
       case rel =>
        have hfin := HR6.out.far 8 (.int .i64 (pn' : Int)) (s2 := s') (used2 := pn') (v52 := v6) rfl HR6.out.sl rfl rfl rfl
        refine ⟨pn', s', cs ++ [(nm, b)], pn', v6, pp2, pn2, pc2, cp2, cn2, cc2, rp2, rn2, rc2, rfl, by have := Hj.out; have := HP.out; have := HPn.out; omega, HFn, Lib.hid (by first | exact hfin | exact hfin.drew | exact hfin.drewN _), Lib.hid (.inr rfl), HRest2⟩
      ·
       have u2 : (st != 0) = true := by simp; omega
       have Hst := Lib.hid hst
       obtain ⟨s0, hs0⟩ : ∃ s0, s0 = s := ⟨_, rfl⟩
       clear hst hs0
       obtain ⟨b0, b1, b2, b3, b4, b5, b6, b7, b8, b9, bfz, bhas⟩ := ten_cells (show Blk w6 B 47 #[_, _, _, _, _, _, _, _, _, _] from (HLow.out _ HR6.out.low).2)
       obtain ⟨c0, c1, c2, c3, c4, c5, c6, c7, c8, c9, c10, c11, fz, hhs⟩ := HR6.out.cells
       clear c5 c6 c7 c8 c9 c10 c11 fz hhs
       go_wp2
       have hE := fill10_blk (show Blk w6 B 47 #[_, _, _, _, _, _, _, _, _, _] from (HLow.out _ HR6.out.low).2) (.int .i64 (s'.W : Int)) (.int .i64 (s'.H : Int)) (.int .i64 (s'.dp : Int)) (.int .i64 (s'.ct : Int)) (.bool s'.il) (.slice none 0 0) (.slice none 0 0) (.slice none 0 0) (.int .i64 0) (.int .i64 st)
       have hEk := fill10_other w6 B (.int .i64 (s'.W : Int)) (.int .i64 (s'.H : Int)) (.int .i64 (s'.dp : Int)) (.int .i64 (s'.ct : Int)) (.bool s'.il) (.slice none 0 0) (.slice none 0 0) (.slice none 0 0) (.int .i64 0) (.int .i64 st)
       obtain ⟨WE, hWE⟩ : ∃ WE, fill10 w6 B (.int .i64 (s'.W : Int)) (.int .i64 (s'.H : Int)) (.int .i64 (s'.dp : Int)) (.int .i64 (s'.ct : Int)) (.bool s'.il) (.slice none 0 0) (.slice none 0 0) (.slice none 0 0) (.int .i64 0) (.int .i64 st) = WE := ⟨_, rfl⟩
       have hEb : Below B w WE := by rw [← hWE]; exact fill10_below (HLow.out _ HR6.out.low).1 (Nat.le_refl _) (.int .i64 (s'.W : Int)) (.int .i64 (s'.H : Int)) (.int .i64 (s'.dp : Int)) (.int .i64 (s'.ct : Int)) (.bool s'.il) (.slice none 0 0) (.slice none 0 0) (.slice none 0 0) (.int .i64 0) (.int .i64 st)
       rw [hWE] at hE hEk
       unfold fill10 at hWE
       rw [hWE]
       have HEk := Lib.hid hEk
       have HEb := Lib.hid hEb
       clear hWE hEk hEb
       obtain ⟨z0, z1, z2, z3, z4, z5, z6, z7, z8, z9, zfz, zhas⟩ := ten_cells hE
       refine bodyPost_ret (v := .agg #[.int .i64 (s'.W : Int), .int .i64 (s'.H : Int), .int .i64 (s'.dp : Int), .int .i64 (s'.ct : Int), .bool s'.il, .slice none 0 0, .slice none 0 0, .slice none 0 0, .int .i64 0, .int .i64 st]) (by simp only [results, Tryz.results24]; go_simp) rfl ?_
       rw [← HB.out] at HEb
       exact ReadP.no Hst.out s' (HEb.out)
     ·
      have u1 : ((r1 : Int) != (r2 : Int)) = true := by simp; omega
      generalize hwq : World.drewN wz _ = wq
      have HRd2 : Hid (RD W0 wq (B + 1) s used v5 pp pn pc cp cn cc rp rn rc) := Lib.hid (by rw [← hwq]; exact HRd.out.drewN _)
      clear hwq HRd
      obtain ⟨b0, b1, b2, b3, b4, b5, b6, b7, b8, b9, bfz, bhas⟩ := ten_cells (show Blk wq B 47 #[_, _, _, _, _, _, _, _, _, _] from (HLow.out _ HRd2.out.low).2)
      obtain ⟨c0, c1, c2, c3, c4, c5, c6, c7, c8, c9, c10, c11, fz, hhs⟩ := HRd2.out.cells
      clear c5 c6 c7 c8 c9 c10 c11 fz hhs
      go_wp2
      have hE := fill10_blk (show Blk wq B 47 #[_, _, _, _, _, _, _, _, _, _] from (HLow.out _ HRd2.out.low).2) (.int .i64 (s.W : Int)) (.int .i64 (s.H : Int)) (.int .i64 (s.dp : Int)) (.int .i64 (s.ct : Int)) (.bool s.il) (.slice none 0 0) (.slice none 0 0) (.slice none 0 0) (.int .i64 0) (.int .i64 1)
      have hEk := fill10_other wq B (.int .i64 (s.W : Int)) (.int .i64 (s.H : Int)) (.int .i64 (s.dp : Int)) (.int .i64 (s.ct : Int)) (.bool s.il) (.slice none 0 0) (.slice none 0 0) (.slice none 0 0) (.int .i64 0) (.int .i64 1)
      obtain ⟨WE, hWE⟩ : ∃ WE, fill10 wq B (.int .i64 (s.W : Int)) (.int .i64 (s.H : Int)) (.int .i64 (s.dp : Int)) (.int .i64 (s.ct : Int)) (.bool s.il) (.slice none 0 0) (.slice none 0 0) (.slice none 0 0) (.int .i64 0) (.int .i64 1) = WE := ⟨_, rfl⟩
      have hEb : Below B w WE := by rw [← hWE]; exact fill10_below (HLow.out _ HRd2.out.low).1 (Nat.le_refl _) (.int .i64 (s.W : Int)) (.int .i64 (s.H : Int)) (.int .i64 (s.dp : Int)) (.int .i64 (s.ct : Int)) (.bool s.il) (.slice none 0 0) (.slice none 0 0) (.slice none 0 0) (.int .i64 0) (.int .i64 1)
      rw [hWE] at hE hEk
      unfold fill10 at hWE
      rw [hWE]
      have HEk := Lib.hid hEk
      have HEb := Lib.hid hEb
      clear hWE hEk hEb
      obtain ⟨z0, z1, z2, z3, z4, z5, z6, z7, z8, z9, zfz, zhas⟩ := ten_cells hE
      refine bodyPost_ret (v := .agg #[.int .i64 (s.W : Int), .int .i64 (s.H : Int), .int .i64 (s.dp : Int), .int .i64 (s.ct : Int), .bool s.il, .slice none 0 0, .slice none 0 0, .slice none 0 0, .int .i64 0, .int .i64 1]) (by simp only [results, Tryz.results24]; go_simp) rfl ?_
      rw [← HB.out] at HEb
      exact ReadP.no (by decide) s (HEb.out)
end Go.Proofs.YtnpkgmgedgcjmaaGreatDoor
end
