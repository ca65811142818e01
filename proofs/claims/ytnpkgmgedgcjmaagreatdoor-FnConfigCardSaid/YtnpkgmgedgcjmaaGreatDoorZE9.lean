/- A part of the proof: E9, Ea. -/
import Derived.Test.YtnpkgmgedgcjmaaGreatDoorZE3
import Derived.Test.YtnpkgmgedgcjmaaGreatDoorZWc
set_option linter.all false
set_option maxRecDepth 100000
section
namespace Go.Proofs.YtnpkgmgedgcjmaaGreatDoor
open Go Go.RowKit Png Go.Proofs.YtnpkgmgedgcjmaaGreatDoorW.PrintWords Go.Proofs.YtnpkgmgedgcjmaaGreatDoorW.PrintMore Go.Proofs.YtnpkgmgedgcjmaaGreatDoor.Pr
theorem C_bsl_back {w : World} {A : Option Addr} {l : List UInt8} (h : Kd.C (Kd.int .u8) w A (ints l).length (ints l)) : Bsl w A l := by
 by_cases h0 : 0 < l.length
 ·
  obtain ⟨ad, rfl, hc⟩ := h.2.2 (by rw [ints_length]; exact h0)
  have hget : ∀ j, j < l.length → w.cell? (ad.add j) = some (.int .u8 (nb l j : Int)) := by
   intro j hj
   have hp : (ints l)[j]? = some (nb l j : Int) := by simp [ints, nb, List.getD_eq_getElem?_getD, List.getElem?_eq_getElem hj]
   obtain ⟨c, hl, hk, hcell⟩ := hc j _ hp
   have hk' : c = [Value.int .u8 (nb l j : Int)] := hk
   subst hk'
   have := hcell 0 _ rfl
   simpa [show (Kd.int .u8).sz = 1 from rfl] using this
  obtain ⟨hb, hs⟩ := cell_lt (hget 0 h0)
  have e0 : ad.add 0 = ad := rfl
  rw [e0] at hs
  obtain ⟨b, off, sp⟩ := ad
  simp only at hs
  subst hs
  exact .inr ⟨b, off, rfl, fun k hk => by have := hget k hk; rwa [add_addr] at this⟩
 ·
  left
  exact List.eq_nil_of_length_eq_zero (by omega)
theorem Bsl.belowE {w w' : World} {p : Option Addr} {l : List UInt8} (h : Bsl w p l) (hb : Below w.heap.size w w') : Bsl w' p l := by
 rcases h with h | ⟨b, off, rfl, hs⟩
 ·
  exact .inl h
 ·
  refine .inr ⟨b, off, rfl, fun k hk => ?_⟩
  have := hs k hk
  rw [hb.cell (p := ⟨b, off + k, none⟩) (World.block_lt_of_cell? w _ this)]
  exact this
theorem Bsl.reads {w : World} {p : Option Addr} {l : List UInt8} (h : Bsl w p l) : Reads w w.heap.size 1 p l.length (bvals l) := by
 refine ⟨by simp, fun h0 => ?_⟩
 rcases h with rfl | ⟨b, off, rfl, hs⟩
 ·
  simp at h0
 ·
  refine ⟨_, rfl, World.block_lt_of_cell? w ⟨b, off + 0, none⟩ (hs 0 h0), fun j u hu => ?_⟩
  have hj : j < l.length := by
   have := (List.getElem?_eq_some_iff.1 hu).1
   simpa using this
  rw [bvals_get l j hj] at hu
  rw [add_addr, hs j hj]; exact hu
theorem Bsl.cut {w : World} {b off k n : Nat} {l : List UInt8} (h : Seg w b off l) (hk : k + n ≤ l.length) : Seg w b (off + k) ((l.drop k).take n) := by
 intro j hj
 simp only [List.length_take, List.length_drop] at hj
 have := h (k + j) (by omega)
 rw [← Nat.add_assoc] at this
 rw [this]
 simp [nb, List.getD_eq_getElem?_getD, List.getElem?_take, List.getElem?_drop, show j < n by omega]
theorem XS_open {w0 w : World} {g : Nat} {l : List UInt8} {at_ : Int} (h : IsS229 w0 w g (ints l) at_) : ∃ A c, Blk w g 229 #[.slice A l.length c, .int .i64 at_] ∧ w0.heap.size ≤ g ∧ Bsl w0 A l ∧ l.length ≤ c := by
 obtain ⟨A, c, h1, h2, h3⟩ := h
 rw [ints_length] at h1
 exact ⟨A, l.length + c, h1, h2, C_bsl_back h3, Nat.le_add_right _ _⟩
section
variable {w0 w : World} {g : Nat} {l : List UInt8}
theorem one_l (hl : l.length ≤ 1099511627776) (k : Nat) (hk : k ≤ 35184372088832) (hI : IsS229 w0 w g (ints l) (k : Int)) (hB : Below w0.heap.size w0 w) :
  Calls Tryz.prog 116 #[.pointer (some ⟨g, 0, none⟩)] w fun e w' => e = .returned (.int .i64 (bitAt (ints l) k : Nat)) ∧ IsS229 w0 w' g (ints l) ((k + 1 : Nat) : Int) ∧ Below w0.heap.size w0 w' ∧ KeepBut w w' g none :=
 one_c (Byt_ints l) (by rw [ints_length]; exact hl) k hk hI hB
theorem many_l (hl : l.length ≤ 1099511627776) (n : Nat) (N : Int) (hN : (n : Int) = N) (at_ : Nat) (hn : n ≤ 32) (hk : at_ ≤ 17592186044416) (hI : IsS229 w0 w g (ints l) (at_ : Int)) (hB : Below w0.heap.size w0 w) :
  Calls Tryz.prog 117 #[.pointer (some ⟨g, 0, none⟩), .int .i64 N] w fun e w' => e = .returned (.int .i64 (numAt (ints l) at_ n : Nat)) ∧ IsS229 w0 w' g (ints l) ((at_ + n : Nat) : Int) ∧ Below w0.heap.size w0 w' ∧ KeepBut w w' g none := by
 subst hN
 exact many_c (Byt_ints l) (by rw [ints_length]; exact hl) n at_ hn hk hI hB
theorem short_l (hl : l.length ≤ 1099511627776) (at_ : Nat) (b : Bool) (hb : decide (8 * l.length < at_) = b) (hI : IsS229 w0 w g (ints l) (at_ : Int)) (hB : Below w0.heap.size w0 w) :
  Calls Tryz.prog 128 #[.pointer (some ⟨g, 0, none⟩)] w fun e w' => e = .returned (.bool b) ∧ IsS229 w0 w' g (ints l) (at_ : Int) ∧ Below w0.heap.size w0 w' ∧ KeepBut w w' g none := by
 have := short_c (w0 := w0) (w := w) (g := g) (s := ints l) (by rw [ints_length]; exact hl) at_ hI hB
 rw [ints_length, hb] at this
 exact this
end
theorem Ob.keepbut {w w' : World} {base n cap g : Nat} {p : Option Addr} {l : List UInt8} (h : Ob w base p n cap l) (hk : KeepBut w w' g Option.none) (hne : p.map (·.block) ≠ some g) : Ob w' base p n cap l :=
 h.keep fun k hk' => hk.2 k (h.lt k hk').2 (fun e => hne (by rw [hk', e])) (by simp)
theorem Ob.ne_xs {w0 w : World} {base n cap g : Nat} {p : Option Addr} {o l : List UInt8} {at_ : Int} (h : Ob w base p n cap o) (hx : IsS229 w0 w g (ints l) at_) : p.map (·.block) ≠ some g := by
 obtain ⟨A, c, hB, _⟩ := XS_open hx
 have := own_blk_ne h.2 hB (by decide)
 rwa [ownBlock_slice] at this
theorem Ob.typed {w : World} {base n cap : Nat} {p : Option Addr} {l : List UInt8} (h : Ob w base p n cap l) : ∀ k, (Value.slice p n cap).ownBlock = some k → ∃ cells, w.heap[k]? = some (.cells cells 5 (0, 0)) := own_typed h.2
theorem CodeAt.grown {w w' : World} {g base base' n cap : Nat} {vc vl : Value} {cs li : List Nat} {p : Option Addr} {o : List UInt8} (h : CodeAt w g base vc vl cs li) (hO : Ob w base' p n cap o) (hG : w.grownBy w' (p.map (·.block))) : CodeAt w' g base vc vl cs li := by
 rw [← ownBlock_slice p n cap] at hG
 exact ⟨Kd.R_over' h.1 hO.typed (by decide) hG, Kd.R_over' h.2 hO.typed (by decide) hG⟩
theorem IsS.grownO {w0 w w' : World} {g base n cap : Nat} {p : Option Addr} {o l : List UInt8} {at_ : Int} (h : IsS229 w0 w g (ints l) at_) (hO : Ob w base p n cap o) (hG : w.grownBy w' (p.map (·.block))) : IsS229 w0 w' g (ints l) at_ :=
 IsS229.grown h hG (fun e => hO.ne_xs h e.symm)
def storedM (l : List UInt8) (at_ : Nat) (o : List UInt8) : List UInt8 × Nat × Nat :=
 if 8 * l.length < 8 * ((at_ + 7) / 8) + 32 ∨ numAt (ints l) (8 * ((at_ + 7) / 8)) 16 + numAt (ints l) (8 * ((at_ + 7) / 8) + 16) 16 ≠ 65535 ∨ l.length < (at_ + 7) / 8 + 4 + numAt (ints l) (8 * ((at_ + 7) / 8)) 16 then (o, 1, 8 * ((at_ + 7) / 8) + 32)
 else (o ++ (l.drop ((at_ + 7) / 8 + 4)).take (numAt (ints l) (8 * ((at_ + 7) / 8)) 16), 0, 8 * ((at_ + 7) / 8) + 32 + 8 * numAt (ints l) (8 * ((at_ + 7) / 8)) 16)
set_option maxHeartbeats 4000000 in
theorem stored_c {w0 w : World} {g : Nat} {l o : List UInt8} (hl : l.length ≤ 1073741824) (at_ : Nat) (hat : at_ ≤ 8796093022208) (p : Option Addr) (n cap : Nat) (hn : n ≤ 70368744177664) (hI : IsS229 w0 w g (ints l) (at_ : Int)) (hB : Below w0.heap.size w0 w) (hO : Ob w w0.heap.size p n cap o) :
  Calls Tryz.prog 118 #[.pointer (some ⟨g, 0, none⟩), .slice p n cap] w fun e w' => ∃ p' n' c', e = .returned (.tuple #[.slice p' n' c', .int .i64 (((storedM l at_ o).2.1 : Nat) : Int)]) ∧ Ob w' w0.heap.size p' n' c' (storedM l at_ o).1 ∧
   IsS229 w0 w' g (ints l) (((storedM l at_ o).2.2 : Nat) : Int) ∧ Below w0.heap.size w0 w' := by
 obtain ⟨A, c, hX, hg, hA, hlc⟩ := XS_open hI
 have HI := Lib.hid hI
 have HB := Lib.hid hB
 have HO := Lib.hid hO
 have HNE := Lib.hid (hO.ne_xs hI)
 have c1 := hX.cell 1
 have hf := hX.frozen 1
 simp only [List.getElem?_toArray, List.getElem?_cons_zero, List.getElem?_cons_succ] at c1
 obtain ⟨a, ha⟩ : ∃ a, a = (at_ + 7) / 8 := ⟨_, rfl⟩
 obtain ⟨b, hb⟩ : ∃ b, b = 8 * a := ⟨_, rfl⟩
 obtain ⟨nn, hnn⟩ : ∃ nn, nn = numAt (ints l) b 16 := ⟨_, rfl⟩
 obtain ⟨mm, hmm⟩ : ∃ mm, mm = numAt (ints l) (b + 16) 16 := ⟨_, rfl⟩
 have hnl : nn < 65536 := by rw [hnn]; exact numAt_lt _ _ 16
 have hml : mm < 65536 := by rw [hmm]; exact numAt_lt _ _ 16
 have HM : Hid (storedM l at_ o = if 8 * l.length < b + 32 ∨ nn + mm ≠ 65535 ∨ l.length < a + 4 + nn then (o, 1, b + 32) else (o ++ (l.drop (a + 4)).take nn, 0, b + 32 + 8 * nn)) := Lib.hid (by
  unfold storedM
  rw [← ha, ← hb, ← hnn, ← hmm])
 have hab : a ≤ 8796093022208 := by omega
 have ea : ((at_ : Int) + 7) / 8 = (a : Int) := by omega
 have eb : 8 * (a : Int) = (b : Int) := by omega
 have Hnn := Lib.hid hnn
 have Hmm := Lib.hid hmm
 have Hb := Lib.hid hb
 clear hX hA hlc hI hB hO hnn hmm ha hb
 go_enter Tryz.func118, Tryz.ntmps118
 go_wp2_with fail
 have HI1 := Lib.hid (IsS229.set_1 HI.out (b : Int))
 have HB1 := Lib.hid (HB.out.setCell (p := ⟨g, 1, none⟩) hg (.int .i64 (b : Int)))
 have hOb1 := HO.out.keep (w' := w.setCell ⟨g, 1, none⟩ (.int .i64 (b : Int))) fun k hk => Below.heap_setCell w ⟨g, 1, none⟩ _ k (fun e => HNE.out (by rw [hk, e]))
 have HO1 := Lib.hid hOb1
 clear hOb1
 refine (many_l (by omega) 16 16 rfl b (by omega) (by omega) HI1.out HB1.out).mono ?_
 rintro e w1 ⟨rfl, hi, hbl, hk⟩
 rw [← Hnn.out]
 have HI2 := Lib.hid hi
 have HB2 := Lib.hid hbl
 have HO2 := Lib.hid (HO1.out.keepbut hk HNE.out)
 clear hi hbl hk c1 hf HI1 HB1 HO1
 go_wp2_with fail
 refine (many_l (by omega) 16 16 rfl (b + 16) (by omega) (by omega) HI2.out HB2.out).mono ?_
 rintro e w2 ⟨rfl, hi, hbl, hk⟩
 rw [← Hmm.out]
 have HI3 := Lib.hid hi
 have HB3 := Lib.hid hbl
 have HO3 := Lib.hid (HO2.out.keepbut hk HNE.out)
 clear hi hbl hk HI2 HB2 HO2
 by_cases hsh : 8 * l.length < b + 32
 ·
  go_wp2_with fail
  refine (short_l (by omega) (b + 16 + 16) true (by simpa using hsh) HI3.out HB3.out).mono ?_
  rintro e w3 ⟨rfl, hi, hbl, hk⟩
  have HI4 := Lib.hid hi
  have HB4 := Lib.hid hbl
  have HO4 := Lib.hid (HO3.out.keepbut hk HNE.out)
  clear hi hbl hk
  go_wp2
  go_ret2
  rw [HM.out, if_pos (.inl hsh)]
  exact ⟨p, n, cap, rfl, HO4.out, HI4.out, HB4.out⟩
 ·
  go_wp2_with fail
  refine (short_l (by omega) (b + 16 + 16) false (by simpa using hsh) HI3.out HB3.out).mono ?_
  rintro e w3 ⟨rfl, hi, hbl, hk⟩
  have HI4 := Lib.hid hi
  have HB4 := Lib.hid hbl
  have HO4 := Lib.hid (HO3.out.keepbut hk HNE.out)
  clear hi hbl hk
  obtain ⟨A, c, hX, hg2, hA, hlc⟩ := XS_open HI4.out
  have HX := Lib.hid hX
  have c0 := hX.cell 0
  have c1 := hX.cell 1
  have hf := hX.frozen 1
  simp only [List.getElem?_toArray, List.getElem?_cons_zero, List.getElem?_cons_succ] at c0 c1
  have HA := Lib.hid hA
  clear hX hA
  by_cases hs : nn + mm = 65535
  ·
   have hsi : ((nn : Int) + (mm : Int) != 65535) = false := by simp; omega
   by_cases ht : l.length < a + 4 + nn
   ·
    have hti : (l.length : Int) < (a : Int) + 4 + (nn : Int) := by omega
    have Hs := Lib.hid hs
    clear hs
    go_wp2
    go_ret2
    rw [HM.out, if_pos (.inr (.inr ht))]
    exact ⟨p, n, cap, rfl, HO4.out, HI4.out, HB4.out⟩
   ·
    have hti : ¬ (l.length : Int) < (a : Int) + 4 + (nn : Int) := by omega
    have Hs := Lib.hid hs
    obtain ⟨b0, off, rfl, hsg⟩ : ∃ b0 off, A = some ⟨b0, off, none⟩ ∧ Seg w0 b0 off l := by
     rcases HA.out with h | ⟨b0, off, h1, h2⟩
     ·
      rw [h] at ht; simp at ht
     ·
      exact ⟨b0, off, h1, h2⟩
    have Hsg := Lib.hid hsg
    have hb0 : b0 < w0.heap.size := World.block_lt_of_cell? w0 ⟨b0, off + 0, none⟩ (hsg 0 (by omega))
    obtain ⟨a4, ha4⟩ : ∃ a4, a4 = a + 4 := ⟨_, rfl⟩
    have e4 : (a : Int) + 4 = (a4 : Int) := by omega
    obtain ⟨an, han⟩ : ∃ an, an = a4 + nn := ⟨_, rfl⟩
    have e5 : (a4 : Int) + (nn : Int) = (an : Int) := by omega
    have hanl : an ≤ l.length := by omega
    have hanc : an ≤ c := by omega
    have h4an : a4 ≤ an := by omega
    have hti2 : ¬ (l.length : Int) < (an : Int) := by omega
    have Hlen := Lib.hid (show an - a4 = nn by omega)
    have Ha4 := Lib.hid ha4
    have hOv : ∀ v, Ob (w3.setCell ⟨g, 1, none⟩ v) w0.heap.size p n cap o := fun v => HO4.out.keep fun k hk => Below.heap_setCell w3 ⟨g, 1, none⟩ v k (fun e => HNE.out (by rw [hk, e]))
    have HOv := Lib.hid hOv
    have hBv : ∀ v, Below w0.heap.size w0 (w3.setCell ⟨g, 1, none⟩ v) := fun v => HB4.out.setCell hg v
    have HBv := Lib.hid hBv
    have hIv : ∀ v : Int, IsS229 w0 (w3.setCell ⟨g, 1, none⟩ (.int .i64 v)) g (ints l) v := fun v => IsS229.set_1 HI4.out v
    have HIv := Lib.hid hIv
    have hrd : Reads w0 w0.heap.size 1 (some ⟨b0, off + a4, none⟩) (an - a4) (bvals ((l.drop a4).take (an - a4))) := by
     have h1 := Bsl.cut hsg (k := a4) (n := an - a4) (by omega)
     have h2 : Bsl w0 (some ⟨b0, off + a4, none⟩) ((l.drop a4).take (an - a4)) := .inr ⟨b0, off + a4, rfl, h1⟩
     have := h2.reads
     rwa [show ((l.drop a4).take (an - a4)).length = an - a4 by rw [List.length_take, List.length_drop]; omega] at this
    have HRd := Lib.hid hrd
    have hw0 : w0.heap.size ≤ w3.heap.size := HB4.out.size
    have hbd : n + (an - a4) ≤ 140737488355328 := by omega
    have fin : ∀ (p1 : Option Addr) (n1 cap1 : Nat) (w4 : World) (v : Int), v = ((b + 32 + 8 * nn : Nat) : Int) → Ob w4 w0.heap.size p1 n1 cap1 (o ++ (l.drop a4).take (an - a4)) → (w3.setCell ⟨g, 1, none⟩ (.int .i64 v)).grownBy w4 (p.map (·.block)) →
      ∃ p' n' c', Ending.returned (.tuple #[.slice p1 n1 cap1, .int .i64 0]) = .returned (.tuple #[.slice p' n' c', .int .i64 (((storedM l at_ o).2.1 : Nat) : Int)]) ∧ Ob w4 w0.heap.size p' n' c' (storedM l at_ o).1 ∧
   IsS229 w0 w4 g (ints l) (((storedM l at_ o).2.2 : Nat) : Int) ∧ Below w0.heap.size w0 w4 := by
     intro p1 n1 cap1 w4 v hv hO4 hG
     rw [HM.out, if_neg (by have := Hs.out; have := Ha4.out; have := Hlen.out; omega)]
     rw [Hlen.out, Ha4.out] at hO4
     refine ⟨p1, n1, cap1, rfl, hO4, ?_, ?_⟩
     ·
      have := IsS.grownO (HIv.out v) (HOv.out _) hG
      rw [hv] at this
      exact this
     ·
      exact (HBv.out _).grown hG (by rw [World.size_setCell]; exact hw0) (fun k hk => ((HOv.out (.int .i64 v)).lt k hk).1)
    have FIN := Lib.hid fin
    clear hs hsg ha4 han ht hti hOv hBv hIv hrd fin
    by_cases hca : c = a4
    ·
     have hz : an - a4 = 0 := by omega
     have HR0 : ∀ (W : World) (P : Option Addr), Reads W w0.heap.size 1 P 0 (bvals ((l.drop a4).take (an - a4))) := fun W P => by rw [hz]; exact Reads.none_
     have hbd0 : n + 0 ≤ 140737488355328 := by omega
     go_wp2_with (at_builtin; go_loud (refine wp_app rfl (.tmp 54) (.tmp 65) rfl w0.heap.size n cap _ _ p _ o ((l.drop a4).take (an - a4)) rfl rfl (HOv.out _) w0.heap.size (HR0 _ _) hbd0 (by rw [World.size_setCell]; exact hw0) ?_; intro p1 cap1 w4 hO4 hG hL))
     go_ret2
     exact FIN.out p1 _ cap1 w4 _ (by omega) hO4 hG
    ·
     go_wp2_with (at_builtin; refine wp_app rfl (.tmp 54) (.tmp 65) rfl w0.heap.size n cap _ _ p _ o ((l.drop a4).take (an - a4)) rfl rfl (HOv.out _) w0.heap.size (HRd.out.below (HBv.out _)) hbd (by rw [World.size_setCell]; exact hw0) ?_; intro p1 cap1 w4 hO4 hG hL)
     go_ret2
     exact FIN.out p1 _ cap1 w4 _ (by omega) hO4 hG
  ·
   have hsi : ((nn : Int) + (mm : Int) != 65535) = true := by simp; omega
   have Hs := Lib.hid hs
   clear hs
   go_wp2
   go_ret2
   rw [HM.out, if_pos (.inr (.inl Hs.out))]
   exact ⟨p, n, cap, rfl, HO4.out, HI4.out, HB4.out⟩
end Go.Proofs.YtnpkgmgedgcjmaaGreatDoor
end
section
namespace Go.Proofs.YtnpkgmgedgcjmaaGreatDoor
open Go Go.RowKit Png Go.Proofs.YtnpkgmgedgcjmaaGreatDoorW.PrintWords Go.Proofs.YtnpkgmgedgcjmaaGreatDoorW.PrintMore Go.Proofs.YtnpkgmgedgcjmaaGreatDoor.Pr
def lenOf (x : Nat) : Nat × Nat := if x = 285 then (258, 0) else if x < 265 then (x - 254, 0) else (3 + (4 + (x - 257) % 4) * 2 ^ ((x - 257) / 4 - 1), (x - 257) / 4 - 1)
def distOf (x : Nat) : Nat × Nat := if x < 4 then (1 + x, 0) else (1 + (2 + x % 2) * 2 ^ (x / 2 - 1), x / 2 - 1)
theorem lenOf_f (x : Nat) (h1 : 257 ≤ x) (h2 : x ≤ 285) : spec_lengthOf.f (x : Int) = some (((lenOf x).1 : Int), ((lenOf x).2 : Int)) := by
 obtain ⟨j, rfl, hj⟩ : ∃ j, x = 257 + j ∧ j < 29 := ⟨x - 257, by omega, by omega⟩
 have key : ∀ j : Fin 29, spec_lengthOf.f ((257 + j.val : Nat) : Int) = some (((lenOf (257 + j.val)).1 : Int), ((lenOf (257 + j.val)).2 : Int)) := by decide +kernel
 exact key ⟨j, hj⟩
theorem distOf_f (x : Nat) (h2 : x < 30) : spec_distanceOf.f (x : Int) = some (((distOf x).1 : Int), ((distOf x).2 : Int)) := by
 have key : ∀ j : Fin 30, spec_distanceOf.f ((j.val : Nat) : Int) = some (((distOf j.val).1 : Int), ((distOf j.val).2 : Int)) := by decide +kernel
 exact key ⟨x, h2⟩
theorem lenOf_le (x : Nat) (h1 : 257 ≤ x) (h2 : x ≤ 285) : 3 ≤ (lenOf x).1 ∧ (lenOf x).1 ≤ 258 ∧ (lenOf x).2 ≤ 5 := by
 obtain ⟨j, rfl, hj⟩ : ∃ j, x = 257 + j ∧ j < 29 := ⟨x - 257, by omega, by omega⟩
 have key : ∀ j : Fin 29, 3 ≤ (lenOf (257 + j.val)).1 ∧ (lenOf (257 + j.val)).1 ≤ 258 ∧ (lenOf (257 + j.val)).2 ≤ 5 := by decide +kernel
 exact key ⟨j, hj⟩
theorem distOf_le (x : Nat) (h2 : x < 30) : 1 ≤ (distOf x).1 ∧ (distOf x).1 ≤ 24577 ∧ (distOf x).2 ≤ 13 := by
 have key : ∀ j : Fin 30, 1 ≤ (distOf j.val).1 ∧ (distOf j.val).1 ≤ 24577 ∧ (distOf j.val).2 ≤ 13 := by decide +kernel
 exact key ⟨x, h2⟩
theorem lenOf_c (x : Nat) (h1 : 257 ≤ x) (h2 : x ≤ 285) (w : World) : Calls Tryz.prog 113 #[.int .i64 (x : Int)] w fun e w' => e = .returned (.tuple #[.int .i64 ((lenOf x).1 : Int), .int .i64 ((lenOf x).2 : Int)]) ∧ Dr w w' := by
 refine (spec_lengthOf.calls _ _ _ w (lenOf_f x h1 h2)).mono ?_
 rintro e w' ⟨rfl, h⟩
 first
 | exact ⟨rfl, by obtain ⟨n, rfl⟩ := h; exact ⟨n, rfl⟩⟩
 | exact ⟨rfl, by subst h; exact Dr.refl _⟩
theorem distOf_c (x : Nat) (h2 : x < 30) (w : World) : Calls Tryz.prog 114 #[.int .i64 (x : Int)] w fun e w' => e = .returned (.tuple #[.int .i64 ((distOf x).1 : Int), .int .i64 ((distOf x).2 : Int)]) ∧ Dr w w' := by
 refine (spec_distanceOf.calls _ _ _ w (distOf_f x h2)).mono ?_
 rintro e w' ⟨rfl, h⟩
 first
 | exact ⟨rfl, by obtain ⟨n, rfl⟩ := h; exact ⟨n, rfl⟩⟩
 | exact ⟨rfl, by subst h; exact Dr.refl _⟩
def againM (d : Nat) (o : List UInt8) : Nat → List UInt8
 | 0 => o
 | j + 1 => againM d o j ++ [(againM d o j).getD ((againM d o j).length - d) 0]
theorem againM_len (d : Nat) (o : List UInt8) (j : Nat) : (againM d o j).length = o.length + j := by
 induction j with
 | zero => rfl
 | succ j ih => simp [againM, ih]; omega
def symM (c1 l1 c2 l2 : List Nat) (l : List UInt8) (win most : Nat) : Nat → List UInt8 → Nat → List UInt8 × Nat × Nat
 | 0, o, at_ => (o, 2, at_)
 | d + 1, o, at_ =>
  if most < o.length then (o, 2, at_)
  else match readC c1 l1 (ints l) at_ with
   | (none, a) => (o, 1, a)
   | (some x, a) =>
    if 285 < x ∨ 8 * l.length < a then (o, 1, a)
    else if x = 256 then (o, 0, a)
    else if x < 256 then symM c1 l1 c2 l2 l win most d (o ++ [UInt8.ofNat x]) a
    else match readC c2 l2 (ints l) (a + (lenOf x).2) with
     | (none, b) => (o, 1, b)
     | (some y, b) =>
      if 29 < y then (o, 1, b)
      else if 8 * l.length < b + (distOf y).2 ∨ o.length < (distOf y).1 + numAt (ints l) b (distOf y).2 then (o, 1, b + (distOf y).2)
      else if win < (distOf y).1 + numAt (ints l) b (distOf y).2 then (o, 2, b + (distOf y).2)
      else symM c1 l1 c2 l2 l win most d (againM ((distOf y).1 + numAt (ints l) b (distOf y).2) o ((lenOf x).1 + numAt (ints l) a (lenOf x).2)) (b + (distOf y).2)
theorem symM_facts (c1 l1 c2 l2 : List Nat) (l : List UInt8) (win most : Nat) : ∀ d o at_, (symM c1 l1 c2 l2 l win most d o at_).2.1 ≤ 2 ∧ o.length ≤ (symM c1 l1 c2 l2 l win most d o at_).1.length ∧ (symM c1 l1 c2 l2 l win most d o at_).1.length ≤ max o.length (most + 300) ∧
  ((symM c1 l1 c2 l2 l win most d o at_).2.1 = 0 → at_ < (symM c1 l1 c2 l2 l win most d o at_).2.2 ∧ (symM c1 l1 c2 l2 l win most d o at_).2.2 ≤ 8 * l.length) ∧ (at_ ≤ 8 * l.length → (symM c1 l1 c2 l2 l win most d o at_).2.2 ≤ 8 * l.length + 64) := by
 intro d
 induction d with
 | zero => intro o at_; simp only [symM]; exact ⟨by omega, by omega, by omega, fun h => by omega, fun h => by omega⟩
 | succ d ih =>
  intro o at_
  simp only [symM]
  by_cases hm : most < o.length
  ·
   rw [if_pos hm]; exact ⟨by simp, by simp, by simp; omega, fun h => by simp at h, fun h => by simp; omega⟩
  ·
   rw [if_neg hm]
   have ha := readC_at c1 l1 (ints l) at_
   generalize readC c1 l1 (ints l) at_ = rc at ha ⊢
   obtain ⟨x, a⟩ := rc
   simp only at ha
   cases x with
   | none => exact ⟨by simp, by simp, by simp; omega, fun h => by simp at h, fun h => by simp; omega⟩
   | some x =>
    simp only
    split
    ·
     exact ⟨by simp, by simp, by simp; omega, fun h => by simp at h, fun h => by simp; omega⟩
    ·
     split
     ·
      exact ⟨by simp, by simp, by simp; omega, fun _ => by simp; omega, fun h => by simp; omega⟩
     ·
      split
      ·
       obtain ⟨i1, i2, i3, i4, i5⟩ := ih (o ++ [UInt8.ofNat x]) a
       simp only [List.length_append, List.length_singleton] at i2 i3
       exact ⟨i1, by omega, by omega, fun h => by have := i4 h; omega, fun h => i5 (by omega)⟩
      ·
       rename_i h1 h2 h3
       obtain ⟨n1, n2, n3⟩ := lenOf_le x (by omega) (by omega)
       have hnum := numAt_lt (ints l) a (lenOf x).2
       have hp : 2 ^ (lenOf x).2 ≤ 2 ^ 5 := Nat.pow_le_pow_right (by decide) n3
       have hb := readC_at c2 l2 (ints l) (a + (lenOf x).2)
       generalize readC c2 l2 (ints l) (a + (lenOf x).2) = rc2 at hb ⊢
       obtain ⟨y, b⟩ := rc2
       simp only at hb
       cases y with
       | none => exact ⟨by simp, by simp, by simp; omega, fun h => by simp at h, fun h => by simp; omega⟩
       | some y =>
        simp only
        split
        ·
         exact ⟨by simp, by simp, by simp; omega, fun h => by simp at h, fun h => by simp; omega⟩
        ·
         rename_i h4
         obtain ⟨m1, m2, m3⟩ := distOf_le y (by omega)
         split
         ·
          exact ⟨by simp, by simp, by simp; omega, fun h => by simp at h, fun h => by simp; omega⟩
         ·
          split
          ·
           exact ⟨by simp, by simp, by simp; omega, fun h => by simp at h, fun h => by simp; omega⟩
          ·
           obtain ⟨i1, i2, i3, i4, i5⟩ := ih (againM ((distOf y).1 + numAt (ints l) b (distOf y).2) o ((lenOf x).1 + numAt (ints l) a (lenOf x).2)) (b + (distOf y).2)
           rw [againM_len] at i2 i3
           exact ⟨i1, by omega, by omega, fun h => by have := i4 h; omega, fun h => i5 (by omega)⟩
def symD (c2 l2 : List Nat) (l : List UInt8) (win : Nat) (o : List UInt8) (x a : Nat) (K : List UInt8 → Nat → List UInt8 × Nat × Nat) : List UInt8 × Nat × Nat :=
 match readC c2 l2 (ints l) (a + (lenOf x).2) with
 | (none, b) => (o, 1, b)
 | (some y, b) =>
  if 29 < y then (o, 1, b)
  else if 8 * l.length < b + (distOf y).2 ∨ o.length < (distOf y).1 + numAt (ints l) b (distOf y).2 then (o, 1, b + (distOf y).2)
  else if win < (distOf y).1 + numAt (ints l) b (distOf y).2 then (o, 2, b + (distOf y).2)
  else K (againM ((distOf y).1 + numAt (ints l) b (distOf y).2) o ((lenOf x).1 + numAt (ints l) a (lenOf x).2)) (b + (distOf y).2)
theorem symM_lit {c1 l1 c2 l2 : List Nat} {l : List UInt8} {win most d : Nat} {o : List UInt8} {at_ x a : Nat} (hm : ¬ most < o.length) (hr : readC c1 l1 (ints l) at_ = (some x, a)) (h1 : ¬ 285 < x) (h2 : ¬ 8 * l.length < a) :
  symM c1 l1 c2 l2 l win most (d + 1) o at_ = if x = 256 then (o, 0, a) else if x < 256 then symM c1 l1 c2 l2 l win most d (o ++ [UInt8.ofNat x]) a else symD c2 l2 l win o x a (symM c1 l1 c2 l2 l win most d) := by
 simp only [symM]
 rw [if_neg hm, hr]
 simp only
 rw [if_neg (fun h => h.elim h1 h2)]
 rfl
theorem symM_bad {c1 l1 c2 l2 : List Nat} {l : List UInt8} {win most d : Nat} {o : List UInt8} {at_ x a : Nat} (hm : ¬ most < o.length) (hr : readC c1 l1 (ints l) at_ = (some x, a)) (h : 285 < x ∨ 8 * l.length < a) :
  symM c1 l1 c2 l2 l win most (d + 1) o at_ = (o, 1, a) := by
 simp only [symM]
 rw [if_neg hm, hr]
 simp only
 rw [if_pos h]
theorem symM_none {c1 l1 c2 l2 : List Nat} {l : List UInt8} {win most d : Nat} {o : List UInt8} {at_ a : Nat} (hm : ¬ most < o.length) (hr : readC c1 l1 (ints l) at_ = (none, a)) :
  symM c1 l1 c2 l2 l win most (d + 1) o at_ = (o, 1, a) := by
 simp only [symM]
 rw [if_neg hm, hr]
theorem symM_full {c1 l1 c2 l2 : List Nat} {l : List UInt8} {win most d : Nat} {o : List UInt8} {at_ : Nat} (hm : most < o.length) : symM c1 l1 c2 l2 l win most d o at_ = (o, 2, at_) := by
 cases d with
 | zero => rfl
 | succ d => simp only [symM]; rw [if_pos hm]
structure SI (w0 w : World) (g b1 : Nat) (l : List UInt8) (va vb vc vd : Value) (c1 l1 c2 l2 : List Nat) (p : Option Addr) (n cap : Nat) (o : List UInt8) (at_ : Nat) : Prop where
 o : Ob w w0.heap.size p n cap o
 i : IsS229 w0 w g (ints l) (at_ : Nat)
 b : Below w0.heap.size w0 w
 x1 : Blk w b1 233 #[va, vb]
 x2 : Blk w (b1 + 1) 233 #[vc, vd]
 k1 : CodeAt w g w0.heap.size va vb c1 l1
 k2 : CodeAt w g w0.heap.size vc vd c2 l2
section
variable {w0 w w' : World} {g b1 : Nat} {l : List UInt8} {va vb vc vd : Value} {c1 l1 c2 l2 : List Nat} {p : Option Addr} {n cap : Nat} {o : List UInt8} {at_ at2 : Nat}
theorem SI.step (h : SI w0 w g b1 l va vb vc vd c1 l1 c2 l2 p n cap o at_) (hi : IsS229 w0 w' g (ints l) (at2 : Nat)) (hb : Below w0.heap.size w0 w') (hk : KeepBut w w' g Option.none) : SI w0 w' g b1 l va vb vc vd c1 l1 c2 l2 p n cap o at2 :=
 ⟨h.o.keepbut hk (h.o.ne_xs h.i), hi, hb, hk.blk h.x1 (fun e => IsS229.ne_blk h.i h.x1 (by decide) e.symm) (by simp), hk.blk h.x2 (fun e => IsS229.ne_blk h.i h.x2 (by decide) e.symm) (by simp), h.k1.keep hk, h.k2.keep hk⟩
theorem SI.dr (h : SI w0 w g b1 l va vb vc vd c1 l1 c2 l2 p n cap o at_) (hd : Dr w w') : SI w0 w' g b1 l va vb vc vd c1 l1 c2 l2 p n cap o at_ := by
 obtain ⟨k, rfl⟩ := hd
 have F : Below w.heap.size w (w.drewN k) := pw_below_drewN (Below.refl _ _) k
 exact ⟨h.o.kept F, h.i.drewN k, h.b.trans (F.mono h.b.size), h.x1, h.x2, h.k1.below F, h.k2.below F⟩
theorem SI.app (h : SI w0 w g b1 l va vb vc vd c1 l1 c2 l2 p n cap o at_) {ob : Obj} {p1 : Option Addr} {n1 cap1 : Nat} {o1 : List UInt8} (hO : Ob w' w0.heap.size p1 n1 cap1 o1) (hG : (w.alloc ob).grownBy w' (p.map (·.block))) : SI w0 w' g b1 l va vb vc vd c1 l1 c2 l2 p1 n1 cap1 o1 at_ := by
 have FA : Below w.heap.size w (w.alloc ob) := (Below.refl _ _).alloc (Nat.le_refl _) _
 have hOa := h.o.kept FA
 exact ⟨hO, IsS.grownO (h.i.below FA) hOa hG, (h.b.trans (FA.mono h.b.size)).grown hG (by have := h.b.size; simp; omega) (fun k hk => (hOa.lt k hk).1),
  (h.x1.below FA h.x1.lt).grown hG (fun e => own_blk_ne hOa.2 (h.x1.below FA h.x1.lt) (by decide) (by rw [ownBlock_slice]; exact e.symm)),
  (h.x2.below FA h.x2.lt).grown hG (fun e => own_blk_ne hOa.2 (h.x2.below FA h.x2.lt) (by decide) (by rw [ownBlock_slice]; exact e.symm)),
  (h.k1.below FA).grown hOa hG, (h.k2.below FA).grown hOa hG⟩
end
theorem Ob.at_ {w : World} {base n cap : Nat} {p : Option Addr} {o : List UInt8} (h : Ob w base p n cap o) (k : Nat) (hk : k < n) : ∃ ad, p = some ad ∧ w.cell? (ad.add k) = some (.int .u8 (nb o k : Int)) := by
 have hl := h.1
 obtain ⟨ad, u, h1, _, h3, h4⟩ := (Reads.of_own h.2).at_ hk
 rw [bvals_get o k (by omega)] at h3
 obtain rfl := Option.some.inj h3
 exact ⟨ad, h1, h4⟩
end Go.Proofs.YtnpkgmgedgcjmaaGreatDoor
end
