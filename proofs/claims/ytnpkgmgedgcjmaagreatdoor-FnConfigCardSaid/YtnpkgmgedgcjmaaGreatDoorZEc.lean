/- A part of the proof: Ec. -/
import Derived.Test.YtnpkgmgedgcjmaaGreatDoorZEb
set_option linter.all false
set_option maxRecDepth 100000
section
namespace Go.Proofs.YtnpkgmgedgcjmaaGreatDoor
open Go Go.RowKit Png Go.Proofs.YtnpkgmgedgcjmaaGreatDoorW.PrintWords Go.Proofs.YtnpkgmgedgcjmaaGreatDoorW.PrintMore Go.Proofs.YtnpkgmgedgcjmaaGreatDoor.Pr
def Ib (w : World) (b : Nat) (l : List Nat) : Prop := Blk w b 3 (l.map fun n : Nat => Value.int .i64 (n : Int)).toArray
theorem Ib.cell {w : World} {b : Nat} {l : List Nat} (h : Ib w b l) {k : Nat} (hk : k < l.length) : w.cell? ⟨b, k, none⟩ = some (.int .i64 ((l.getD k 0 : Nat) : Int)) := by
 rw [Blk.cell h]
 simp [List.getD_eq_getElem?_getD, List.getElem?_eq_getElem hk, hk]
theorem Ib.set_ {w : World} {b : Nat} {l : List Nat} (h : Ib w b l) (k v : Nat) : Ib (w.setCell ⟨b, k, none⟩ (.int .i64 (v : Int))) b (l.set k v) := by
 have := Blk.set_ h k (.int .i64 (v : Int))
 unfold Ib
 have e : ((l.set k v).map fun n : Nat => Value.int .i64 (n : Int)).toArray = (l.map fun n : Nat => Value.int .i64 (n : Int)).toArray.setIfInBounds k (.int .i64 (v : Int)) := by
  simp [List.map_set]
 rw [e]
 exact this
theorem Ib.C {w : World} {b : Nat} {l : List Nat} (h : Ib w b l) (hl : l.length ≤ 9223372036854775807) : Kd.C (Kd.int .i64) w (some ⟨b, 0, none⟩) (nats l).length (nats l) := by
 refine ⟨rfl, by rw [nats_length]; exact hl, fun _ => ⟨_, rfl, fun j p hj => ⟨[.int .i64 p], rfl, rfl, fun i u hu => ?_⟩⟩⟩
 have hi : i = 0 := by
  rcases i with _ | i
  ·
   rfl
  ·
   simp at hu
 subst hi
 have hu' : Value.int .i64 p = u := by simpa using hu
 subst hu'
 have hjl : j < l.length := by
  have := (List.getElem?_eq_some_iff.1 hj).1
  rwa [nats_length] at this
 rw [show (Kd.int .i64).sz = 1 from rfl, Nat.mul_one, add_addr, Nat.add_zero, Nat.zero_add, h.cell hjl]
 have e := rd_nats l j
 unfold rd at e
 simp only [Int.toNat_natCast, List.getD_eq_getElem?_getD] at e
 rw [hj] at e
 simp only [Option.getD_some] at e
 rw [e, List.getD_eq_getElem?_getD]
theorem getD_take (l : List Nat) (n j : Nat) (h : ∀ k, l.getD k 0 < 16) : (l.take n).getD j 0 < 16 := by
 rw [List.getD_eq_getElem?_getD, List.getElem?_take]
 split
 ·
  have := h j; rwa [List.getD_eq_getElem?_getD] at this
 ·
  simp
theorem getD_drop (l : List Nat) (n j : Nat) (h : ∀ k, l.getD k 0 < 16) : (l.drop n).getD j 0 < 16 := by
 rw [List.getD_eq_getElem?_getD, List.getElem?_drop]
 have := h (n + j); rwa [List.getD_eq_getElem?_getD] at this
theorem getD_of_mem {l : List Nat} (h : ∀ x ∈ l, x < 16) (k : Nat) : l.getD k 0 < 16 := by
 rw [List.getD_eq_getElem?_getD]
 rcases hk : l[k]? with _ | v
 ·
  simp
 ·
  exact h v (List.mem_of_getElem? hk)
theorem R_at {w : World} {base : Nat} {ok : Nat → Prop} {A : Option Addr} {n c : Nat} {xs : List Nat} (h : Kd.R (Kd.int .i64) 3 w base ok (.slice A n c) (nats xs)) (h0 : 0 < xs.length) :
  n = xs.length ∧ n ≤ c ∧ ∃ ab ao, A = some ⟨ab, ao, none⟩ ∧ ∀ k, k < xs.length → w.cell? ⟨ab, ao + k, none⟩ = some (.int .i64 ((xs.getD k 0 : Nat) : Int)) := by
 obtain ⟨h1, h2, hC⟩ := Kd.R_reads' h
 rw [nats_length] at h1
 obtain ⟨ad, rfl, hc⟩ := Kd.at_int hC 0 (by omega) (by rw [nats_length]; omega)
 obtain ⟨_, hs⟩ := cell_lt hc
 obtain ⟨ab, ao, sp⟩ := ad
 have hs' : sp = none := hs
 subst hs'
 refine ⟨h1, h2, ab, ao, rfl, fun k hk => ?_⟩
 obtain ⟨ad2, h2, hc2⟩ := Kd.at_int hC (k : Int) (by omega) (by rw [nats_length]; omega)
 obtain rfl := Option.some.inj h2
 rw [rd_nats, Int.toNat_natCast, add_addr] at hc2
 exact hc2
def ordL : List Nat := [16, 17, 18, 0, 8, 7, 9, 6, 10, 5, 11, 4, 12, 3, 13, 2, 14, 1, 15]
theorem ordV_get (k : Nat) (hk : k < ([.int .i64 16, .int .i64 17, .int .i64 18, .int .i64 0, .int .i64 8, .int .i64 7, .int .i64 9, .int .i64 6, .int .i64 10, .int .i64 5, .int .i64 11, .int .i64 4, .int .i64 12, .int .i64 3, .int .i64 13, .int .i64 2, .int .i64 14, .int .i64 1, .int .i64 15] : List Value).length) : ([.int .i64 16, .int .i64 17, .int .i64 18, .int .i64 0, .int .i64 8, .int .i64 7, .int .i64 9, .int .i64 6, .int .i64 10, .int .i64 5, .int .i64 11, .int .i64 4, .int .i64 12, .int .i64 3, .int .i64 13, .int .i64 2, .int .i64 14, .int .i64 1, .int .i64 15] : List Value)[k]'hk = .int .i64 ((ordL.getD k 0 : Nat) : Int) := by
 have hl : k < ordL.length := hk
 have e : ([.int .i64 16, .int .i64 17, .int .i64 18, .int .i64 0, .int .i64 8, .int .i64 7, .int .i64 9, .int .i64 6, .int .i64 10, .int .i64 5, .int .i64 11, .int .i64 4, .int .i64 12, .int .i64 3, .int .i64 13, .int .i64 2, .int .i64 14, .int .i64 1, .int .i64 15] : List Value)[k]'hk = (ordL.map fun n : Nat => Value.int .i64 (n : Int))[k]'(by simpa using hl) := rfl
 rw [e, List.getElem_map, List.getD_eq_getElem?_getD, List.getElem?_eq_getElem hl]
 rfl
theorem ordL_lt (k : Nat) (hk : k < 19) : ordL.getD k 0 < 19 := by
 have key : ∀ k : Fin 19, ordL.getD k.val 0 < 19 := by decide
 exact key ⟨k, hk⟩
def lensTo (s : List Int) (at_ : Nat) : Nat → List Nat
 | 0 => List.replicate 19 0
 | k + 1 => (lensTo s at_ k).set (ordL.getD k 0) (numAt s (at_ + 3 * k) 3)
theorem lensTo_len (s : List Int) (at_ n : Nat) : (lensTo s at_ n).length = 19 := by
 induction n with
 | zero => rfl
 | succ n ih => simp [lensTo, ih]
theorem lensTo_lt (s : List Int) (at_ n : Nat) : ∀ j, (lensTo s at_ n).getD j 0 < 8 := by
 induction n with
 | zero =>
  intro j
  simp only [lensTo, List.getD_eq_getElem?_getD, List.getElem?_replicate]
  split <;> simp
 | succ n ih =>
  intro j
  have := ih j
  have hn := numAt_lt s (at_ + 3 * n) 3
  simp only [lensTo, List.getD_eq_getElem?_getD, List.getElem?_set] at this ⊢
  split
  ·
   split
   ·
    simpa using hn
   ·
    simp
  ·
   exact this
def leftC (ls : List Nat) : Int := if (List.range 15).any (fun j => decide (leftTo ls (j + 1) < 0)) then -1 else leftTo ls 15
theorem leftC_of {ls li : List Nat} {left : Int} (h : (left = -1 ∧ (∃ j, j < 15 ∧ leftTo ls (j + 1) < 0)) ∨ (li = listTo ls 15 ∧ left = leftTo ls 15 ∧ ∀ j, j ≤ 15 → 0 ≤ leftTo ls j)) : left = leftC ls ∧ (0 ≤ leftC ls → li = listTo ls 15) := by
 unfold leftC
 rcases h with ⟨rfl, j, hj, hl⟩ | ⟨rfl, rfl, h⟩
 ·
  rw [if_pos (by rw [List.any_eq_true]; exact ⟨j, List.mem_range.2 hj, by simpa using hl⟩)]
  exact ⟨rfl, fun h => by omega⟩
 ·
  rw [if_neg (by
   rw [List.any_eq_true]
   rintro ⟨j, hj, hl⟩
   have h1 := h (j + 1) (by have := List.mem_range.1 hj; omega)
   have h2 : leftTo ls (j + 1) < 0 := by simpa using hl
   omega)]
  exact ⟨rfl, fun _ => rfl⟩
def codesM (l : List UInt8) (at_ : Nat) : Nat × Nat × List Nat × List Nat :=
 let s := ints l
 let lit := 257 + numAt s at_ 5
 let dist := 1 + numAt s (at_ + 5) 5
 let n := 4 + numAt s (at_ + 10) 4
 let lens := lensTo s (at_ + 14) n
 let b := at_ + 14 + 3 * n
 if 8 * l.length < b ∨ 286 < lit ∨ leftC lens < 0 then (1, b, [], [])
 else if 30 < dist ∨ 0 < leftC lens then (2, b, [], [])
 else
  let t := toldC (cntOf lens lens.length) (listTo lens 15) s (lit + dist) b
  if t.2.1 ≠ 0 then (t.2.1, t.2.2, [], [])
  else
   let x := t.1.take lit
   let y := t.1.drop lit
   if leftC x < 0 ∨ leftC y < 0 then (1, t.2.2, [], [])
   else if 0 < leftC x ∨ t.1.getD 256 0 = 0 ∨ (0 < leftC y ∧ ¬ ((listTo y 15).length = 0 ∨ (listTo y 15).length = 1 ∧ (cntOf y y.length).getD 1 0 = 1)) then (2, t.2.2, [], [])
   else (0, t.2.2, x, y)
theorem CodeAt.drew {w : World} {g base : Nat} {vc vl : Value} {cs li : List Nat} (h : CodeAt w g base vc vl cs li) : CodeAt w.drew g base vc vl cs li := ⟨Kd.R_drew h.1, Kd.R_drew h.2⟩
theorem CodeAt.set_ {w : World} {g base b : Nat} {vc vl : Value} {cs li : List Nat} {t : TypeId} {cells : Array Value} (h : CodeAt w g base vc vl cs li) (hb : Blk w b t cells) (ht : t ≠ 3) (k : Nat) (v : Value) : CodeAt (w.setCell ⟨b, k, none⟩ v) g base vc vl cs li := by
 have hk : KeepBut w (w.setCell ⟨b, k, none⟩ v) b Option.none := (KeepBut.refl w b Option.none).set_ k v
 have h0 := Kd.R_keep (Kd.R_types h.1 hb (t := t) (fun q hq e => ht (e.symm.trans (by simpa [show (Kd.int .i64).E = [] from rfl] using hq)))) hk (fun _ h => h.2)
 have h1 := Kd.R_keep (Kd.R_types h.2 hb (t := t) (fun q hq e => ht (e.symm.trans (by simpa [show (Kd.int .i64).E = [] from rfl] using hq)))) hk (fun _ h => h.2)
 exact ⟨Kd.R_mono h0 fun _ h => h.1, Kd.R_mono h1 fun _ h => h.1⟩
theorem CodeAt.out {w1 : World} {g B2 B3 base : Nat} {vc vl : Value} {cs li : List Nat} (h : CodeAt w1 g base vc vl cs li) (x2 : Blk w1 B2 233 #[.slice none 0 0, .slice none 0 0]) (x3 : Blk w1 B3 233 #[.slice none 0 0, .slice none 0 0]) (h23 : B2 ≠ B3) (a b c d : Value) :
  CodeAt ((((w1.setCell ⟨B2, 0, none⟩ a).setCell ⟨B2, 1, none⟩ b).setCell ⟨B3, 0, none⟩ c).setCell ⟨B3, 1, none⟩ d).drew g base vc vl cs li :=
 ((((h.set_ x2 (by decide) 0 a).set_ (x2.set_ 0 a) (by decide) 1 b).set_ ((x3.far (p := ⟨B2, 0, none⟩) (Ne.symm h23) a).far (p := ⟨B2, 1, none⟩) (Ne.symm h23) b) (by decide) 0 c).set_ (((x3.far (p := ⟨B2, 0, none⟩) (Ne.symm h23) a).far (p := ⟨B2, 1, none⟩) (Ne.symm h23) b).set_ 0 c) (by decide) 1 d).drew
theorem make19 (w : World) : ∃ W, (Instr.makeSlice 27 (.int .i64 19) (.int .i64 19)).run Tryz.prog w = .ok (.slice (some ⟨w.heap.size, 0, none⟩) 19 19) W ∧ Below w.heap.size w W ∧ Ib W w.heap.size (List.replicate 19 0) := by
 have h := run_makeSlice (P := Tryz.prog) w 27 3 Tryz.t3 (.int .i64 0) Tryz.underlying27 (by kernel_rfl) (by kernel_rfl) .i64 .i64 19 19 (by omega) (by omega) (by decide) (by decide) (by omega)
 have e : madeCells (Value.int .i64 0).cells ((19 : Int).toNat * Tryz.t3.size) = ((List.replicate 19 0).map fun n : Nat => Value.int .i64 (n : Int)).toArray := by kernel_rfl
 rw [e] at h
 exact ⟨_, h, (Below.refl _ _).alloc (Nat.le_refl _) _, Blk.new w 3 _⟩
theorem Ib.below {w w' : World} {b : Nat} {l : List Nat} (h : Ib w b l) (hb : Below w.heap.size w w') : Ib w' b l := Blk.below h hb (Blk.lt h)
def Sl (v : Value) : Prop := ∃ A n c, v = .slice A n c
theorem Sl.mk (A : Option Addr) (n c : Nat) : Sl (.slice A n c) := ⟨A, n, c, rfl⟩
structure CI (w0 w wr : World) (g B2 B3 : Nat) (l : List UInt8) (at_ : Nat) : Prop where
 i : IsS229 w0 wr g (ints l) (at_ : Nat)
 b : Below w0.heap.size w0 wr
 k : KeepBut w wr g Option.none
 x2 : Blk wr B2 233 #[.slice none 0 0, .slice none 0 0]
 x3 : Blk wr B3 233 #[.slice none 0 0, .slice none 0 0]
section
variable {w0 w w1 w2 : World} {g B2 B3 : Nat} {l : List UInt8} {at_ at2 : Nat}
theorem CI.step (h : CI w0 w w1 g B2 B3 l at_) (hi : IsS229 w0 w2 g (ints l) (at2 : Nat)) (hb : Below w0.heap.size w0 w2) (hk : KeepBut w1 w2 g Option.none) : CI w0 w w2 g B2 B3 l at2 :=
 ⟨hi, hb, h.k.trans hk (.inl rfl), hk.blk h.x2 (fun e => IsS229.ne_blk h.i h.x2 (by decide) e.symm) (by simp), hk.blk h.x3 (fun e => IsS229.ne_blk h.i h.x3 (by decide) e.symm) (by simp)⟩
theorem CI.below (h : CI w0 w w1 g B2 B3 l at_) (hb : Below w1.heap.size w1 w2) : CI w0 w w2 g B2 B3 l at_ :=
 ⟨h.i.below hb, h.b.trans (hb.mono h.b.size), h.k.trans (KeepBut.of_below hb g Option.none) (.inl rfl), h.x2.below hb h.x2.lt, h.x3.below hb h.x3.lt⟩
theorem CI.alloc (h : CI w0 w w1 g B2 B3 l at_) (o : Obj) : CI w0 w (w1.alloc o) g B2 B3 l at_ := h.below ((Below.refl _ _).alloc (Nat.le_refl _) _)
theorem CI.gne2 (h : CI w0 w w1 g B2 B3 l at_) : g ≠ B2 := fun e => IsS229.ne_blk h.i h.x2 (by decide) e
theorem CI.gne3 (h : CI w0 w w1 g B2 B3 l at_) : g ≠ B3 := fun e => IsS229.ne_blk h.i h.x3 (by decide) e
theorem CI.set_ (h : CI w0 w w1 g B2 B3 l at_) {b : Nat} (hw : w.heap.size ≤ b) (hw0 : w0.heap.size ≤ b) (hg : g ≠ b) (h2 : B2 ≠ b) (h3 : B3 ≠ b) (k : Nat) (v : Value) : CI w0 w (w1.setCell ⟨b, k, none⟩ v) g B2 B3 l at_ := by
 refine ⟨?_, h.b.setCell (p := ⟨b, k, none⟩) hw0 v, ?_, h.x2.far h2 v, h.x3.far h3 v⟩
 ·
  obtain ⟨A0, c0, hb, hg0, hr⟩ := h.i
  exact ⟨A0, c0, Blk.far hb hg v, hg0, hr⟩
 ·
  refine ⟨by rw [World.size_setCell]; exact h.k.1, fun i hi hne hr => ?_⟩
  rw [Below.heap_setCell w1 ⟨b, k, none⟩ v i (by show i ≠ b; omega)]
  exact h.k.2 i hi hne hr
theorem CI.out (h : CI w0 w w1 g B2 B3 l at_) (hw2 : w.heap.size ≤ B2) (hw3 : w.heap.size ≤ B3) (h02 : w0.heap.size ≤ B2) (h03 : w0.heap.size ≤ B3) (a b c d : Value) :
  IsS229 w0 ((((w1.setCell ⟨B2, 0, none⟩ a).setCell ⟨B2, 1, none⟩ b).setCell ⟨B3, 0, none⟩ c).setCell ⟨B3, 1, none⟩ d) g (ints l) (at_ : Nat) ∧ Below w0.heap.size w0 ((((w1.setCell ⟨B2, 0, none⟩ a).setCell ⟨B2, 1, none⟩ b).setCell ⟨B3, 0, none⟩ c).setCell ⟨B3, 1, none⟩ d) ∧
   KeepBut w ((((w1.setCell ⟨B2, 0, none⟩ a).setCell ⟨B2, 1, none⟩ b).setCell ⟨B3, 0, none⟩ c).setCell ⟨B3, 1, none⟩ d) g Option.none := by
 refine ⟨?_, (((h.b.setCell (p := ⟨B2, 0, none⟩) h02 a).setCell (p := ⟨B2, 1, none⟩) h02 b).setCell (p := ⟨B3, 0, none⟩) h03 c).setCell (p := ⟨B3, 1, none⟩) h03 d, ?_⟩
 ·
  obtain ⟨A0, c0, hb, hg0, hr⟩ := h.i
  exact ⟨A0, c0, (((Blk.far hb h.gne2 a).far h.gne2 b).far h.gne3 c).far h.gne3 d, hg0, hr⟩
 ·
  refine ⟨by simp only [World.size_setCell]; exact h.k.1, fun i hi hne hr => ?_⟩
  rw [Below.heap_setCell _ ⟨B3, 1, none⟩ d i (by show i ≠ B3; omega), Below.heap_setCell _ ⟨B3, 0, none⟩ c i (by show i ≠ B3; omega), Below.heap_setCell _ ⟨B2, 1, none⟩ b i (by show i ≠ B2; omega), Below.heap_setCell _ ⟨B2, 0, none⟩ a i (by show i ≠ B2; omega)]
  exact h.k.2 i hi hne hr
theorem CI.facts (h : CI w0 w w1 g B2 B3 l at_) : w1.cell? ⟨B2, 0, none⟩ = some (.slice none 0 0) ∧ w1.cell? ⟨B2, 1, none⟩ = some (.slice none 0 0) ∧ w1.cell? ⟨B3, 0, none⟩ = some (.slice none 0 0) ∧ w1.cell? ⟨B3, 1, none⟩ = some (.slice none 0 0) ∧
  w1.frozen? ⟨B2, 0, none⟩ = false ∧ w1.frozen? ⟨B2, 1, none⟩ = false ∧ w1.frozen? ⟨B3, 0, none⟩ = false ∧ w1.frozen? ⟨B3, 1, none⟩ = false :=
 ⟨(h.x2.cell 0).trans rfl, (h.x2.cell 1).trans rfl, (h.x3.cell 0).trans rfl, (h.x3.cell 1).trans rfl, h.x2.frozen 0, h.x2.frozen 1, h.x3.frozen 0, h.x3.frozen 1⟩
theorem CI.ret (h : CI w0 w w1 g B2 B3 l at_) (h23 : B2 ≠ B3) (a b c d : Value) (tmps : Array Value) (h2 : tmps.getD 2 undef = .pointer (some ⟨B2, 0, none⟩)) (h3 : tmps.getD 3 undef = .pointer (some ⟨B3, 0, none⟩)) :
  (results Tryz.f121 tmps).run Tryz.prog ((((w1.setCell ⟨B2, 0, none⟩ a).setCell ⟨B2, 1, none⟩ b).setCell ⟨B3, 0, none⟩ c).setCell ⟨B3, 1, none⟩ d).drew =
   .ok (.tuple #[.agg #[a, b], .agg #[c, d], tmps.getD 4 undef]) ((((w1.setCell ⟨B2, 0, none⟩ a).setCell ⟨B2, 1, none⟩ b).setCell ⟨B3, 0, none⟩ c).setCell ⟨B3, 1, none⟩ d).drew := by
 have k2 : Blk ((((w1.setCell ⟨B2, 0, none⟩ a).setCell ⟨B2, 1, none⟩ b).setCell ⟨B3, 0, none⟩ c).setCell ⟨B3, 1, none⟩ d).drew B2 233 #[a, b] := ((((h.x2.set_ 0 a).set_ 1 b).far (p := ⟨B3, 0, none⟩) h23 c).far (p := ⟨B3, 1, none⟩) h23 d).drew
 have k3 : Blk ((((w1.setCell ⟨B2, 0, none⟩ a).setCell ⟨B2, 1, none⟩ b).setCell ⟨B3, 0, none⟩ c).setCell ⟨B3, 1, none⟩ d).drew B3 233 #[c, d] := ((((h.x3.far (p := ⟨B2, 0, none⟩) (Ne.symm h23) a).far (p := ⟨B2, 1, none⟩) (Ne.symm h23) b).set_ 0 c).set_ 1 d).drew
 exact results_list (rs := [.cell 2 233, .cell 3 233, .tmp 4]) (vs := [.agg #[a, b], .agg #[c, d], tmps.getD 4 undef]) rfl (by simp) (.cell B2 233 #[a, b] (0, 0) _ h2 k2 Tryz.underlying233 rfl (by kernel_rfl) (.cell B3 233 #[c, d] (0, 0) _ h3 k3 Tryz.underlying233 rfl (by kernel_rfl) (.tmp .nil)))
theorem CI.keepX (h : CI w0 w w1 g B2 B3 l at_) {B : Nat} {cs : Array Value} (hX : Blk w1 B 233 cs) (hk : KeepBut w1 w2 g Option.none) : Blk w2 B 233 cs := hk.blk hX (fun e => IsS229.ne_blk h.i hX (by decide) e.symm) (by simp)
theorem codeAt_of {ok0 ok1 : Nat → Prop} {v0 v1 : Value} {cs li : List Nat} (h0 : Kd.R (Kd.int .i64) 3 w2 w1.heap.size ok0 v0 (nats cs)) (h1 : Kd.R (Kd.int .i64) 3 w2 w1.heap.size ok1 v1 (nats li)) (hg : g < w1.heap.size) (hw : w0.heap.size ≤ w1.heap.size) : CodeAt w2 g w0.heap.size v0 v1 cs li :=
 ⟨Kd.R_lower (Kd.R_mono (Kd.R_bound h0) fun k hk => by have := hk.2.1; omega) hw, Kd.R_lower (Kd.R_mono (Kd.R_bound h1) fun k hk => by have := hk.2.1; omega) hw⟩
end
set_option maxHeartbeats 8000000 in
theorem codes_c {w0 w : World} {g : Nat} {l : List UInt8} (hl : l.length ≤ 1073741824) (at_ : Nat) (hat : at_ ≤ 8 * l.length + 64) (hI : IsS229 w0 w g (ints l) (at_ : Int)) (hB : Below w0.heap.size w0 w) :
  Calls Tryz.prog 121 #[.pointer (some ⟨g, 0, none⟩)] w fun e w' => ∃ va vb vc vd : Value, (Sl va ∧ Sl vb ∧ Sl vc ∧ Sl vd) ∧ e = .returned (.tuple #[.agg #[va, vb], .agg #[vc, vd], .int .i64 (((codesM l at_).1 : Nat) : Int)]) ∧
   IsS229 w0 w' g (ints l) (((codesM l at_).2.1 : Nat) : Int) ∧ Below w0.heap.size w0 w' ∧ KeepBut w w' g Option.none ∧
   ((codesM l at_).1 = 0 → CodeAt w' g w0.heap.size va vb (cntOf (codesM l at_).2.2.1 (codesM l at_).2.2.1.length) (listTo (codesM l at_).2.2.1 15) ∧ CodeAt w' g w0.heap.size vc vd (cntOf (codesM l at_).2.2.2 (codesM l at_).2.2.2.length) (listTo (codesM l at_).2.2.2 15)) := by
 have HI := Lib.hid hI
 have HB := Lib.hid hB
 clear hI hB
 obtain ⟨s, hs⟩ : ∃ s, s = ints l := ⟨_, rfl⟩
 obtain ⟨n1, hn1⟩ : ∃ n1, n1 = numAt s at_ 5 := ⟨_, rfl⟩
 obtain ⟨n2, hn2⟩ : ∃ n2, n2 = numAt s (at_ + 5) 5 := ⟨_, rfl⟩
 obtain ⟨n3, hn3⟩ : ∃ n3, n3 = numAt s (at_ + 10) 4 := ⟨_, rfl⟩
 have b1 : n1 < 32 := by rw [hn1]; exact numAt_lt s at_ 5
 have b2 : n2 < 32 := by rw [hn2]; exact numAt_lt s (at_ + 5) 5
 have b3 : n3 < 16 := by rw [hn3]; exact numAt_lt s (at_ + 10) 4
 obtain ⟨R, hR⟩ : ∃ R, R = codesM l at_ := ⟨_, rfl⟩
 have hRr := hR
 unfold codesM at hRr
 simp only [← hs, ← hn1, ← hn2, ← hn3] at hRr
 rw [← hR]
 have HRr := Lib.hid hRr
 have Hs := Lib.hid hs
 have Hn1 := Lib.hid hn1
 have Hn2 := Lib.hid hn2
 have Hn3 := Lib.hid hn3
 clear hRr hR hs hn1 hn2 hn3
 go_enter Tryz.func121, Tryz.ntmps121
 go_wp2_with fail
 obtain ⟨B2, hB2⟩ : ∃ B2, B2 = w.heap.size := ⟨_, rfl⟩
 have hw0 : w0.heap.size ≤ w.heap.size := HB.out.size
 have hF : Below w.heap.size w ((w.alloc (.cells #[.slice none 0 0, .slice none 0 0] 233)).alloc (.cells #[.slice none 0 0, .slice none 0 0] 233)) := ((Below.refl _ _).alloc (Nat.le_refl _) _).alloc (by simp) _
 have HC1 : Hid (CI w0 w ((w.alloc (.cells #[.slice none 0 0, .slice none 0 0] 233)).alloc (.cells #[.slice none 0 0, .slice none 0 0] 233)) g B2 (B2 + 1) l at_) := Lib.hid ⟨HI.out.below hF, HB.out.trans (hF.mono hw0), KeepBut.of_below hF g Option.none, by rw [hB2]; exact (Blk.new w _ _).alloc _, by
  have := Blk.new (w.alloc (.cells #[.slice none 0 0, .slice none 0 0] 233)) 233 #[.slice none 0 0, .slice none 0 0]
  rw [hB2]; simpa using this⟩
 have hwB : w.heap.size ≤ B2 := by omega
 rw [← hB2]
 refine (many_l (by omega) 5 5 rfl at_ (by omega) (by omega) HC1.out.i HC1.out.b).mono ?_
 rintro e w1 ⟨rfl, hi, hb, hk⟩
 have HC2 := Lib.hid (HC1.out.step hi hb hk)
 rw [← Hs.out, ← Hn1.out]
 clear hi hb hk HC1 hF
 go_wp2_with fail
 refine (many_l (by omega) 5 5 rfl (at_ + 5) (by omega) (by omega) HC2.out.i HC2.out.b).mono ?_
 rintro e w2 ⟨rfl, hi, hb, hk⟩
 have HC3 := Lib.hid (HC2.out.step hi hb hk)
 rw [← Hs.out, ← Hn2.out]
 clear hi hb hk HC2
 go_wp2_with fail
 refine (many_l (by omega) 4 4 rfl (at_ + 5 + 5) (by omega) (by omega) HC3.out.i HC3.out.b).mono ?_
 rintro e w3 ⟨rfl, hi, hb, hk⟩
 have HC4 := Lib.hid (HC3.out.step hi hb hk)
 rw [← Hs.out, show at_ + 5 + 5 = at_ + 10 by omega, ← Hn3.out]
 clear hi hb hk HC3
 obtain ⟨lit, hlit⟩ : ∃ lit, lit = 257 + n1 := ⟨_, rfl⟩
 obtain ⟨dist, hdist⟩ : ∃ dist, dist = 1 + n2 := ⟨_, rfl⟩
 obtain ⟨nn, hnn⟩ : ∃ nn, nn = 4 + n3 := ⟨_, rfl⟩
 have elit : (257 : Int) + (n1 : Int) = (lit : Int) := by omega
 have edist : (1 : Int) + (n2 : Int) = (dist : Int) := by omega
 have enn : (4 : Int) + (n3 : Int) = (nn : Int) := by omega
 have hnnb : nn ≤ 19 := by omega
 have hlitb : 257 ≤ lit ∧ lit ≤ 288 := by omega
 have hdistb : 1 ≤ dist ∧ dist ≤ 32 := by omega
 have hRr := HRr.out
 rw [← hlit, ← hdist, ← hnn] at hRr
 have HRr := Lib.hid hRr
 clear hRr hlit hdist hnn
 obtain ⟨W8, hmk, hFW, hIb⟩ := make19 w3
 obtain ⟨b8, hb8⟩ : ∃ b8, w3.heap.size = b8 := ⟨_, rfl⟩
 rw [hb8] at hmk hIb
 have hw8 : w.heap.size ≤ b8 := by rw [← hb8]; exact HC4.out.k.1
 have n82 : B2 ≠ b8 := fun e => by have := HC4.out.x2.lt; omega
 have n83 : B2 + 1 ≠ b8 := fun e => by have := HC4.out.x3.lt; omega
 have n8g : g ≠ b8 := fun e => by
  have hlt := HC4.out.i
  obtain ⟨A0, c0, hh, _, _⟩ := hlt
  have := Blk.lt hh
  omega
 have HC5 := Lib.hid (HC4.out.below hFW)
 have HL5 : Hid (Ib W8 b8 (lensTo s (at_ + 14) 0)) := Lib.hid hIb
 have hB2' : w.heap.size = B2 := hB2.symm
 clear hIb hFW HC4 hB2
 go_wp2
 clear hmk hb8
 go_loopg [29] nn (fun gh v wr => ∃ j, v = .int .i64 ((j : Nat) : Int) ∧ j + gh = nn ∧ Hid (CI w0 w wr g B2 (B2 + 1) l (at_ + 14 + 3 * j)) ∧ Hid (Ib wr b8 (lensTo s (at_ + 14) j)))
 case atStart => exact ⟨0, rfl, by omega, Lib.hid (by have := HC5.out; rw [show at_ + 14 + 3 * 0 = at_ + 10 + 4 by omega]; exact this), HL5⟩
 case round =>
  obtain ⟨j, rfl, hj, HC, HL⟩ := hrel
  have Hj := Lib.hid hj
  clear HC5 HL5
  by_cases hjn : j < nn
  ·
   have hjni : (j : Int) < (nn : Int) := by omega
   have hj19 : j < 19 := by omega
   have hget := ordV_get j hj19
   obtain ⟨od, hod⟩ : ∃ od, od = ordL.getD j 0 := ⟨_, rfl⟩
   rw [← hod] at hget
   have hod19 : od < 19 := by rw [hod]; exact ordL_lt j hj19
   have Hod := Lib.hid hod
   clear hj hod
   go_wp2_with fail
   have hFa : Below wr.heap.size wr (wr.alloc (.cells #[.int .i64 16, .int .i64 17, .int .i64 18, .int .i64 0, .int .i64 8, .int .i64 7, .int .i64 9, .int .i64 6, .int .i64 10, .int .i64 5, .int .i64 11, .int .i64 4, .int .i64 12, .int .i64 3, .int .i64 13, .int .i64 2, .int .i64 14, .int .i64 1, .int .i64 15] 3)) := (Below.refl _ _).alloc (Nat.le_refl _) _
   have HCa := Lib.hid (HC.out.below hFa)
   have HLa := Lib.hid (HL.out.below hFa)
   refine (many_l (by omega) 3 3 rfl (at_ + 14 + 3 * j) (by omega) (by omega) HCa.out.i HCa.out.b).mono ?_
   rintro e w5 ⟨rfl, hi, hb, hk⟩
   have HC6 := Lib.hid (HCa.out.step hi hb hk)
   have HL6 : Hid (Ib w5 b8 (lensTo s (at_ + 14) j)) := Lib.hid (hk.blk HLa.out (fun e => n8g e.symm) (by simp))
   obtain ⟨v3, hv3⟩ : ∃ v3, v3 = numAt (ints l) (at_ + 14 + 3 * j) 3 := ⟨_, rfl⟩
   rw [← hv3]
   have Hv3 := Lib.hid hv3
   clear hi hb hk hFa HCa HLa HC HL hget hv3
   have c8 := HL6.out.cell (k := od) (by rw [lensTo_len]; exact hod19)
   have f8 := Blk.frozen HL6.out od
   go_wp2
   go_roundg (gk - 1)
   case measure => have := Hj.out; omega
   case rel =>
    refine ⟨j + 1, by first | rfl | simp, by have := Hj.out; omega, Lib.hid ?_, Lib.hid ?_⟩
    ·
     exact HC6.out.set_ hw8 (by omega) n8g n82 n83 od _
    ·
     have := HL6.out.set_ od v3
     rw [Hod.out, Hv3.out, ← Hs.out] at this
     rw [Hod.out, Hv3.out, ← Hs.out]
     exact this
  ·
   have hjni : ¬ (j : Int) < (nn : Int) := by omega
   obtain rfl : j = nn := by omega
   clear hj Hj hjni hjn
   obtain ⟨lens, hlens⟩ : ∃ lens, lens = lensTo s (at_ + 14) j := ⟨_, rfl⟩
   have hl19 : lens.length = 19 := by rw [hlens]; exact lensTo_len _ _ _
   have hlv : ∀ k, lens.getD k 0 < 16 := fun k => by rw [hlens]; exact Nat.lt_of_lt_of_le (lensTo_lt _ _ _ k) (by decide)
   have hRr := HRr.out
   rw [← hlens] at HL hRr
   obtain ⟨a5, ha5⟩ : ∃ a5, a5 = at_ + 14 + 3 * j := ⟨_, rfl⟩
   rw [← ha5] at HC hRr
   have HRr := Lib.hid hRr
   have HP := Lib.hid (prefixOf_c (ls := lens) (by omega) hlv (some ⟨b8, 0, none⟩) 19 (by omega) (HL.out.C (by omega)))
   rw [hl19] at HP
   have Hl19 := Lib.hid hl19
   have ha5b : a5 ≤ 8 * l.length + 200 := by omega
   clear hRr hlens hlv hl19 HL
   go_wp2_with fail
   refine HP.out.mono ?_
   rintro e w6 ⟨v0, v1, li, left, rfl, hr0, hr1, hbl, hcase⟩
   have hgl : g < wr.heap.size := by
    obtain ⟨A0, c0, hh, _, _⟩ := HC.out.i
    exact Blk.lt hh
   have HK := Lib.hid (codeAt_of (w0 := w0) hr0 hr1 hgl HC.out.b.size)
   have HC6 := Lib.hid (HC.out.below hbl)
   obtain ⟨hleft, hli⟩ := leftC_of hcase
   have Hleft := Lib.hid hleft
   have Hli := Lib.hid hli
   obtain ⟨A0, q0, rfl⟩ := Kd.R_slice hr0
   obtain ⟨A1, q1, rfl⟩ := Kd.R_slice hr1
   clear hr0 hr1 hbl hcase hleft hli HC HP
   obtain ⟨B11, hB11⟩ : ∃ B11, w6.heap.size = B11 := ⟨_, rfl⟩
   have hwB11 : w.heap.size ≤ B11 := by rw [← hB11]; exact HC6.out.k.1
   have n11 : B2 ≠ B11 := fun e => by have := HC6.out.x2.lt; omega
   have n113 : B2 + 1 ≠ B11 := fun e => by have := HC6.out.x3.lt; omega
   have n11' : B11 ≠ B2 := Ne.symm n11
   have n113' : B11 ≠ B2 + 1 := Ne.symm n113
   obtain ⟨m0, hm0⟩ : ∃ m0, (nats (cntOf lens 19)).length = m0 := ⟨_, rfl⟩
   obtain ⟨m1, hm1⟩ : ∃ m1, (nats li).length = m1 := ⟨_, rfl⟩
   rw [hm0, hm1]
   rw [hm0, hm1] at HK
   have hX11 : Blk (w6.alloc (.cells #[.slice A0 m0 q0, .slice A1 m1 q1] 233)) B11 233 #[.slice A0 m0 q0, .slice A1 m1 q1] := by rw [← hB11]; exact Blk.new w6 _ _
   have HX11 := Lib.hid hX11
   have HC7 := Lib.hid (HC6.out.alloc (.cells #[.slice A0 m0 q0, .slice A1 m1 q1] 233))
   have HK7 := Lib.hid (HK.out.below ((Below.refl _ _).alloc (Nat.le_refl _) (.cells #[.slice A0 m0 q0, .slice A1 m1 q1] 233)))
   have hw0B : w0.heap.size ≤ B2 := by omega
   have fin : ∀ (W : World) (at' st : Nat) (a b c d : Value), Sl a ∧ Sl b ∧ Sl c ∧ Sl d → CI w0 w W g B2 (B2 + 1) l at' → R.1 = st → R.2.1 = at' → st ≠ 0 →
     ∃ va vb vc vd : Value, (Sl va ∧ Sl vb ∧ Sl vc ∧ Sl vd) ∧ Ending.returned (.tuple #[.agg #[a, b], .agg #[c, d], .int .i64 (st : Int)]) = .returned (.tuple #[.agg #[va, vb], .agg #[vc, vd], .int .i64 ((R.1 : Nat) : Int)]) ∧
      IsS229 w0 ((((W.setCell ⟨B2, 0, none⟩ a).setCell ⟨B2, 1, none⟩ b).setCell ⟨B2 + 1, 0, none⟩ c).setCell ⟨B2 + 1, 1, none⟩ d).drew g (ints l) ((R.2.1 : Nat) : Int) ∧ Below w0.heap.size w0 ((((W.setCell ⟨B2, 0, none⟩ a).setCell ⟨B2, 1, none⟩ b).setCell ⟨B2 + 1, 0, none⟩ c).setCell ⟨B2 + 1, 1, none⟩ d).drew ∧
      KeepBut w ((((W.setCell ⟨B2, 0, none⟩ a).setCell ⟨B2, 1, none⟩ b).setCell ⟨B2 + 1, 0, none⟩ c).setCell ⟨B2 + 1, 1, none⟩ d).drew g Option.none ∧
      (R.1 = 0 → CodeAt ((((W.setCell ⟨B2, 0, none⟩ a).setCell ⟨B2, 1, none⟩ b).setCell ⟨B2 + 1, 0, none⟩ c).setCell ⟨B2 + 1, 1, none⟩ d).drew g w0.heap.size va vb (cntOf R.2.2.1 R.2.2.1.length) (listTo R.2.2.1 15) ∧ CodeAt ((((W.setCell ⟨B2, 0, none⟩ a).setCell ⟨B2, 1, none⟩ b).setCell ⟨B2 + 1, 0, none⟩ c).setCell ⟨B2 + 1, 1, none⟩ d).drew g w0.heap.size vc vd (cntOf R.2.2.2 R.2.2.2.length) (listTo R.2.2.2 15)) := by
    intro W at' st a b c d hsl hC h1 h2 h3
    have ho := hC.out (by omega) (by omega) (by omega) (by omega) a b c d
    rw [h1, h2]
    exact ⟨a, b, c, d, hsl, rfl, ho.1.drew, ho.2.1.drew, ho.2.2, fun h => absurd h h3⟩
   have FIN := Lib.hid fin
   clear fin hX11 HC6 HK hm0 hm1
   go_wp2_with fail
   by_cases hsh : 8 * l.length < a5
   ·
    refine (short_l (by omega) a5 true (by simpa using hsh) HC7.out.i HC7.out.b).mono ?_
    rintro e w7 ⟨rfl, hi, hb, hk⟩
    have HC8 := Lib.hid (HC7.out.step hi hb hk)
    have hX := HC7.out.keepX HX11.out hk
    have x0 := (Blk.cell hX 0).trans rfl
    have x1 := (Blk.cell hX 1).trans rfl
    obtain ⟨y20, y21, y30, y31, f20, f21, f30, f31⟩ := HC8.out.facts
    clear hi hb hk hX
    go_wp2
    go_region_held3 (fun w' => w'.cell? ⟨B11, 0, none⟩ = some (.slice A0 m0 q0) ∧ w'.cell? ⟨B11, 1, none⟩ = some (.slice A1 m1 q1)) (go_keep) (fail)
    all_goals go_wp2
    refine bodyPost_ret (HC8.out.ret (by omega) _ _ _ _ _ rfl rfl) rfl ?_
    have e := HRr.out
    rw [if_pos (.inl hsh)] at e
    exact FIN.out w7 a5 1 _ _ _ _ ⟨.mk _ _ _, .mk _ _ _, .mk _ _ _, .mk _ _ _⟩ HC8.out (by rw [e]) (by rw [e]) (by omega)
   ·
    refine (short_l (by omega) a5 false (by simpa using hsh) HC7.out.i HC7.out.b).mono ?_
    rintro e w7 ⟨rfl, hi, hb, hk⟩
    have HC8 := Lib.hid (HC7.out.step hi hb hk)
    have HX := Lib.hid (HC7.out.keepX HX11.out hk)
    have HK8 := Lib.hid (HK7.out.keep hk)
    have x0 := (Blk.cell HX.out 0).trans rfl
    have x1 := (Blk.cell HX.out 1).trans rfl
    obtain ⟨y20, y21, y30, y31, f20, f21, f30, f31⟩ := HC8.out.facts
    clear hi hb hk HX11 HC7 HK7
    by_cases hl286 : 286 < lit
    ·
     have hl286i : (286 : Int) < (lit : Int) := by omega
     go_wp2
     go_region_held3 (fun w' => w'.cell? ⟨B11, 0, none⟩ = some (.slice A0 m0 q0) ∧ w'.cell? ⟨B11, 1, none⟩ = some (.slice A1 m1 q1)) (go_keep) (fail)
     all_goals go_wp2
     refine bodyPost_ret (HC8.out.ret (by omega) _ _ _ _ _ rfl rfl) rfl ?_
     have e := HRr.out
     rw [if_pos (.inr (.inl hl286))] at e
     exact FIN.out w7 a5 1 _ _ _ _ ⟨.mk _ _ _, .mk _ _ _, .mk _ _ _, .mk _ _ _⟩ HC8.out (by rw [e]) (by rw [e]) (by omega)
    ·
     have hl286i : ¬ (286 : Int) < (lit : Int) := by omega
     by_cases hlf : left < 0
     ·
      have hlfd : decide (left < 0) = true := decide_eq_true hlf
      go_wp2
      go_region_held3 (fun w' => w'.cell? ⟨B11, 0, none⟩ = some (.slice A0 m0 q0) ∧ w'.cell? ⟨B11, 1, none⟩ = some (.slice A1 m1 q1)) (go_keep) (fail)
      all_goals go_wp2
      refine bodyPost_ret (HC8.out.ret (by omega) _ _ _ _ _ rfl rfl) rfl ?_
      have e := HRr.out
      rw [if_pos (.inr (.inr (by rw [← Hleft.out]; exact hlf)))] at e
      exact FIN.out w7 a5 1 _ _ _ _ ⟨.mk _ _ _, .mk _ _ _, .mk _ _ _, .mk _ _ _⟩ HC8.out (by rw [e]) (by rw [e]) (by omega)
     ·
      have hlfd : decide (left < 0) = false := decide_eq_false hlf
      have HRr2 := Lib.hid (HRr.out.trans (if_neg (fun h => h.elim hsh (fun h => h.elim hl286 (by rw [← Hleft.out]; exact hlf)))))
      clear HRr
      by_cases hd30 : 30 < dist
      ·
       have hd30i : (30 : Int) < (dist : Int) := by omega
       go_wp2
       go_region_held3 (fun w' => w'.cell? ⟨B11, 0, none⟩ = some (.slice A0 m0 q0) ∧ w'.cell? ⟨B11, 1, none⟩ = some (.slice A1 m1 q1)) (go_keep) (fail)
       all_goals go_wp2
       refine bodyPost_ret (HC8.out.ret (by omega) _ _ _ _ _ rfl rfl) rfl ?_
       have e := HRr2.out
       rw [if_pos (.inl hd30)] at e
       exact FIN.out w7 a5 2 _ _ _ _ ⟨.mk _ _ _, .mk _ _ _, .mk _ _ _, .mk _ _ _⟩ HC8.out (by rw [e]) (by rw [e]) (by omega)
      ·
       have hd30i : ¬ (30 : Int) < (dist : Int) := by omega
       by_cases hlp : 0 < left
       ·
        have hlpd : decide (0 < left) = true := decide_eq_true hlp
        go_wp2
        go_region_held3 (fun w' => w'.cell? ⟨B11, 0, none⟩ = some (.slice A0 m0 q0) ∧ w'.cell? ⟨B11, 1, none⟩ = some (.slice A1 m1 q1)) (go_keep) (fail)
        all_goals go_wp2
        refine bodyPost_ret (HC8.out.ret (by omega) _ _ _ _ _ rfl rfl) rfl ?_
        have e := HRr2.out
        rw [if_pos (.inr (by rw [← Hleft.out]; exact hlp))] at e
        exact FIN.out w7 a5 2 _ _ _ _ ⟨.mk _ _ _, .mk _ _ _, .mk _ _ _, .mk _ _ _⟩ HC8.out (by rw [e]) (by rw [e]) (by omega)
       ·
        have hlpd : decide (0 < left) = false := decide_eq_false hlp
        have HRr3 := Lib.hid (HRr2.out.trans (if_neg (fun h => h.elim hd30 (by rw [← Hleft.out]; exact hlp))))
        clear HRr2
        have hli2 : li = listTo lens 15 := Hli.out (by rw [← Hleft.out]; omega)
        have Hli2 := Lib.hid hli2
        clear Hli hli2
        have hRr := HRr3.out
        rw [Hl19.out] at hRr
        have hK8 := HK8.out
        rw [Hli2.out] at hK8
        have hC19 := code_of lens (by rw [Hl19.out]; omega)
        rw [Hl19.out] at hC19
        obtain ⟨nd, hnd⟩ : ∃ nd, nd = lit + dist := ⟨_, rfl⟩
        have end_ : (lit : Int) + (dist : Int) = (nd : Int) := by omega
        have hndb : nd ≤ 316 := by omega
        have hT := told_c hC19 (Byt_ints l) (by rw [ints_length]; omega) nd (by omega) a5 (by omega) HC8.out.i HC8.out.b hK8
        have hTf := toldM_facts hC19 (ints l) nd nd [] a5 (by simp) (fun x h => by cases h)
        change (toldC (cntOf lens 19) (listTo lens 15) (ints l) nd a5).2.1 ≤ 1 ∧ a5 ≤ (toldC (cntOf lens 19) (listTo lens 15) (ints l) nd a5).2.2 ∧ (toldC (cntOf lens 19) (listTo lens 15) (ints l) nd a5).2.2 ≤ a5 + 22 * nd ∧ ((toldC (cntOf lens 19) (listTo lens 15) (ints l) nd a5).2.1 = 0 → (toldC (cntOf lens 19) (listTo lens 15) (ints l) nd a5).1.length = nd ∧ (∀ x ∈ (toldC (cntOf lens 19) (listTo lens 15) (ints l) nd a5).1, x < 16) ∧ (toldC (cntOf lens 19) (listTo lens 15) (ints l) nd a5).2.2 ≤ 8 * (ints l).length) at hTf
        rw [Hs.out, ← hnd] at hRr
        generalize toldC (cntOf lens 19) (listTo lens 15) (ints l) nd a5 = T at hT hTf hRr
        obtain ⟨Tl, st, b⟩ := T
        simp only at hT hTf hRr
        obtain ⟨t1, t2, t3, t4⟩ := hTf
        have HT := Lib.hid hT
        have Ht4 := Lib.hid t4
        have HRr4 := Lib.hid hRr
        have Hnd := Lib.hid hnd
        clear hRr hK8 hC19 hT t4 HRr3 hnd
        go_wp2_with fail
        refine HT.out.mono ?_
        rintro e w9 ⟨vv, rfl, hr, hi, hb, hk⟩
        have HC9 := Lib.hid (HC8.out.step hi hb hk)
        have HX9 := Lib.hid (HC8.out.keepX HX.out hk)
        obtain ⟨Av, cv, rfl⟩ := Kd.R_slice hr
        have Hr := Lib.hid hr
        clear x0 x1 y20 y21 y30 y31 f20 f21 f30 f31 hr hi hb hk HC8 HX HK8 HT
        have x0 := (Blk.cell HX9.out 0).trans rfl
        have x1 := (Blk.cell HX9.out 1).trans rfl
        obtain ⟨y20, y21, y30, y31, f20, f21, f30, f31⟩ := HC9.out.facts
        by_cases hst : st = 0
        ·
         subst hst
         obtain ⟨hTl, hTv, hTb⟩ := Ht4.out rfl
         have HTv := Lib.hid (getD_of_mem hTv)
         have HTl := Lib.hid hTl
         have HRr5 := Lib.hid (HRr4.out.trans (if_neg (by simp)))
         obtain ⟨hlen, hcv, ab, ao, rfl, hcell⟩ := R_at Hr.out (by rw [hTl]; omega)
         rw [hTl] at hcell hlen
         have Hcell := Lib.hid hcell
         have Hr2 := Hr.out
         rw [hlen] at Hr2 hcv ⊢
         have Hr2 := Lib.hid Hr2
         have hlx : (Tl.take lit).length = lit := by rw [List.length_take, hTl]; omega
         have hly : (Tl.drop lit).length = dist := by rw [List.length_drop, hTl]; have := Hnd.out; omega
         have hlnd : lit ≤ nd := by have := Hnd.out; omega
         have hndlit : nd - lit = dist := by have := Hnd.out; omega
         have hcvl : ¬ cv = lit := by have := Hnd.out; omega
         have hC1 := Kd.C_take (m := lit) (Kd.R_reads' Hr2.out).2.2 (by rw [nats_length, hTl]; omega)
         have ex : (nats Tl).take lit = nats (Tl.take lit) := by simp [nats, List.map_take]
         have ey : (nats Tl).drop lit = nats (Tl.drop lit) := by simp [nats, List.map_drop]
         rw [ex] at hC1
         have HP1 := Lib.hid (prefixOf_c (ls := Tl.take lit) (by omega) (fun j => getD_take Tl lit j HTv.out) (some ⟨ab, ao, none⟩) cv (by omega) hC1)
         rw [hlx] at HP1
         have Hlx := Lib.hid hlx
         have Hly := Lib.hid hly
         have Hey := Lib.hid ey
         clear hTl hTv hlen hcell Hr hlx hly hC1 ex ey Ht4 HRr4 t1
         go_wp2_with fail
         refine HP1.out.mono ?_
         rintro e w10 ⟨va, vb, lia, la, rfl, hra, hrb, hbl, hcase⟩
         have hgl9 : g < w9.heap.size := by
          obtain ⟨A0, c0, hh, _, _⟩ := HC9.out.i
          exact Blk.lt hh
         have HKA := Lib.hid (codeAt_of (w0 := w0) hra hrb hgl9 HC9.out.b.size)
         have HC10 := Lib.hid (HC9.out.below hbl)
         have HX10 := Lib.hid (HX9.out.below hbl (Blk.lt HX9.out))
         have Hr3 := Lib.hid (Kd.R_below Hr2.out hbl)
         obtain ⟨hla, hlia⟩ := leftC_of hcase
         have Hla := Lib.hid hla
         have Hlia := Lib.hid hlia
         obtain ⟨Aa, qa, rfl⟩ := Kd.R_slice hra
         obtain ⟨Ab, qb, rfl⟩ := Kd.R_slice hrb
         clear hra hrb hbl hcase hla hlia x0 x1 y20 y21 y30 y31 f20 f21 f30 f31 HC9 HX9 Hr2 HP1 hgl9
         obtain ⟨ma, hma⟩ : ∃ ma, (nats (cntOf (Tl.take lit) lit)).length = ma := ⟨_, rfl⟩
         obtain ⟨mb, hmb⟩ : ∃ mb, (nats lia).length = mb := ⟨_, rfl⟩
         rw [hma, hmb]
         rw [hma, hmb] at HKA
         obtain ⟨B14, hB14⟩ : ∃ B14, w10.heap.size = B14 := ⟨_, rfl⟩
         have hF14 : Below w10.heap.size w10 (w10.alloc (.cells #[.slice Aa ma qa, .slice Ab mb qb] 233)) := (Below.refl _ _).alloc (Nat.le_refl _) _
         obtain ⟨W11, hW11⟩ : ∃ W11, w10.alloc (.cells #[.slice Aa ma qa, .slice Ab mb qb] 233) = W11 := ⟨_, rfl⟩
         have hX14 : Blk W11 B14 233 #[.slice Aa ma qa, .slice Ab mb qb] := by rw [← hW11, ← hB14]; exact Blk.new w10 _ _
         rw [hW11] at hF14
         have HX14 := Lib.hid hX14
         have HC11 := Lib.hid (HC10.out.below hF14)
         have HKA11 := Lib.hid (HKA.out.below hF14)
         have HX11' := Lib.hid (HX10.out.below hF14 (Blk.lt HX10.out))
         have Hr4 := Lib.hid (Kd.R_below Hr3.out hF14)
         have h14 : B2 ≠ B14 ∧ B2 + 1 ≠ B14 ∧ B11 ≠ B14 := ⟨fun e => by have := HC10.out.x2.lt; omega, fun e => by have := HC10.out.x3.lt; omega, fun e => by have := Blk.lt HX10.out; omega⟩
         obtain ⟨h14a, h14b, h14c⟩ := h14
         clear hma hmb hX14 hF14 HC10 HX10 HKA Hr3
         have hC2 := Kd.C_drop (m := lit) (c := cv) (Kd.R_reads' Hr4.out).2.2 (by rw [nats_length, HTl.out]; omega) (by rw [nats_length, HTl.out]; omega)
         rw [if_neg hcvl, Hey.out] at hC2
         simp only [Option.map_some, add_addr, show (Kd.int .i64).sz = 1 from rfl, Nat.mul_one] at hC2
         have HP2 := Lib.hid (prefixOf_c (ls := Tl.drop lit) (by rw [Hly.out]; omega) (fun j => getD_drop Tl lit j HTv.out) (some ⟨ab, ao + lit, none⟩) (cv - lit) (by rw [Hly.out]; omega) hC2)
         rw [Hly.out] at HP2
         clear hC2
         go_wp2_with fail
         refine HP2.out.mono ?_
         rintro e w12 ⟨vc, vd, lib, lb, rfl, hrc, hrd, hbl, hcase⟩
         have hgl11 : g < W11.heap.size := by
          obtain ⟨A0, c0, hh, _, _⟩ := HC11.out.i
          exact Blk.lt hh
         have HKB := Lib.hid (codeAt_of (w0 := w0) hrc hrd hgl11 HC11.out.b.size)
         have HC12 := Lib.hid (HC11.out.below hbl)
         have HX11b := Lib.hid (HX11'.out.below hbl (Blk.lt HX11'.out))
         have HX14b := Lib.hid (HX14.out.below hbl (Blk.lt HX14.out))
         have HKA12 := Lib.hid (HKA11.out.below hbl)
         have Hr5 := Lib.hid (Kd.R_below Hr4.out hbl)
         obtain ⟨hlb, hlib⟩ := leftC_of hcase
         have Hlb := Lib.hid hlb
         have Hlib := Lib.hid hlib
         obtain ⟨Ac, qc, rfl⟩ := Kd.R_slice hrc
         obtain ⟨Ad, qd, rfl⟩ := Kd.R_slice hrd
         obtain ⟨hmc, hqc, cb, co, rfl, hccell⟩ := R_at (xs := cntOf (Tl.drop lit) dist) hrc (by rw [cntOf_len]; omega)
         have hc16 : (cntOf (Tl.drop lit) dist).length = 16 := cntOf_len _ _
         clear hrc hrd hcase hlb hlib HC11 HX11' HX14 HKA11 Hr4 HP2 hgl11
         obtain ⟨mc, hmce⟩ : ∃ mc, (nats (cntOf (Tl.drop lit) dist)).length = mc := ⟨_, rfl⟩
         obtain ⟨md, hmd⟩ : ∃ md, (nats lib).length = md := ⟨_, rfl⟩
         have Hmd := Lib.hid (show md = lib.length by rw [← hmd, nats_length])
         rw [hmce] at hmc hqc
         rw [hmce, hmd]
         rw [hmce, hmd] at HKB
         obtain ⟨B15, hB15⟩ : ∃ B15, w12.heap.size = B15 := ⟨_, rfl⟩
         have hF15 : Below w12.heap.size w12 (w12.alloc (.cells #[.slice (some ⟨cb, co, none⟩) mc qc, .slice Ad md qd] 233)) := (Below.refl _ _).alloc (Nat.le_refl _) _
         obtain ⟨W13, hW13⟩ : ∃ W13, w12.alloc (.cells #[.slice (some ⟨cb, co, none⟩) mc qc, .slice Ad md qd] 233) = W13 := ⟨_, rfl⟩
         have hX15 : Blk W13 B15 233 #[.slice (some ⟨cb, co, none⟩) mc qc, .slice Ad md qd] := by rw [← hW13, ← hB15]; exact Blk.new w12 _ _
         rw [hW13] at hF15
         have HX15 := Lib.hid hX15
         have h15 : B2 ≠ B15 ∧ B2 + 1 ≠ B15 ∧ B11 ≠ B15 ∧ B14 ≠ B15 := ⟨fun e => by have := HC12.out.x2.lt; omega, fun e => by have := HC12.out.x3.lt; omega, fun e => by have := Blk.lt HX11b.out; omega, fun e => by have := Blk.lt HX14b.out; omega⟩
         obtain ⟨h15a, h15b, h15c, h15d⟩ := h15
         have HC13 := Lib.hid (HC12.out.below hF15)
         have HKA13 := Lib.hid (HKA12.out.below hF15)
         have HKB13 := Lib.hid (HKB.out.below hF15)
         have Hr6 := Lib.hid (Kd.R_below Hr5.out hF15)
         have z0 := (Blk.cell hX15 0).trans rfl
         have z1 := (Blk.cell hX15 1).trans rfl
         have z40 := (Blk.cell (HX14b.out.below hF15 (Blk.lt HX14b.out)) 0).trans rfl
         have z41 := (Blk.cell (HX14b.out.below hF15 (Blk.lt HX14b.out)) 1).trans rfl
         have x0 := (Blk.cell (HX11b.out.below hF15 (Blk.lt HX11b.out)) 0).trans rfl
         have x1 := (Blk.cell (HX11b.out.below hF15 (Blk.lt HX11b.out)) 1).trans rfl
         obtain ⟨y20, y21, y30, y31, f20, f21, f30, f31⟩ := HC13.out.facts
         obtain ⟨c1n, hc1n⟩ : ∃ c1n, (cntOf (Tl.drop lit) dist).getD 1 0 = c1n := ⟨_, rfl⟩
         have k1 := hccell 1 (by omega)
         rw [hc1n, ← hF15.cell (p := ⟨cb, co + 1, none⟩) (cell_lt k1).1] at k1
         obtain ⟨-, -, tb, tob, htt, htc⟩ := R_at Hr6.out (by rw [HTl.out]; omega)
         have htt' : ab = tb ∧ ao = tob := by injection htt with h; injection h with h1 h2; exact ⟨h1, h2⟩
         obtain ⟨rfl, rfl⟩ := htt'
         obtain ⟨t256, ht256⟩ : ∃ t256, Tl.getD 256 0 = t256 := ⟨_, rfl⟩
         have k256 := htc 256 (by rw [HTl.out]; omega)
         rw [ht256] at k256
         have hmc16 : mc = 16 := by omega
         subst hmc16
         have HRr6 := HRr5.out
         rw [ht256, Hly.out, hc1n, ← Hla.out, ← Hlb.out] at HRr6
         have HRr6 := Lib.hid HRr6
         clear htt htc hccell hc16 hmd hF15 hX15 hc1n ht256 hmce hqc hmc HC12 HX11b HX14b HKA12 HKB Hr5 HRr5
         obtain ⟨sg, hsg⟩ : ∃ sg : Bool, sg = (decide (md = 0) || (decide (md = 1) && decide (c1n = 1))) := ⟨_, rfl⟩
         have Hsg := Lib.hid hsg
         clear hsg
         go_upto_region 19 with (fail)
         go_cut [17] (fun v17 wr => v17 = .bool sg ∧ wr = W13)
         case first =>
          by_cases hm0 : md = 0
          ·
           have hm0i : ((md : Int) == 0) = true := by simp; omega
           have hs1 : sg = true := by rw [Hsg.out]; simp [hm0]
           have Hm0 := Lib.hid hm0
           clear hm0
           go_wp2
           go_meet
           case rel => exact ⟨by rw [hs1], rfl⟩
          ·
           have hm0i : ((md : Int) == 0) = false := by simp; omega
           by_cases hm1 : md = 1
           ·
            have hm1i : ((md : Int) == 1) = true := by simp; omega
            by_cases hc1 : c1n = 1
            ·
             have hc1i : ((c1n : Int) == 1) = true := by simp; omega
             have hs1 : sg = true := by rw [Hsg.out]; simp [hm1, hc1]
             have Hm1 := Lib.hid hm1
             have Hc1 := Lib.hid hc1
             clear hm1 hc1
             go_wp2
             go_meet
             case rel => exact ⟨by rw [hs1], rfl⟩
            ·
             have hc1i : ((c1n : Int) == 1) = false := by simp; omega
             have hs1 : sg = false := by rw [Hsg.out]; simp [hm1, hc1]
             have Hm1 := Lib.hid hm1
             clear hm1
             go_wp2
             go_meet
             case rel => exact ⟨by rw [hs1], rfl⟩
           ·
            have hm1i : ((md : Int) == 1) = false := by simp; omega
            have hs1 : sg = false := by rw [Hsg.out]; simp [hm0, hm1]
            go_wp2
            go_meet
            case rel => exact ⟨by rw [hs1], rfl⟩
         case rest =>
          obtain ⟨rfl, hwc⟩ := hcut
          rw [hwc]
          clear hwc k1 z0 z1
          have z0 := (Blk.cell HX15.out 0).trans rfl
          have z1 := (Blk.cell HX15.out 1).trans rfl
          by_cases ha0 : la < 0
          ·
           have ha0d : decide (la < 0) = true := decide_eq_true ha0
           go_wp2
           go_region_held3 (fun w' => w'.cell? ⟨B11, 0, none⟩ = some (.slice A0 m0 q0) ∧ w'.cell? ⟨B11, 1, none⟩ = some (.slice A1 m1 q1)) (go_keep) (fail)
           all_goals go_wp2
           refine bodyPost_ret (HC13.out.ret (by omega) _ _ _ _ _ rfl rfl) rfl ?_
           have e := HRr6.out.trans (if_pos (.inl ha0))
           exact FIN.out W13 b 1 _ _ _ _ ⟨.mk _ _ _, .mk _ _ _, .mk _ _ _, .mk _ _ _⟩ HC13.out (by rw [e]) (by rw [e]) (by omega)
          ·
           have ha0d : decide (la < 0) = false := decide_eq_false ha0
           by_cases hb0 : lb < 0
           ·
            have hb0d : decide (lb < 0) = true := decide_eq_true hb0
            go_wp2
            go_region_held3 (fun w' => w'.cell? ⟨B11, 0, none⟩ = some (.slice A0 m0 q0) ∧ w'.cell? ⟨B11, 1, none⟩ = some (.slice A1 m1 q1)) (go_keep) (fail)
            all_goals go_wp2
            refine bodyPost_ret (HC13.out.ret (by omega) _ _ _ _ _ rfl rfl) rfl ?_
            have e := HRr6.out.trans (if_pos (.inr hb0))
            exact FIN.out W13 b 1 _ _ _ _ ⟨.mk _ _ _, .mk _ _ _, .mk _ _ _, .mk _ _ _⟩ HC13.out (by rw [e]) (by rw [e]) (by omega)
           ·
            have hb0d : decide (lb < 0) = false := decide_eq_false hb0
            have HR7 := Lib.hid (HRr6.out.trans (if_neg (fun h => h.elim ha0 hb0)))
            by_cases ha1 : 0 < la
            ·
             have ha1d : decide (0 < la) = true := decide_eq_true ha1
             go_wp2
             go_region_held3 (fun w' => w'.cell? ⟨B11, 0, none⟩ = some (.slice A0 m0 q0) ∧ w'.cell? ⟨B11, 1, none⟩ = some (.slice A1 m1 q1)) (go_keep) (fail)
             all_goals go_wp2
             refine bodyPost_ret (HC13.out.ret (by omega) _ _ _ _ _ rfl rfl) rfl ?_
             have e := HR7.out.trans (if_pos (.inl ha1))
             exact FIN.out W13 b 2 _ _ _ _ ⟨.mk _ _ _, .mk _ _ _, .mk _ _ _, .mk _ _ _⟩ HC13.out (by rw [e]) (by rw [e]) (by omega)
            ·
             have ha1d : decide (0 < la) = false := decide_eq_false ha1
             by_cases h256 : t256 = 0
             ·
              have h256i : ((t256 : Int) == 0) = true := by simp; omega
              have H256 := Lib.hid h256
              clear h256
              go_wp2
              go_region_held3 (fun w' => w'.cell? ⟨B11, 0, none⟩ = some (.slice A0 m0 q0) ∧ w'.cell? ⟨B11, 1, none⟩ = some (.slice A1 m1 q1)) (go_keep) (fail)
              all_goals go_wp2
              refine bodyPost_ret (HC13.out.ret (by omega) _ _ _ _ _ rfl rfl) rfl ?_
              have e := HR7.out.trans (if_pos (.inr (.inl H256.out)))
              exact FIN.out W13 b 2 _ _ _ _ ⟨.mk _ _ _, .mk _ _ _, .mk _ _ _, .mk _ _ _⟩ HC13.out (by rw [e]) (by rw [e]) (by omega)
             ·
              have h256i : ((t256 : Int) == 0) = false := by simp; omega
              have hlib2 : lib = listTo (Tl.drop lit) 15 := Hlib.out (by rw [← Hlb.out]; omega)
              have hlia2 : lia = listTo (Tl.take lit) 15 := Hlia.out (by rw [← Hla.out]; omega)
              have hsgi : sg = true ↔ ((listTo (Tl.drop lit) 15).length = 0 ∨ (listTo (Tl.drop lit) 15).length = 1 ∧ c1n = 1) := by
               rw [Hsg.out, ← hlib2, ← Hmd.out]
               simp
              have Hlib2 := Lib.hid hlib2
              have Hlia2 := Lib.hid hlia2
              have Hsgi := Lib.hid hsgi
              clear hlib2 hlia2 hsgi
              have key : ((0 < lb ∧ sg = false) ∨ ¬ (0 < lb ∧ sg = false)) := Classical.em _
              rcases key with ⟨hb1, hs0⟩ | hgood
              ·
               have hb1d : decide (0 < lb) = true := decide_eq_true hb1
               subst hs0
               go_wp2
               go_region_held3 (fun w' => w'.cell? ⟨B11, 0, none⟩ = some (.slice A0 m0 q0) ∧ w'.cell? ⟨B11, 1, none⟩ = some (.slice A1 m1 q1)) (go_keep) (fail)
               all_goals go_wp2
               refine bodyPost_ret (HC13.out.ret (by omega) _ _ _ _ _ rfl rfl) rfl ?_
               have e := HR7.out.trans (if_pos (.inr (.inr ⟨hb1, fun h => by have := Hsgi.out.2 h; cases this⟩)))
               exact FIN.out W13 b 2 _ _ _ _ ⟨.mk _ _ _, .mk _ _ _, .mk _ _ _, .mk _ _ _⟩ HC13.out (by rw [e]) (by rw [e]) (by omega)
              ·
               have HR8 := Lib.hid (HR7.out.trans (if_neg (fun h => h.elim ha1 (fun h => h.elim h256 (fun h => hgood ⟨h.1, by
                rcases hsv : sg with _ | _
                ·
                 rfl
                ·
                 exact absurd (Hsgi.out.1 hsv) h.2⟩)))))
               have fin0 : ∃ va vb vc vd : Value, (Sl va ∧ Sl vb ∧ Sl vc ∧ Sl vd) ∧ Ending.returned (.tuple #[.agg #[.slice Aa ma qa, .slice Ab mb qb], .agg #[.slice (some ⟨cb, co, none⟩) 16 qc, .slice Ad md qd], .int .i64 0]) = .returned (.tuple #[.agg #[va, vb], .agg #[vc, vd], .int .i64 ((R.1 : Nat) : Int)]) ∧
                  IsS229 w0 ((((W13.setCell ⟨B2, 0, none⟩ (.slice Aa ma qa)).setCell ⟨B2, 1, none⟩ (.slice Ab mb qb)).setCell ⟨B2 + 1, 0, none⟩ (.slice (some ⟨cb, co, none⟩) 16 qc)).setCell ⟨B2 + 1, 1, none⟩ (.slice Ad md qd)).drew g (ints l) ((R.2.1 : Nat) : Int) ∧ Below w0.heap.size w0 ((((W13.setCell ⟨B2, 0, none⟩ (.slice Aa ma qa)).setCell ⟨B2, 1, none⟩ (.slice Ab mb qb)).setCell ⟨B2 + 1, 0, none⟩ (.slice (some ⟨cb, co, none⟩) 16 qc)).setCell ⟨B2 + 1, 1, none⟩ (.slice Ad md qd)).drew ∧
                  KeepBut w ((((W13.setCell ⟨B2, 0, none⟩ (.slice Aa ma qa)).setCell ⟨B2, 1, none⟩ (.slice Ab mb qb)).setCell ⟨B2 + 1, 0, none⟩ (.slice (some ⟨cb, co, none⟩) 16 qc)).setCell ⟨B2 + 1, 1, none⟩ (.slice Ad md qd)).drew g Option.none ∧
                  (R.1 = 0 → CodeAt ((((W13.setCell ⟨B2, 0, none⟩ (.slice Aa ma qa)).setCell ⟨B2, 1, none⟩ (.slice Ab mb qb)).setCell ⟨B2 + 1, 0, none⟩ (.slice (some ⟨cb, co, none⟩) 16 qc)).setCell ⟨B2 + 1, 1, none⟩ (.slice Ad md qd)).drew g w0.heap.size va vb (cntOf R.2.2.1 R.2.2.1.length) (listTo R.2.2.1 15) ∧ CodeAt ((((W13.setCell ⟨B2, 0, none⟩ (.slice Aa ma qa)).setCell ⟨B2, 1, none⟩ (.slice Ab mb qb)).setCell ⟨B2 + 1, 0, none⟩ (.slice (some ⟨cb, co, none⟩) 16 qc)).setCell ⟨B2 + 1, 1, none⟩ (.slice Ad md qd)).drew g w0.heap.size vc vd (cntOf R.2.2.2 R.2.2.2.length) (listTo R.2.2.2 15)) := by
                have ho := HC13.out.out (by omega) (by omega) (by omega) (by omega) (.slice Aa ma qa) (.slice Ab mb qb) (.slice (some ⟨cb, co, none⟩) 16 qc) (.slice Ad md qd)
                have kA := HKA13.out
                have kB := HKB13.out
                rw [Hlia2.out] at kA
                rw [Hlib2.out] at kB
                rw [HR8.out]
                simp only
                rw [Hlx.out, Hly.out]
                exact ⟨_, _, _, _, ⟨.mk _ _ _, .mk _ _ _, .mk _ _ _, .mk _ _ _⟩, rfl, ho.1.drew, ho.2.1.drew, ho.2.2, fun _ => ⟨kA.out HC13.out.x2 HC13.out.x3 (by omega) _ _ _ _, kB.out HC13.out.x2 HC13.out.x3 (by omega) _ _ _ _⟩⟩
               have FIN0 := Lib.hid fin0
               clear fin0
               by_cases hb1 : 0 < lb
               ·
                have hb1d : decide (0 < lb) = true := decide_eq_true hb1
                have hs1 : sg = true := by
                 rcases hsv : sg with _ | _
                 ·
                  exact absurd ⟨hb1, hsv⟩ hgood
                 ·
                  rfl
                subst hs1
                clear hgood
                go_wp2
                go_region_held3 (fun w' => w'.cell? ⟨B14, 0, none⟩ = some (.slice Aa ma qa) ∧ w'.cell? ⟨B14, 1, none⟩ = some (.slice Ab mb qb) ∧ w'.cell? ⟨B15, 0, none⟩ = some (.slice (some ⟨cb, co, none⟩) 16 qc) ∧ w'.cell? ⟨B15, 1, none⟩ = some (.slice Ad md qd)) (go_keep) (fail)
                all_goals go_wp2
                refine bodyPost_ret (HC13.out.ret (by omega) _ _ _ _ _ rfl rfl) rfl ?_
                exact FIN0.out
               ·
                have hb1d : decide (0 < lb) = false := decide_eq_false hb1
                clear hgood
                go_wp2
                go_region_held3 (fun w' => w'.cell? ⟨B14, 0, none⟩ = some (.slice Aa ma qa) ∧ w'.cell? ⟨B14, 1, none⟩ = some (.slice Ab mb qb) ∧ w'.cell? ⟨B15, 0, none⟩ = some (.slice (some ⟨cb, co, none⟩) 16 qc) ∧ w'.cell? ⟨B15, 1, none⟩ = some (.slice Ad md qd)) (go_keep) (fail)
                all_goals go_wp2
                refine bodyPost_ret (HC13.out.ret (by omega) _ _ _ _ _ rfl rfl) rfl ?_
                exact FIN0.out
        ·
         have hsti : ((st : Int) != 0) = true := by simp; omega
         have Hst := Lib.hid hst
         clear hst
         go_wp2
         go_region_held3 (fun w' => w'.cell? ⟨B11, 0, none⟩ = some (.slice A0 m0 q0) ∧ w'.cell? ⟨B11, 1, none⟩ = some (.slice A1 m1 q1)) (go_keep) (fail)
         all_goals go_wp2
         refine bodyPost_ret (HC9.out.ret (by omega) _ _ _ _ _ rfl rfl) rfl ?_
         have e := HRr4.out
         rw [if_pos Hst.out] at e
         exact FIN.out w9 b st _ _ _ _ ⟨.mk _ _ _, .mk _ _ _, .mk _ _ _, .mk _ _ _⟩ HC9.out (by rw [e]) (by rw [e]) Hst.out
end Go.Proofs.YtnpkgmgedgcjmaaGreatDoor
end
