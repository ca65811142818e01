/- A part of the proof: Crc, Mem, Wb. -/
import Derived.Below
import Derived.BigQuiet
import Derived.Deep.AppendLies
import Derived.Deep.Draws
import Derived.Deep.LoopGhost
import Derived.Deep.QuietTactic
import Derived.KernelRfl
import Derived.Laws.AppendOwn
import Derived.Laws.BitsAll
import Derived.Laws.BytesArg
import Derived.Laws.CopyOwn
import Derived.Laws.CopyRow
import Derived.Laws.OwnMore
import Derived.Laws.Rows
import Derived.Lib.Hide
import Derived.LoopTactic
import Derived.Maps.AppendAt
import Derived.Outline
import Derived.OwnWalk
import Derived.RegionTactic
import Derived.StillTailTactics
import Derived.Test.YtnpkgmgedgcjmaaGreatDoorProg
import Derived.WalkKit
import Derived.WalkLawsBesides
import Derived.WalkSpells
set_option linter.all false
set_option maxRecDepth 100000
section
namespace Png
def crc1 (x : Nat) : Nat := if x % 2 = 1 then (x / 2) ^^^ 3988292384 else x / 2
def crc8 (x : Nat) : Nat := crc1 (crc1 (crc1 (crc1 (crc1 (crc1 (crc1 (crc1 x)))))))
theorem crc1_xor (a b : Nat) : crc1 (a ^^^ b) = crc1 a ^^^ crc1 b := by
 have hd : (a ^^^ b) / 2 = a / 2 ^^^ b / 2 := by simpa using Nat.xor_div_two_pow (a := a) (b := b) (n := 1)
 have hm := Nat.xor_mod_two_eq_one (a := a) (b := b)
 unfold crc1
 rw [hd]
 by_cases ha : a % 2 = 1 <;> by_cases hb : b % 2 = 1 <;> simp only [ha, hb, if_true, if_false] at hm ⊢
 ·
  rw [if_neg (by simpa using hm)]
  rw [show a / 2 ^^^ 3988292384 ^^^ (b / 2 ^^^ 3988292384) = a / 2 ^^^ b / 2 ^^^ (3988292384 ^^^ 3988292384) by
   ac_rfl]
  simp
 ·
  rw [if_pos (by simpa using hm)]; ac_rfl
 ·
  rw [if_pos (by simpa using hm)]; ac_rfl
 ·
  rw [if_neg (by simpa using hm)]
theorem crc8_xor (a b : Nat) : crc8 (a ^^^ b) = crc8 a ^^^ crc8 b := by
 unfold crc8; simp only [crc1_xor]
theorem crc1_double (m : Nat) : crc1 (2 * m) = m := by
 unfold crc1; rw [if_neg (by omega)]; omega
theorem crc8_high (m : Nat) : crc8 (256 * m) = m := by
 unfold crc8
 have e : 256 * m = 2 * (2 * (2 * (2 * (2 * (2 * (2 * (2 * m))))))) := by omega
 rw [e]; simp only [crc1_double]
theorem split_low (x : Nat) : x = (x % 256) ^^^ (256 * (x / 256)) := by
 apply Nat.eq_of_testBit_eq
 intro i
 rw [Nat.testBit_xor, show (256 : Nat) = 2 ^ 8 from rfl, Nat.testBit_mod_two_pow, Nat.testBit_two_pow_mul]
 by_cases hi : i < 8
 ·
  simp [hi, show ¬ 8 ≤ i by omega]
 ·
  have e := Nat.testBit_div_two_pow (x := x) (n := 8) (i := i - 8)
  rw [show i - 8 + 8 = i by omega, show (2 : Nat) ^ 8 = 256 from rfl] at e
  simp [hi, show 8 ≤ i by omega, e]
theorem crc8_split (x : Nat) : crc8 x = crc8 (x % 256) ^^^ (x / 256) := by
 conv => lhs; rw [split_low x, crc8_xor, crc8_high]
theorem crc1_lt {x : Nat} (h : x < 4294967296) : crc1 x < 4294967296 := by
 unfold crc1; split
 ·
  exact Nat.xor_lt_two_pow (n := 32) (by omega) (by omega)
 ·
  omega
theorem crc8_lt {x : Nat} (h : x < 4294967296) : crc8 x < 4294967296 := by
 unfold crc8; exact crc1_lt (crc1_lt (crc1_lt (crc1_lt (crc1_lt (crc1_lt (crc1_lt (crc1_lt h)))))))
def crcByte (x : Nat) (v : UInt8) : Nat := crc8 (x ^^^ v.toNat)
def crcRun (x : Nat) (l : List UInt8) : Nat := l.foldl crcByte x
theorem crcByte_lt {x : Nat} (v : UInt8) (h : x < 4294967296) : crcByte x v < 4294967296 :=
 crc8_lt (Nat.xor_lt_two_pow (n := 32) (by omega) (by have := v.toNat_lt; omega))
theorem crcRun_lt {x : Nat} (l : List UInt8) (h : x < 4294967296) : crcRun x l < 4294967296 := by
 unfold crcRun
 induction l generalizing x with
 | nil => exact h
 | cons v l ih => exact ih (crcByte_lt v h)
theorem crcRun_append (x : Nat) (l m : List UInt8) : crcRun x (l ++ m) = crcRun (crcRun x l) m := by
 unfold crcRun; rw [List.foldl_append]
theorem crcByte_tab (x : Nat) (v : UInt8) : crcByte x v = crc8 ((x % 256) ^^^ v.toNat) ^^^ (x / 256) := by
 have hv := v.toNat_lt
 unfold crcByte
 rw [crc8_split]
 have h1 : (x ^^^ v.toNat) % 256 = (x % 256) ^^^ v.toNat := by
  have := Nat.xor_mod_two_pow (a := x) (b := v.toNat) (n := 8)
  rw [show (2 : Nat) ^ 8 = 256 from rfl] at this
  rw [this, Nat.mod_eq_of_lt (a := v.toNat) (by omega)]
 have h2 : (x ^^^ v.toNat) / 256 = x / 256 := by
  have := Nat.xor_div_two_pow (a := x) (b := v.toNat) (n := 8)
  rw [show (2 : Nat) ^ 8 = 256 from rfl] at this
  rw [this, Nat.div_eq_of_lt (a := v.toNat) (by omega)]; simp
 rw [h1, h2]
def flip32 (x : Nat) : Nat := 4294967295 - x
def crc (l : List UInt8) : Nat := flip32 (crcRun 4294967295 l)
theorem crc_lt (l : List UInt8) : crc l < 4294967296 := by unfold crc flip32; omega
end Png
end
section
namespace Go.Proofs.YtnpkgmgedgcjmaaGreatDoor
open Go Go.RowKit
def nb (l : List UInt8) (k : Nat) : Nat := (l.getD k 0).toNat
theorem nb_lt (l : List UInt8) (k : Nat) : nb l k < 256 := by unfold nb; exact (l.getD k 0).toNat_lt
def Seg (w : World) (b off : Nat) (l : List UInt8) : Prop :=
 ∀ k, k < l.length → w.cell? ⟨b, off + k, none⟩ = some (.int .u8 (nb l k : Int))
def Tab (w : World) (b : Nat) (kd : IntKind) (n : Nat) (f : Nat → Nat) : Prop :=
 ∀ k, k < n → w.cell? ⟨b, k, none⟩ = some (.int kd (f k : Int))
theorem not32 (a : Nat) (ha : a < 4294967296) : bits .xor .u32 IntKind.u32.max (a : Int) = ((4294967295 - a : Nat) : Int) := by
 have h1 : (BitVec.ofInt 32 (a : Int)).toNat = a := by
  rw [BitVec.ofInt_natCast, BitVec.toNat_ofNat]; exact Nat.mod_eq_of_lt (by omega)
 show IntKind.u32.wrap ((BitVec.ofInt 32 IntKind.u32.max ^^^ BitVec.ofInt 32 (a : Int)).toNat : Int) = _
 have h2 : BitVec.ofInt 32 IntKind.u32.max = BitVec.allOnes 32 := by decide
 rw [h2, BitVec.allOnes_xor, BitVec.toNat_not, h1, IntKind.wrap_u32']
 omega
theorem ret_int {k : IntKind} {a b : Int} (h : a = b) : Ending.returned (.int k a) = .returned (.int k b) := by rw [h]
def cbOf (ct dp : Nat) : Nat :=
 match ct, dp with
 | 0, 1 => 1 | 0, 2 => 2 | 0, 4 => 3 | 0, 8 => 4 | 4, 8 => 5 | 2, 8 => 6 | 3, 1 => 7 | 3, 2 => 8 | 3, 4 => 9 | 3, 8 => 10
 | 6, 8 => 11 | 0, 16 => 12 | 4, 16 => 13 | 2, 16 => 14 | 6, 16 => 15
 | _, _ => 0
def Kinds (ct dp : Nat) : Prop :=
 (ct = 0 ∧ dp = 1) ∨ (ct = 0 ∧ dp = 2) ∨ (ct = 0 ∧ dp = 4) ∨ (ct = 0 ∧ dp = 8) ∨ (ct = 4 ∧ dp = 8) ∨ (ct = 2 ∧ dp = 8) ∨ (ct = 3 ∧ dp = 1) ∨ (ct = 3 ∧ dp = 2) ∨
 (ct = 3 ∧ dp = 4) ∨ (ct = 3 ∧ dp = 8) ∨ (ct = 6 ∧ dp = 8) ∨ (ct = 0 ∧ dp = 16) ∨ (ct = 4 ∧ dp = 16) ∨ (ct = 2 ∧ dp = 16) ∨ (ct = 6 ∧ dp = 16)
end Go.Proofs.YtnpkgmgedgcjmaaGreatDoor
namespace Go.Proofs.YtnpkgmgedgcjmaaGreatDoor
open Go Go.RowKit
def Row (w : World) (b : Nat) (t : TypeId) (n : Nat) : Prop :=
 ∃ cur : Array Value, w.heap[b]? = some (.cells cur t (0, 0)) ∧ cur.size = n
theorem Row.frozen {w : World} {b n : Nat} {t : TypeId} (h : Row w b t n) (o : Nat) : w.frozen? ⟨b, o, none⟩ = false := by
 obtain ⟨cur, h, _⟩ := h
 simp [World.frozen?, h]
theorem Row.lt {w : World} {b n : Nat} {t : TypeId} (h : Row w b t n) : b < w.heap.size := by
 obtain ⟨cur, h, _⟩ := h
 exact (Array.getElem?_eq_some_iff.1 h).1
theorem Row.cell {w : World} {b n : Nat} {t : TypeId} (h : Row w b t n) {o : Nat} (ho : o < n) : ∃ v, w.cell? ⟨b, o, none⟩ = some v := by
 obtain ⟨cur, h, hn⟩ := h
 exact ⟨cur[o], by simp [World.cell?, h, Array.getElem?_eq_getElem (show o < cur.size by omega)]⟩
def hasCell (w : World) (a : Addr) : Bool := (w.cell? a).isSome
theorem hasCell_setCell (w : World) (a b : Addr) (v : Value) : hasCell (w.setCell a v) b = hasCell w b := by
 unfold hasCell
 by_cases h : a = b
 ·
  subst h
  cases hc : w.cell? a with
  | some u => rw [World.cell?_setCell_same (h := hc)]; rfl
  | none =>
   unfold World.cell? at hc ⊢
   simp only [World.setCell, Array.getElem?_modify, if_true]
   cases hh : w.heap[a.block]? with
   | none => simp
   | some o =>
    rw [hh] at hc
    cases o with
    | cells c e f =>
     simp only [Option.map_some] at hc ⊢
     cases hs : a.spot.isSome
     ·
      rw [hs] at hc
      simp only [Bool.false_eq_true, if_false] at hc ⊢
      rw [Array.getElem?_eq_none_iff] at hc
      rw [Array.getElem?_eq_none_iff.2 (by simpa using hc)]
     ·
      simp
    | _ => simp
 ·
  rw [World.cell?_setCell_other (h := h)]
theorem hasCell_drewN (w : World) (n : Nat) (b : Addr) : hasCell (w.drewN n) b = hasCell w b := rfl
theorem hasCell_drew (w : World) (b : Addr) : hasCell w.drew b = hasCell w b := rfl
theorem cell?_setCell_has (w : World) (a : Addr) (v : Value) (h : hasCell w a = true) : (w.setCell a v).cell? a = some v := by
 unfold hasCell at h
 obtain ⟨u, hu⟩ := Option.isSome_iff_exists.1 h
 exact World.cell?_setCell_same w a v hu
attribute [go_sem] hasCell_setCell hasCell_drewN hasCell_drew cell?_setCell_has
theorem Row.has {w : World} {b n : Nat} {t : TypeId} (h : Row w b t n) (o : Nat) (ho : o < n) : hasCell w ⟨b, o, none⟩ = true := by
 obtain ⟨v, hv⟩ := h.cell ho
 simp [hasCell, hv]
theorem off_ne (w : World) (b o o' : Nat) (v : Value) (h : o' ≠ o) : (w.setCell ⟨b, o', none⟩ v).cell? ⟨b, o, none⟩ = w.cell? ⟨b, o, none⟩ :=
 World.cell?_setCell_other w _ _ v (by simp [h])
structure Fr (S : List Nat) (w w' : World) : Prop where
 os : w'.os = w.os
 tape : w'.tape = w.tape
 output : w'.output = w.output
 size : w.heap.size ≤ w'.heap.size
 block : ∀ k, k < w.heap.size → k ∉ S → w'.heap[k]? = w.heap[k]?
 row : ∀ b t n, Row w b t n → Row w' b t n
theorem Fr.refl (S : List Nat) (w : World) : Fr S w w := ⟨rfl, rfl, rfl, Nat.le_refl _, fun _ _ _ => rfl, fun _ _ _ h => h⟩
theorem Fr.trans {S : List Nat} {a b c : World} (h : Fr S a b) (k : Fr S b c) : Fr S a c :=
 ⟨k.os.trans h.os, k.tape.trans h.tape, k.output.trans h.output, Nat.le_trans h.size k.size,
  fun i hi hs => (k.block i (Nat.lt_of_lt_of_le hi h.size) hs).trans (h.block i hi hs), fun x t n r => k.row x t n (h.row x t n r)⟩
theorem Fr.mono {S T : List Nat} {a b : World} (h : Fr S a b) (hs : ∀ x, x ∈ S → x ∈ T) : Fr T a b :=
 ⟨h.os, h.tape, h.output, h.size, fun k hk ht => h.block k hk (fun e => ht (hs k e)), h.row⟩
theorem Fr.new' {S T : List Nat} {w a b : World} (ha : Fr T w a) (h : Fr S a b) (hs : ∀ x, x ∈ S → w.heap.size ≤ x ∨ x ∈ T) : Fr T w b :=
 ⟨h.os.trans ha.os, h.tape.trans ha.tape, h.output.trans ha.output, Nat.le_trans ha.size h.size,
  fun k hk hk' => (h.block k (Nat.lt_of_lt_of_le hk ha.size) (fun e => by
   rcases hs k e with h | h
   ·
    omega
   ·
    exact hk' h)).trans (ha.block k hk hk'),
  fun x t n r => h.row x t n (ha.row x t n r)⟩
theorem Fr.cell {S : List Nat} {w w' : World} (h : Fr S w w') {b : Nat} (hb : b < w.heap.size) (hs : b ∉ S) (o : Nat) :
  w'.cell? ⟨b, o, none⟩ = w.cell? ⟨b, o, none⟩ := by
 simp [World.cell?, h.block b hb hs]
theorem Fr.cell' {S : List Nat} {w w' : World} (h : Fr S w w') {b o : Nat} {v : Value} (hs : b ∉ S) (hv : w.cell? ⟨b, o, none⟩ = some v) :
  w'.cell? ⟨b, o, none⟩ = some v := by
 rw [h.cell (World.block_lt_of_cell? w ⟨b, o, none⟩ hv) hs, hv]
theorem Seg.fr {S : List Nat} {w w' : World} (h : Fr S w w') {b off : Nat} {l : List UInt8} (hs : b ∉ S) (hl : Seg w b off l) : Seg w' b off l :=
 fun k hk => h.cell' hs (hl k hk)
theorem Seg.set {w : World} {b off : Nat} {l : List UInt8} (h : Seg w b off l) (a : Addr) (v : Value) (ha : a.block = b → a.off < off ∨ off + l.length ≤ a.off) : Seg (w.setCell a v) b off l := by
 intro k hk
 rw [World.cell?_setCell_other, h k hk]
 rintro rfl
 have := ha rfl
 simp at this; omega
theorem Tab.fr {S : List Nat} {w w' : World} (h : Fr S w w') {b n : Nat} {kd : IntKind} {f : Nat → Nat} (hs : b ∉ S) (hl : Tab w b kd n f) : Tab w' b kd n f :=
 fun k hk => h.cell' hs (hl k hk)
section
variable {w : World}
theorem Row.setCell {b n : Nat} {t : TypeId} (h : Row w b t n) (a : Addr) (v : Value) : Row (w.setCell a v) b t n := by
 obtain ⟨cur, h, hn⟩ := h
 by_cases hb : a.block = b
 ·
  refine ⟨if a.spot.isSome then cur else cur.setIfInBounds a.off v, ?_, by split <;> simp [hn]⟩
  simp [World.setCell, Array.getElem?_modify, hb, h]
 ·
  exact ⟨cur, by simp [World.setCell, Array.getElem?_modify, hb, h], hn⟩
theorem Row.drewN {b n m : Nat} {t : TypeId} (h : Row w b t n) : Row (w.drewN m) b t n := h
theorem Row.alloc {b n : Nat} {t : TypeId} (h : Row w b t n) (o : Obj) : Row (w.alloc o) b t n := by
 have hl := h.lt
 obtain ⟨cur, h, hn⟩ := h
 exact ⟨cur, (heap_alloc_old w o hl).trans h, hn⟩
theorem Row.alloc_new (cs : Array Value) (t : TypeId) : Row (w.alloc (.cells cs t)) w.heap.size t cs.size :=
 ⟨cs, heap_alloc_new w _, rfl⟩
theorem Row.setRow {b n g : Nat} {t : TypeId} {cs : Array Value} (h : Row w b t n) (hc : b = g → cs.size = n) : Row (w.setRow g cs) b t n := by
 obtain ⟨cur, h, hn⟩ := h
 by_cases hb : g = b
 ·
  subst hb
  exact ⟨cs, setRow_heap w g cur cs t (0, 0) h, hc rfl⟩
 ·
  exact ⟨cur, (setRow_other w g b cs (by omega)).trans h, hn⟩
theorem Fr.setCell {S : List Nat} {w0 : World} (h : Fr S w0 w) (a : Addr) (v : Value) (hs : a.block ∈ S ∨ w0.heap.size ≤ a.block) : Fr S w0 (w.setCell a v) :=
 ⟨h.os, h.tape, h.output, by simpa [World.setCell] using h.size, fun k hk hk' => by
  have hne : a.block ≠ k := by rintro rfl; rcases hs with hs | hs; exact hk' hs; omega
  rw [← h.block k hk hk']
  simp [World.setCell, Array.getElem?_modify, hne],
  fun b t n r => (h.row b t n r).setCell a v⟩
theorem Fr.drewN {S : List Nat} {w0 : World} (h : Fr S w0 w) (n : Nat) : Fr S w0 (w.drewN n) := ⟨h.os, h.tape, h.output, h.size, h.block, h.row⟩
theorem Fr.drew {S : List Nat} {w0 : World} (h : Fr S w0 w) : Fr S w0 w.drew := ⟨h.os, h.tape, h.output, h.size, h.block, h.row⟩
theorem Fr.alloc {S : List Nat} {w0 : World} (h : Fr S w0 w) (o : Obj) : Fr S w0 (w.alloc o) :=
 ⟨h.os, h.tape, h.output, by have := h.size; simp; omega, fun k hk hk' => by
  rw [← h.block k hk hk']
  have := h.size
  exact heap_alloc_old w o (by omega),
  fun b t n r => (h.row b t n r).alloc o⟩
theorem Fr.setRow {S : List Nat} {w0 : World} {g : Nat} {cs cur : Array Value} {t : TypeId} (h : Fr S w0 w) (hg : w.heap[g]? = some (.cells cur t (0, 0))) (hc : cs.size = cur.size) (hs : g ∈ S ∨ w0.heap.size ≤ g) : Fr S w0 (w.setRow g cs) :=
 ⟨h.os, h.tape, h.output, by simpa using h.size, fun k hk hk' => by
  have hne : k ≠ g := by rintro rfl; rcases hs with hs | hs; exact hk' hs; omega
  rw [setRow_other _ _ _ _ hne, h.block k hk hk'],
  fun b t' n r => (h.row b t' n r).setRow (fun e => by
   obtain ⟨cur', h', hn⟩ := h.row b t' n r
   subst e
   rw [hg] at h'
   simp only [Option.some.injEq, Obj.cells.injEq] at h'
   rw [hc, h'.1, hn])⟩
end
def Dr (w w' : World) : Prop := ∃ k, w.drewN k = w'
theorem Dr.refl (w : World) : Dr w w := ⟨0, rfl⟩
theorem Dr.drewN {w w' : World} (h : Dr w w') (n : Nat) : Dr w (w'.drewN n) := by
 obtain ⟨k, rfl⟩ := h; exact ⟨k + n, by simp⟩
theorem Dr.fr {w w' : World} (h : Dr w w') (S : List Nat) : Fr S w w' := by
 obtain ⟨k, rfl⟩ := h; exact (Fr.refl S w).drewN k
theorem Fr.undrew {S : List Nat} {w w' : World} (h : Fr S w.drew w') : Fr S w w' := ⟨h.os, h.tape, h.output, h.size, h.block, h.row⟩
theorem Fr.undrewN {S : List Nat} {w w' : World} {n : Nat} (h : Fr S (w.drewN n) w') : Fr S w w' := ⟨h.os, h.tape, h.output, h.size, h.block, h.row⟩
theorem calls_dr {P : Program} {f : FuncId} {args : Array Value} {w : World} {n : Nat} {v : Value}
  (h : Calls P f args (w.drewN n) fun e w' => e = .returned v ∧ Dr (w.drewN n) w') : Calls P f args (w.drewN n) fun e w'' => e = .returned v ∧ ∃ m, w'' = w.drewN m :=
 h.mono fun _ _ ⟨he, m, hm⟩ => ⟨he, n + m, by rw [← hm, World.drewN_drewN]⟩
theorem calls_same {P : Program} {f : FuncId} {args : Array Value} {w : World} {n : Nat} {v : Value}
  (h : Calls P f args (w.drewN n) fun e w' => e = .returned v ∧ w.drewN n = w') : Calls P f args (w.drewN n) fun e w'' => e = .returned v ∧ ∃ m, w'' = w.drewN m :=
 h.mono fun _ _ ⟨he, hm⟩ => ⟨he, n, hm.symm⟩
structure Wr (w w' : World) (g off : Nat) (l : List UInt8) : Prop where
 fr : Fr [g] w w'
 same : ∀ o, (o < off ∨ off + l.length ≤ o) → w'.cell? ⟨g, o, none⟩ = w.cell? ⟨g, o, none⟩
 new : Seg w' g off l
theorem add_addr (b o j : Nat) : (⟨b, o, none⟩ : Addr).add j = ⟨b, o + j, none⟩ := by unfold Addr.add; split <;> simp_all
def bvals (l : List UInt8) : List Value := l.map fun b => .int .u8 (b.toNat : Int)
theorem bvals_get (l : List UInt8) (j : Nat) (h : j < l.length) : (bvals l)[j]? = some (.int .u8 (nb l j : Int)) := by
 simp [bvals, nb, List.getD_eq_getElem?_getD, List.getElem?_eq_getElem h]
@[simp] theorem bvals_length (l : List UInt8) : (bvals l).length = l.length := by simp [bvals]
theorem bvals_one (l : List UInt8) : ∀ v ∈ bvals l, v.oneCell' = true := by
 intro v hv
 simp only [bvals, List.mem_map] at hv
 obtain ⟨b, _, rfl⟩ := hv
 rfl
theorem run_convert_seg {P : Program} (w : World) (src e dst : TypeId) (hs : P.underlying src = some (.slice e)) (he : P.underlying e = some (.int .u8)) (hd : P.underlying dst = some .string) (b off len cap : Nat) (l : List UInt8)
  (hlen : l.length = len) (h : Seg w b off l) :
  (convert src dst (.slice (some ⟨b, off, none⟩) len cap)).run P w = .ok (.string ⟨l.toArray⟩) w := by
 have := run_convert_bytes_arg (P := P) (w := w) src e hs he b off len cap (l.map fun b => (b.toNat : Int)) (by simpa using hlen) (fun i hi => by
  rw [h i (by omega)]; simp [nb, List.getD_eq_getElem?_getD, List.getElem?_map, List.getElem?_eq_getElem (show i < l.length by omega)]) dst hd
 rw [this]
 have e : strOfNums (l.map fun b => (b.toNat : Int)) = ⟨l.toArray⟩ := by
  unfold strOfNums
  simp [List.map_map, Function.comp_def]
 rw [e]
theorem run_copy_bytes {P : Program} (w : World) (dT sT ty elem : TypeId) (g o dLen dCap sb so sLen sCap N : Nat) (t : TypeId) (l : List UInt8)
  (hu : P.underlying dT = some (.slice elem)) (hs : (P.info? elem).map (·.size) = some 1)
  (hg : Row w g t N) (hl : l.length = Nat.min sLen dLen) (hsrc : Seg w sb so l) (hfit : o + l.length ≤ N) :
  ∃ w', (Builtin.copy_ #[dT, sT] ty #[.slice (some ⟨g, o, none⟩) dLen dCap, .slice (some ⟨sb, so, none⟩) sLen sCap]).run P w = .ok (goInt l.length) w' ∧ Wr w w' g o l := by
 obtain ⟨cur, hg, hn⟩ := hg
 have h := run_copy_row (P := P) w dT sT ty elem g o dLen dCap ⟨sb, so, none⟩ sLen sCap cur t (bvals l) hu hs hg (by simpa using hl)
  (fun j v hv => by
   have hj : j < l.length := by
    have := (List.getElem?_eq_some_iff.1 hv).1
    simpa using this
   rw [bvals_get l j hj] at hv
   rw [add_addr, hsrc j hj]; exact hv)
  (by simpa [hn] using hfit) (bvals_one l)
 rw [bvals_length] at h
 refine ⟨_, h, (Fr.refl _ w).setRow hg ?_ (.inl (by simp)), ?_, ?_⟩
 ·
  simp [hn]; omega
 ·
  intro x hx
  rw [cell_setRow_same w g x cur _ t (0, 0) hg]
  have : w.cell? ⟨g, x, none⟩ = cur[x]? := by simp [World.cell?, hg]
  rw [this]
  simp only [List.getElem?_toArray]
  rcases hx with hx | hx
  ·
   rw [List.append_assoc, List.getElem?_append_left (by simp; omega), List.getElem?_take_of_lt hx]; simp
  ·
   rw [List.getElem?_append_right (by simp; omega), List.getElem?_drop]
   simp only [List.length_append, List.length_take, bvals_length, Array.length_toList]
   rw [show o + l.length + (x - (min o cur.size + l.length)) = x by omega]; simp
 ·
  intro k hk
  rw [cell_setRow_same w g _ cur _ t (0, 0) hg]
  simp only [List.getElem?_toArray]
  rw [List.append_assoc, List.getElem?_append_right (by simp; omega), List.getElem?_append_left (by simp; omega)]
  rw [show o + k - (cur.toList.take o).length = k by simp; omega]
  exact bvals_get l k hk
theorem wpList_copy_bytes {P : Program} {w : World} {ops : Array Oper} {rest : List Oper} {o : Oper} {a : Act} {Q : Exit → Act → World → Prop} (hgd : o.guard = none) (d s : Operand) (dT sT : TypeId)
  (ho : o.op = .call { callee := .builtin .copy, args := #[d, s], argTypes := #[dT, sT] }) (elem : TypeId) (hu : P.underlying dT = some (.slice elem)) (hsz : (P.info? elem).map (·.size) = some 1)
  (g off dLen dCap sb so sLen sCap N : Nat) (t : TypeId) (l : List UInt8) (hd : a.eval d = .slice (some ⟨g, off, none⟩) dLen dCap) (hs : a.eval s = .slice (some ⟨sb, so, none⟩) sLen sCap)
  (hg : Row w g t N) (hl : l.length = Nat.min sLen dLen) (hsrc : Seg w sb so l) (hfit : off + l.length ≤ N)
  (h : ∀ w', Wr w w' g off l → wpList P ops Q rest (a.put o.dst (.int .i64 (l.length : Nat))) w') : wpList P ops Q (o :: rest) a w := by
 refine wpList_plain hgd fun K hK => ?_
 obtain ⟨w', hrun, hw⟩ := run_copy_bytes (P := P) w dT sT o.type elem g off dLen dCap sb so sLen sCap N t l hu hsz hg hl hsrc hfit
 unfold Oper.wp
 simp [execOp, ho, resolve, invoke, builtin, hd, hs, hrun, Result.andThen]
 exact hK _ _ (h w' hw)
theorem region_tail {P : Program} {id : Nat} {Q : Exit → Act → World → Prop} {a : Act} {w : World} {l : List Oper} (n : Nat) (hm : P.follows .mixedOrders = true) (hB : Region.lexTailB .any l.toArray n = true)
  (h : wpStill P l.toArray w.drew (fun a' => wpList P l.toArray Q (l.drop n) a' w.drew) (l.take n) a) : (Code.region id l.toArray true).wp P Q a w :=
 wp_region_still_tail n hm hB h
end Go.Proofs.YtnpkgmgedgcjmaaGreatDoor
end
section
namespace Go.Proofs.YtnpkgmgedgcjmaaGreatDoor
open Go Go.RowKit Png
def Bsl (w : World) (p : Option Addr) (l : List UInt8) : Prop :=
 l = [] ∨ ∃ b off, p = some ⟨b, off, none⟩ ∧ Seg w b off l
theorem Bsl.at {w : World} {p : Option Addr} {l : List UInt8} (h : Bsl w p l) {k : Nat} (hk : k < l.length) :
  ∃ b off, p = some ⟨b, off, none⟩ ∧ w.cell? ⟨b, off + k, none⟩ = some (.int .u8 (nb l k : Int)) := by
 rcases h with rfl | ⟨b, off, rfl, hs⟩
 ·
  simp at hk
 ·
  exact ⟨b, off, rfl, hs k hk⟩
theorem crcRun_take' (c : Nat) (l : List UInt8) (k : Nat) (hk : k < l.length) : crcRun c (l.take (k + 1)) = crc8 (crcRun c (l.take k) ^^^ nb l k) := by
 rw [List.take_succ_eq_append_getElem hk, crcRun_append]
 show crcByte _ _ = _
 unfold crcByte nb
 simp [List.getD_eq_getElem?_getD, List.getElem?_eq_getElem hk]
def crcN : Nat → Nat → Nat
 | 0, x => x
 | k + 1, x => crc1 (crcN k x)
theorem and_one (x : Nat) (h : x < 4294967296) : bits .and .u32 (x : Int) 1 = ((x % 2 : Nat) : Int) := by
 have := u32_and_nat x 1 h (by decide)
 rw [Nat.and_one_is_mod] at this
 exact this
set_option maxHeartbeats 1000000 in
theorem crc_ok (p : Option Addr) (cap n : Nat) (l : List UInt8) (w : World) (hl : l.length = n) (hn : n ≤ 9223372036854775807) (hs : Bsl w p l) :
  Calls Tryz.prog 39 #[.slice p n cap] w fun e w' => e = .returned (.int .u32 (crc l : Nat)) ∧ w = w' := by
 have Hs := Lib.hid hs
 have Hl := Lib.hid hl
 clear hs hl
 go_enter Tryz.func39, Tryz.ntmps39
 go_wp2
 go_loop [3, 5, 8] (fun c v i => ∃ k x : Nat, k ≤ n ∧ x < 4294967296 ∧ Hid (x = crcRun 4294967295 (l.take k)) ∧ i = .int .i64 k ∧ c = .int .u32 (x : Nat)) (fun _ _ i => n - (intOf i).toNat)
 case atStart => exact ⟨0, 4294967295, Nat.zero_le _, by omega, Lib.hid (by simp [crcRun]), rfl, rfl⟩
 case round =>
  obtain ⟨k, x, hk, hx, Hx, rfl, rfl⟩ := hrel
  by_cases hlt : k < n
  ·
   obtain ⟨b, off, rfl, hc⟩ := Hs.out.at (k := k) (by rw [Hl.out]; exact hlt)
   have hb := nb_lt l k
   have e1 := u32_xor_nat x (nb l k) hx (by omega)
   have hx1 : x ^^^ nb l k < 4294967296 := Nat.xor_lt_two_pow (n := 32) (by omega) (by omega)
   obtain ⟨x1, hx1e⟩ : ∃ x1, x1 = x ^^^ nb l k := ⟨_, rfl⟩
   rw [← hx1e] at e1 hx1
   have Hx1 := Lib.hid hx1e
   clear hx1e
   go_wp2
   go_loop [3, 16] (fun c i => ∃ j y : Nat, j ≤ 8 ∧ y < 4294967296 ∧ Hid (y = crcN j x1) ∧ i = .int .i64 j ∧ c = .int .u32 (y : Nat)) (fun _ i => 8 - (intOf i).toNat)
   case atStart => exact ⟨0, x1, by omega, hx1, Lib.hid rfl, rfl, rfl⟩
   case round =>
    obtain ⟨j, y, hj, hy, Hy, rfl, rfl⟩ := hrel
    by_cases hj8 : j < 8
    ·
     have e2 := and_one y hy
     have e3 := u32_xor_nat (y / 2) 3988292384 (by omega) (by omega)
     have e4 : (y : Int) / 2 = ((y / 2 : Nat) : Int) := by omega
     by_cases ho : y % 2 = 1
     ·
      have ho' : ((y % 2 : Nat) : Int) = 1 := by omega
      rw [ho'] at e2
      have hlt2 : (y / 2) ^^^ 3988292384 < 4294967296 := Nat.xor_lt_two_pow (n := 32) (by omega) (by omega)
      have He4 := Lib.hid e4
      clear e4 ho'
      go_wp2
      go_round
      case rel =>
       refine ⟨j + 1, (y / 2) ^^^ 3988292384, by omega, hlt2, Lib.hid ?_, by go_num, ?_⟩
       ·
        unfold crcN; rw [← Hy.out]; unfold crc1; rw [if_pos ho]
       ·
        rw [He4.out, ← e3]; rfl
      case measure => simp [intOf]; omega
     ·
      have ho' : ((y % 2 : Nat) : Int) = 0 := by omega
      rw [ho'] at e2
      have He4 := Lib.hid e4
      clear e4 ho' e3
      go_wp2
      go_round
      case rel =>
       refine ⟨j + 1, y / 2, by omega, by omega, Lib.hid ?_, by go_num, ?_⟩
       ·
        unfold crcN; rw [← Hy.out]; unfold crc1; rw [if_neg ho]
       ·
        rw [← He4.out]
      case measure => simp [intOf]; omega
    ·
     have hj' : j = 8 := by omega
     subst hj'
     clear e1
     go_wp2
     go_round
     case rel =>
      refine ⟨k + 1, y, by omega, hy, Lib.hid ?_, by go_num, rfl⟩
      rw [crcRun_take' _ _ _ (by rw [Hl.out]; exact hlt), ← Hx.out, ← Hx1.out]; exact Hy.out
     case measure => simp [intOf]; omega
  ·
   have hk' : k = n := by omega
   have hn2 := not32 x hx
   go_wp2
   go_ret
   refine ⟨?_, rfl⟩
   rw [Hx.out, hk', ← Hl.out, List.take_length]; rfl
end Go.Proofs.YtnpkgmgedgcjmaaGreatDoor
namespace Go.Proofs.YtnpkgmgedgcjmaaGreatDoor
open Go Go.RowKit
theorem block_of_add (a : Addr) (n : Nat) : (a.add n).block = a.block := by unfold Addr.add; split <;> rfl
def Reads (w : World) (B size : Nat) (A : Option Addr) (n : Nat) (xs : List Value) : Prop :=
 xs.length = n * size ∧ (0 < n → ∃ ad, A = some ad ∧ ad.block < B ∧ ∀ j u, xs[j]? = some u → w.cell? (ad.add j) = some u)
section
variable {w w' : World} {B B' size n : Nat} {A : Option Addr} {xs : List Value}
theorem Reads.none_ : Reads w B size A 0 [] := ⟨by simp, fun h => absurd h (by omega)⟩
theorem Reads.at_ {k : Nat} (h : Reads w B 1 A n xs) (hk : k < n) : ∃ ad u, A = some ad ∧ ad.block < B ∧ xs[k]? = some u ∧ w.cell? (ad.add k) = some u := by
 obtain ⟨ad, e, hb, hc⟩ := h.2 (by omega)
 have hl : k < xs.length := by have := h.1; omega
 exact ⟨ad, xs[k], e, hb, List.getElem?_eq_getElem hl, hc k _ (List.getElem?_eq_getElem hl)⟩
theorem Reads.keep (h : Reads w B size A n xs) (hk : ∀ p : Addr, p.block < B → w'.cell? p = w.cell? p) : Reads w' B size A n xs :=
 ⟨h.1, fun hn => by
  obtain ⟨ad, e, hb, hc⟩ := h.2 hn
  exact ⟨ad, e, hb, fun j u hu => (hk _ (by rw [block_of_add]; exact hb)).trans (hc j u hu)⟩⟩
theorem Reads.below (h : Reads w B size A n xs) (hb : Below B w w') : Reads w' B size A n xs := h.keep fun _ hp => hb.cell hp
theorem Reads.of_own {base : Nat} {e : TypeId} {c : Nat} (h : w.ownsRow base e size (.slice A n c) n xs) : Reads w w.heap.size size A n xs := by
 refine ⟨h.1, fun hn => ?_⟩
 obtain ⟨g, cap, hv, _, hlt⟩ := h.form hn
 have hA : A = some ⟨g, 0, none⟩ := by injection hv
 subst hA
 exact ⟨_, rfl, hlt, h.cells (g := g) rfl⟩
end
def Blk (w : World) (g : Nat) (t : TypeId) (cs : Array Value) : Prop := w.heap[g]? = some (.cells cs t (0, 0))
section
variable {w w' : World} {g : Nat} {t : TypeId} {cs : Array Value}
theorem Blk.lt (h : Blk w g t cs) : g < w.heap.size := by
 rcases Nat.lt_or_ge g w.heap.size with hlt | hge
 ·
  exact hlt
 ·
  unfold Blk at h; rw [Array.getElem?_eq_none hge] at h; cases h
theorem Blk.cell (h : Blk w g t cs) (i : Nat) : w.cell? ⟨g, i, none⟩ = cs[i]? := cell_of_row w g i cs t (0, 0) h
theorem Blk.frozen (h : Blk w g t cs) (i : Nat) : w.frozen? ⟨g, i, none⟩ = false := by
 unfold Blk at h
 simp [World.frozen?, h]
theorem Blk.new (w : World) (t : TypeId) (cs : Array Value) : Blk (w.alloc (.cells cs t)) w.heap.size t cs := heap_alloc_new w _
theorem Blk.drew (h : Blk w g t cs) : Blk w.drew g t cs := h
theorem Blk.alloc (h : Blk w g t cs) (o : Obj) : Blk (w.alloc o) g t cs := (Below.heap_alloc w o g h.lt).trans h
theorem Blk.set_ (h : Blk w g t cs) (i : Nat) (u : Value) : Blk (w.setCell ⟨g, i, none⟩ u) g t (cs.setIfInBounds i u) := by
 unfold Blk at h ⊢
 simp [World.setCell, Array.getElem?_modify, h]
theorem Blk.far (h : Blk w g t cs) {p : Addr} (hp : g ≠ p.block) (u : Value) : Blk (w.setCell p u) g t cs := (Below.heap_setCell w p u g hp).trans h
theorem Blk.below {B : Nat} (h : Blk w g t cs) (hb : Below B w w') (hg : g < B) : Blk w' g t cs := (hb.block g hg).trans h
theorem Blk.grown {row : Option Nat} (h : Blk w g t cs) (hb : w.grownBy w' row) (hg : some g ≠ row) : Blk w' g t cs := (hb.block g h.lt hg).trans h
theorem Blk.ne_ {g' : Nat} {t' : TypeId} {cs' : Array Value} (h : Blk w g t cs) (h' : Blk w g' t' cs') (hne : t ≠ t') : g ≠ g' := by
 rintro rfl
 unfold Blk at h h'
 rw [h] at h'
 injection h' with h'
 injection h' with _ ht
 exact hne ht
theorem own_blk_ne {base : Nat} {e : TypeId} {size n : Nat} {v : Value} {xs : List Value} (h : w.ownsRow base e size v n xs) (hg : Blk w g t cs) (hne : e ≠ t) : v.ownBlock ≠ some g := by
 rcases h.2 with ⟨rfl, _⟩ | ⟨g', cap, cur, rfl, _, hh, _⟩
 ·
  simp [Value.ownBlock]
 ·
  intro he
  have : g' = g := by simpa [Value.ownBlock] using he
  subst this
  exact Blk.ne_ (t := e) hh hg hne rfl
end
section
variable {P : Program} (w : World)
theorem run_append_of_nil (base : Nat) (t ty e : TypeId) (i : TypeInfo) (size : Nat) (ht : P.underlying t = some (.slice e)) (hi : P.info? e = some i)
  (v : Value) (n : Nat) (xs : List Value) (hown : w.ownsRow base e size v n xs) (c : Nat) : (Builtin.append_ #[t, t] ty #[v, .slice none 0 c]).run P w = .ok v w := by
 rcases hown.2 with ⟨rfl, rfl⟩ | ⟨g, cap, cur, rfl, _, _, hnc, _⟩
 ·
  simp [Builtin.append_, run_underlying ht, sizeOf, typeInfo, hi, Builtin.lenOf, Builtin.firstCells]
 ·
  simp [Builtin.append_, run_underlying ht, sizeOf, typeInfo, hi, Builtin.lenOf, Builtin.firstCells, hnc, storeCells]
theorem run_append_any (base : Nat) (t ty e : TypeId) (i : TypeInfo) (z : Value) (size bytes : Nat) (ht : P.underlying t = some (.slice e)) (hi : P.info? e = some i) (hz : i.zero = some z)
  (hsize : i.size = size) (hby : i.bytes = bytes) (hzs : z.cells.size = size) (hsz : 0 < size)
  (v : Value) (n : Nat) (xs : List Value) (hown : w.ownsRow base e size v n xs)
  (B : Nat) (A : Option Addr) (m c : Nat) (news : List Value) (hr : Reads w B size A m news) (h1 : ∀ u ∈ news, u.oneCell' = true)
  (h63 : n + m ≤ maxLen) (hbytes : (n + m) * bytes ≤ 140737488355328) (hbase : base ≤ w.heap.size) :
  ∃ v' w', (Builtin.append_ #[t, t] ty #[v, .slice A m c]).run P w = .ok v' w' ∧ w'.ownsRow base e size v' (n + m) (xs ++ news) ∧ w.grownBy w' v.ownBlock ∧
   (v'.ownBlock = v.ownBlock ∨ v'.ownBlock = some w.heap.size) := by
 rcases A with _ | ad
 ·
  have hm : m = 0 := by
   rcases Nat.eq_zero_or_pos m with h0 | h0
   ·
    exact h0
   ·
    obtain ⟨ad, h, _⟩ := hr.2 h0
    cases h
  subst hm
  have hn : news = [] := List.eq_nil_of_length_eq_zero (by simpa using hr.1)
  subst hn
  exact ⟨v, w, run_append_of_nil w base t ty e i size ht hi v n xs hown c, by simpa using hown, World.grownBy.refl w _, .inl rfl⟩
 ·
  have hcells : ∀ j u, news[j]? = some u → w.cell? (ad.add j) = some u := by
   intro j u hu
   rcases Nat.eq_zero_or_pos m with h0 | h0
   ·
    subst h0
    have hn : news = [] := List.eq_nil_of_length_eq_zero (by simpa using hr.1)
    subst hn
    simp at hu
   ·
    obtain ⟨ad', h, _, hc⟩ := hr.2 h0
    injection h with h
    subst h
    exact hc j u hu
  obtain ⟨v', w', hrun, h2, h3, _, h5⟩ := run_append_own_at (P := P) w base t ty e i z size bytes ht hi hz hsize hby hzs hsz v n xs hown ad m c news hr.1 hcells h1 h63 hbytes hbase
  exact ⟨v', w', hrun, h2, h3, h5⟩
theorem wp_append_any {o : Oper} {a : Act} {K : Act → World → Prop} {Q : Exit → Act → World → Prop} (s x : Operand) (t : TypeId)
  (ho : o.op = .call { callee := .builtin .append, args := #[s, x], argTypes := #[t, t] })
  (base : Nat) (e : TypeId) (i : TypeInfo) (z : Value) (size bytes : Nat) (ht : P.underlying t = some (.slice e)) (hi : P.info? e = some i) (hz : i.zero = some z)
  (hsize : i.size = size) (hby : i.bytes = bytes) (hzs : z.cells.size = size) (hsz : 0 < size)
  (v : Value) (n : Nat) (xs : List Value) (hs : a.eval s = v) (hown : w.ownsRow base e size v n xs)
  (B : Nat) (A : Option Addr) (m c : Nat) (news : List Value) (hx : a.eval x = .slice A m c) (hr : Reads w B size A m news) (h1 : ∀ u ∈ news, u.oneCell' = true)
  (h63 : n + m ≤ maxLen) (hbytes : (n + m) * bytes ≤ 140737488355328) (hbase : base ≤ w.heap.size)
  (h : ∀ v' w', w'.ownsRow base e size v' (n + m) (xs ++ news) → w.grownBy w' v.ownBlock → (v'.ownBlock = v.ownBlock ∨ v'.ownBlock = some w.heap.size) → K (a.put o.dst v') w') : o.wp P a w K Q := by
 obtain ⟨v', w', hrun, h2, h3, h4⟩ := run_append_any (P := P) w base t o.type e i z size bytes ht hi hz hsize hby hzs hsz v n xs hown B A m c news hr h1 h63 hbytes hbase
 unfold Oper.wp execOp
 simp only [ho, resolve, invoke, builtin, Sem.run_bind, Sem.run_pure, Result.andThen_ok, List.map_toArray, List.map_cons, List.map_nil, hs, hx, hrun]
 exact h v' w' h2 h3 h4
theorem wpList_append_any {ops : Array Oper} {rest : List Oper} {o : Oper} {a : Act} {Q : Exit → Act → World → Prop} (hgd : o.guard = none) (s x : Operand) (t : TypeId)
  (ho : o.op = .call { callee := .builtin .append, args := #[s, x], argTypes := #[t, t] })
  (base : Nat) (e : TypeId) (i : TypeInfo) (z : Value) (size bytes : Nat) (ht : P.underlying t = some (.slice e)) (hi : P.info? e = some i) (hz : i.zero = some z)
  (hsize : i.size = size) (hby : i.bytes = bytes) (hzs : z.cells.size = size) (hsz : 0 < size)
  (v : Value) (n : Nat) (xs : List Value) (hs : a.eval s = v) (hown : w.ownsRow base e size v n xs)
  (B : Nat) (A : Option Addr) (m c : Nat) (news : List Value) (hx : a.eval x = .slice A m c) (hr : Reads w B size A m news) (h1 : ∀ u ∈ news, u.oneCell' = true)
  (h63 : n + m ≤ maxLen) (hbytes : (n + m) * bytes ≤ 140737488355328) (hbase : base ≤ w.heap.size)
  (h : ∀ v' w', w'.ownsRow base e size v' (n + m) (xs ++ news) → w.grownBy w' v.ownBlock → (v'.ownBlock = v.ownBlock ∨ v'.ownBlock = some w.heap.size) → wpList P ops Q rest (a.put o.dst v') w') : wpList P ops Q (o :: rest) a w :=
 wpList_plain hgd fun _ hK => wp_append_any w s x t ho base e i z size bytes ht hi hz hsize hby hzs hsz v n xs hs hown B A m c news hx hr h1 h63 hbytes hbase fun v' w' h2 h3 h4 => hK _ _ (h v' w' h2 h3 h4)
theorem step_append_any {ops : Array Oper} {o : Oper} {a : Act} {K : Act → World → Prop} {Q : Exit → Act → World → Prop} {E : Prop} (hgd : o.guard = none) (s x : Operand) (t : TypeId)
  (ho : o.op = .call { callee := .builtin .append, args := #[s, x], argTypes := #[t, t] })
  (base : Nat) (e : TypeId) (i : TypeInfo) (z : Value) (size bytes : Nat) (ht : P.underlying t = some (.slice e)) (hi : P.info? e = some i) (hz : i.zero = some z)
  (hsize : i.size = size) (hby : i.bytes = bytes) (hzs : z.cells.size = size) (hsz : 0 < size)
  (v : Value) (n : Nat) (xs : List Value) (hs : a.eval s = v) (hown : w.ownsRow base e size v n xs)
  (B : Nat) (A : Option Addr) (m c : Nat) (news : List Value) (hx : a.eval x = .slice A m c) (hr : Reads w B size A m news) (h1 : ∀ u ∈ news, u.oneCell' = true)
  (h63 : n + m ≤ maxLen) (hbytes : (n + m) * bytes ≤ 140737488355328) (hbase : base ≤ w.heap.size)
  (h : ∀ v' w', w'.ownsRow base e size v' (n + m) (xs ++ news) → w.grownBy w' v.ownBlock → (v'.ownBlock = v.ownBlock ∨ v'.ownBlock = some w.heap.size) → K (a.put o.dst v') w') :
  if Region.wanted o (yielded ops a.tmps) = true then Oper.wp P o a w K Q else E := by
 have hw : Region.wanted o (yielded ops a.tmps) = true := by simp [Region.wanted, hgd]
 rw [if_pos hw]
 exact wp_append_any w s x t ho base e i z size bytes ht hi hz hsize hby hzs hsz v n xs hs hown B A m c news hx hr h1 h63 hbytes hbase h
end
end Go.Proofs.YtnpkgmgedgcjmaaGreatDoor
namespace Go.Proofs.YtnpkgmgedgcjmaaGreatDoor
open Go Go.RowKit Png
def Ob (w : World) (base : Nat) (p : Option Addr) (n cap : Nat) (l : List UInt8) : Prop :=
 l.length = n ∧ w.ownsRow base 5 1 (.slice p n cap) n (bvals l)
theorem Ob.reads {w : World} {base n cap : Nat} {p : Option Addr} {l : List UInt8} (h : Ob w base p n cap l) : Reads w w.heap.size 1 p n (bvals l) := Reads.of_own h.2
theorem Reads.bsl {w : World} {B n : Nat} {p : Option Addr} {l : List UInt8} (h : Reads w B 1 p n (bvals l)) (hp : ∀ a, p = some a → a.spot = none) : Bsl w p l := by
 by_cases h0 : 0 < n
 ·
  obtain ⟨ad, rfl, _, hc⟩ := h.2 h0
  obtain ⟨b, off, sp⟩ := ad
  have : sp = none := hp _ rfl
  subst this
  refine .inr ⟨b, off, rfl, fun k hk => ?_⟩
  have := hc k _ (bvals_get l k hk)
  rwa [add_addr] at this
 ·
  left
  have := h.1
  simp at this
  exact List.eq_nil_of_length_eq_zero (by omega)
theorem Ob.spot {w : World} {base n cap : Nat} {p : Option Addr} {l : List UInt8} (h : Ob w base p n cap l) : ∀ a, p = some a → a.spot = none := by
 rintro a rfl
 rcases h.2.2 with ⟨hv, _⟩ | ⟨g, c, cur, hv, _⟩
 ·
  cases hv
 ·
  injection hv with hv
  injection hv with hv
  rw [hv]
theorem Ob.bsl {w : World} {base n cap : Nat} {p : Option Addr} {l : List UInt8} (h : Ob w base p n cap l) : Bsl w p l := h.reads.bsl h.spot
theorem owns_kept {w w' : World} {base e size n cap : Nat} {p : Option Addr} {xs : List Value} (h : w.ownsRow base e size (.slice p n cap) n xs) (hb : ∀ k, p.map (·.block) = some k → w'.heap[k]? = w.heap[k]?) : w'.ownsRow base e size (.slice p n cap) n xs := by
 refine ⟨h.1, ?_⟩
 rcases h.2 with h0 | ⟨g, c, cur, hv, hb', hg, rest⟩
 ·
  exact .inl h0
 ·
  refine .inr ⟨g, c, cur, hv, hb', ?_, rest⟩
  injection hv with hp
  rw [hb g (by rw [hp]; rfl)]; exact hg
theorem owns_lower {w : World} {base base' e size n cap : Nat} {p : Option Addr} {xs : List Value} (h : w.ownsRow base e size (.slice p n cap) n xs) (hb : base' ≤ base) : w.ownsRow base' e size (.slice p n cap) n xs := by
 refine ⟨h.1, ?_⟩
 rcases h.2 with h0 | ⟨g, c, cur, hv, hb', rest⟩
 ·
  exact .inl h0
 ·
  exact .inr ⟨g, c, cur, hv, by omega, rest⟩
theorem owns_lt {w : World} {base e size n cap : Nat} {p : Option Addr} {xs : List Value} (h : w.ownsRow base e size (.slice p n cap) n xs) : ∀ k, p.map (·.block) = some k → base ≤ k ∧ k < w.heap.size := by
 intro k hk
 refine h.lt k ?_
 cases p with
 | none => simp at hk
 | some a => simpa [Value.ownBlock] using hk
theorem ownBlock_slice (p : Option Addr) (n c : Nat) : Value.ownBlock (.slice p n c) = p.map (·.block) := by cases p <;> rfl
theorem Ob.kept {w w' : World} {base n cap : Nat} {p : Option Addr} {l : List UInt8} (h : Ob w base p n cap l) (hb : Below w.heap.size w w') : Ob w' base p n cap l :=
 ⟨h.1, owns_kept h.2 fun k hk => hb.block k (owns_lt h.2 k hk).2⟩
theorem Ob.keep {w w' : World} {base n cap : Nat} {p : Option Addr} {l : List UInt8} (h : Ob w base p n cap l) (hb : ∀ k, p.map (·.block) = some k → w'.heap[k]? = w.heap[k]?) : Ob w' base p n cap l :=
 ⟨h.1, owns_kept h.2 hb⟩
theorem Ob.none (w : World) (base : Nat) : Ob w base none 0 0 [] := ⟨rfl, World.ownsRow_nil w base 5 1⟩
theorem Ob.made (w : World) (base : Nat) (l : List UInt8) (hb : base ≤ w.heap.size) (hm : l.length ≤ maxLen) : Ob (w.alloc (.cells (bvals l).toArray 5)) base (some ⟨w.heap.size, 0, Option.none⟩) l.length l.length l :=
 ⟨rfl, by simp, .inr ⟨w.heap.size, l.length, _, rfl, hb, heap_alloc_new w _, Nat.le_refl _, hm, by simp, by simp [List.take_of_length_le]⟩⟩
theorem Ob.lt {w : World} {base n cap : Nat} {p : Option Addr} {l : List UInt8} (h : Ob w base p n cap l) : ∀ k, p.map (·.block) = some k → base ≤ k ∧ k < w.heap.size := owns_lt h.2
theorem owns_slice {w : World} {base e size n : Nat} {v : Value} {xs : List Value} (h : w.ownsRow base e size v n xs) : ∃ p cap, v = .slice p n cap := by
 rcases h.2 with ⟨rfl, rfl⟩ | ⟨g, c, cur, rfl, _⟩
 ·
  exact ⟨_, _, rfl⟩
 ·
  exact ⟨_, _, rfl⟩
theorem wp_app {w : World} {ops : Array Oper} {rest : List Oper} {o : Oper} {a : Act} {Q : Exit → Act → World → Prop} (hgd : o.guard = none) (s x : Operand)
  (ho : o.op = .call { callee := .builtin .append, args := #[s, x], argTypes := #[24, 24] })
  (base n cap m c : Nat) (p p2 : Option Addr) (l l2 : List UInt8) (hs : a.eval s = .slice p n cap) (hx : a.eval x = .slice p2 m c) (hown : Ob w base p n cap l)
  (B : Nat) (hr : Reads w B 1 p2 m (bvals l2)) (hbd : n + m ≤ 140737488355328) (hbase : base ≤ w.heap.size)
  (h : ∀ p' cap' w', Ob w' base p' (n + m) cap' (l ++ l2) → w.grownBy w' (p.map (·.block)) → (p'.map (·.block) = p.map (·.block) ∨ p'.map (·.block) = some w.heap.size) → wpList Tryz.prog ops Q rest (a.put o.dst (.slice p' (n + m) cap')) w') :
  wpList Tryz.prog ops Q (o :: rest) a w := by
 refine wpList_append_any w hgd s x 24 ho base 5 Tryz.t5 (.int .u8 0) 1 1 Tryz.underlying24 (by kernel_rfl) (by kernel_rfl) (by kernel_rfl) (by kernel_rfl) rfl (by decide)
  (.slice p n cap) n (bvals l) hs hown.2 B p2 m c (bvals l2) hx hr (bvals_one l2) (by simp only [maxLen]; omega) (by omega) hbase ?_
 intro v' w' h1 h2 h3
 obtain ⟨p', cap', rfl⟩ := owns_slice h1
 rw [ownBlock_slice] at h2 h3
 rw [ownBlock_slice] at h3
 have hl : l2.length = m := by have := hr.1; simpa using this
 exact h p' cap' w' ⟨by simp [hown.1, hl], by simpa [bvals] using h1⟩ h2 h3
end Go.Proofs.YtnpkgmgedgcjmaaGreatDoor
end
