/- Frames and rows: what a call leaves as it was, and rows of cells that may be written. -/
import Derived.Test.YtnpkgmgedgcjmaaGreatDoorProg
import Derived.WalkKit
import Derived.LoopTactic
import Derived.Outline
import Derived.Lib.Hide
import Derived.WalkLawsBesides
import Derived.WalkSpells
import Derived.BigQuiet
import Derived.Deep.QuietTactic
import Derived.Laws.BitsAll
import Derived.Laws.CopyRow
import Derived.Laws.CopyOwn
import Derived.Laws.AppendOwn
import Derived.Deep.Draws
import Derived.StillTailTactics
import Derived.Laws.BytesArg
set_option linter.all false

/- Words for memory: bytes that lie in a row of cells; small facts on bits. -/
namespace Go.Proofs.YtnpkgmgedgcjmaaGreatDoor
open Go Go.RowKit

/-- The byte at a place, as a number. -/
def nb (l : List UInt8) (k : Nat) : Nat := (l.getD k 0).toNat
theorem nb_lt (l : List UInt8) (k : Nat) : nb l k < 256 := by unfold nb; exact (l.getD k 0).toNat_lt

/-- Bytes lie from a place of a block on. -/
def Seg (w : World) (b off : Nat) (l : List UInt8) : Prop :=
  ∀ k, k < l.length → w.cell? ⟨b, off + k, none⟩ = some (.int .u8 (nb l k : Int))

/-- Ints of one kind lie from a place of a block on: the value at each place. -/
def Tab (w : World) (b : Nat) (kd : IntKind) (n : Nat) (f : Nat → Nat) : Prop :=
  ∀ k, k < n → w.cell? ⟨b, k, none⟩ = some (.int kd (f k : Int))

theorem not32 (a : Nat) (ha : a < 4294967296) : bits .xor .u32 IntKind.u32.max (a : Int) = ((4294967295 - a : Nat) : Int) := by
  have h1 : (BitVec.ofInt 32 (a : Int)).toNat = a := by
    rw [BitVec.ofInt_natCast, BitVec.toNat_ofNat]; exact Nat.mod_eq_of_lt (by omega)
  show IntKind.u32.wrap ((BitVec.ofInt 32 IntKind.u32.max ^^^ BitVec.ofInt 32 (a : Int)).toNat : Int) = _
  have h2 : BitVec.ofInt 32 IntKind.u32.max = BitVec.allOnes 32 := by decide
  rw [h2, BitVec.allOnes_xor, BitVec.toNat_not, h1, IntKind.wrap_u32']
  omega

theorem ret_int {k : IntKind} {a b : Int} (h : a = b) : Ending.returned (.int k a) = .returned (.int k b) := by rw [h]

/-- The package's number for a colour type with so many bits a sample. -/
def cbOf (ct dp : Nat) : Nat :=
  match ct, dp with
  | 0, 1 => 1 | 0, 2 => 2 | 0, 4 => 3 | 0, 8 => 4 | 4, 8 => 5 | 2, 8 => 6 | 3, 1 => 7 | 3, 2 => 8 | 3, 4 => 9 | 3, 8 => 10
  | 6, 8 => 11 | 0, 16 => 12 | 4, 16 => 13 | 2, 16 => 14 | 6, 16 => 15
  | _, _ => 0

/-- The fifteen kinds. -/
def Kinds (ct dp : Nat) : Prop :=
  (ct = 0 ∧ dp = 1) ∨ (ct = 0 ∧ dp = 2) ∨ (ct = 0 ∧ dp = 4) ∨ (ct = 0 ∧ dp = 8) ∨ (ct = 4 ∧ dp = 8) ∨ (ct = 2 ∧ dp = 8) ∨ (ct = 3 ∧ dp = 1) ∨ (ct = 3 ∧ dp = 2) ∨
  (ct = 3 ∧ dp = 4) ∨ (ct = 3 ∧ dp = 8) ∨ (ct = 6 ∧ dp = 8) ∨ (ct = 0 ∧ dp = 16) ∨ (ct = 4 ∧ dp = 16) ∨ (ct = 2 ∧ dp = 16) ∨ (ct = 6 ∧ dp = 16)

end Go.Proofs.YtnpkgmgedgcjmaaGreatDoor

namespace Go.Proofs.YtnpkgmgedgcjmaaGreatDoor
open Go Go.RowKit

/-- Block b is a row of n cells of type t, none of them frozen. -/
def Row (w : World) (b : Nat) (t : TypeId) (n : Nat) : Prop :=
  ∃ cur : Array Value, w.heap[b]? = some (.cells cur t (0, 0)) ∧ cur.size = n

theorem Row.frozen {w : World} {b n : Nat} {t : TypeId} (h : Row w b t n) (o : Nat) : w.frozen? ⟨b, o, none⟩ = false := by
  obtain ⟨cur, h, _⟩ := h
  simp [World.frozen?, h]

theorem Row.lt {w : World} {b n : Nat} {t : TypeId} (h : Row w b t n) : b < w.heap.size := by
  obtain ⟨cur, h, _⟩ := h
  exact (Array.getElem?_eq_some_iff.1 h).1

theorem Row.cell {w : World} {b n : Nat} {t : TypeId} (h : Row w b t n) {o : Nat} (ho : o < n) : ∃ v, w.cell? ⟨b, o, none⟩ = some v := by
  obtain ⟨cur, h, hn⟩ := h
  exact ⟨cur[o], by simp [World.cell?, h, Array.getElem?_eq_getElem (show o < cur.size by omega)]⟩

/-- There is a cell at an address. -/
def hasCell (w : World) (a : Addr) : Bool := (w.cell? a).isSome
theorem hasCell_setCell (w : World) (a b : Addr) (v : Value) : hasCell (w.setCell a v) b = hasCell w b := by
  unfold hasCell
  by_cases h : a = b
  · subst h
    cases hc : w.cell? a with
    | some u => rw [World.cell?_setCell_same (h := hc)]; rfl
    | none =>
      unfold World.cell? at hc ⊢
      simp only [World.setCell, Array.getElem?_modify, if_true]
      cases hh : w.heap[a.block]? with
      | none => simp
      | some o =>
        rw [hh] at hc
        cases o with
        | cells c e f =>
          simp only [Option.map_some] at hc ⊢
          cases hs : a.spot.isSome
          · rw [hs] at hc
            simp only [Bool.false_eq_true, if_false] at hc ⊢
            rw [Array.getElem?_eq_none_iff] at hc
            rw [Array.getElem?_eq_none_iff.2 (by simpa using hc)]
          · simp
        | _ => simp
  · rw [World.cell?_setCell_other (h := h)]
theorem hasCell_drewN (w : World) (n : Nat) (b : Addr) : hasCell (w.drewN n) b = hasCell w b := rfl
theorem hasCell_drew (w : World) (b : Addr) : hasCell w.drew b = hasCell w b := rfl
theorem cell?_setCell_has (w : World) (a : Addr) (v : Value) (h : hasCell w a = true) : (w.setCell a v).cell? a = some v := by
  unfold hasCell at h
  obtain ⟨u, hu⟩ := Option.isSome_iff_exists.1 h
  exact World.cell?_setCell_same w a v hu
theorem run_store_has (P : Program) (w : World) (a : Addr) (v : Value) (m : Mode) (hv : v.oneCell' = true) (h : hasCell w a = true) (hf : w.frozen? a = false) : (store a v m).run P w = .ok () (w.setCell a v) := by
  unfold hasCell at h
  obtain ⟨u, hu⟩ := Option.isSome_iff_exists.1 h
  rw [run_store P w a v m hv]
  simp [hu, hf]
theorem run_has_int (P : Program) (w : World) (a : Addr) (k : IntKind) (n : Int) (m : Mode) (h : hasCell w a = true) (hf : w.frozen? a = false) : (store a (.int k n) m).run P w = .ok () (w.setCell a (.int k n)) := run_store_has P w a _ m rfl h hf
theorem run_has_bool (P : Program) (w : World) (a : Addr) (b : Bool) (m : Mode) (h : hasCell w a = true) (hf : w.frozen? a = false) : (store a (.bool b) m).run P w = .ok () (w.setCell a (.bool b)) := run_store_has P w a _ m rfl h hf
theorem run_has_pointer (P : Program) (w : World) (a : Addr) (p : Option Addr) (m : Mode) (h : hasCell w a = true) (hf : w.frozen? a = false) : (store a (.pointer p) m).run P w = .ok () (w.setCell a (.pointer p)) := run_store_has P w a _ m rfl h hf
theorem run_has_slice (P : Program) (w : World) (a : Addr) (p : Option Addr) (l c : Nat) (m : Mode) (h : hasCell w a = true) (hf : w.frozen? a = false) : (store a (.slice p l c) m).run P w = .ok () (w.setCell a (.slice p l c)) := run_store_has P w a _ m rfl h hf
attribute [go_sem high] run_has_int run_has_bool run_has_pointer run_has_slice
attribute [go_sem] hasCell_setCell hasCell_drewN hasCell_drew cell?_setCell_has

theorem Row.has {w : World} {b n : Nat} {t : TypeId} (h : Row w b t n) (o : Nat) (ho : o < n) : hasCell w ⟨b, o, none⟩ = true := by
  obtain ⟨v, hv⟩ := h.cell ho
  simp [hasCell, hv]

theorem off_ne (w : World) (b o o' : Nat) (v : Value) (h : o' ≠ o) : (w.setCell ⟨b, o', none⟩ v).cell? ⟨b, o, none⟩ = w.cell? ⟨b, o, none⟩ :=
  World.cell?_setCell_other w _ _ v (by simp [h])

/-- What a call has left as it was: all blocks but those of S; and rows stay rows. -/
structure Fr (S : List Nat) (w w' : World) : Prop where
  os : w'.os = w.os
  tape : w'.tape = w.tape
  output : w'.output = w.output
  size : w.heap.size ≤ w'.heap.size
  block : ∀ k, k < w.heap.size → k ∉ S → w'.heap[k]? = w.heap[k]?
  row : ∀ b t n, Row w b t n → Row w' b t n

theorem Fr.refl (S : List Nat) (w : World) : Fr S w w := ⟨rfl, rfl, rfl, Nat.le_refl _, fun _ _ _ => rfl, fun _ _ _ h => h⟩

theorem Fr.trans {S : List Nat} {a b c : World} (h : Fr S a b) (k : Fr S b c) : Fr S a c :=
  ⟨k.os.trans h.os, k.tape.trans h.tape, k.output.trans h.output, Nat.le_trans h.size k.size,
    fun i hi hs => (k.block i (Nat.lt_of_lt_of_le hi h.size) hs).trans (h.block i hi hs), fun x t n r => k.row x t n (h.row x t n r)⟩

theorem Fr.mono {S T : List Nat} {a b : World} (h : Fr S a b) (hs : ∀ x, x ∈ S → x ∈ T) : Fr T a b :=
  ⟨h.os, h.tape, h.output, h.size, fun k hk ht => h.block k hk (fun e => ht (hs k e)), h.row⟩

/-- Blocks that are new may be forgotten. -/
theorem Fr.new {S : List Nat} {w a b : World} (h : Fr S a b) (ha : Fr [] w a) (hs : ∀ x, x ∈ S → w.heap.size ≤ x) : Fr [] w b :=
  ⟨h.os.trans ha.os, h.tape.trans ha.tape, h.output.trans ha.output, Nat.le_trans ha.size h.size,
    fun k hk _ => (h.block k (Nat.lt_of_lt_of_le hk ha.size) (fun e => by have := hs k e; omega)).trans (ha.block k hk (by simp)),
    fun x t n r => h.row x t n (ha.row x t n r)⟩

theorem Fr.new' {S T : List Nat} {w a b : World} (ha : Fr T w a) (h : Fr S a b) (hs : ∀ x, x ∈ S → w.heap.size ≤ x ∨ x ∈ T) : Fr T w b :=
  ⟨h.os.trans ha.os, h.tape.trans ha.tape, h.output.trans ha.output, Nat.le_trans ha.size h.size,
    fun k hk hk' => (h.block k (Nat.lt_of_lt_of_le hk ha.size) (fun e => by
      rcases hs k e with h | h
      · omega
      · exact hk' h)).trans (ha.block k hk hk'),
    fun x t n r => h.row x t n (ha.row x t n r)⟩

theorem Fr.cell {S : List Nat} {w w' : World} (h : Fr S w w') {b : Nat} (hb : b < w.heap.size) (hs : b ∉ S) (o : Nat) :
    w'.cell? ⟨b, o, none⟩ = w.cell? ⟨b, o, none⟩ := by
  simp [World.cell?, h.block b hb hs]

theorem Fr.cell' {S : List Nat} {w w' : World} (h : Fr S w w') {b o : Nat} {v : Value} (hs : b ∉ S) (hv : w.cell? ⟨b, o, none⟩ = some v) :
    w'.cell? ⟨b, o, none⟩ = some v := by
  rw [h.cell (World.block_lt_of_cell? w ⟨b, o, none⟩ hv) hs, hv]

theorem Fr.frozen {S : List Nat} {w w' : World} (h : Fr S w w') {b : Nat} (hb : b < w.heap.size) (hs : b ∉ S) (o : Nat) :
    w'.frozen? ⟨b, o, none⟩ = w.frozen? ⟨b, o, none⟩ := by
  simp [World.frozen?, h.block b hb hs]

theorem Seg.fr {S : List Nat} {w w' : World} (h : Fr S w w') {b off : Nat} {l : List UInt8} (hs : b ∉ S) (hl : Seg w b off l) : Seg w' b off l :=
  fun k hk => h.cell' hs (hl k hk)

theorem Seg.set {w : World} {b off : Nat} {l : List UInt8} (h : Seg w b off l) (a : Addr) (v : Value) (ha : a.block = b → a.off < off ∨ off + l.length ≤ a.off) : Seg (w.setCell a v) b off l := by
  intro k hk
  rw [World.cell?_setCell_other, h k hk]
  rintro rfl
  have := ha rfl
  simp at this; omega

theorem Tab.fr {S : List Nat} {w w' : World} (h : Fr S w w') {b n : Nat} {kd : IntKind} {f : Nat → Nat} (hs : b ∉ S) (hl : Tab w b kd n f) : Tab w' b kd n f :=
  fun k hk => h.cell' hs (hl k hk)

theorem Fr.below {S : List Nat} {w w' : World} {B : Nat} (h : Fr S w w') (hB : B ≤ w.heap.size) (hs : ∀ x, x ∈ S → B ≤ x) : Below B w w' :=
  ⟨h.os, h.tape, h.output, h.size, fun k hk => h.block k (by omega) (fun e => by have := hs k e; omega)⟩

section
variable {w : World}
theorem Row.setCell {b n : Nat} {t : TypeId} (h : Row w b t n) (a : Addr) (v : Value) : Row (w.setCell a v) b t n := by
  obtain ⟨cur, h, hn⟩ := h
  by_cases hb : a.block = b
  · refine ⟨if a.spot.isSome then cur else cur.setIfInBounds a.off v, ?_, by split <;> simp [hn]⟩
    simp [World.setCell, Array.getElem?_modify, hb, h]
  · exact ⟨cur, by simp [World.setCell, Array.getElem?_modify, hb, h], hn⟩

theorem Row.drewN {b n m : Nat} {t : TypeId} (h : Row w b t n) : Row (w.drewN m) b t n := h
theorem Row.drew {b n : Nat} {t : TypeId} (h : Row w b t n) : Row w.drew b t n := h

theorem Row.alloc {b n : Nat} {t : TypeId} (h : Row w b t n) (o : Obj) : Row (w.alloc o) b t n := by
  have hl := h.lt
  obtain ⟨cur, h, hn⟩ := h
  exact ⟨cur, (heap_alloc_old w o hl).trans h, hn⟩

theorem Row.alloc_new (cs : Array Value) (t : TypeId) : Row (w.alloc (.cells cs t)) w.heap.size t cs.size :=
  ⟨cs, heap_alloc_new w _, rfl⟩

theorem Row.setRow {b n g : Nat} {t : TypeId} {cs : Array Value} (h : Row w b t n) (hc : b = g → cs.size = n) : Row (w.setRow g cs) b t n := by
  obtain ⟨cur, h, hn⟩ := h
  by_cases hb : g = b
  · subst hb
    exact ⟨cs, setRow_heap w g cur cs t (0, 0) h, hc rfl⟩
  · exact ⟨cur, (setRow_other w g b cs (by omega)).trans h, hn⟩

theorem Fr.setCell {S : List Nat} {w0 : World} (h : Fr S w0 w) (a : Addr) (v : Value) (hs : a.block ∈ S ∨ w0.heap.size ≤ a.block) : Fr S w0 (w.setCell a v) :=
  ⟨h.os, h.tape, h.output, by simpa [World.setCell] using h.size, fun k hk hk' => by
    have hne : a.block ≠ k := by rintro rfl; rcases hs with hs | hs; exact hk' hs; omega
    rw [← h.block k hk hk']
    simp [World.setCell, Array.getElem?_modify, hne],
    fun b t n r => (h.row b t n r).setCell a v⟩

theorem Fr.drewN {S : List Nat} {w0 : World} (h : Fr S w0 w) (n : Nat) : Fr S w0 (w.drewN n) := ⟨h.os, h.tape, h.output, h.size, h.block, h.row⟩
theorem Fr.drew {S : List Nat} {w0 : World} (h : Fr S w0 w) : Fr S w0 w.drew := ⟨h.os, h.tape, h.output, h.size, h.block, h.row⟩

theorem Fr.alloc {S : List Nat} {w0 : World} (h : Fr S w0 w) (o : Obj) : Fr S w0 (w.alloc o) :=
  ⟨h.os, h.tape, h.output, by have := h.size; simp; omega, fun k hk hk' => by
    rw [← h.block k hk hk']
    have := h.size
    exact heap_alloc_old w o (by omega),
    fun b t n r => (h.row b t n r).alloc o⟩

theorem Fr.setRow {S : List Nat} {w0 : World} {g : Nat} {cs cur : Array Value} {t : TypeId} (h : Fr S w0 w) (hg : w.heap[g]? = some (.cells cur t (0, 0))) (hc : cs.size = cur.size) (hs : g ∈ S ∨ w0.heap.size ≤ g) : Fr S w0 (w.setRow g cs) :=
  ⟨h.os, h.tape, h.output, by simpa using h.size, fun k hk hk' => by
    have hne : k ≠ g := by rintro rfl; rcases hs with hs | hs; exact hk' hs; omega
    rw [setRow_other _ _ _ _ hne, h.block k hk hk'],
    fun b t' n r => (h.row b t' n r).setRow (fun e => by
      obtain ⟨cur', h', hn⟩ := h.row b t' n r
      subst e
      rw [hg] at h'
      simp only [Option.some.injEq, Obj.cells.injEq] at h'
      rw [hc, h'.1, hn])⟩
end

/-- Only answers of the tape have been drawn. -/
def Dr (w w' : World) : Prop := ∃ k, w.drewN k = w'
theorem Dr.refl (w : World) : Dr w w := ⟨0, rfl⟩
theorem Dr.drewN {w w' : World} (h : Dr w w') (n : Nat) : Dr w (w'.drewN n) := by
  obtain ⟨k, rfl⟩ := h; exact ⟨k + n, by simp⟩
theorem Dr.drew {w w' : World} (h : Dr w w') : Dr w w'.drew := h.drewN 1
theorem Dr.fr {w w' : World} (h : Dr w w') (S : List Nat) : Fr S w w' := by
  obtain ⟨k, rfl⟩ := h; exact (Fr.refl S w).drewN k

theorem Fr.undrew {S : List Nat} {w w' : World} (h : Fr S w.drew w') : Fr S w w' := ⟨h.os, h.tape, h.output, h.size, h.block, h.row⟩
theorem Fr.undrewN {S : List Nat} {w w' : World} {n : Nat} (h : Fr S (w.drewN n) w') : Fr S w w' := ⟨h.os, h.tape, h.output, h.size, h.block, h.row⟩

/-- A call that only draws, inside a region that is walked in the text's order. -/
theorem calls_dr {P : Program} {f : FuncId} {args : Array Value} {w : World} {n : Nat} {v : Value}
    (h : Calls P f args (w.drewN n) fun e w' => e = .returned v ∧ Dr (w.drewN n) w') : Calls P f args (w.drewN n) fun e w'' => e = .returned v ∧ ∃ m, w'' = w.drewN m :=
  h.mono fun _ _ ⟨he, m, hm⟩ => ⟨he, n + m, by rw [← hm, World.drewN_drewN]⟩
theorem calls_same {P : Program} {f : FuncId} {args : Array Value} {w : World} {n : Nat} {v : Value}
    (h : Calls P f args (w.drewN n) fun e w' => e = .returned v ∧ w.drewN n = w') : Calls P f args (w.drewN n) fun e w'' => e = .returned v ∧ ∃ m, w'' = w.drewN m :=
  h.mono fun _ _ ⟨he, hm⟩ => ⟨he, n, hm.symm⟩

/-- Bytes have been written from a place on; nothing else has turned. -/
structure Wr (w w' : World) (g off : Nat) (l : List UInt8) : Prop where
  fr : Fr [g] w w'
  same : ∀ o, (o < off ∨ off + l.length ≤ o) → w'.cell? ⟨g, o, none⟩ = w.cell? ⟨g, o, none⟩
  new : Seg w' g off l

theorem Wr.drewN {w w' : World} {g off : Nat} {l : List UInt8} (h : Wr w w' g off l) (n : Nat) : Wr w (w'.drewN n) g off l :=
  ⟨h.fr.drewN n, h.same, h.new⟩
theorem Wr.drewN' {w w' : World} {g off n : Nat} {l : List UInt8} (h : Wr (w.drewN n) w' g off l) : Wr w w' g off l :=
  ⟨⟨h.fr.os, h.fr.tape, h.fr.output, h.fr.size, h.fr.block, h.fr.row⟩, h.same, h.new⟩

theorem add_addr (b o j : Nat) : (⟨b, o, none⟩ : Addr).add j = ⟨b, o + j, none⟩ := by unfold Addr.add; split <;> simp_all

/-- The values of bytes. -/
def bvals (l : List UInt8) : List Value := l.map fun b => .int .u8 (b.toNat : Int)
theorem bvals_get (l : List UInt8) (j : Nat) (h : j < l.length) : (bvals l)[j]? = some (.int .u8 (nb l j : Int)) := by
  simp [bvals, nb, List.getD_eq_getElem?_getD, List.getElem?_eq_getElem h]
@[simp] theorem bvals_length (l : List UInt8) : (bvals l).length = l.length := by simp [bvals]
theorem bvals_one (l : List UInt8) : ∀ v ∈ bvals l, v.oneCell' = true := by
  intro v hv
  simp only [bvals, List.mem_map] at hv
  obtain ⟨b, _, rfl⟩ := hv
  rfl

/-- Bytes made into a string. -/
theorem run_convert_seg {P : Program} (w : World) (src e dst : TypeId) (hs : P.underlying src = some (.slice e)) (he : P.underlying e = some (.int .u8)) (hd : P.underlying dst = some .string) (b off len cap : Nat) (l : List UInt8)
    (hlen : l.length = len) (h : Seg w b off l) :
    (convert src dst (.slice (some ⟨b, off, none⟩) len cap)).run P w = .ok (.string ⟨l.toArray⟩) w := by
  have := run_convert_bytes_arg (P := P) (w := w) src e hs he b off len cap (l.map fun b => (b.toNat : Int)) (by simpa using hlen) (fun i hi => by
    rw [h i (by omega)]; simp [nb, List.getD_eq_getElem?_getD, List.getElem?_map, List.getElem?_eq_getElem (show i < l.length by omega)]) dst hd
  rw [this]
  have e : strOfNums (l.map fun b => (b.toNat : Int)) = ⟨l.toArray⟩ := by
    unfold strOfNums
    simp [List.map_map, Function.comp_def]
  rw [e]

/-- The builtin copy of bytes into a row. -/
theorem run_copy_bytes {P : Program} (w : World) (dT sT ty elem : TypeId) (g o dLen dCap sb so sLen sCap N : Nat) (t : TypeId) (l : List UInt8)
    (hu : P.underlying dT = some (.slice elem)) (hs : (P.info? elem).map (·.size) = some 1)
    (hg : Row w g t N) (hl : l.length = Nat.min sLen dLen) (hsrc : Seg w sb so l) (hfit : o + l.length ≤ N) :
    ∃ w', (Builtin.copy_ #[dT, sT] ty #[.slice (some ⟨g, o, none⟩) dLen dCap, .slice (some ⟨sb, so, none⟩) sLen sCap]).run P w = .ok (goInt l.length) w' ∧ Wr w w' g o l := by
  obtain ⟨cur, hg, hn⟩ := hg
  have h := run_copy_row (P := P) w dT sT ty elem g o dLen dCap ⟨sb, so, none⟩ sLen sCap cur t (bvals l) hu hs hg (by simpa using hl)
    (fun j v hv => by
      have hj : j < l.length := by
        have := (List.getElem?_eq_some_iff.1 hv).1
        simpa using this
      rw [bvals_get l j hj] at hv
      rw [add_addr, hsrc j hj]; exact hv)
    (by simpa [hn] using hfit) (bvals_one l)
  rw [bvals_length] at h
  refine ⟨_, h, (Fr.refl _ w).setRow hg ?_ (.inl (by simp)), ?_, ?_⟩
  · simp [hn]; omega
  · intro x hx
    rw [cell_setRow_same w g x cur _ t (0, 0) hg]
    have : w.cell? ⟨g, x, none⟩ = cur[x]? := by simp [World.cell?, hg]
    rw [this]
    simp only [List.getElem?_toArray]
    rcases hx with hx | hx
    · rw [List.append_assoc, List.getElem?_append_left (by simp; omega), List.getElem?_take_of_lt hx]; simp
    · rw [List.getElem?_append_right (by simp; omega), List.getElem?_drop]
      simp only [List.length_append, List.length_take, bvals_length, Array.length_toList]
      rw [show o + l.length + (x - (min o cur.size + l.length)) = x by omega]; simp
  · intro k hk
    rw [cell_setRow_same w g _ cur _ t (0, 0) hg]
    simp only [List.getElem?_toArray]
    rw [List.append_assoc, List.getElem?_append_right (by simp; omega), List.getElem?_append_left (by simp; omega)]
    rw [show o + k - (cur.toList.take o).length = k by simp; omega]
    exact bvals_get l k hk

/-- The builtin copy of bytes into a row, as an operation. -/
theorem wpList_copy_bytes {P : Program} {w : World} {ops : Array Oper} {rest : List Oper} {o : Oper} {a : Act} {Q : Exit → Act → World → Prop} (hgd : o.guard = none) (d s : Operand) (dT sT : TypeId)
    (ho : o.op = .call { callee := .builtin .copy, args := #[d, s], argTypes := #[dT, sT] }) (elem : TypeId) (hu : P.underlying dT = some (.slice elem)) (hsz : (P.info? elem).map (·.size) = some 1)
    (g off dLen dCap sb so sLen sCap N : Nat) (t : TypeId) (l : List UInt8) (hd : a.eval d = .slice (some ⟨g, off, none⟩) dLen dCap) (hs : a.eval s = .slice (some ⟨sb, so, none⟩) sLen sCap)
    (hg : Row w g t N) (hl : l.length = Nat.min sLen dLen) (hsrc : Seg w sb so l) (hfit : off + l.length ≤ N)
    (h : ∀ w', Wr w w' g off l → wpList P ops Q rest (a.put o.dst (.int .i64 (l.length : Nat))) w') : wpList P ops Q (o :: rest) a w := by
  refine wpList_plain hgd fun K hK => ?_
  obtain ⟨w', hrun, hw⟩ := run_copy_bytes (P := P) w dT sT o.type elem g off dLen dCap sb so sLen sCap N t l hu hsz hg hl hsrc hfit
  unfold Oper.wp
  simp [execOp, ho, resolve, invoke, builtin, hd, hs, hrun, Result.andThen]
  exact hK _ _ (h w' hw)

/-- A region whose first n operations only read: they run in the text's order, in the world behind the draw; then the rest. -/
theorem region_tail {P : Program} {id : Nat} {Q : Exit → Act → World → Prop} {a : Act} {w : World} {l : List Oper} (n : Nat) (hm : P.follows .mixedOrders = true) (hB : Region.lexTailB .any l.toArray n = true)
    (h : wpStill P l.toArray w.drew (fun a' => wpList P l.toArray Q (l.drop n) a' w.drew) (l.take n) a) : (Code.region id l.toArray true).wp P Q a w :=
  wp_region_still_tail n hm hB h

end Go.Proofs.YtnpkgmgedgcjmaaGreatDoor
