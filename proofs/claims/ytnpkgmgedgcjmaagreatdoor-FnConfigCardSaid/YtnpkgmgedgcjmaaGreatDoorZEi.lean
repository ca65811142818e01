/- A part of the proof: Ei. -/
import Derived.Test.YtnpkgmgedgcjmaaGreatDoorZDc
import Derived.Test.YtnpkgmgedgcjmaaGreatDoorZWc
set_option linter.all false
section
namespace Go.Proofs.YtnpkgmgedgcjmaaGreatDoor
open Go Go.RowKit Png
structure RS where
 W : Nat
 H : Nat
 dp : Nat
 ct : Nat
 il : Bool
 pal : List Q4
 clear : List Nat
 stage : Nat
 rest : List UInt8
def RS.init : RS := ⟨0, 0, 0, 0, false, [], [], 0, []⟩
def q0 : Q4 := ⟨0, 0, 0, 0⟩
def palQ (b : List UInt8) (n : Nat) : List Q4 := q4s (fun k => nb b (3 * k)) (fun k => nb b (3 * k + 1)) (fun k => nb b (3 * k + 2)) (fun _ => 255) n
def clrQ (b : List UInt8) (n : Nat) : List Nat := (List.range n).map fun k => nb b (2 * k) * 256 + nb b (2 * k + 1)
def setA (l : List Q4) (b : List UInt8) (n : Nat) : List Q4 := (List.range l.length).map fun j => ⟨(l.getD j q0).r, (l.getD j q0).g, (l.getD j q0).b, if j < n then 257 * nb b j else (l.getD j q0).a⟩
theorem setA_length (l : List Q4) (b : List UInt8) (n : Nat) : (setA l b n).length = l.length := by simp [setA]
theorem setA_get (l : List Q4) (b : List UInt8) (n j : Nat) (h : j < l.length) : (setA l b n).getD j q0 = ⟨(l.getD j q0).r, (l.getD j q0).g, (l.getD j q0).b, if j < n then 257 * nb b j else (l.getD j q0).a⟩ := by
 unfold setA
 rw [List.getD_eq_getElem?_getD, List.getElem?_map, List.getElem?_range h]
 rfl
theorem ext_getD {l m : List Q4} (hl : l.length = m.length) (h : ∀ j, j < l.length → l.getD j q0 = m.getD j q0) : l = m := by
 apply List.ext_getElem hl
 intro j h1 h2
 have := h j h1
 rwa [List.getD_eq_getElem?_getD, List.getD_eq_getElem?_getD, List.getElem?_eq_getElem h1, List.getElem?_eq_getElem h2] at this
theorem setA_zero (l : List Q4) (b : List UInt8) : setA l b 0 = l := by
 refine ext_getD (setA_length _ _ _) fun j hj => ?_
 rw [setA_length] at hj
 rw [setA_get _ _ _ _ hj, if_neg (Nat.not_lt_zero _)]
theorem setA_succ (l : List Q4) (b : List UInt8) (n : Nat) (h : n < l.length) : setA l b (n + 1) = (setA l b n).set n ⟨((setA l b n).getD n q0).r, ((setA l b n).getD n q0).g, ((setA l b n).getD n q0).b, 257 * nb b n⟩ := by
 refine ext_getD (by rw [List.length_set, setA_length, setA_length]) fun j hj => ?_
 rw [setA_length] at hj
 rw [setA_get _ _ _ _ hj]
 by_cases hjn : j = n
 ·
  subst hjn
  have e : ∀ v : Q4, ((setA l b j).set j v).getD j q0 = v := fun v => by
   rw [List.getD_eq_getElem?_getD, List.getElem?_set_self (by rw [setA_length]; exact h)]
   rfl
  rw [e, setA_get _ _ _ _ h, if_pos (Nat.lt_succ_self _)]
 ·
  have e : ((setA l b n).set n ⟨((setA l b n).getD n q0).r, ((setA l b n).getD n q0).g, ((setA l b n).getD n q0).b, 257 * nb b n⟩).getD j q0 = (setA l b n).getD j q0 := by
   rw [List.getD_eq_getElem?_getD, List.getElem?_set_ne (Ne.symm hjn), ← List.getD_eq_getElem?_getD]
  rw [e, setA_get _ _ _ _ hj]
  by_cases hlt : j < n
  ·
   rw [if_pos hlt, if_pos (by omega)]
  ·
   rw [if_neg hlt, if_neg (by omega)]
theorem q4s_get (R G U A : Nat → Nat) (m j : Nat) (h : j < m) : (q4s R G U A m).getD j q0 = q4of R G U A j := by
 unfold q4s
 rw [List.getD_eq_getElem?_getD, List.getElem?_map, List.getElem?_range h]
 rfl
theorem setA_q4s (R G U A : Nat → Nat) (b : List UInt8) (n m : Nat) : setA (q4s R G U A m) b n = q4s R G U (fun k => if k < n then nb b k else A k) m := by
 refine ext_getD (by rw [setA_length, q4s_length, q4s_length]) fun j hj => ?_
 rw [setA_length, q4s_length] at hj
 rw [setA_get _ _ _ _ (by rw [q4s_length]; exact hj), q4s_get _ _ _ _ _ _ hj, q4s_get _ _ _ _ _ _ hj]
 unfold q4of
 by_cases h : j < n
 ·
  simp only [h, if_true]
 ·
  simp only [h, if_false]
inductive StepG : RS → List UInt8 → List UInt8 → RS → Prop
 | ihdr (s : RS) (b : List UInt8) (h0 : s.stage = 0) (hl : b.length = 13) (hW : 0 < be4 b 0) (hH : 0 < be4 b 4) (hk : Kinds (nb b 9) (nb b 8)) (h10 : nb b 10 = 0) (h11 : nb b 11 = 0) (h12 : nb b 12 ≤ 1) :
   StepG s nIHDR b ⟨be4 b 0, be4 b 4, nb b 8, nb b 9, nb b 12 == 1, s.pal, s.clear, 1, s.rest⟩
 | plte (s : RS) (b : List UInt8) (h1 : s.stage = 1) (h0 : 0 < b.length) (h3 : b.length % 3 = 0) (h768 : b.length ≤ 768) (hd : b.length / 3 ≤ 2 ^ s.dp) :
   StepG s nPLTE b ⟨s.W, s.H, s.dp, s.ct, s.il, s.pal ++ palQ b (b.length / 3), s.clear, 2, s.rest⟩
 | trns (s : RS) (b : List UInt8) (h1 : s.stage = 1 ∨ s.stage = 2) (hc : s.ct = 0 ∨ s.ct = 2) (hl : b.length = 2 * chan s.ct) (hv : ∀ k, k < chan s.ct → nb b (2 * k) * 256 + nb b (2 * k + 1) < 2 ^ s.dp) :
   StepG s ntRNS b ⟨s.W, s.H, s.dp, s.ct, s.il, s.pal, s.clear ++ clrQ b (chan s.ct), 3, s.rest⟩
 | trns3 (s : RS) (b : List UInt8) (h1 : s.stage = 2) (hc : s.ct = 3) (h0 : 0 < b.length) (hl : b.length ≤ s.pal.length) :
   StepG s ntRNS b ⟨s.W, s.H, s.dp, s.ct, s.il, setA s.pal b b.length, s.clear, 3, s.rest⟩
 | idat (s : RS) (b : List UInt8) (h0 : s.stage ≠ 0) (h3 : ¬ (s.ct = 3 ∧ s.stage = 1)) (h5 : s.stage ≤ 4) :
   StepG s nIDAT b ⟨s.W, s.H, s.dp, s.ct, s.il, s.pal, s.clear, 4, s.rest ++ b⟩
 | iend (s : RS) (h4 : s.stage = 4 ∨ s.stage = 5) :
   StepG s nIEND [] ⟨s.W, s.H, s.dp, s.ct, s.il, s.pal, s.clear, 6, s.rest⟩
 | other (s : RS) (nm b : List UInt8) (h4 : nm.length = 4) (h0 : s.stage ≠ 0) (h1 : nm ≠ nIHDR) (h2 : nm ≠ nPLTE) (h3 : nm ≠ ntRNS) (h5 : nm ≠ nIDAT) (h6 : nm ≠ nIEND) :
   StepG s nm b ⟨s.W, s.H, s.dp, s.ct, s.il, s.pal, s.clear, if s.stage = 4 then 5 else s.stage, s.rest⟩
inductive RunG : List (List UInt8 × List UInt8) → RS → RS → Prop
 | nil (s : RS) : RunG [] s s
 | cons (c : List UInt8 × List UInt8) (cs : List (List UInt8 × List UInt8)) (s s1 s2 : RS) (h : StepG s c.1 c.2 s1) (hr : RunG cs s1 s2) : RunG (c :: cs) s s2
theorem RunG.snoc {cs : List (List UInt8 × List UInt8)} {c : List UInt8 × List UInt8} {s s1 s2 : RS} (h : RunG cs s s1) (hs : StepG s1 c.1 c.2 s2) : RunG (cs ++ [c]) s s2 := by
 induction h with
 | nil s => exact RunG.cons c [] _ _ _ hs (RunG.nil _)
 | cons c' cs' a b d h1 h2 ih => exact RunG.cons c' _ _ _ _ h1 (ih hs)
theorem StepG.len {s s' : RS} {nm b : List UInt8} (h : StepG s nm b s') : nm.length = 4 := by
 cases h with
 | other nm b h4 => exact h4
 | _ => rfl
theorem StepG.stage {s s' : RS} {nm b : List UInt8} (h : StepG s nm b s') : s.stage ≤ s'.stage ∧ s'.stage ≠ 0 := by
 cases h with
 | other _ _ h4 h0 => simp only; split <;> omega
 | _ => simp only; omega
theorem StepG.shape {s s' : RS} {nm b : List UInt8} (h : StepG s nm b s') (h0 : s.stage ≠ 0) : s'.W = s.W ∧ s'.H = s.H ∧ s'.dp = s.dp ∧ s'.ct = s.ct ∧ s'.il = s.il := by
 cases h with
 | ihdr _ h => exact absurd h h0
 | _ => exact ⟨rfl, rfl, rfl, rfl, rfl⟩
theorem StepG.late {s s' : RS} {nm b : List UInt8} (h : StepG s nm b s') (h0 : 3 ≤ s.stage) : 3 ≤ s'.stage ∧ s'.pal = s.pal := by
 cases h with
 | ihdr _ h => omega
 | plte _ h => omega
 | trns _ h => omega
 | trns3 _ h => omega
 | idat => exact ⟨by simp, rfl⟩
 | iend => exact ⟨by simp, rfl⟩
 | other => exact ⟨by simp only; split <;> omega, rfl⟩
theorem RunG.shape {cs : List (List UInt8 × List UInt8)} {s s' : RS} (h : RunG cs s s') (h0 : s.stage ≠ 0) : s'.W = s.W ∧ s'.H = s.H ∧ s'.dp = s.dp ∧ s'.ct = s.ct ∧ s'.il = s.il := by
 induction h with
 | nil s => exact ⟨rfl, rfl, rfl, rfl, rfl⟩
 | cons c cs a b d h1 h2 ih =>
  obtain ⟨x1, x2, x3, x4, x5⟩ := h1.shape h0
  obtain ⟨y1, y2, y3, y4, y5⟩ := ih h1.stage.2
  exact ⟨y1.trans x1, y2.trans x2, y3.trans x3, y4.trans x4, y5.trans x5⟩
theorem RunG.late {cs : List (List UInt8 × List UInt8)} {s s' : RS} (h : RunG cs s s') (h0 : 3 ≤ s.stage) : s'.pal = s.pal := by
 induction h with
 | nil s => rfl
 | cons c cs a b d h1 h2 ih => exact (ih (h1.late h0).1).trans (h1.late h0).2
structure RInv (s : RS) : Prop where
 k : s.stage ≠ 0 → Kinds s.ct s.dp ∧ 1 ≤ s.W ∧ 1 ≤ s.H
 pal0 : s.stage ≤ 1 → s.pal = []
 pal : s.pal.length ≤ 256
 clear0 : s.stage ≤ 2 → s.clear = []
 clear : s.clear.length ≤ 4
 le : s.stage ≤ 6
theorem RInv.init : RInv RS.init := ⟨fun h => absurd rfl h, fun _ => rfl, by decide, fun _ => rfl, by decide, by decide⟩
theorem RInv.step {s s' : RS} {nm b : List UInt8} (hi : RInv s) (h : StepG s nm b s') : RInv s' := by
 cases h with
 | ihdr b h0 hl hW hH hk h10 h11 h12 => exact ⟨fun _ => ⟨hk, hW, hH⟩, fun _ => hi.pal0 (by omega), hi.pal, fun _ => hi.clear0 (by omega), hi.clear, by simp⟩
 | plte b h1 h0 h3 h768 hd =>
  refine ⟨fun _ => hi.k (by omega), fun h => absurd (id h) (by simp only; omega), ?_, fun _ => hi.clear0 (by omega), hi.clear, by simp⟩
  have : (palQ b (b.length / 3)).length = b.length / 3 := q4s_length _ _ _ _ _
  simp only [List.length_append, this, hi.pal0 (show s.stage ≤ 1 by omega), List.length_nil]
  omega
 | trns b h1 hc hl hv =>
  refine ⟨fun _ => hi.k (by omega), fun h => absurd (id h) (by simp only; omega), hi.pal, fun h => absurd (id h) (by simp only; omega), ?_, by simp⟩
  have : (clrQ b (chan s.ct)).length = chan s.ct := by simp [clrQ]
  have := (chan_le s.ct).2
  simp only [List.length_append, hi.clear0 (show s.stage ≤ 2 by omega), List.length_nil]
  omega
 | trns3 b h1 hc h0 hl => exact ⟨fun _ => hi.k (by omega), fun h => absurd (id h) (by simp only; omega), by rw [setA_length]; exact hi.pal, fun h => absurd (id h) (by simp only; omega), hi.clear, by simp⟩
 | idat b h0 h3 h5 => exact ⟨fun _ => hi.k h0, fun h => absurd (id h) (by simp only; omega), hi.pal, fun h => absurd (id h) (by simp only; omega), hi.clear, by simp⟩
 | iend h4 => exact ⟨fun _ => hi.k (by omega), fun h => absurd (id h) (by simp only; omega), hi.pal, fun h => absurd (id h) (by simp only; omega), hi.clear, by simp⟩
 | other nm b h4 h0 =>
  refine ⟨fun _ => hi.k h0, fun h => hi.pal0 ?_, hi.pal, fun h => hi.clear0 ?_, hi.clear, by have := hi.le; simp only; split <;> omega⟩
  ·
   simp only at h; split at h <;> omega
  ·
   simp only at h; split at h <;> omega
theorem StepG.rest {s s' : RS} {nm b : List UInt8} (h : StepG s nm b s') : s'.rest.length ≤ s.rest.length + b.length := by
 cases h with
 | idat => simp only [List.length_append]; omega
 | _ => simp only; omega
structure Okay (s : RS) : Prop where
 k : Kinds s.ct s.dp
 W : s.W ≤ 16384
 H : s.H ≤ 16384
 WH : s.W * s.H ≤ 16384
 W1 : 1 ≤ s.W
 H1 : 1 ≤ s.H
structure FileG (data : List UInt8) (s : RS) (cs : List (List UInt8 × List UInt8)) (pos : Nat) : Prop where
 run : RunG cs RS.init s
 file : data.take pos = sig ++ cks cs
 le : pos ≤ data.length
 eight : pos = 8 + (cks cs).length
theorem four_be4 (l : List UInt8) (k : Nat) (h : k + 4 ≤ l.length) : four (be4 l k) = (l.drop k).take 4 := by
 have g : ∀ j, j < 4 → (l.drop k)[j]? = some (l.getD (k + j) 0) := fun j hj => by
  rw [List.getElem?_drop, List.getD_eq_getElem?_getD, List.getElem?_eq_getElem (by omega)]
  rfl
 have e : (l.drop k).take 4 = [l.getD k 0, l.getD (k + 1) 0, l.getD (k + 2) 0, l.getD (k + 3) 0] := by
  apply List.ext_getElem?
  intro j
  rw [List.getElem?_take]
  by_cases hj : j < 4
  ·
   rw [if_pos hj, g j hj]
   have : j = 0 ∨ j = 1 ∨ j = 2 ∨ j = 3 := by omega
   rcases this with rfl | rfl | rfl | rfl <;> rfl
  ·
   rw [if_neg hj]
   exact (List.getElem?_eq_none (by simp; omega)).symm
 rw [e]
 have h0 := nb_lt l k
 have h1 := nb_lt l (k + 1)
 have h2 := nb_lt l (k + 2)
 have h3 := nb_lt l (k + 3)
 have d : ∀ j, l.getD j 0 = UInt8.ofNat (nb l j) := fun j => by unfold nb; exact (UInt8.ofNat_toNat).symm
 have key : ∀ a b : Nat, a % 256 = b % 256 → UInt8.ofNat a = UInt8.ofNat b := fun a b h => by
  apply UInt8.toNat_inj.1
  simpa using h
 unfold four be4
 rw [d k, d (k + 1), d (k + 2), d (k + 3)]
 generalize nb l k = a at h0 ⊢
 generalize nb l (k + 1) = b at h1 ⊢
 generalize nb l (k + 2) = c at h2 ⊢
 generalize nb l (k + 3) = d at h3 ⊢
 have f0 : UInt8.ofNat ((((a * 256 + b) * 256 + c) * 256 + d) / 16777216) = UInt8.ofNat a := key _ _ (by omega)
 have f1 : UInt8.ofNat ((((a * 256 + b) * 256 + c) * 256 + d) / 65536) = UInt8.ofNat b := key _ _ (by omega)
 have f2 : UInt8.ofNat ((((a * 256 + b) * 256 + c) * 256 + d) / 256) = UInt8.ofNat c := key _ _ (by omega)
 have f3 : UInt8.ofNat (((a * 256 + b) * 256 + c) * 256 + d) = UInt8.ofNat d := key _ _ (by omega)
 rw [f0, f1, f2, f3]
theorem file_step (l : List UInt8) (k n : Nat) (h : k + 12 + n ≤ l.length) (hn : be4 l k = n) (hc : be4 l (k + 8 + n) = crc ((l.drop (k + 4)).take (4 + n))) :
  l.take (k + 12 + n) = l.take k ++ ck ((l.drop (k + 4)).take 4, (l.drop (k + 8)).take n) := by
 have e1 := four_be4 l k (by omega)
 have e2 := four_be4 l (k + 8 + n) (by omega)
 have e3 : (l.drop (k + 4)).take (4 + n) = (l.drop (k + 4)).take 4 ++ (l.drop (k + 8)).take n := by
  rw [List.take_add, List.drop_drop]
 have e4 : ((l.drop (k + 8)).take n).length = n := by rw [List.length_take, List.length_drop]; omega
 unfold ck
 simp only
 rw [e4, ← e3, ← hc, e2, ← hn, e1, hn, show k + 12 + n = k + (4 + (4 + (n + 4))) by omega, List.take_add, List.take_add, List.take_add, List.take_add, List.drop_drop, List.drop_drop, List.drop_drop]
theorem FileG.step {l : List UInt8} {s s' : RS} {cs : List (List UInt8 × List UInt8)} {k n : Nat} (hf : FileG l s cs k) (h : k + 12 + n ≤ l.length) (hn : be4 l k = n) (hc : be4 l (k + 8 + n) = crc ((l.drop (k + 4)).take (4 + n)))
  (hs : StepG s ((l.drop (k + 4)).take 4) ((l.drop (k + 8)).take n) s') : FileG l s' (cs ++ [((l.drop (k + 4)).take 4, (l.drop (k + 8)).take n)]) (k + 12 + n) := by
 refine ⟨hf.run.snoc hs, ?_, h, ?_⟩
 ·
  rw [file_step l k n h hn hc, hf.file, cks_append, List.append_assoc]
  congr 2
  rw [cks_cons, cks_nil, List.append_nil]
 ·
  rw [cks_append, cks_cons, cks_nil, List.append_nil, List.length_append, ck_length _ hs.len]
  have := hf.eight
  simp only [List.length_take, List.length_drop]
  omega
theorem FileG.init (l : List UInt8) (h : l.take 8 = sig) (hl : 8 ≤ l.length) : FileG l RS.init [] 8 := ⟨RunG.nil _, by rw [h]; rfl, hl, rfl⟩
def SmallQ (l : List UInt8) : Prop := l.length ≤ 262144 ∧ (24 ≤ l.length → be4 l 16 ≤ 16384 ∧ be4 l 20 ≤ 16384 ∧ be4 l 16 * be4 l 20 ≤ 16384)
theorem be4_append_right (a b : List UInt8) (k : Nat) : be4 (a ++ b) (a.length + k) = be4 b k := by
 unfold be4
 rw [Nat.add_assoc, Nat.add_assoc, Nat.add_assoc, nb_append_right, nb_append_right, nb_append_right, nb_append_right]
theorem be4_append_left (a b : List UInt8) (k : Nat) (h : k + 4 ≤ a.length) : be4 (a ++ b) k = be4 a k := by
 unfold be4
 rw [nb_append_left _ _ _ (by omega), nb_append_left _ _ _ (by omega), nb_append_left _ _ _ (by omega), nb_append_left _ _ _ (by omega)]
theorem RunG.inv {cs : List (List UInt8 × List UInt8)} {s : RS} (h : RunG cs RS.init s) : RInv s := by
 have : ∀ {cs : List (List UInt8 × List UInt8)} {s s' : RS}, RunG cs s s' → RInv s → RInv s' := by
  intro cs s s' h
  induction h with
  | nil s => exact id
  | cons c cs a b d h1 h2 ih => exact fun hi => ih (hi.step h1)
 exact this h RInv.init
theorem RunG.first {cs : List (List UInt8 × List UInt8)} {s : RS} (h : RunG cs RS.init s) (h0 : s.stage ≠ 0) : ∃ b cs', cs = (nIHDR, b) :: cs' ∧ b.length = 13 ∧ s.W = be4 b 0 ∧ s.H = be4 b 4 ∧ StepG RS.init nIHDR b ⟨be4 b 0, be4 b 4, nb b 8, nb b 9, nb b 12 == 1, [], [], 1, []⟩ ∧
  RunG cs' ⟨be4 b 0, be4 b 4, nb b 8, nb b 9, nb b 12 == 1, [], [], 1, []⟩ s := by
 cases h with
 | nil => exact absurd rfl h0
 | cons c cs' _ s1 _ h1 h2 =>
  obtain ⟨nm, b⟩ := c
  simp only at h1
  cases h1 with
  | ihdr b x0 hl hW hH hk h10 h11 h12 =>
   have := h2.shape (by simp)
   exact ⟨b, cs', rfl, hl, this.1, this.2.1, StepG.ihdr _ _ x0 hl hW hH hk h10 h11 h12, h2⟩
  | plte b x => exact absurd x (by decide)
  | trns b x => exact absurd x (by decide)
  | trns3 b x => exact absurd x (by decide)
  | idat b x => exact absurd rfl x
  | iend x => exact absurd x (by decide)
  | other nm b x4 x => exact absurd rfl x
theorem FileG.okay {l : List UInt8} {s : RS} {cs : List (List UInt8 × List UInt8)} {k : Nat} (hf : FileG l s cs k) (hm : SmallQ l) (h0 : s.stage ≠ 0) : Okay s := by
 obtain ⟨k1, k2, k3⟩ := hf.run.inv.k h0
 obtain ⟨b, cs', e, hl, hW, hH, _, _⟩ := hf.run.first h0
 subst e
 have hc4 := ck_length (nIHDR, b) rfl
 have h8 := hf.eight
 rw [cks_cons, List.length_append, hc4] at h8
 simp only at h8
 have hle := hf.le
 have hd : l = sig ++ (four b.length ++ (nIHDR ++ (b ++ (four (crc (nIHDR ++ b)) ++ (cks cs' ++ l.drop k))))) := by
  have := (List.take_append_drop k l).symm
  rw [hf.file, cks_cons] at this
  simpa only [ck, List.append_assoc] using this
 have e16 : ∀ j, j + 4 ≤ 13 → be4 l (16 + j) = be4 b j := fun j hj => by
  rw [hd, show 16 + j = sig.length + ((four b.length).length + (nIHDR.length + j)) by show 16 + j = 8 + (4 + (4 + j)); omega, be4_append_right, be4_append_right, be4_append_right, be4_append_left _ _ _ (by omega)]
 have w0 := e16 0 (by omega)
 have w4 := e16 4 (by omega)
 rw [Nat.add_zero] at w0
 obtain ⟨m1, m2, m3⟩ := hm.2 (by omega)
 rw [w0, ← hW] at m1 m3
 rw [w4, ← hH] at m2 m3
 exact ⟨k1, m1, m2, m3, k2, k3⟩
end Go.Proofs.YtnpkgmgedgcjmaaGreatDoor
end
