/- What a file of chunks is, in plain lists (no program in sight). -/
import Derived.Test.YtnpkgmgedgcjmaaGreatDoorDi
import Derived.Test.YtnpkgmgedgcjmaaGreatDoorDd
set_option linter.all false
namespace Go.Proofs.YtnpkgmgedgcjmaaGreatDoor
open Go Go.RowKit Png

/-- A chunk. -/
def ck (c : List UInt8 × List UInt8) : List UInt8 := four c.2.length ++ (c.1 ++ (c.2 ++ four (crc (c.1 ++ c.2))))
/-- Chunks, one behind the other. -/
def cks (l : List (List UInt8 × List UInt8)) : List UInt8 := l.flatMap ck

theorem four_length (n : Nat) : (four n).length = 4 := rfl
theorem ck_length (c : List UInt8 × List UInt8) (h : c.1.length = 4) : (ck c).length = 12 + c.2.length := by
  simp [ck, four_length, h]; omega
theorem cks_nil : cks [] = [] := rfl
theorem cks_cons (c : List UInt8 × List UInt8) (l : List (List UInt8 × List UInt8)) : cks (c :: l) = ck c ++ cks l := by simp [cks]
theorem cks_append (a b : List (List UInt8 × List UInt8)) : cks (a ++ b) = cks a ++ cks b := by simp [cks]

theorem nb_append_right (a b : List UInt8) (k : Nat) : nb (a ++ b) (a.length + k) = nb b k := by
  unfold nb
  rw [List.getD_eq_getElem?_getD, List.getD_eq_getElem?_getD, List.getElem?_append_right (by omega)]
  congr 3; omega
theorem nb_append_left (a b : List UInt8) (k : Nat) (h : k < a.length) : nb (a ++ b) k = nb a k := by
  unfold nb
  rw [List.getD_eq_getElem?_getD, List.getD_eq_getElem?_getD, List.getElem?_append_left h]

theorem nb_four (n k : Nat) (hn : n < 65536) : nb (four n) 2 * 256 + nb (four n) 3 = n := by
  simp [nb, four]; omega

/-- The head of a chunk that stands behind something. -/
theorem ck_at (pre : List UInt8) (c : List UInt8 × List UInt8) (rest : List UInt8) (h4 : c.1.length = 4) (hn : c.2.length < 65536) :
    nb (pre ++ (ck c ++ rest)) (pre.length + 2) * 256 + nb (pre ++ (ck c ++ rest)) (pre.length + 3) = c.2.length ∧
    ((pre ++ (ck c ++ rest)).drop (pre.length + 4)).take 4 = c.1 := by
  constructor
  · rw [nb_append_right, nb_append_right]
    have e : ∀ k, k < 4 → nb (ck c ++ rest) k = nb (four c.2.length) k := fun k hk => by
      unfold ck
      rw [List.append_assoc, nb_append_left _ _ k (by rw [four_length]; exact hk)]
    rw [e 2 (by omega), e 3 (by omega)]
    exact nb_four _ 0 hn
  · rw [← List.drop_drop, List.drop_left]
    unfold ck
    rw [List.append_assoc, show (4 : Nat) = (four c.2.length).length from rfl, List.drop_left]
    rw [show (four c.2.length).length = c.1.length by rw [h4]; rfl, List.append_assoc, List.take_left]

def palBytes (ds : List Q4) : List UInt8 := ds.flatMap fun d => [UInt8.ofNat (d.r / 257), UInt8.ofNat (d.g / 257), UInt8.ofNat (d.b / 257)]
def aBytes (ds : List Q4) : List UInt8 := ds.map fun d => UInt8.ofNat (d.a / 257)
def clrBytes (cs : List Nat) : List UInt8 := cs.flatMap fun v => [UInt8.ofNat (v / 256), UInt8.ofNat v]
def anyA (ds : List Q4) : Bool := ds.any fun d => d.a != 65535
def h13 (W H dp ct il : Nat) : List UInt8 := four W ++ (four H ++ [UInt8.ofNat dp, UInt8.ofNat ct, 0, 0, UInt8.ofNat il])
/-- The chunks between the head and the packed bytes. -/
def mids (ds : List Q4) (cs : List Nat) : List (List UInt8 × List UInt8) :=
  (if ds.isEmpty then [] else [(nPLTE, palBytes ds)]) ++ ((if anyA ds then [(ntRNS, aBytes ds)] else []) ++ (if cs.isEmpty then [] else [(ntRNS, clrBytes cs)]))
/-- A file that the reference writes. -/
def fileOf (W H dp ct il : Nat) (ds : List Q4) (cs : List Nat) (packed : List UInt8) : List UInt8 :=
  sig ++ (cks ((nIHDR, h13 W H dp ct il) :: mids ds cs) ++ (ck (nIDAT, packed) ++ ck (nIEND, [])))

theorem palBytes_length (ds : List Q4) : (palBytes ds).length = 3 * ds.length := by
  induction ds with
  | nil => rfl
  | cons d ds ih => simp [palBytes] at ih ⊢; omega
theorem aBytes_length (ds : List Q4) : (aBytes ds).length = ds.length := by simp [aBytes]

theorem h13_facts (W H dp ct il : Nat) (hW : W < 4294967296) (hH : H < 4294967296) (hd : dp < 256) (hc : ct < 256) (hi : il < 256) :
    (h13 W H dp ct il).length = 13 ∧ be4 (h13 W H dp ct il) 0 = W ∧ be4 (h13 W H dp ct il) 4 = H ∧ nb (h13 W H dp ct il) 8 = dp ∧ nb (h13 W H dp ct il) 9 = ct ∧
      nb (h13 W H dp ct il) 10 = 0 ∧ nb (h13 W H dp ct il) 11 = 0 ∧ nb (h13 W H dp ct il) 12 = il := by
  refine ⟨rfl, ?_, ?_, ?_, ?_, rfl, rfl, ?_⟩
  · simp [h13, be4, nb, four]; omega
  · simp [h13, be4, nb, four]; omega
  · simp [h13, nb, four]; omega
  · simp [h13, nb, four]; omega
  · simp [h13, nb, four]; omega

def palR (ds : List Q4) (k : Nat) : Nat := nb (palBytes ds) (3 * k)
def palG (ds : List Q4) (k : Nat) : Nat := nb (palBytes ds) (3 * k + 1)
def palU (ds : List Q4) (k : Nat) : Nat := nb (palBytes ds) (3 * k + 2)
def palA (ds : List Q4) (k : Nat) : Nat := if anyA ds then nb (aBytes ds) k else 255

/-- A file, and the file cut off behind the name of its packed bytes, tell one head. -/
theorem head_file (W H dp ct il m : Nat) (ds : List Q4) (cs : List Nat) (rest : List UInt8) (hk : Kinds ct dp) (hi : il = 0 ∨ il = 1) (hW : 0 < W) (hW2 : W ≤ 16384) (hH : 0 < H) (hH2 : H ≤ 16384)
    (h3 : ct = 3 → 0 < ds.length ∧ ds.length ≤ 2 ^ dp ∧ cs = []) (hn3 : ct ≠ 3 → ds = []) (hm : m < 4294967296) :
    Head (sig ++ (cks ((nIHDR, h13 W H dp ct il) :: mids ds cs) ++ ((four m ++ nIDAT) ++ rest))) ct dp W H ds.length (palR ds) (palG ds) (palU ds) (palA ds) := by
  have hdp : dp < 256 ∧ ct < 256 := by unfold Kinds at hk; omega
  obtain ⟨f0, f1, f2, f3, f4, f5, f6, f7⟩ := h13_facts W H dp ct il (by omega) (by omega) hdp.1 hdp.2 (by omega)
  refine ⟨h13 W H dp ct il, il, f0, f1, f2, f3, f4, f5, f6, f7, hi, hk, hW, hH, hW2, hH2, ?_⟩
  by_cases hc : ct = 3
  · obtain ⟨g1, g2, rfl⟩ := h3 hc
    have he : ds.isEmpty = false := by
      cases ds with
      | nil => simp at g1
      | cons a l => rfl
    right
    by_cases ha : anyA ds = true
    · right
      refine ⟨hc, g1, g2, palBytes ds, aBytes ds, (four m ++ nIDAT) ++ rest, palBytes_length ds, by rw [aBytes_length]; exact g1, by rw [aBytes_length]; exact Nat.le_refl _, ?_, fun k hk => ⟨rfl, rfl, rfl, ?_⟩⟩
      · simp only [cks_cons, mids, he, ha, if_true, List.isEmpty_nil, cks_append, cks_nil, List.append_nil, ck, f0, palBytes_length, aBytes_length, List.append_assoc, Bool.false_eq_true, if_false, List.cons_append, List.nil_append]
      · unfold palA; rw [if_pos ha, if_pos (by rw [aBytes_length]; exact hk)]
    · left
      have ha' : anyA ds = false := by simpa using ha
      refine ⟨hc, g1, g2, palBytes ds, m, rest, palBytes_length ds, hm, ?_, fun k hk => ⟨rfl, rfl, rfl, ?_⟩⟩
      · simp only [cks_cons, mids, he, ha', if_true, List.isEmpty_nil, cks_append, cks_nil, List.append_nil, ck, f0, palBytes_length, List.append_assoc, Bool.false_eq_true, if_false, List.cons_append, List.nil_append]
      · unfold palA; rw [if_neg (by rw [ha']; simp)]
  · left
    obtain rfl := hn3 hc
    refine ⟨hc, rfl, cks (mids [] cs) ++ ((four m ++ nIDAT) ++ rest), ?_⟩
    simp only [cks_cons, ck, f0, List.append_assoc]

theorem fileOf_eq (W H dp ct il : Nat) (ds : List Q4) (cs : List Nat) (packed : List UInt8) :
    fileOf W H dp ct il ds cs packed = sig ++ (cks ((nIHDR, h13 W H dp ct il) :: mids ds cs) ++ ((four packed.length ++ nIDAT) ++ (packed ++ (four (crc (nIDAT ++ packed)) ++ ck (nIEND, []))))) := by
  simp only [fileOf, ck, List.append_assoc]

theorem take_file (W H dp ct il : Nat) (ds : List Q4) (cs : List Nat) (packed : List UInt8) :
    (fileOf W H dp ct il ds cs packed).take ((sig ++ cks ((nIHDR, h13 W H dp ct il) :: mids ds cs)).length + 8) = sig ++ (cks ((nIHDR, h13 W H dp ct il) :: mids ds cs) ++ ((four packed.length ++ nIDAT) ++ [])) := by
  rw [fileOf_eq, ← List.append_assoc sig, List.take_length_add_append, ← List.append_assoc sig]
  congr 1
end Go.Proofs.YtnpkgmgedgcjmaaGreatDoor
