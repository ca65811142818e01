/- A part of the proof: E3. -/
import Derived.Test.YtnpkgmgedgcjmaaGreatDoorZE1
import Derived.Test.YtnpkgmgedgcjmaaGreatDoorZPx7
set_option linter.all false
section
namespace Go.Proofs.YtnpkgmgedgcjmaaGreatDoor
open Go Go.RowKit Go.Proofs.YtnpkgmgedgcjmaaGreatDoorW.PrintWords Go.Proofs.YtnpkgmgedgcjmaaGreatDoorW.PrintMore Go.Proofs.YtnpkgmgedgcjmaaGreatDoor.Pr
def toldEnd (s : List Int) (n : Nat) (ls : List Nat) (at_ : Nat) : List Nat × Nat × Nat :=
 if n < ls.length then ([], 1, at_) else if 8 * s.length < at_ then ([], 1, at_) else (ls, 0, at_)
def toldM (cs li : List Nat) (s : List Int) (n : Nat) : Nat → List Nat → Nat → List Nat × Nat × Nat
 | 0, ls, at_ => toldEnd s n ls at_
 | d + 1, ls, at_ =>
  if ls.length < n then
   match readC cs li s at_ with
   | (none, a) => ([], 1, a)
   | (some x, a) =>
    if 8 * s.length < a then ([], 1, a)
    else if x = 16 then (if ls.length = 0 then ([], 1, a) else toldM cs li s n d (ls ++ List.replicate (3 + numAt s a 2) (ls.getD (ls.length - 1) 0)) (a + 2))
    else if x = 17 then toldM cs li s n d (ls ++ List.replicate (3 + numAt s a 3) 0) (a + 3)
    else if x = 18 then toldM cs li s n d (ls ++ List.replicate (11 + numAt s a 7) 0) (a + 7)
    else toldM cs li s n d (ls ++ [x]) a
  else toldEnd s n ls at_
def toldC (cs li : List Nat) (s : List Int) (n at_ : Nat) : List Nat × Nat × Nat := toldM cs li s n n [] at_
theorem toldEnd_facts (s : List Int) (n : Nat) (ls : List Nat) (at_ : Nat) : (toldEnd s n ls at_).2.2 = at_ ∧ ((toldEnd s n ls at_).2.1 = 0 → (toldEnd s n ls at_).1 = ls ∧ ls.length ≤ n ∧ at_ ≤ 8 * s.length) ∧ (toldEnd s n ls at_).2.1 ≤ 1 := by
 unfold toldEnd
 split
 ·
  simp
 ·
  split
  ·
   simp
  ·
   simp; omega
theorem toldM_facts {cs li : List Nat} (hc : Code cs li 19) (s : List Int) (n : Nat) : ∀ d ls at_, n ≤ d + ls.length → (∀ x ∈ ls, x < 16) →
  (toldM cs li s n d ls at_).2.1 ≤ 1 ∧ at_ ≤ (toldM cs li s n d ls at_).2.2 ∧ (toldM cs li s n d ls at_).2.2 ≤ at_ + 22 * d ∧
   ((toldM cs li s n d ls at_).2.1 = 0 → (toldM cs li s n d ls at_).1.length = n ∧ (∀ x ∈ (toldM cs li s n d ls at_).1, x < 16) ∧ (toldM cs li s n d ls at_).2.2 ≤ 8 * s.length) := by
 intro d
 induction d with
 | zero =>
  intro ls at_ hd hx
  simp only [toldM]
  obtain ⟨h1, h2, h3⟩ := toldEnd_facts s n ls at_
  refine ⟨h3, by omega, by omega, fun h0 => ?_⟩
  obtain ⟨a, b, c⟩ := h2 h0
  rw [a, h1]
  exact ⟨by omega, hx, c⟩
 | succ d ih =>
  intro ls at_ hd hx
  simp only [toldM]
  by_cases hl : ls.length < n
  ·
   rw [if_pos hl]
   have ha := readC_at cs li s at_
   have hlt := readC_lt hc s at_
   generalize readC cs li s at_ = rc at ha hlt ⊢
   obtain ⟨o, a⟩ := rc
   simp only at ha hlt
   cases o with
   | none => simp; omega
   | some x =>
    have hx19 := hlt x rfl
    simp only
    have app : ∀ (m v : Nat), v < 16 → ∀ y ∈ ls ++ List.replicate m v, y < 16 := by
     intro m v hv y hy
     rcases List.mem_append.1 hy with h | h
     ·
      exact hx y h
     ·
      rw [(List.mem_replicate.1 h).2]; exact hv
    split
    ·
     simp; omega
    ·
     split
     ·
      split
      ·
       simp; omega
      ·
       rename_i h0
       have hv : ls.getD (ls.length - 1) 0 < 16 := by
        rw [List.getD_eq_getElem?_getD, List.getElem?_eq_getElem (by omega)]
        exact hx _ (List.getElem_mem (by omega))
       obtain ⟨i1, i2, i3, i4⟩ := ih (ls ++ List.replicate (3 + numAt s a 2) (ls.getD (ls.length - 1) 0)) (a + 2) (by simp; omega) (app _ _ hv)
       exact ⟨i1, by omega, by omega, i4⟩
     ·
      split
      ·
       obtain ⟨i1, i2, i3, i4⟩ := ih (ls ++ List.replicate (3 + numAt s a 3) 0) (a + 3) (by simp; omega) (app _ _ (by omega))
       exact ⟨i1, by omega, by omega, i4⟩
      ·
       split
       ·
        obtain ⟨i1, i2, i3, i4⟩ := ih (ls ++ List.replicate (11 + numAt s a 7) 0) (a + 7) (by simp; omega) (app _ _ (by omega))
        exact ⟨i1, by omega, by omega, i4⟩
       ·
        obtain ⟨i1, i2, i3, i4⟩ := ih (ls ++ [x]) a (by simp; omega) (app 1 x (by omega))
        exact ⟨i1, by omega, by omega, i4⟩
  ·
   rw [if_neg hl]
   obtain ⟨h1, h2, h3⟩ := toldEnd_facts s n ls at_
   refine ⟨h3, by omega, by omega, fun h0 => ?_⟩
   obtain ⟨a, b, c⟩ := h2 h0
   rw [a, h1]
   exact ⟨by omega, hx, c⟩
section
variable {cs li : List Nat}
def tri (r : List Nat × Nat × Nat) : List Int × Int × Int := (nats r.1, (r.2.1 : Int), (r.2.2 : Int))
theorem told_end (s : List Int) (hl : s.length ≤ 1099511627776) (n : Nat) (hn : n ≤ 1000) (ls : List Nat) (at_ : Nat) (h : ¬ ls.length < n) : Ev (fun k => spec_told.l0 k (n : Int) (nats ls) s (at_ : Int) (nats cs) (nats li)) (tri (toldEnd s n ls at_)) := by
 refine Ev.step (f := fun _ => some (tri (toldEnd s n ls at_))) (fun k => ?_) (Ev.now _)
 simp only [spec_told.l0, nats_length]
 rw [if_neg (by omega)]
 unfold toldEnd
 by_cases h1 : n < ls.length
 ·
  rw [if_pos (by omega), if_pos h1]; rfl
 ·
  rw [if_neg (by omega), if_neg h1, short_f s hl]
  simp only [Option.bind_some]
  by_cases h2 : 8 * s.length < at_
  ·
   rw [if_pos (by simpa using h2), if_pos h2]; rfl
  ·
   rw [if_neg (by simpa using h2), if_neg h2]; rfl
theorem told_push (s : List Int) (n : Nat) (hn : n ≤ 1000) {r : List Int × Int × Int} (v t : Nat) (ls : List Nat) (at_ : Nat) (hls : ls.length ≤ 2000) (ht : t ≤ 200) (h : Ev (fun k => spec_told.l0 k (n : Int) (nats (ls ++ List.replicate t v)) s (at_ : Int) (nats cs) (nats li)) r) : ∀ d j : Nat, j + d = t →
  Ev (fun k => spec_told.l1 k (n : Int) (nats (ls ++ List.replicate j v)) (v : Int) (t : Int) (j : Int) s (at_ : Int) (nats cs) (nats li)) r := by
 intro d
 induction d with
 | zero =>
  intro j hj
  obtain rfl : j = t := by omega
  refine Ev.step (fun k => ?_) h
  simp only [spec_told.l1]
  rw [if_neg (by omega)]
 | succ d ih =>
  intro j hj
  refine Ev.step (fun k => ?_) (ih (j + 1) (by omega))
  have e1 : wrap64 ((j : Int) + 1) = ((j + 1 : Nat) : Int) := by unfold wrap64; omega
  simp only [spec_told.l1]
  rw [if_pos (by omega), if_pos (by rw [nats_length, List.length_append, List.length_replicate]; omega), e1]
  congr 1
  rw [List.replicate_succ', ← List.append_assoc, nats_append (ls ++ _) [v]]
  rfl
theorem told_j2 (s : List Int) (n : Nat) (hn : n ≤ 1000) {r : List Int × Int × Int} (v t : Nat) (ls : List Nat) (at_ : Nat) (hls : ls.length ≤ 2000) (ht : t ≤ 200) (h : Ev (fun k => spec_told.l0 k (n : Int) (nats (ls ++ List.replicate t v)) s (at_ : Int) (nats cs) (nats li)) r) :
  Ev (fun k => spec_told.j2 k (n : Int) (nats ls) (v : Int) (t : Int) s (at_ : Int) (nats cs) (nats li)) r := by
 have := told_push s n hn v t ls at_ hls ht h t 0 (by omega)
 refine Ev.step (fun k => ?_) this
 simp only [spec_told.j2, List.replicate_zero, List.append_nil]
 rfl
theorem told_bad (s : List Int) (hl : s.length ≤ 1099511627776) (n : Nat) (ls : List Nat) (x : Int) (a : Nat) : Ev (fun k => spec_told.j1 k (n : Int) (nats ls) x true s (a : Int) (nats cs) (nats li)) (tri ([], 1, a)) := by
 refine Ev.step (f := fun _ => some (tri ([], 1, a))) (fun k => ?_) (Ev.now _)
 simp only [spec_told.j1]
 rw [if_pos trivial]
 rfl
theorem told_go (hc : Code cs li 19) (s : List Int) (hs : Byt s) (hl : s.length ≤ 1099511627776) (n : Nat) (hn : n ≤ 1000) {r : List Int × Int × Int} (ls : List Nat) (at_ : Nat) (o : Option Nat) (a : Nat) (hat : at_ ≤ 4398046511104) (hrc : readC cs li s at_ = (o, a)) (hlt : ls.length < n)
  (h : Ev (fun k => spec_told.j1 k (n : Int) (nats ls) (symI o) (match o with | none => true | some _ => decide (8 * s.length < a)) s (a : Int) (nats cs) (nats li)) r) :
  Ev (fun k => spec_told.l0 k (n : Int) (nats ls) s (at_ : Int) (nats cs) (nats li)) r := by
 have hr := read_f hc s hs hl at_ (by omega)
 rw [hrc] at hr
 simp only at hr
 have hE : Ev (fun k => spec_prefix_read.f k (nats cs) (nats li) s (at_ : Int)) (symI o, (a : Int)) := Ev.of (spec_prefix_read.mono _ _ _ _) hr
 refine Ev.step (f := fun k => (spec_prefix_read.f k (nats cs) (nats li) s (at_ : Int)).bind fun bt278 => (if bt278.1 < 0 then (spec_told.j1 k (n : Int) (nats ls) bt278.1 true s bt278.2 (nats cs) (nats li)) else ((spec_bits_short.f s bt278.2).bind fun bt280 => (spec_told.j1 k (n : Int) (nats ls) bt278.1 bt280.1 s bt280.2 (nats cs) (nats li))))) (fun k => ?_) ?_
 ·
  simp only [spec_told.l0, nats_length]
  rw [if_pos (by omega)]
 ·
  refine Ev.bind hE ?_
  cases o with
  | none => exact Ev.congr (fun k => if_pos (show symI none < 0 by decide)) h
  | some x =>
   refine Ev.congr (fun k => (if_neg (show ¬ symI (some x) < 0 from Int.not_lt.2 (Int.natCast_nonneg x))).trans ?_) h
   show (spec_bits_short.f s (a : Int)).bind _ = _
   rw [short_f s hl]
   rfl
theorem told_16 (s : List Int) (hs : Byt s) (hl : s.length ≤ 1099511627776) (n : Nat) (hn : n ≤ 1000) {r : List Int × Int × Int} (ls : List Nat) (a : Nat) (ha : a ≤ 8796093022208) (hls : ls.length ≤ 2000)
  (h0 : ls.length = 0 → r = tri ([], 1, a))
  (h : ls.length ≠ 0 → Ev (fun k => spec_told.l0 k (n : Int) (nats (ls ++ List.replicate (3 + numAt s a 2) (ls.getD (ls.length - 1) 0))) s ((a + 2 : Nat) : Int) (nats cs) (nats li)) r) :
  Ev (fun k => spec_told.j1 k (n : Int) (nats ls) ((16 : Nat) : Int) false s (a : Int) (nats cs) (nats li)) r := by
 by_cases hz : ls.length = 0
 ·
  rw [h0 hz]
  refine Ev.step (f := fun _ => some (tri ([], 1, a))) (fun k => ?_) (Ev.now _)
  simp only [spec_told.j1, nats_length]
  rw [if_neg (by decide), if_pos (by decide), if_pos (by omega)]
  rfl
 ·
  have h := h hz
  have hm1 := numAt_lt s a 2
  have hE2 : Ev (fun k => spec_bits_many.f k s (a : Int) 2) ((numAt s a 2 : Nat), ((a + 2 : Nat) : Int)) := Ev.of (spec_bits_many.mono _ _ _) (many_f s hs hl 2 a (by omega) (by omega))
  refine Ev.step (f := fun k => (spec_bits_many.f k s (a : Int) 2).bind fun bt283 => (spec_told.j2 k (n : Int) (nats ls) ((ls.getD (ls.length - 1) 0 : Nat) : Int) (wrap64 (3 + bt283.1)) s bt283.2 (nats cs) (nats li))) (fun k => ?_) ?_
  ·
   have e1 : wrap64 ((ls.length : Int) - 1) = ((ls.length - 1 : Nat) : Int) := wrap_subN ls.length 1 (by omega) (by omega)
   simp only [spec_told.j1, nats_length]
   rw [if_neg (by decide), if_pos (by decide), if_neg (by omega), e1, if_pos (Int.natCast_nonneg _), if_pos (by omega), rd_nats]
  ·
   refine Ev.bind hE2 ?_
   have e2 : wrap64 (3 + ((numAt s a 2 : Nat) : Int)) = ((3 + numAt s a 2 : Nat) : Int) := wrap_add 3 _ (by omega)
   simp only [e2]
   exact told_j2 s n hn _ _ ls (a + 2) hls (by omega) h
theorem told_17 (s : List Int) (hs : Byt s) (hl : s.length ≤ 1099511627776) (n : Nat) (hn : n ≤ 1000) {r : List Int × Int × Int} (ls : List Nat) (a : Nat) (ha : a ≤ 8796093022208) (hls : ls.length ≤ 2000)
  (h : Ev (fun k => spec_told.l0 k (n : Int) (nats (ls ++ List.replicate (3 + numAt s a 3) 0)) s ((a + 3 : Nat) : Int) (nats cs) (nats li)) r) :
  Ev (fun k => spec_told.j1 k (n : Int) (nats ls) ((17 : Nat) : Int) false s (a : Int) (nats cs) (nats li)) r := by
 have hm1 := numAt_lt s a 3
 have hE2 : Ev (fun k => spec_bits_many.f k s (a : Int) 3) ((numAt s a 3 : Nat), ((a + 3 : Nat) : Int)) := Ev.of (spec_bits_many.mono _ _ _) (many_f s hs hl 3 a (by omega) (by omega))
 refine Ev.step (f := fun k => (spec_bits_many.f k s (a : Int) 3).bind fun bt283 => (spec_told.j2 k (n : Int) (nats ls) ((0 : Nat) : Int) (wrap64 (3 + bt283.1)) s bt283.2 (nats cs) (nats li))) (fun k => ?_) ?_
 ·
  simp only [spec_told.j1, nats_length]
  rw [if_neg (by decide), if_neg (by decide), if_pos (by decide)]
  rfl
 ·
  refine Ev.bind hE2 ?_
  have e2 : wrap64 (3 + ((numAt s a 3 : Nat) : Int)) = ((3 + numAt s a 3 : Nat) : Int) := wrap_add 3 _ (by omega)
  simp only [e2]
  exact told_j2 s n hn _ _ ls (a + 3) hls (by omega) h
theorem told_18 (s : List Int) (hs : Byt s) (hl : s.length ≤ 1099511627776) (n : Nat) (hn : n ≤ 1000) {r : List Int × Int × Int} (ls : List Nat) (a : Nat) (ha : a ≤ 8796093022208) (hls : ls.length ≤ 2000)
  (h : Ev (fun k => spec_told.l0 k (n : Int) (nats (ls ++ List.replicate (11 + numAt s a 7) 0)) s ((a + 7 : Nat) : Int) (nats cs) (nats li)) r) :
  Ev (fun k => spec_told.j1 k (n : Int) (nats ls) ((18 : Nat) : Int) false s (a : Int) (nats cs) (nats li)) r := by
 have hm1 := numAt_lt s a 7
 have hE2 : Ev (fun k => spec_bits_many.f k s (a : Int) 7) ((numAt s a 7 : Nat), ((a + 7 : Nat) : Int)) := Ev.of (spec_bits_many.mono _ _ _) (many_f s hs hl 7 a (by omega) (by omega))
 refine Ev.step (f := fun k => (spec_bits_many.f k s (a : Int) 7).bind fun bt283 => (spec_told.j2 k (n : Int) (nats ls) ((0 : Nat) : Int) (wrap64 (11 + bt283.1)) s bt283.2 (nats cs) (nats li))) (fun k => ?_) ?_
 ·
  simp only [spec_told.j1, nats_length]
  rw [if_neg (by decide), if_neg (by decide), if_neg (by decide), if_pos (by decide)]
  rfl
 ·
  refine Ev.bind hE2 ?_
  have e2 : wrap64 (11 + ((numAt s a 7 : Nat) : Int)) = ((11 + numAt s a 7 : Nat) : Int) := wrap_add 11 _ (by omega)
  simp only [e2]
  exact told_j2 s n hn _ _ ls (a + 7) hls (by omega) h
theorem told_lit (s : List Int) (n : Nat) (hn : n ≤ 1000) {r : List Int × Int × Int} (ls : List Nat) (x a : Nat) (hls : ls.length ≤ 2000) (h16 : x ≠ 16) (h17 : x ≠ 17) (h18 : x ≠ 18)
  (h : Ev (fun k => spec_told.l0 k (n : Int) (nats (ls ++ [x])) s (a : Int) (nats cs) (nats li)) r) :
  Ev (fun k => spec_told.j1 k (n : Int) (nats ls) (x : Int) false s (a : Int) (nats cs) (nats li)) r := by
 have h1 := told_j2 (cs := cs) (li := li) s n hn x 1 ls a hls (by omega) h
 refine Ev.step (fun k => ?_) h1
 simp only [spec_told.j1, nats_length]
 rw [if_neg (by decide), if_neg (by omega), if_neg (by omega), if_neg (by omega)]
 rfl
theorem told_ev (hc : Code cs li 19) (s : List Int) (hs : Byt s) (hl : s.length ≤ 1099511627776) (n : Nat) (hn : n ≤ 1000) : ∀ d ls at_, n ≤ d + ls.length → (∀ x ∈ ls, x < 16) → at_ + 22 * d ≤ 4398046511104 → ls.length ≤ 2000 →
  Ev (fun k => spec_told.l0 k (n : Int) (nats ls) s (at_ : Int) (nats cs) (nats li)) (tri (toldM cs li s n d ls at_)) := by
 intro d
 induction d with
 | zero =>
  intro ls at_ hd hx hat hll
  simp only [toldM]
  exact told_end s hl n hn ls at_ (by omega)
 | succ d ih =>
  intro ls at_ hd hx hat hll
  simp only [toldM]
  by_cases hlt : ls.length < n
  ·
   rw [if_pos hlt]
   have ha := readC_at cs li s at_
   have hlt19 := readC_lt hc s at_
   generalize hrc : readC cs li s at_ = rc at ha hlt19 ⊢
   obtain ⟨o, a⟩ := rc
   simp only at ha hlt19
   refine told_go hc s hs hl n hn ls at_ o a (by omega) hrc hlt ?_
   cases o with
   | none => exact told_bad s hl n ls _ a
   | some x =>
    have hx19 := hlt19 x rfl
    have hm1 := numAt_lt s a 2
    have hm2 := numAt_lt s a 3
    have hm3 := numAt_lt s a 7
    have app : ∀ (m v : Nat), v < 16 → ∀ y ∈ ls ++ List.replicate m v, y < 16 := by
     intro m v hv y hy
     rcases List.mem_append.1 hy with h | h
     ·
      exact hx y h
     ·
      rw [(List.mem_replicate.1 h).2]; exact hv
    simp only
    by_cases hsh : 8 * s.length < a
    ·
     rw [if_pos hsh, decide_eq_true hsh]
     exact told_bad s hl n ls _ a
    ·
     rw [if_neg hsh, decide_eq_false hsh]
     by_cases h16 : x = 16
     ·
      subst h16
      rw [if_pos rfl]
      refine told_16 s hs hl n hn ls a (by omega) hll (fun hz => by rw [if_pos hz]) (fun hz => ?_)
      rw [if_neg hz]
      have hv : ls.getD (ls.length - 1) 0 < 16 := by
       rw [List.getD_eq_getElem?_getD, List.getElem?_eq_getElem (by omega)]
       exact hx _ (List.getElem_mem (by omega))
      exact ih _ _ (by simp; omega) (app _ _ hv) (by omega) (by simp; omega)
     ·
      rw [if_neg h16]
      by_cases h17 : x = 17
      ·
       subst h17
       rw [if_pos rfl]
       exact told_17 s hs hl n hn ls a (by omega) hll (ih _ _ (by simp; omega) (app _ _ (by omega)) (by omega) (by simp; omega))
      ·
       rw [if_neg h17]
       by_cases h18 : x = 18
       ·
        subst h18
        rw [if_pos rfl]
        exact told_18 s hs hl n hn ls a (by omega) hll (ih _ _ (by simp; omega) (app _ _ (by omega)) (by omega) (by simp; omega))
       ·
        rw [if_neg h18]
        exact told_lit s n hn ls x a hll h16 h17 h18 (ih (ls ++ [x]) a (by simp; omega) (app 1 x (by omega)) (by omega) (by simp; omega))
  ·
   rw [if_neg hlt]
   exact told_end s hl n hn ls at_ hlt
end
theorem told_f {cs li : List Nat} (hc : Code cs li 19) (s : List Int) (hs : Byt s) (hl : s.length ≤ 1099511627776) (n : Nat) (hn : n ≤ 1000) (at_ : Nat) (hat : at_ ≤ 2199023255552) :
  ∃ k, spec_told.f k s (at_ : Int) (nats cs) (nats li) (n : Int) = some (nats (toldC cs li s n at_).1, (((toldC cs li s n at_).2.1 : Nat) : Int), (((toldC cs li s n at_).2.2 : Nat) : Int)) :=
 (told_ev hc s hs hl n hn n [] at_ (by simp) (fun x h => by cases h) (by omega) (by simp)).rounds
theorem told_c {w0 w : World} {g : Nat} {s : List Int} {cs li : List Nat} {base : Nat} {vc vl : Value} (hc : Code cs li 19) (hs : Byt s) (hl : s.length ≤ 1099511627776) (n : Nat) (hn : n ≤ 1000) (at_ : Nat) (hat : at_ ≤ 2199023255552) (hI : IsS229 w0 w g s (at_ : Int)) (hB : Below w0.heap.size w0 w) (hC : CodeAt w g base vc vl cs li) :
  Calls Tryz.prog 131 #[.pointer (some ⟨g, 0, none⟩), .agg #[vc, vl], .int .i64 (n : Int)] w fun e w' => ∃ v : Value, e = .returned (.tuple #[v, .int .i64 (((toldC cs li s n at_).2.1 : Nat) : Int)]) ∧ Kd.R (Kd.int .i64) 3 w' w.heap.size (fun _ => True) v (nats (toldC cs li s n at_).1) ∧
   IsS229 w0 w' g s (((toldC cs li s n at_).2.2 : Nat) : Int) ∧ Below w0.heap.size w0 w' ∧ KeepBut w w' g none := by
 obtain ⟨A, c, B, d, rfl, rfl, h1, h2, h3, h4, h5, h6⟩ := hC.slices
 obtain ⟨k, hk⟩ := told_f hc s hs hl n hn at_ hat
 exact spec_told.calls k g s at_ A c (nats cs) B d (nats li) n _ _ _ w0 w hI hB h3 h1 h5 h4 h2 h6 hk
theorem prefixOf_c {w : World} {ls : List Nat} (hL : ls.length ≤ 1000) (hv : ∀ j, ls.getD j 0 < 16) (A : Option Addr) (c : Nat) (hc : ls.length ≤ c) (hr : Kd.C (Kd.int .i64) w A (nats ls).length (nats ls)) :
  Calls Tryz.prog 129 #[.slice A ls.length c] w fun e w' => ∃ (v0 v1 : Value) (li : List Nat) (left : Int), e = .returned (.tuple #[.agg #[v0, v1], .int .i64 left]) ∧
   Kd.R (Kd.int .i64) 3 w' w.heap.size (fun k => some k ≠ v1.ownBlock) v0 (nats (cntOf ls ls.length)) ∧ Kd.R (Kd.int .i64) 3 w' w.heap.size (fun k => some k ≠ v0.ownBlock) v1 (nats li) ∧ Below w.heap.size w w' ∧
   ((left = -1 ∧ (∃ j, j < 15 ∧ leftTo ls (j + 1) < 0)) ∨ (li = listTo ls 15 ∧ left = leftTo ls 15 ∧ ∀ j, j ≤ 15 → 0 ≤ leftTo ls j)) := by
 obtain ⟨k, li, left, hf, hcase⟩ := prefixOf_f hL hv
 have h := spec_prefixOf.calls k A c (nats ls) _ _ _ w hr (by rw [nats_length]; exact hc) hf
 rw [nats_length] at h
 refine h.mono ?_
 rintro e w' ⟨v0, v1, rfl, h0, h1, hb⟩
 refine ⟨v0, v1, li, left, rfl, h0, h1, hb, ?_⟩
 rcases hcase with ⟨a, b, _⟩ | h
 ·
  exact .inl ⟨a, b⟩
 ·
  exact .inr h
end Go.Proofs.YtnpkgmgedgcjmaaGreatDoor
end
