/- The last step of each statement: a call that leaves what it met as it was: its arguments, its variables read as they did; the table of the sums out of the condition. -/
import Derived.Test.YtnpkgmgedgcjmaaGreatDoorRows
import Derived.Test.YtnpkgmgedgcjmaaGreatDoorMem
import Derived.Test.YtnpkgmgedgcjmaaGreatDoorCrc
import Derived.Below
import Derived.ChangeSame
import Derived.ChangeVars
import Derived.Carry
import Derived.WideKeyArgs
import Derived.WalkSmall
import Derived.Lib.LaidTab
import Derived.Stop.LaidErr
import Derived.Stop.Joined
import Derived.RowKitTokens
import Derived.LaidHandle
import Derived.LaidMore
import Derived.JoinedOf
set_option linter.all false
namespace Go.Proofs.YtnpkgmgedgcjmaaGreatDoor
open Go Go.RowKit Go.ChangeShapes Go.WideShapes Png

section
variable {H : Type} {enc : TypeId × Value → H} {P : Program}

theorem trodAll_stays (hl : laidOutB P = true) {W W' : World} {sp : Nat → Bool} : ∀ {ts : List TypeId} {vs : List Value} {ds : List (DataW H)} {ps : List MemPlace}, (ts.all fun t => P.readableRec t && decide (t < P.types.size)) = true →
    DataW.TrodAll enc P W 0 (fun _ => true) true ts vs ds ps → (∀ p ∈ ps, W.sameAt W' p) → (∀ p ∈ ps, sp p.block = true) → DataW.TrodAll enc P W' 0 sp true ts vs ds ps := by
  intro ts
  induction ts with
  | nil =>
    intro vs ds ps _ h _ _
    cases vs <;> cases ds <;> first | exact h | exact absurd h (by intro h; cases h)
  | cons t ts ih =>
    intro vs ds ps ha h hs hp
    cases vs with
    | nil => cases h
    | cons v vs =>
      cases ds with
      | nil => cases h
      | cons d ds =>
        obtain ⟨p, q, h1, h2, rfl⟩ := h
        simp only [List.all_cons, Bool.and_eq_true, decide_eq_true_eq] at ha
        exact ⟨p, q, WideElems.Trod_stays hl ha.1.1 ha.1.2 h1 (fun x hx => hs x (List.mem_append_left _ hx)) (fun x hx => hp x (List.mem_append_left _ hx)),
          ih ha.2 h2 (fun x hx => hs x (List.mem_append_right _ hx)) (fun x hx => hp x (List.mem_append_right _ hx)), rfl⟩

/-- Each named variable's type can be read, and has its row. -/
def varsOk (P : Program) (ns : List String) : Bool :=
  ns.all fun n => match P.globalNamed n with
    | some g => match (P.globals[g]?).map (·.type) with
      | some t => P.readableRec t && decide (t < P.types.size)
      | none => true
    | none => true

theorem trodVars_stays (hl : laidOutB P = true) {W W' : World} (hb : Below W.heap.size W W') {sp : Nat → Bool} : ∀ {ns : List String} {gs : List (DataW H)} {ps : List MemPlace}, varsOk P ns = true →
    DataW.TrodVars enc P W (fun _ => true) ns gs ps → (∀ p ∈ ps, W.sameAt W' p) → (∀ p ∈ ps, sp p.block = true) → DataW.TrodVars enc P W' sp ns gs ps := by
  intro ns
  induction ns with
  | nil =>
    intro gs ps _ h _ _
    cases gs
    · exact h
    · cases h
  | cons n ns ih =>
    intro gs ps ha h hs hp
    cases gs with
    | nil => cases h
    | cons d gs =>
      obtain ⟨g, t, cs, fuel, p, q, hg, ht, hv, hd, hr, rfl⟩ := h
      simp only [varsOk, List.all_cons, Bool.and_eq_true] at ha
      obtain ⟨ha1, ha2⟩ := ha
      rw [hg] at ha1
      simp only [ht] at ha1
      simp only [Bool.and_eq_true, decide_eq_true_eq] at ha1
      have hlt : g < W.heap.size := by
        unfold World.var? at hv
        rw [hg] at hv
        simp only [Option.bind_some] at hv
        rcases Nat.lt_or_ge g W.heap.size with h' | h'
        · exact h'
        · rw [Array.getElem?_eq_none h'] at hv; simp at hv
      have h1 : DataW.Trod enc P W 0 (fun _ => true) true t (.agg cs) d p := ⟨fuel, hd⟩
      obtain ⟨fuel', h2⟩ := WideElems.Trod_stays (sp' := sp) hl ha1.1 ha1.2 h1 (fun x hx => hs x (by simp [hx])) (fun x hx => hp x (by simp [hx]))
      exact ⟨g, t, cs, fuel', p, q, hg, ht, var?_below hb hg hlt hv, h2, ih ha2 hr (fun x hx => hs x (by simp [hx])) (fun x hx => hp x (by simp [hx])), rfl⟩

/-- A law: it returns true, and what it met is as it was. -/
theorem post_law {f : Func} {s : ChangeSpec} {apart fresh handsOn : Bool} {W W' : World} {args : Array Value} {ds gs : List (DataW H)} {before : List MemPlace} {tb : TypeId}
    (hl : laidOutB P = true) (htb : P.underlying tb = some .bool) (hres : f.resultTypes = #[tb]) (hts : (f.params.toList.all fun t => P.readableRec t && decide (t < P.types.size)) = true) (hvs : varsOk P s.vars = true)
    (hW : DataW.Whole enc P f.params.toList s.vars apart W args.toList ds gs before) (hfn : s.fn H (ds ++ gs) = { results := [.lit (.bool true)], args := ds, vars := gs }) (hb : Below W.heap.size W W') :
    s.post enc P f apart fresh handsOn false W args (.bool true) W' := by
  have hlt : ∀ p ∈ before, p.block < W.heap.size := fun p hp => hW.lt p hp
  have hW' := hW
  obtain ⟨p, q, hA, hV, rfl, _, _⟩ := hW
  have hold : ∀ x ∈ p ++ q, (fun b => decide (b < W.heap.size)) x.block = true := fun x hx => by simpa using hlt x hx
  refine ⟨ds, gs, p ++ q, [], p, q, hW', ?_, ?_, ?_, World.keptBut_mono (fun x hx => ⟨hx, ?_⟩) (hb.frame (· ∈ p ++ q)), fun h => by cases h⟩
  · rw [hfn, hres]
    exact trodAll_mk1 (shut_bool htb true)
  · rw [hfn]
    exact trodAll_stays hl hts hA (fun x hx => hb.same (hlt x (List.mem_append_left _ hx))) (fun x hx => hold x (List.mem_append_left _ hx))
  · rw [hfn]
    exact trodVars_stays hl hb hvs hV (fun x hx => hb.same (hlt x (List.mem_append_right _ hx))) (fun x hx => hold x (List.mem_append_right _ hx))
  · rcases List.mem_append.1 hx with h | h
    · exact .inr (.inl h)
    · exact .inr (.inr h)
end

theorem ieee_global : Tryz.prog.globalNamed "loop.example/pub-g03424/pub/png.ieeeTable" = some 3 := by kernel_rfl

end Go.Proofs.YtnpkgmgedgcjmaaGreatDoor
