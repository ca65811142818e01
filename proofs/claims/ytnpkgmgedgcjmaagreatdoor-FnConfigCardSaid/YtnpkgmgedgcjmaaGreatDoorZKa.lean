/- A part of the proof: Ka, Fin, Kb. -/
import Derived.Below
import Derived.Carry
import Derived.ChangeSame
import Derived.ChangeSlices
import Derived.ChangeVars
import Derived.Deep.Fields
import Derived.Deep.Slices
import Derived.JoinedOf
import Derived.LaidHandle
import Derived.LaidMore
import Derived.Lib.LaidTab
import Derived.OpenShut
import Derived.ProofKit
import Derived.RowKit
import Derived.RowKitTokens
import Derived.Stop.Joined
import Derived.Stop.LaidErr
import Derived.Test.YtnpkgmgedgcjmaaGreatDoorChecked
import Derived.Test.YtnpkgmgedgcjmaaGreatDoorRows
import Derived.WalkSmall
import Derived.WideKeyArgs
import Derived.Test.YtnpkgmgedgcjmaaGreatDoorZCrc
import Derived.Test.YtnpkgmgedgcjmaaGreatDoorZE9
import Derived.Test.YtnpkgmgedgcjmaaGreatDoorZL1
import Derived.Test.YtnpkgmgedgcjmaaGreatDoorZWc
set_option linter.all false
set_option maxRecDepth 100000
section
namespace Go.Proofs.YtnpkgmgedgcjmaaGreatDoor
open Go Go.ChangeShapes Go.WideShapes Go.RowKit Go.Deep Png
section
variable {H : Type} {enc : TypeId × Value → H} {W : World}
theorem open_bytes {r : Reach} {b0 : Nat} {v : Value} {d : DataW H} {p : List MemPlace} (hv : Value.okWide Tryz.prog W r b0 24 v) (h : DataW.Trod enc Tryz.prog W 0 (fun _ => true) true 24 v d p) :
  ∃ (q : Option Addr) (l : List UInt8) (cap : Nat), v = .slice q l.length cap ∧ l.length ≤ cap ∧ cap ≤ 9223372036854775807 ∧ Bsl W q l := by
 obtain ⟨a, len, cap, rfl⟩ := okWide_slice Tryz.underlying24 hv
 obtain ⟨fuel, hf⟩ := h
 rcases open_ints Tryz.underlying24 Tryz.underlying5 (by kernel_rfl) hf with ⟨hc, _⟩ | ⟨a', len', cap', zs, hc, _, hl, hm, hz, _, hcell, hwf⟩
 ·
  simp only [Value.cells, List.cons.injEq, and_true] at hc
  injection hc with h1 h2 h3
  subst h1 h2 h3
  exact ⟨_, [], _, rfl, Nat.le_refl _, by omega, .inl rfl⟩
 ·
  simp only [Value.cells, List.cons.injEq, and_true] at hc
  injection hc with h1 h2 h3
  subst h1 h2 h3
  simp only [if_true] at hz
  have wf : ∀ i, i < zs.length → 0 ≤ zs.getD i 0 ∧ zs.getD i 0 < 256 := fun i hi => by
   have := hwf (zs.getD i 0) (by rw [List.getD_eq_getElem?_getD, List.getElem?_eq_getElem hi]; exact List.getElem_mem hi)
   generalize zs.getD i 0 = z at this ⊢
   simp [Lit.wf, IntKind.min, IntKind.max, IntKind.signed, IntKind.bits] at this
   omega
  obtain ⟨l, hl2⟩ : ∃ l : List UInt8, l = (List.range len).map fun i => UInt8.ofNat (zs.getD i 0).toNat := ⟨_, rfl⟩
  have hll : l.length = len := by rw [hl2]; simp
  have hnb : ∀ i, i < len → ((nb l i : Nat) : Int) = zs.getD i 0 := fun i hi => by
   have w2 := wf i (by omega)
   have e : nb l i = (zs.getD i 0).toNat % 256 := by
    unfold nb
    rw [hl2, List.getD_eq_getElem?_getD, List.getElem?_map, List.getElem?_range hi]
    simp
   rw [e]; omega
  refine ⟨_, l, _, by rw [hll], by omega, Nat.le_trans hm (by decide), ?_⟩
  rcases Nat.eq_zero_or_pos len with h0 | h0
  ·
   exact .inl (List.eq_nil_of_length_eq_zero (by omega))
  ·
   right
   obtain ⟨hb, hs⟩ := cell_lt (hcell 0 (by omega))
   have e0 : a'.add 0 = a' := rfl
   rw [e0] at hb hs
   obtain ⟨b, off, sp⟩ := a'
   simp only at hs hb
   subst hs
   refine ⟨b, off, rfl, fun i hi => ?_⟩
   have := hcell i (by omega)
   rw [add_addr] at this
   rw [this, ← hnb i (by omega)]
end
end Go.Proofs.YtnpkgmgedgcjmaaGreatDoor
end
section
namespace Go.Proofs.YtnpkgmgedgcjmaaGreatDoor
open Go Go.RowKit Go.ChangeShapes Go.WideShapes Png
section
variable {H : Type} {enc : TypeId × Value → H} {P : Program}
theorem trodAll_stays (hl : laidOutB P = true) {W W' : World} {sp : Nat → Bool} : ∀ {ts : List TypeId} {vs : List Value} {ds : List (DataW H)} {ps : List MemPlace}, (ts.all fun t => P.readableRec t && decide (t < P.types.size)) = true →
  DataW.TrodAll enc P W 0 (fun _ => true) true ts vs ds ps → (∀ p ∈ ps, W.sameAt W' p) → (∀ p ∈ ps, sp p.block = true) → DataW.TrodAll enc P W' 0 sp true ts vs ds ps := by
 intro ts
 induction ts with
 | nil =>
  intro vs ds ps _ h _ _
  cases vs <;> cases ds <;> first | exact h | exact absurd h (by intro h; cases h)
 | cons t ts ih =>
  intro vs ds ps ha h hs hp
  cases vs with
  | nil => cases h
  | cons v vs =>
   cases ds with
   | nil => cases h
   | cons d ds =>
    obtain ⟨p, q, h1, h2, rfl⟩ := h
    simp only [List.all_cons, Bool.and_eq_true, decide_eq_true_eq] at ha
    exact ⟨p, q, WideElems.Trod_stays hl ha.1.1 ha.1.2 h1 (fun x hx => hs x (List.mem_append_left _ hx)) (fun x hx => hp x (List.mem_append_left _ hx)),
     ih ha.2 h2 (fun x hx => hs x (List.mem_append_right _ hx)) (fun x hx => hp x (List.mem_append_right _ hx)), rfl⟩
def varsOk (P : Program) (ns : List String) : Bool :=
 ns.all fun n => match P.globalNamed n with
  | some g => match (P.globals[g]?).map (·.type) with
   | some t => P.readableRec t && decide (t < P.types.size)
   | none => true
  | none => true
theorem trodVars_stays (hl : laidOutB P = true) {W W' : World} (hb : Below W.heap.size W W') {sp : Nat → Bool} : ∀ {ns : List String} {gs : List (DataW H)} {ps : List MemPlace}, varsOk P ns = true →
  DataW.TrodVars enc P W (fun _ => true) ns gs ps → (∀ p ∈ ps, W.sameAt W' p) → (∀ p ∈ ps, sp p.block = true) → DataW.TrodVars enc P W' sp ns gs ps := by
 intro ns
 induction ns with
 | nil =>
  intro gs ps _ h _ _
  cases gs
  ·
   exact h
  ·
   cases h
 | cons n ns ih =>
  intro gs ps ha h hs hp
  cases gs with
  | nil => cases h
  | cons d gs =>
   obtain ⟨g, t, cs, fuel, p, q, hg, ht, hv, hd, hr, rfl⟩ := h
   simp only [varsOk, List.all_cons, Bool.and_eq_true] at ha
   obtain ⟨ha1, ha2⟩ := ha
   rw [hg] at ha1
   simp only [ht] at ha1
   simp only [Bool.and_eq_true, decide_eq_true_eq] at ha1
   have hlt : g < W.heap.size := by
    unfold World.var? at hv
    rw [hg] at hv
    simp only [Option.bind_some] at hv
    rcases Nat.lt_or_ge g W.heap.size with h' | h'
    ·
     exact h'
    ·
     rw [Array.getElem?_eq_none h'] at hv; simp at hv
   have h1 : DataW.Trod enc P W 0 (fun _ => true) true t (.agg cs) d p := ⟨fuel, hd⟩
   obtain ⟨fuel', h2⟩ := WideElems.Trod_stays (sp' := sp) hl ha1.1 ha1.2 h1 (fun x hx => hs x (by simp [hx])) (fun x hx => hp x (by simp [hx]))
   exact ⟨g, t, cs, fuel', p, q, hg, ht, var?_below hb hg hlt hv, h2, ih ha2 hr (fun x hx => hs x (by simp [hx])) (fun x hx => hp x (by simp [hx])), rfl⟩
theorem post_law {f : Func} {s : ChangeSpec} {apart fresh handsOn : Bool} {W W' : World} {args : Array Value} {ds gs : List (DataW H)} {before : List MemPlace} {tb : TypeId}
  (hl : laidOutB P = true) (htb : P.underlying tb = some .bool) (hres : f.resultTypes = #[tb]) (hts : (f.params.toList.all fun t => P.readableRec t && decide (t < P.types.size)) = true) (hvs : varsOk P s.vars = true)
  (hW : DataW.Whole enc P f.params.toList s.vars apart W args.toList ds gs before) (hfn : s.fn H (ds ++ gs) = { results := [.lit (.bool true)], args := ds, vars := gs }) (hb : Below W.heap.size W W') :
  s.post enc P f apart fresh handsOn false W args (.bool true) W' := by
 have hlt : ∀ p ∈ before, p.block < W.heap.size := fun p hp => hW.lt p hp
 have hW' := hW
 obtain ⟨p, q, hA, hV, rfl, _, _⟩ := hW
 have hold : ∀ x ∈ p ++ q, (fun b => decide (b < W.heap.size)) x.block = true := fun x hx => by simpa using hlt x hx
 refine ⟨ds, gs, p ++ q, [], p, q, hW', ?_, ?_, ?_, World.keptBut_mono (fun x hx => ⟨hx, ?_⟩) (hb.frame (· ∈ p ++ q)), fun h => by cases h⟩
 ·
  rw [hfn, hres]
  exact trodAll_mk1 (shut_bool htb true)
 ·
  rw [hfn]
  exact trodAll_stays hl hts hA (fun x hx => hb.same (hlt x (List.mem_append_left _ hx))) (fun x hx => hold x (List.mem_append_left _ hx))
 ·
  rw [hfn]
  exact trodVars_stays hl hb hvs hV (fun x hx => hb.same (hlt x (List.mem_append_right _ hx))) (fun x hx => hold x (List.mem_append_right _ hx))
 ·
  rcases List.mem_append.1 hx with h | h
  ·
   exact .inr (.inl h)
  ·
   exact .inr (.inr h)
end
theorem ieee_global : Tryz.prog.globalNamed "loop.example/pub-g03424/pub/png.ieeeTable" = some 3 := by kernel_rfl
end Go.Proofs.YtnpkgmgedgcjmaaGreatDoor
end
section
namespace Go.Proofs.YtnpkgmgedgcjmaaGreatDoor
open Go Go.ChangeShapes Go.WideShapes Go.RowKit Go.Deep Png
theorem own_ : ownKnob Tryz.prog.godebug = none := by kernel_rfl
theorem laidOut_ : laidOutB Tryz.prog = true := by kernel_rfl
theorem vars_ok : varsOk Tryz.prog Rows.fnConfigSpec.vars = true := by kernel_rfl
theorem params_ok : (Tryz.f13.params.toList.all fun t => Tryz.prog.readableRec t && decide (t < Tryz.prog.types.size)) = true := by kernel_rfl
def tabZ : List Int := (List.range 256).map fun k => ((crc8 k : Nat) : Int)
theorem tab_listed : (Rows.laid_loop_example_pub_g03424_pub_png_ieeeTable : DataW Unit) = Lib.tabData .u32 tabZ := by kernel_rfl
theorem tab_met {W : World} (h : laidMetH Tryz.prog Rows.fnConfigRow.laid W) : Tab W 3 .u32 256 crc8 := by
 have h1 : laidMet Tryz.prog (Rows.fnConfigRow.laid.filter fun x => x.2.handleName?.isNone) W := h.1
 have h2 := laidMet.tail (laidMet.tail (laidMet.tail (laidMet.tail (laidMet.tail (laidMet.tail (laidMet.tail (laidMet.tail h1)))))))
 have h3 : Lib.TabIs Tryz.prog W "loop.example/pub-g03424/pub/png.ieeeTable" .u32 tabZ := Lib.tabIs_of_head (t := 209) (e := 23) (n := 256) ieee_global (by kernel_rfl) (by kernel_rfl) (by kernel_rfl) (by kernel_rfl) (by kernel_rfl) (rest := []) (by rw [← tab_listed]; exact h2)
 intro k hk
 have := h3.cell ieee_global k (by simpa [tabZ] using hk)
 rw [this]
 simp [tabZ, List.getD_eq_getElem?_getD, hk]
section
variable {H : Type} {enc : TypeId × Value → H} {W : World}
theorem trodVars_len {sp : Nat → Bool} : ∀ {ns : List String} {gs : List (DataW H)} {ps : List MemPlace}, DataW.TrodVars enc Tryz.prog W sp ns gs ps → gs.length = ns.length := by
 intro ns
 induction ns with
 | nil =>
  intro gs ps h
  cases gs
  ·
   rfl
  ·
   cases h
 | cons n ns ih =>
  intro gs ps h
  cases gs with
  | nil => cases h
  | cons d gs =>
   obtain ⟨g, t, cs, fuel, p, q, _, _, _, _, hr, _⟩ := h
   have := ih hr
   simp [this]
theorem spec_fn (d0 : DataW H) (gs : List (DataW H)) (h : gs.length = 5) : Rows.fnConfigSpec.fn H ([d0] ++ gs) = { results := [.lit (.bool true)], args := [d0], vars := gs } := by
 match gs, h with
 | [g1, g2, g3, g4, g5], _ => rfl
end
theorem door_met (os : Os) (args : Array Value) : laidMetH Tryz.prog Rows.fnConfigRow.laid ((World.doorLaid Tryz.prog 400 os).forCall (fun _ _ => 0) ⟨#[], args, []⟩).memory :=
 laidMetH_of_parts (laidMet_of_run' 257 (by kernel_rfl) (by kernel_rfl)) (by kernel_rfl)
theorem witness (os : Os) (H : Type) (enc : TypeId × Value → H) :
  ∃ (w : World) (tape : Tape) (i : Input), w.os = os ∧ (w.forCall tape i).Shaped Tryz.checked.prog ∧ i.vars = [] ∧ Input.okWide Tryz.checked.prog (w.forCall tape i) .any w.heap.size 13 i ∧
   ((Rows.fnConfigSpec.pre enc Tryz.checked.prog Tryz.f13 [] false (w.forCall tape i).memory i.args ∧ laidMetH Tryz.prog Rows.fnConfigRow.laid (w.forCall tape i).memory) ∧ sizedMet enc Tryz.checked.prog Tryz.f13 (OpenSpec.ofChange Rows.fnConfigSpec) false (w.forCall tape i).memory i.args) ∧ ({} : Assume).holds Tryz.checked.prog (lone (Frame.enter Tryz.checked.prog 13 i.args .normal) [] (w.forCall tape i)) :=
 ChangeSpec.witness_shaped (enc := enc) (C := Tryz.checked) (os := os) (X := fun w _ => laidMetH Tryz.prog Rows.fnConfigRow.laid w) false (World.doorLaid Tryz.prog 400 os) #[.slice none 0 0] 8 rfl (World.shaped_of_RefB (by kernel_rfl) (by kernel_rfl)) (by kernel_rfl) (by kernel_rfl) (by kernel_rfl) (door_met os _)
theorem lifted (os : Os) (started : os.Started) (H : Type) (enc : TypeId × Value → H) :
  ReturnsInHanded {} Tryz.checked os 13 .any (fun w args => (Rows.fnConfigSpec.pre enc Tryz.prog Tryz.f13 [] false w args ∧ laidMetH Tryz.prog Rows.fnConfigRow.laid w) ∧ sizedMet enc Tryz.prog Tryz.f13 (OpenSpec.ofChange Rows.fnConfigSpec) false w args)
   (Rows.fnConfigSpec.post enc Tryz.prog Tryz.f13 false true false false) := by
 refine returnsInHanded_of_change_and (C := Tryz.checked) (X := fun w _ => laidMetH Tryz.prog Rows.fnConfigRow.laid w) (fun _ _ _ hh h => h.of_heap hh) own_ started (by kernel_rfl) Tryz.func13 (witness os H enc) ?_
 intro W base args ds gs before hval0 hW _ _ hL _
 have hval : ∀ (j : Nat) t v, Tryz.f13.params[j]? = some t → args[j]? = some v → Value.okWide Tryz.prog W .any base t v := hval0
 have hW' := hW
 obtain ⟨p, q, hA0, hV0, rfl, hfz, hnd⟩ := hW
 have hA : DataW.TrodAll enc Tryz.prog W 0 (fun _ => true) true Tryz.f13.params.toList args.toList ds p := hA0
 have hV : DataW.TrodVars enc Tryz.prog W (fun _ => true) Rows.fnConfigSpec.vars gs q := hV0
 have hgs : gs.length = 5 := trodVars_len hV
 rw [Tryz.params13] at hA hval
 obtain ⟨v0, l0, d0, ds0, p0, q0, e0, rfl, rfl, h0, hA⟩ := trodAll_cons hA
 obtain ⟨rfl, rfl, rfl⟩ := trodAll_nil hA
 obtain rfl : args = #[v0] := by
  have := congrArg List.toArray e0
  simpa using this
 have hT := tab_met hL
 obtain ⟨a0, l, c0, rfl, m0, o0, U0⟩ := open_bytes (hval 0 24 v0 rfl rfl) h0
 refine (conf_law a0 c0 l W U0 m0 o0 hT).mono ?_
 rintro e W' ⟨rfl, hb⟩
 exact ⟨_, rfl, post_law (tb := 4) laidOut_ Tryz.underlying4 (by kernel_rfl) params_ok vars_ok hW' (spec_fn _ _ hgs) hb⟩
end Go.Proofs.YtnpkgmgedgcjmaaGreatDoor
end
