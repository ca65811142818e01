/- FnConfigEarly proved: its row, and its card. -/
import Derived.Test.YtnpkgmgedgcjmaaGreatDoorL1
import Derived.Test.YtnpkgmgedgcjmaaGreatDoorQ0
import Derived.Test.YtnpkgmgedgcjmaaGreatDoorFin
import Derived.Test.YtnpkgmgedgcjmaaGreatDoorRows
import Derived.Test.YtnpkgmgedgcjmaaGreatDoorChecked
import Derived.ProofKit
import Derived.LaidMore
import Derived.OpenShut
import Derived.Deep.Slices
import Derived.Deep.Fields
import Derived.ChangeSame
set_option linter.all false
namespace Go.Proofs.YtnpkgmgedgcjmaaGreatDoor
open Go Go.ChangeShapes Go.WideShapes Go.RowKit Go.Deep Png

theorem own_ : ownKnob Tryz.prog.godebug = none := by kernel_rfl
theorem laidOut_ : laidOutB Tryz.prog = true := by kernel_rfl
theorem vars_ok : varsOk Tryz.prog Rows.fnConfigEarlySpec.vars = true := by kernel_rfl
theorem params_ok : (Tryz.f14.params.toList.all fun t => Tryz.prog.readableRec t && decide (t < Tryz.prog.types.size)) = true := by kernel_rfl

/-- The table of the sums, as the condition lists it. -/
def tabZ : List Int := (List.range 256).map fun k => ((crc8 k : Nat) : Int)
theorem tab_listed : (Rows.laid_loop_example_pub_g03424_pub_png_ieeeTable : DataW Unit) = Lib.tabData .u32 tabZ := by kernel_rfl
theorem tab_met {W : World} (h : laidMetH Tryz.prog Rows.fnConfigEarlyRow.laid W) : Tab W 3 .u32 256 crc8 := by
  have h1 : laidMet Tryz.prog (Rows.fnConfigEarlyRow.laid.filter fun x => x.2.handleName?.isNone) W := h.1
  have h2 := laidMet.tail (laidMet.tail (laidMet.tail (laidMet.tail (laidMet.tail (laidMet.tail (laidMet.tail (laidMet.tail h1)))))))
  have h3 : Lib.TabIs Tryz.prog W "loop.example/pub-g03424/pub/png.ieeeTable" .u32 tabZ := Lib.tabIs_of_head (t := 209) (e := 23) (n := 256) ieee_global (by kernel_rfl) (by kernel_rfl) (by kernel_rfl) (by kernel_rfl) (by kernel_rfl) (rest := []) (by rw [← tab_listed]; exact h2)
  intro k hk
  have := h3.cell ieee_global k (by simpa [tabZ] using hk)
  rw [this]
  simp [tabZ, List.getD_eq_getElem?_getD, hk]

section
variable {H : Type} {enc : TypeId × Value → H} {W : World}
theorem trodVars_len {sp : Nat → Bool} : ∀ {ns : List String} {gs : List (DataW H)} {ps : List MemPlace}, DataW.TrodVars enc Tryz.prog W sp ns gs ps → gs.length = ns.length := by
  intro ns
  induction ns with
  | nil =>
    intro gs ps h
    cases gs
    · rfl
    · cases h
  | cons n ns ih =>
    intro gs ps h
    cases gs with
    | nil => cases h
    | cons d gs =>
      obtain ⟨g, t, cs, fuel, p, q, _, _, _, _, hr, _⟩ := h
      have := ih hr
      simp [this]
theorem u8_nat {n : Int} (h : (Lit.int .u8 n).wf = true) : ∃ k : Nat, n = (k : Int) ∧ k < 256 := by
  simp [Lit.wf, IntKind.min, IntKind.max, IntKind.signed, IntKind.bits] at h
  exact ⟨n.toNat, by omega, by omega⟩
theorem spec_fn (d0 d1 d2 d3 d4 d5 d6 : DataW H) (gs : List (DataW H)) (h : gs.length = 5) : Rows.fnConfigEarlySpec.fn H ([d0, d1, d2, d3, d4, d5, d6] ++ gs) = { results := [.lit (.bool true)], args := [d0, d1, d2, d3, d4, d5, d6], vars := gs } := by
  match gs, h with
  | [g1, g2, g3, g4, g5], _ => rfl
end

theorem door_met (os : Os) (args : Array Value) : laidMetH Tryz.prog Rows.fnConfigEarlyRow.laid ((World.doorLaid Tryz.prog 400 os).forCall (fun _ _ => 0) ⟨#[], args, []⟩).memory :=
  laidMetH_of_parts (laidMet_of_run' 257 (by kernel_rfl) (by kernel_rfl)) (by kernel_rfl)

set_option maxRecDepth 100000 in
theorem witness (os : Os) (H : Type) (enc : TypeId × Value → H) :
    ∃ (w : World) (tape : Tape) (i : Input), w.os = os ∧ (w.forCall tape i).Shaped Tryz.checked.prog ∧ i.vars = [] ∧ Input.okWide Tryz.checked.prog (w.forCall tape i) .any w.heap.size 14 i ∧
      ((Rows.fnConfigEarlySpec.pre enc Tryz.checked.prog Tryz.f14 [] false (w.forCall tape i).memory i.args ∧ laidMetH Tryz.prog Rows.fnConfigEarlyRow.laid (w.forCall tape i).memory) ∧ sizedMet enc Tryz.checked.prog Tryz.f14 (OpenSpec.ofChange Rows.fnConfigEarlySpec) false (w.forCall tape i).memory i.args) ∧ ({} : Assume).holds Tryz.checked.prog (lone (Frame.enter Tryz.checked.prog 14 i.args .normal) [] (w.forCall tape i)) :=
  ChangeSpec.witness_shaped (enc := enc) (C := Tryz.checked) (os := os) (X := fun w _ => laidMetH Tryz.prog Rows.fnConfigEarlyRow.laid w) false (World.doorLaid Tryz.prog 400 os) #[.int .u8 0, .int .u8 0, .int .u8 0, .bool false, .slice none 0 0, .slice none 0 0, .slice none 0 0] 8 rfl (World.shaped_of_RefB (by kernel_rfl) (by kernel_rfl)) (by kernel_rfl) (by kernel_rfl) (by kernel_rfl) (door_met os _)

set_option maxRecDepth 100000 in
theorem lifted (os : Os) (started : os.Started) (H : Type) (enc : TypeId × Value → H) :
    ReturnsInHanded {} Tryz.checked os 14 .any (fun w args => (Rows.fnConfigEarlySpec.pre enc Tryz.prog Tryz.f14 [] false w args ∧ laidMetH Tryz.prog Rows.fnConfigEarlyRow.laid w) ∧ sizedMet enc Tryz.prog Tryz.f14 (OpenSpec.ofChange Rows.fnConfigEarlySpec) false w args)
      (Rows.fnConfigEarlySpec.post enc Tryz.prog Tryz.f14 false true false false) := by
  refine returnsInHanded_of_change_and (C := Tryz.checked) (X := fun w _ => laidMetH Tryz.prog Rows.fnConfigEarlyRow.laid w) (fun _ _ _ hh h => h.of_heap hh) own_ started (by kernel_rfl) Tryz.func14 (witness os H enc) ?_
  intro W base args ds gs before hval0 hW _ _ hL _
  have hval : ∀ (j : Nat) t v, Tryz.f14.params[j]? = some t → args[j]? = some v → Value.okWide Tryz.prog W .any base t v := hval0
  have hW' := hW
  obtain ⟨p, q, hA0, hV0, rfl, hfz, hnd⟩ := hW
  have hA : DataW.TrodAll enc Tryz.prog W 0 (fun _ => true) true Tryz.f14.params.toList args.toList ds p := hA0
  have hV : DataW.TrodVars enc Tryz.prog W (fun _ => true) Rows.fnConfigEarlySpec.vars gs q := hV0
  have hgs : gs.length = 5 := trodVars_len hV
  rw [Tryz.params14] at hA hval
  obtain ⟨v0, l0, d0, ds0, p0, q0, e0, rfl, rfl, h0, hA⟩ := trodAll_cons hA
  obtain ⟨v1, l1, d1, ds1, p1, q1, rfl, rfl, rfl, h1, hA⟩ := trodAll_cons hA
  obtain ⟨v2, l2, d2, ds2, p2, q2, rfl, rfl, rfl, h2, hA⟩ := trodAll_cons hA
  obtain ⟨v3, l3, d3, ds3, p3, q3, rfl, rfl, rfl, h3, hA⟩ := trodAll_cons hA
  obtain ⟨v4, l4, d4, ds4, p4, q4, rfl, rfl, rfl, h4, hA⟩ := trodAll_cons hA
  obtain ⟨v5, l5, d5, ds5, p5, q5, rfl, rfl, rfl, h5, hA⟩ := trodAll_cons hA
  obtain ⟨v6, l6, d6, ds6, p6, q6, rfl, rfl, rfl, h6, hA⟩ := trodAll_cons hA
  obtain ⟨rfl, rfl, rfl⟩ := trodAll_nil hA
  obtain rfl : args = #[v0, v1, v2, v3, v4, v5, v6] := by
    have := congrArg List.toArray e0
    simpa using this
  have hT := tab_met hL
  obtain ⟨n0, rfl, _, _, w0⟩ := open_int Tryz.underlying5 (hval 0 5 v0 rfl rfl) h0
  obtain ⟨n1, rfl, _, _, w1⟩ := open_int Tryz.underlying5 (hval 1 5 v1 rfl rfl) h1
  obtain ⟨n2, rfl, _, _, w2⟩ := open_int Tryz.underlying5 (hval 2 5 v2 rfl rfl) h2
  obtain ⟨b3, rfl, _, _⟩ := open_bool Tryz.underlying4 (hval 3 4 v3 rfl rfl) h3
  obtain ⟨a4, n4, c4, X, rfl, m4, o4, U4⟩ := open_u16s (hval 4 22 v4 rfl rfl) h4
  obtain ⟨a5, n5, c5, R, G, U, A, rfl, m5, o5, U5⟩ := open_pal (hval 5 39 v5 rfl rfl) h5
  obtain ⟨a6, n6, c6, C, rfl, m6, o6, U6⟩ := open_u16s (hval 6 22 v6 rfl rfl) h6
  obtain ⟨k0, rfl, i0⟩ := u8_nat w0
  obtain ⟨k1, rfl, i1⟩ := u8_nat w1
  obtain ⟨k2, rfl, i2⟩ := u8_nat w2
  refine (law_ok k0 k1 k2 n4 c4 n5 c5 n6 c6 b3 a4 a5 a6 X C R G U A W i0 i1 i2 U4 U5 U6 ⟨m4, o4⟩ ⟨m5, o5⟩ ⟨m6, o6⟩ hT).mono ?_
  rintro e W' ⟨rfl, hb⟩
  exact ⟨_, rfl, post_law (tb := 4) laidOut_ Tryz.underlying4 (by kernel_rfl) params_ok vars_ok hW' (spec_fn _ _ _ _ _ _ _ _ hgs) hb⟩

end Go.Proofs.YtnpkgmgedgcjmaaGreatDoor
