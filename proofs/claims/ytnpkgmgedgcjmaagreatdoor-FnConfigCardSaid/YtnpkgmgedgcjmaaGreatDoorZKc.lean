/- FnConfig is proved: for every byte string, with no condition beside the given statement's own, the law answers true: where the reference reads the bytes as a good file, DecodeConfig tells the same size, colour type, bits a sample and palette. -/
import Derived.SevenTiedAt
import Derived.Test.YtnpkgmgedgcjmaaGreatDoorCards
import Derived.Test.YtnpkgmgedgcjmaaGreatDoorZKa
import Derived.Test.YtnpkgmgedgcjmaaGreatDoorZKf
import Derived.Test.YtnpkgmgedgcjmaaGreatDoorZKt
set_option linter.all false
set_option maxRecDepth 100000
section
namespace Go.Proofs.YtnpkgmgedgcjmaaGreatDoor
open Go Go.ChangeShapes Go.WideShapes Go.RowKit
theorem joined : joinedFacts Tryz.prog 13 Tryz.f13 Rows.fnConfigSpec Rows.fnConfigRow = true := by
 unfold joinedFacts
 exact and_t (and_t (and_t (and_t (and_t (and_t (and_t (and_t (and_t (and_t (and_t (and_t (and_t (and_t (and_t (and_t (and_t (and_t (and_t (and_t (and_t (and_t (and_t (and_t (and_t (and_t (and_t (and_t (and_t (and_t (and_t (fact1) fact2) fact3) fact4) fact5) fact6) fact7) fact8) fact9) fact10) fact11) fact12) fact13) fact14) fact15) fact16) fact17) fact18) fact19) fact20) fact21) fact22) fact23) fact24) fact25) fact26) fact27) fact28) fact29) fact30) fact31) fact32
theorem inst_ : Tryz.f13.isInstance Tryz.prog Rows.fnConfigRow.origin Rows.fnConfigRow.targs := of_decide_eq_true (by kernel_rfl)
theorem wrap_ : Tryz.f13.isWrapper Tryz.prog Rows.fnConfigRow.wrapper Rows.fnConfigRow.mainSum := by unfold Func.isWrapper; first | (rw [if_pos (by decide +kernel)]; kernel_rfl) | (rw [if_neg (by decide +kernel)]; exact ⟨rfl, rfl⟩)
theorem fnConfig_holds : Rows.FnConfigSaid :=
 OpenClaim.holds_of_wide 13 Tryz.f13 rfl rfl rfl rfl rfl rfl rfl ⟨rfl, rfl, rfl, rfl, rfl⟩ rfl rfl rfl rfl rfl named_ Tryz.func13 joined
  inst_ wrap_
  (fun os started H enc _ => lifted os started H enc)
end Go.Proofs.YtnpkgmgedgcjmaaGreatDoor
end
section
namespace Go.Proofs.YtnpkgmgedgcjmaaGreatDoor
open Go
theorem card_wf : Rows.fnConfigRow.wfByText (OpenSpec.ofChange Rows.fnConfigSpec) = true := by kernel_rfl
theorem card_main : Tryz.prog.mainIs = some (true, "00095dfe53ed99f714c73aa43493900519d4ece601e442c463084a26f131873c".toList) := by kernel_rfl
theorem card_looks : true = Tryz.prog.looks [] := by kernel_rfl
theorem card_goes : false = Rows.fnConfigRow.goesBy Tryz.prog := by kernel_rfl
theorem card_stand : ([24].all fun u => !Tryz.prog.wantsStandIn u) = true := by kernel_rfl
theorem fnConfig_card : Rows.FnConfigCardSaid :=
 Claim7.holds_tied_plain_at .later [] [.handle, .sentinel, .sentinel, .sentinel, .sentinel, .data, .sentinel, .sentinel, .data, .data] true (true, "00095dfe53ed99f714c73aa43493900519d4ece601e442c463084a26f131873c") true
  fnConfig_holds (fun _ h => by cases h) card_wf (fun _ h => by cases h) row_tied rfl ⟨rfl, rfl⟩ card_main rfl
  (fun f fn hf hfn => by
   obtain rfl : f = 13 := Option.some.inj (named_.symm.trans hf) |>.symm
   obtain rfl : fn = Tryz.f13 := (Option.some.inj (Tryz.func13.symm.trans hfn)).symm
   exact ⟨card_looks, fun j t ht => by
    rw [Tryz.params13] at ht
    have hm : t ∈ [24] := by simpa using Array.mem_of_getElem? ht
    exact (show Tryz.prog.wantsStandIn t = false by simpa using List.all_eq_true.1 card_stand t hm)⟩)
  card_goes
end Go.Proofs.YtnpkgmgedgcjmaaGreatDoor
end
