/- FnConfigEarly: its card. -/
import Derived.Test.YtnpkgmgedgcjmaaGreatDoorQ2
import Derived.Test.YtnpkgmgedgcjmaaGreatDoorCards
import Derived.Test.YtnpkgmgedgcjmaaGreatDoorQt
import Derived.SevenTiedAt
set_option linter.all false
namespace Go.Proofs.YtnpkgmgedgcjmaaGreatDoor
open Go

theorem card_wf : Rows.fnConfigEarlyRow.wfByText (OpenSpec.ofChange Rows.fnConfigEarlySpec) = true := by kernel_rfl
theorem card_main : Tryz.prog.mainIs = some (true, "00095dfe53ed99f714c73aa43493900519d4ece601e442c463084a26f131873c".toList) := by kernel_rfl
theorem card_looks : true = Tryz.prog.looks [] := by kernel_rfl
theorem card_goes : false = Rows.fnConfigEarlyRow.goesBy Tryz.prog := by kernel_rfl
theorem card_stand : ([5, 5, 5, 4, 22, 39, 22].all fun u => !Tryz.prog.wantsStandIn u) = true := by kernel_rfl

theorem fnConfigEarly_card : Rows.FnConfigEarlyCardSaid :=
  Claim7.holds_tied_plain_at .later [] [.handle, .sentinel, .sentinel, .sentinel, .sentinel, .data, .sentinel, .sentinel, .data, .data] true (true, "00095dfe53ed99f714c73aa43493900519d4ece601e442c463084a26f131873c") true
    fnConfigEarly_holds (fun _ h => by cases h) card_wf (fun _ h => by cases h) row_tied rfl ⟨rfl, rfl⟩ card_main rfl
    (fun f fn hf hfn => by
      obtain rfl : f = 14 := Option.some.inj (named_.symm.trans hf) |>.symm
      obtain rfl : fn = Tryz.f14 := (Option.some.inj (Tryz.func14.symm.trans hfn)).symm
      exact ⟨card_looks, fun j t ht => by
        rw [Tryz.params14] at ht
        have hm : t ∈ [5, 5, 5, 4, 22, 39, 22] := by simpa using Array.mem_of_getElem? ht
        exact (show Tryz.prog.wantsStandIn t = false by simpa using List.all_eq_true.1 card_stand t hm)⟩)
    card_goes
end Go.Proofs.YtnpkgmgedgcjmaaGreatDoor
