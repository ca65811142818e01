/- FnConfigEarly: its row. -/
import Derived.Test.YtnpkgmgedgcjmaaGreatDoorQ1
import Derived.Test.YtnpkgmgedgcjmaaGreatDoorQf
set_option linter.all false
namespace Go.Proofs.YtnpkgmgedgcjmaaGreatDoor
open Go Go.ChangeShapes Go.WideShapes Go.RowKit

set_option maxRecDepth 100000 in
theorem joined : joinedFacts Tryz.prog 14 Tryz.f14 Rows.fnConfigEarlySpec Rows.fnConfigEarlyRow = true := by
  unfold joinedFacts
  exact and_t (and_t (and_t (and_t (and_t (and_t (and_t (and_t (and_t (and_t (and_t (and_t (and_t (and_t (and_t (and_t (and_t (and_t (and_t (and_t (and_t (and_t (and_t (and_t (and_t (and_t (and_t (and_t (and_t (and_t (and_t (fact1) fact2) fact3) fact4) fact5) fact6) fact7) fact8) fact9) fact10) fact11) fact12) fact13) fact14) fact15) fact16) fact17) fact18) fact19) fact20) fact21) fact22) fact23) fact24) fact25) fact26) fact27) fact28) fact29) fact30) fact31) fact32

theorem inst_ : Tryz.f14.isInstance Tryz.prog Rows.fnConfigEarlyRow.origin Rows.fnConfigEarlyRow.targs := of_decide_eq_true (by kernel_rfl)
theorem wrap_ : Tryz.f14.isWrapper Tryz.prog Rows.fnConfigEarlyRow.wrapper Rows.fnConfigEarlyRow.mainSum := by unfold Func.isWrapper; first | (rw [if_pos (by decide +kernel)]; kernel_rfl) | (rw [if_neg (by decide +kernel)]; exact ⟨rfl, rfl⟩)

theorem fnConfigEarly_holds : Rows.FnConfigEarlySaid :=
  OpenClaim.holds_of_wide 14 Tryz.f14 rfl rfl rfl rfl rfl rfl rfl ⟨rfl, rfl, rfl, rfl, rfl⟩ rfl rfl rfl rfl rfl named_ Tryz.func14 joined
    inst_ wrap_
    (fun os started H enc _ => lifted os started H enc)

end Go.Proofs.YtnpkgmgedgcjmaaGreatDoor
