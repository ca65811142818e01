/- FnConfigEarly: the closed facts of its row, each by itself. -/
import Derived.Test.YtnpkgmgedgcjmaaGreatDoorRows
import Derived.JoinedOf
import Derived.KernelRfl
set_option linter.all false
namespace Go.Proofs.YtnpkgmgedgcjmaaGreatDoor
open Go

theorem and_t {a b : Bool} (ha : a = true) (hb : b = true) : (a && b) = true := by rw [ha, hb]; rfl
theorem fact1 : (Rows.fnConfigEarlyRow.wf (OpenSpec.ofChange Rows.fnConfigEarlySpec)) = true := by kernel_rfl
theorem fact2 : (laidOutB Tryz.prog) = true := by kernel_rfl
theorem fact3 : (mapsRowed Tryz.prog) = true := by kernel_rfl
theorem fact4 : (Tryz.f14.params.all (Tryz.prog.readableRec ·)) = true := by kernel_rfl
theorem fact5 : (namedTie Tryz.prog Rows.fnConfigEarlyRow.named Rows.fnConfigEarlySpec.vars) = true := by kernel_rfl
theorem fact6 : ((Rows.fnConfigEarlyRow.stops == [])) = true := by kernel_rfl
theorem fact7 : ((Tryz.prog.stops == [])) = true := by kernel_rfl
theorem fact8 : ((Rows.fnConfigEarlyRow.knobs == [])) = true := by kernel_rfl
theorem fact9 : ((Tryz.prog.stopKnobs == [])) = true := by kernel_rfl
theorem fact10 : ((Rows.fnConfigEarlyRow.inPlace == Tryz.prog.inPlace 14)) = true := by kernel_rfl
theorem fact11 : ((Rows.fnConfigEarlyRow.unfollowed == Tryz.prog.unfollowed 14)) = true := by kernel_rfl
theorem fact12 : ((Rows.fnConfigEarlyRow.recurses == Tryz.prog.recurses 14)) = true := by kernel_rfl
theorem fact13 : ((Rows.fnConfigEarlyRow.named == Tryz.prog.varsNamed 14)) = true := by kernel_rfl
theorem fact14 : ((Rows.fnConfigEarlyRow.maps == (Tryz.f14.params.toList ++ Rows.fnConfigEarlySpec.plain.varTypes Tryz.prog).any (Tryz.prog.mapsRec ·))) = true := by kernel_rfl
theorem fact15 : ((Rows.fnConfigEarlyRow.ifaces == (Tryz.f14.params.toList ++ Rows.fnConfigEarlySpec.plain.varTypes Tryz.prog).any (Tryz.prog.ifacesRec ·))) = true := by kernel_rfl
theorem fact16 : ((Rows.fnConfigEarlyRow.mapsOut == Tryz.prog.mapsAmong Tryz.f14.resultTypes.toList)) = true := by kernel_rfl
theorem fact17 : ((Rows.fnConfigEarlyRow.loops == (Tryz.f14.params.toList ++ Rows.fnConfigEarlySpec.plain.varTypes Tryz.prog).any (Tryz.prog.loopsFrom ·))) = true := by kernel_rfl
theorem fact18 : ((Rows.fnConfigEarlyRow.wideKeys == (Tryz.f14.params.toList ++ Rows.fnConfigEarlySpec.plain.varTypes Tryz.prog ++ Tryz.f14.resultTypes.toList).any (Tryz.prog.wideKeysFrom ·))) = true := by kernel_rfl
theorem fact19 : (Rows.fnConfigEarlySpec.vars.all (Tryz.prog.varReadable ·)) = true := by kernel_rfl
theorem fact20 : (Tryz.f14.resultTypes.all (fun t => Tryz.prog.readableRec t && decide (t < Tryz.prog.types.size))) = true := by kernel_rfl
theorem fact21 : ((Rows.fnConfigEarlyRow.ifacesOut == Tryz.f14.resultTypes.toList.any (Tryz.prog.ifacesRec ·))) = true := by kernel_rfl
theorem fact22 : ((Rows.fnConfigEarlyRow.loopsOut == Tryz.f14.resultTypes.toList.any (Tryz.prog.loopsFrom ·))) = true := by kernel_rfl
theorem fact23 : ((Rows.fnConfigEarlyRow.plainKeys == Tryz.prog.plainKeys)) = true := by kernel_rfl
theorem fact24 : (Rows.fnConfigEarlyRow.shortTexts.isNone) = true := by kernel_rfl
theorem fact25 : (Tryz.prog.stopsHeard) = true := by kernel_rfl
theorem fact26 : (Tryz.prog.mayEnter) = true := by kernel_rfl
theorem fact27 : ((Rows.fnConfigEarlyRow.lifted == Tryz.prog.liftsFinal)) = true := by kernel_rfl
theorem fact28 : ((Tryz.prog.make == some Rows.fnConfigEarlyRow.make)) = true := by kernel_rfl
theorem fact29 : ((Rows.fnConfigEarlyRow.kinds == (if Rows.fnConfigEarlyRow.domain.isEmpty then [] else Tryz.f14.params.toList.map fun t => match Tryz.prog.underlying t with | some (.int k) => some k | _ => none))) = true := by kernel_rfl
theorem fact30 : ((Rows.fnConfigEarlyRow.pinned == Rows.fnConfigEarlyRow.pinnedBy)) = true := by kernel_rfl
theorem fact31 : ((Rows.fnConfigEarlyRow.veiled == (Tryz.f14.params.toList ++ Rows.fnConfigEarlySpec.plain.varTypes Tryz.prog ++ Tryz.f14.resultTypes.toList).any (Tryz.prog.veiledRec ·))) = true := by kernel_rfl
theorem fact32 : (Rows.fnConfigEarlyRow.veiledFits Tryz.prog Tryz.f14.params.toList (Tryz.f14.params.toList ++ Rows.fnConfigEarlySpec.plain.varTypes Tryz.prog ++ Tryz.f14.resultTypes.toList)) = true := by kernel_rfl
theorem named_ : Tryz.prog.funcNamed Rows.fnConfigEarlyRow.func = some 14 := by kernel_rfl
end Go.Proofs.YtnpkgmgedgcjmaaGreatDoor
