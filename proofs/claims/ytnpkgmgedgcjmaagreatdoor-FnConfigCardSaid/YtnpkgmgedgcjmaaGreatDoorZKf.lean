/- A part of the proof: Kf. -/
import Derived.JoinedOf
import Derived.KernelRfl
import Derived.Test.YtnpkgmgedgcjmaaGreatDoorRows
set_option linter.all false
section
namespace Go.Proofs.YtnpkgmgedgcjmaaGreatDoor
open Go
theorem and_t {a b : Bool} (ha : a = true) (hb : b = true) : (a && b) = true := by rw [ha, hb]; rfl
theorem fact1 : (Rows.fnConfigRow.wf (OpenSpec.ofChange Rows.fnConfigSpec)) = true := by kernel_rfl
theorem fact2 : (laidOutB Tryz.prog) = true := by kernel_rfl
theorem fact3 : (mapsRowed Tryz.prog) = true := by kernel_rfl
theorem fact4 : (Tryz.f13.params.all (Tryz.prog.readableRec ·)) = true := by kernel_rfl
theorem fact5 : (namedTie Tryz.prog Rows.fnConfigRow.named Rows.fnConfigSpec.vars) = true := by kernel_rfl
theorem fact6 : ((Rows.fnConfigRow.stops == [])) = true := by kernel_rfl
theorem fact7 : ((Tryz.prog.stops == [])) = true := by kernel_rfl
theorem fact8 : ((Rows.fnConfigRow.knobs == [])) = true := by kernel_rfl
theorem fact9 : ((Tryz.prog.stopKnobs == [])) = true := by kernel_rfl
theorem fact10 : ((Rows.fnConfigRow.inPlace == Tryz.prog.inPlace 13)) = true := by kernel_rfl
theorem fact11 : ((Rows.fnConfigRow.unfollowed == Tryz.prog.unfollowed 13)) = true := by kernel_rfl
theorem fact12 : ((Rows.fnConfigRow.recurses == Tryz.prog.recurses 13)) = true := by kernel_rfl
theorem fact13 : ((Rows.fnConfigRow.named == Tryz.prog.varsNamed 13)) = true := by kernel_rfl
theorem fact14 : ((Rows.fnConfigRow.maps == (Tryz.f13.params.toList ++ Rows.fnConfigSpec.plain.varTypes Tryz.prog).any (Tryz.prog.mapsRec ·))) = true := by kernel_rfl
theorem fact15 : ((Rows.fnConfigRow.ifaces == (Tryz.f13.params.toList ++ Rows.fnConfigSpec.plain.varTypes Tryz.prog).any (Tryz.prog.ifacesRec ·))) = true := by kernel_rfl
theorem fact16 : ((Rows.fnConfigRow.mapsOut == Tryz.prog.mapsAmong Tryz.f13.resultTypes.toList)) = true := by kernel_rfl
theorem fact17 : ((Rows.fnConfigRow.loops == (Tryz.f13.params.toList ++ Rows.fnConfigSpec.plain.varTypes Tryz.prog).any (Tryz.prog.loopsFrom ·))) = true := by kernel_rfl
theorem fact18 : ((Rows.fnConfigRow.wideKeys == (Tryz.f13.params.toList ++ Rows.fnConfigSpec.plain.varTypes Tryz.prog ++ Tryz.f13.resultTypes.toList).any (Tryz.prog.wideKeysFrom ·))) = true := by kernel_rfl
theorem fact19 : (Rows.fnConfigSpec.vars.all (Tryz.prog.varReadable ·)) = true := by kernel_rfl
theorem fact20 : (Tryz.f13.resultTypes.all (fun t => Tryz.prog.readableRec t && decide (t < Tryz.prog.types.size))) = true := by kernel_rfl
theorem fact21 : ((Rows.fnConfigRow.ifacesOut == Tryz.f13.resultTypes.toList.any (Tryz.prog.ifacesRec ·))) = true := by kernel_rfl
theorem fact22 : ((Rows.fnConfigRow.loopsOut == Tryz.f13.resultTypes.toList.any (Tryz.prog.loopsFrom ·))) = true := by kernel_rfl
theorem fact23 : ((Rows.fnConfigRow.plainKeys == Tryz.prog.plainKeys)) = true := by kernel_rfl
theorem fact24 : (Rows.fnConfigRow.shortTexts.isNone) = true := by kernel_rfl
theorem fact25 : (Tryz.prog.stopsHeard) = true := by kernel_rfl
theorem fact26 : (Tryz.prog.mayEnter) = true := by kernel_rfl
theorem fact27 : ((Rows.fnConfigRow.lifted == Tryz.prog.liftsFinal)) = true := by kernel_rfl
theorem fact28 : ((Tryz.prog.make == some Rows.fnConfigRow.make)) = true := by kernel_rfl
theorem fact29 : ((Rows.fnConfigRow.kinds == (if Rows.fnConfigRow.domain.isEmpty then [] else Tryz.f13.params.toList.map fun t => match Tryz.prog.underlying t with | some (.int k) => some k | _ => none))) = true := by kernel_rfl
theorem fact30 : ((Rows.fnConfigRow.pinned == Rows.fnConfigRow.pinnedBy)) = true := by kernel_rfl
theorem fact31 : ((Rows.fnConfigRow.veiled == (Tryz.f13.params.toList ++ Rows.fnConfigSpec.plain.varTypes Tryz.prog ++ Tryz.f13.resultTypes.toList).any (Tryz.prog.veiledRec ·))) = true := by kernel_rfl
theorem fact32 : (Rows.fnConfigRow.veiledFits Tryz.prog Tryz.f13.params.toList (Tryz.f13.params.toList ++ Rows.fnConfigSpec.plain.varTypes Tryz.prog ++ Tryz.f13.resultTypes.toList)) = true := by kernel_rfl
theorem named_ : Tryz.prog.funcNamed Rows.fnConfigRow.func = some 13 := by kernel_rfl
end Go.Proofs.YtnpkgmgedgcjmaaGreatDoor
end
