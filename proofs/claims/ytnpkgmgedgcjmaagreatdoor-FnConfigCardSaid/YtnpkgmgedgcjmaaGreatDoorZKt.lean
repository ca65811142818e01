/- A part of the proof: Kt. -/
import Derived.LaidByTextLater
import Derived.LaidOnce
import Derived.LaidSub
import Derived.SevenTiedAt
import Derived.Test.YtnpkgmgedgcjmaaGreatDoorRows
set_option linter.all false
section
namespace Go.Proofs.YtnpkgmgedgcjmaaGreatDoor
open Go
set_option maxRecDepth 100000
theorem tied1 : Tryz.prog.worded (varsWordLater true) = true := by kernel_rfl
theorem tied2 : Tryz.prog.worded (varsWordLater !true) = false := by kernel_rfl
theorem tied3 : Tryz.prog.worded rootWordLater = true := by kernel_rfl
theorem tied4 : Rows.fnConfigRow.laid.map (fun x => Tryz.prog.kindOfLater x.1) = [LaidKind.handle, .sentinel, .sentinel, .sentinel, .sentinel, .data, .sentinel, .sentinel, .data, .data].map some := by kernel_rfl
theorem tied5 : (Tryz.prog.funcNamed "gosem.cut.vars").isSome = true := by kernel_rfl
theorem tied6 : varsNamedLaterB Tryz.prog (varsId Tryz.prog) Rows.fnConfigRow.laid = true := by kernel_rfl
theorem tied7 (os : Os) (tape : Tape) : doorLeaves Tryz.prog 205 8 257 Rows.fnConfigRow.laid os tape = some (Rows.fnConfigRow.laid.filter fun x => x.2.handleName?.isNone, (funcsListed Rows.fnConfigRow.laid).map (·.2.funcsOut)) := by kernel_rfl
theorem tied8 : Tryz.pinned.checked.prog.headLifts.contains "ownunsafe" = false := by kernel_rfl
theorem tied : Tryz.prog.laidByTextLater Rows.fnConfigRow.laid [.handle, .sentinel, .sentinel, .sentinel, .sentinel, .data, .sentinel, .sentinel, .data, .data] true :=
 Program.laidByTextLater_by_one 205 8 257 tied1 tied2 tied3 tied4 tied5 tied6 tied7
theorem row_tied : Rows.fnConfigRow.laidByTextAt .later Tryz.pinned [.handle, .sentinel, .sentinel, .sentinel, .sentinel, .data, .sentinel, .sentinel, .data, .data] true :=
 OpenClaim.laidByTextAt_later rfl rfl tied tied8
end Go.Proofs.YtnpkgmgedgcjmaaGreatDoor
end
