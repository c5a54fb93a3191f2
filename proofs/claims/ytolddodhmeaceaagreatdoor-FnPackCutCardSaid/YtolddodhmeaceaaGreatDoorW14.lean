/- Part 14 of the walk of laws.FnPackCut. -/
import Derived.Test.YtolddodhmeaceaaGreatDoorRows
import Derived.LaidByTextLater
import Derived.SevenTiedAt
set_option linter.unusedVariables false
set_option linter.unusedSimpArgs false
set_option maxRecDepth 100000
namespace Go.Proofs.YtolddodhmeaceaaGreatDoor
open Go
abbrev kindsL : List LaidKind := [.sentinel, .sentinel, .sentinel, .sentinel, .data, .data, .sentinel, .sentinel, .sentinel, .sentinel, .sentinel, .sentinel, .sentinel, .sentinel, .data, .sentinel, .sentinel, .sentinel, .sentinel, .sentinel, .sentinel, .sentinel, .sentinel, .sentinel, .data, .data, .data, .sentinel, .sentinel, .sentinel, .sentinel, .sentinel]
theorem ti1 : Tryz.prog.worded (varsWordLater true) = true := by kernel_rfl
theorem ti2 : Tryz.prog.worded (varsWordLater !true) = false := by kernel_rfl
theorem ti3 : Tryz.prog.worded rootWordLater = true := by kernel_rfl
theorem ti4 : Rows.fnPackCutRow.laid.map (fun x => Tryz.prog.kindOfLater x.1) = kindsL.map some := by kernel_rfl
theorem ti5 : (Tryz.prog.funcNamed "gosem.cut.vars").isSome = true := by kernel_rfl
theorem ti6 : varsNamedLaterB Tryz.prog (varsId Tryz.prog) Rows.fnPackCutRow.laid = true := by kernel_rfl
theorem ti7 (os : Os) (tape : Tape) : varsDone Tryz.prog 2000 (varsId Tryz.prog) os tape = true := by kernel_rfl
theorem ti8 (os : Os) (tape : Tape) : (DataW.laidRun Tryz.prog (varsWorld Tryz.prog 2000 (varsId Tryz.prog) os tape).memory 8 (Rows.fnPackCutRow.laid.map (·.1))).map (·.1) = some Rows.fnPackCutRow.laid := by kernel_rfl
theorem ti9 (os : Os) (tape : Tape) : (DataW.laidRun Tryz.prog (varsWorld Tryz.prog 2000 (varsId Tryz.prog) os tape).memory 8 (Rows.fnPackCutRow.laid.map (·.1))).map (fun x => decide x.2.Nodup && laidRowsB Tryz.prog (varsWorld Tryz.prog 2000 (varsId Tryz.prog) os tape).memory x.2) = some true := by kernel_rfl
theorem ti10 : (Rows.fnPackCutRow.laid.all fun x => x.2.handleName?.isNone) = true := by kernel_rfl
theorem ti11 : Tryz.pinned.checked.prog.headLifts.contains "ownunsafe" = false := by kernel_rfl
theorem tie : Tryz.prog.laidByTextLater Rows.fnPackCutRow.laid kindsL true :=
  Program.laidByTextLater_by_run 2000 8 ti1 ti2 ti3 ti4 ti5 ti6 ti7 ti8 ti9 ti10
theorem row_tie : Rows.fnPackCutRow.laidByTextAt .later Tryz.pinned kindsL true :=
  OpenClaim.laidByTextAt_later rfl rfl tie ti11
end Go.Proofs.YtolddodhmeaceaaGreatDoor
