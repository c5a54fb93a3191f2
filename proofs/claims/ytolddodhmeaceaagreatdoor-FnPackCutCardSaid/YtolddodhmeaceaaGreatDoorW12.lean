/- Part 12 of the walk of laws.FnPackCut. -/
import Derived.Test.YtolddodhmeaceaaGreatDoorRows
import Derived.ProofKit
import Derived.LaidHandle
import Derived.LaidMore
set_option linter.unusedVariables false
set_option linter.unusedSimpArgs false
set_option maxRecDepth 100000
namespace Go.Proofs.YtolddodhmeaceaaGreatDoor
open Go.ChangeShapes Go.WideShapes Go.RowKit
theorem door_met (os : Os) (args : Array Value) : laidMetH Tryz.prog Rows.fnPackCutRow.laid ((World.doorLaid Tryz.prog 2000 os).forCall (fun _ _ => 0) ⟨#[], args, []⟩).memory :=
  laidMetH_of_parts3 (fuel := 8) (laidMet_of_run' 8 (by kernel_rfl) (by kernel_rfl)) (by kernel_rfl) (by kernel_rfl)
theorem shapedW (os : Os) : ((World.doorLaid Tryz.prog 2000 os).forCall (fun _ _ => 0) ⟨#[], #[.slice none 0 0, .int .i64 0], []⟩).Shaped Tryz.prog := World.shaped_of_RefB (by kernel_rfl) (by kernel_rfl)
theorem okW (os : Os) : Input.okWideB Tryz.prog ((World.doorLaid Tryz.prog 2000 os).forCall (fun _ _ => 0) ⟨#[], #[.slice none 0 0, .int .i64 0], []⟩) 3 ⟨#[], #[.slice none 0 0, .int .i64 0], []⟩ = true := by kernel_rfl
theorem preW (os : Os) (H : Type) (enc : TypeId × Value → H) : Rows.fnPackCutSpec.preB enc Tryz.prog Tryz.f3 [] false ((World.doorLaid Tryz.prog 2000 os).forCall (fun _ _ => 0) ⟨#[], #[.slice none 0 0, .int .i64 0], []⟩).memory #[.slice none 0 0, .int .i64 0] 8 = true := by kernel_rfl
theorem sizW (os : Os) (H : Type) (enc : TypeId × Value → H) : Rows.fnPackCutSpec.sizedB enc Tryz.prog Tryz.f3 false ((World.doorLaid Tryz.prog 2000 os).forCall (fun _ _ => 0) ⟨#[], #[.slice none 0 0, .int .i64 0], []⟩).memory #[.slice none 0 0, .int .i64 0] 8 = true := by kernel_rfl
end Go.Proofs.YtolddodhmeaceaaGreatDoor
