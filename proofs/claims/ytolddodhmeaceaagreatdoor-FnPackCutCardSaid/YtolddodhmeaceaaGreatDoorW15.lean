/- laws.FnPackCut: whatever the input, the call answers true and the input reads behind it as it read before; the 32 listed package-level variables hold what the card ties to the program's text. -/
import Derived.Test.YtolddodhmeaceaaGreatDoorCards
import Derived.Test.YtolddodhmeaceaaGreatDoorW13
import Derived.Test.YtolddodhmeaceaaGreatDoorW14
import Derived.SevenTiedAt
set_option linter.unusedVariables false
set_option linter.unusedSimpArgs false
set_option maxRecDepth 100000
namespace Go.Proofs.YtolddodhmeaceaaGreatDoor
open Go
theorem cd1 : Rows.fnPackCutRow.wfByText (OpenSpec.ofChange Rows.fnPackCutSpec) = true := by kernel_rfl
theorem cd2 : Tryz.pinned.checked.prog.mainIs = some (true, "b5334019fff0edc385f56c0c5abfc52264adc7ed25a4cc6853de5ea1f1935b5f".toList) := by kernel_rfl
theorem cd3 : true = Tryz.pinned.checked.prog.looks [] := by kernel_rfl
theorem cd4 : ([22, 3].all fun u => !Tryz.prog.wantsStandIn u) = true := by kernel_rfl
theorem cd5 : false = Rows.fnPackCutRow.goesBy Tryz.pinned.checked.prog := by kernel_rfl
theorem cd6 : Tryz.prog.funcNamed "loop.example/pub-g01474/laws.FnPackCut" = some 3 := by kernel_rfl
theorem fnPackCut_card : Rows.FnPackCutCardSaid :=
  Claim7.holds_tied_plain_at .later [] kindsL true (true, "b5334019fff0edc385f56c0c5abfc52264adc7ed25a4cc6853de5ea1f1935b5f") true
    fnPackCut_holds (fun _ h => by cases h) cd1 (fun _ h => by cases h) row_tie rfl ⟨rfl, rfl⟩ cd2 rfl
    (fun f fn hf hfn => by
      obtain rfl : f = 3 := Option.some.inj (cd6.symm.trans hf) |>.symm
      obtain rfl : fn = Tryz.f3 := (Option.some.inj (Tryz.func3.symm.trans hfn)).symm
      exact ⟨cd3, fun j t ht => by
        rw [Tryz.params3] at ht
        have hm : t ∈ [22, 3] := by simpa using Array.mem_of_getElem? ht
        exact (show Tryz.prog.wantsStandIn t = false by simpa using List.all_eq_true.1 cd4 t hm)⟩)
    cd5
#print axioms fnPackCut_card
end Go.Proofs.YtolddodhmeaceaaGreatDoor
