/-
  DERIVED. GIVEN WITH THE SEED: THE CARDS: each row of YtolddodhmeaceaaGreatDoorRows.lean that lists a variable, with what it lists TIED to the program's text (the seventh form; the later family's looks); each row that meets fmt, with fmt's text TOLD by the authors' own Lean function (tested against real Go, not proved from fmt's source: count such statements apart). THE CARD IS WHAT COUNTS. Prove the row's statement (the work); the ties are given (YtolddodhmeaceaaGreatDoorTie.lean); close each card by the builder's one call (the guide's Derived/Test/ToyasCard.lean, 'card_holds'). Laid BY PROGRAM, IN A SANDBOX (cutbox-door.mjs). By AI agents, Wed Nov 11 2026. No macro, syntax, notation, axiom, sorry.
-/
import Derived.Test.YtolddodhmeaceaaGreatDoorRows
import GoSem.ClaimSeven
namespace Go.Proofs.YtolddodhmeaceaaGreatDoor
namespace Rows

/-- THE TIED CARD OF 'laws.FnPackCut'. -/
def fnPackCutCard : Claim7 := { stood := { row := fnPackCutRow, standIns := [], harness := (true, "b5334019fff0edc385f56c0c5abfc52264adc7ed25a4cc6853de5ea1f1935b5f"), looks := true }, kinds := [], alts := [], laidByText := true, laidKinds := [.sentinel, .sentinel, .sentinel, .sentinel, .data, .data, .sentinel, .sentinel, .sentinel, .sentinel, .sentinel, .sentinel, .sentinel, .sentinel, .data, .sentinel, .sentinel, .sentinel, .sentinel, .sentinel, .sentinel, .sentinel, .sentinel, .sentinel, .data, .data, .data, .sentinel, .sentinel, .sentinel, .sentinel, .sentinel], laidTests := true, laidLooks := .later }
def FnPackCutCardSaid : Prop := Claim7.holds Tryz.pinned (.plain (OpenSpec.ofChange fnPackCutSpec)) fnPackCutCard

/-- THE SECOND FORM's CARD OF 'laws.FnPackCut'. -/
def fnPackCutUptoCard : Claim7 := { stood := { row := fnPackCutUptoRow, standIns := [], harness := (true, "b5334019fff0edc385f56c0c5abfc52264adc7ed25a4cc6853de5ea1f1935b5f"), looks := true }, kinds := [], alts := [], laidByText := true, laidKinds := [.sentinel, .sentinel, .sentinel, .sentinel, .data, .data, .sentinel, .sentinel, .sentinel, .sentinel, .sentinel, .sentinel, .sentinel, .sentinel, .data, .sentinel, .sentinel, .sentinel, .sentinel, .sentinel, .sentinel, .sentinel, .sentinel, .sentinel, .data, .data, .data, .sentinel, .sentinel, .sentinel, .sentinel, .sentinel], laidTests := true, laidLooks := .later }
def FnPackCutUptoCardSaid : Prop := Claim7.holds Tryz.pinned (.plain (OpenSpec.upto fnPackCutSpec)) fnPackCutUptoCard
end Rows
end Go.Proofs.YtolddodhmeaceaaGreatDoor
