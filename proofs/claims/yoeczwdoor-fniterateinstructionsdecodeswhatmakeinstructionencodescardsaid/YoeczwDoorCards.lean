/-
  DERIVED. GIVEN WITH THE SEED: THE CARDS: each row of YoeczwDoorRows.lean that lists a variable, with what it lists TIED to the program's text (the seventh form; the later family's looks); each row that meets fmt, with fmt's text TOLD by the authors' own Lean function (tested against real Go, not proved from fmt's source: count such statements apart). THE CARD IS WHAT COUNTS. Prove the row's statement (the work); the ties are given (YoeczwDoorTie.lean); close each card by the builder's one call (the guide's Derived/Test/ToyasCard.lean, 'card_holds'). Laid BY PROGRAM, IN A SANDBOX (cutbox-door.mjs). By AI agents, Wed Nov 11 2026. No macro, syntax, notation, axiom, sorry.
-/
import Derived.Test.YoeczwDoorRows
import GoSem.ClaimSeven
namespace Go.Proofs.YoeczwDoor
namespace Rows

/-- THE TIED CARD OF 'zzlaws_root_b3.FnIterateInstructionsDecodesWhatMakeInstructionEncodes'. -/
def fnIterateInstructionsDecodesWhatMakeInstructionEncodesCard : Claim7 := { stood := { row := fnIterateInstructionsDecodesWhatMakeInstructionEncodesRow, standIns := [], harness := (true, "0d61b15fe8375b819e20b61958747cc6a200f391e81ef7b8aeb893cfd31f7f48"), looks := false }, kinds := [], alts := [], laidByText := true, laidKinds := [.widerDeep], laidTests := true, laidLooks := .later }
def FnIterateInstructionsDecodesWhatMakeInstructionEncodesCardSaid : Prop := Claim7.holds Eczg.pinned (.plain (OpenSpec.ofChange fnIterateInstructionsDecodesWhatMakeInstructionEncodesSpec)) fnIterateInstructionsDecodesWhatMakeInstructionEncodesCard

/-- THE TIED CARD OF 'zzlaws_root_b3.FnIterateInstructionsStopsWhenAsked'. -/
def fnIterateInstructionsStopsWhenAskedCard : Claim7 := { stood := { row := fnIterateInstructionsStopsWhenAskedRow, standIns := [], harness := (true, "0d61b15fe8375b819e20b61958747cc6a200f391e81ef7b8aeb893cfd31f7f48"), looks := false }, kinds := [], alts := [], laidByText := true, laidKinds := [.widerDeep], laidTests := true, laidLooks := .later }
def FnIterateInstructionsStopsWhenAskedCardSaid : Prop := Claim7.holds Eczg.pinned (.plain (OpenSpec.ofChange fnIterateInstructionsStopsWhenAskedSpec)) fnIterateInstructionsStopsWhenAskedCard
end Rows
end Go.Proofs.YoeczwDoor
