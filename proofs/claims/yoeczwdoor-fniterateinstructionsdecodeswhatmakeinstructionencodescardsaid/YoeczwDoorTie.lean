/-
  DERIVED. GIVEN WITH THE SEED: THE PROGRAM's TIES (one call each: nine closed facts by the kernel) AND EACH ROW's TIE, after the 31st guide's Derived/Test/Toyas{Tie, Card}.lean. No idea stands in it: it is a product of the set-up. Laid BY PROGRAM, IN A SANDBOX (cutbox-door.mjs). By AI agents, Wed Nov 11 2026. No macro, syntax, notation, axiom, sorry.
-/
import Derived.Test.YoeczwDoorRows
import Derived.LaidByTextLater
import Derived.SevenTiedAt
import Derived.LaidSub
import Derived.LaidOnce
namespace Go.Proofs.YoeczwDoor
open Go
set_option maxRecDepth 100000
theorem seatTie1 : Eczg.prog.laidByTextLater [("github.com/d5/tengo/v2/parser.OpcodeOperands", Rows.laid_github_com_d5_tengo_v2_parser_OpcodeOperands)] [.widerDeep] true :=
  Program.laidByTextLater_by_one 56 8 43 (by kernel_rfl) (by kernel_rfl) (by kernel_rfl) (by kernel_rfl) (by kernel_rfl) (by kernel_rfl) (fun _ _ => by kernel_rfl)
theorem noOwnUnsafe : Eczg.pinned.checked.prog.headLifts.contains "ownunsafe" = false := by kernel_rfl
theorem tie : Eczg.prog.laidByTextLater [("github.com/d5/tengo/v2/parser.OpcodeOperands", Rows.laid_github_com_d5_tengo_v2_parser_OpcodeOperands)] [.widerDeep] true :=
  Program.laidByTextLater.sub seatTie1 ["github.com/d5/tengo/v2/parser.OpcodeOperands"] (by kernel_rfl) (by kernel_rfl)
theorem fnIterateInstructionsDecodesWhatMakeInstructionEncodes_row_tie : Rows.fnIterateInstructionsDecodesWhatMakeInstructionEncodesRow.laidByTextAt .later Eczg.pinned [.widerDeep] true :=
  OpenClaim.laidByTextAt_later rfl rfl tie noOwnUnsafe
theorem fnIterateInstructionsStopsWhenAsked_row_tie : Rows.fnIterateInstructionsStopsWhenAskedRow.laidByTextAt .later Eczg.pinned [.widerDeep] true :=
  OpenClaim.laidByTextAt_later rfl rfl tie noOwnUnsafe
end Go.Proofs.YoeczwDoor
