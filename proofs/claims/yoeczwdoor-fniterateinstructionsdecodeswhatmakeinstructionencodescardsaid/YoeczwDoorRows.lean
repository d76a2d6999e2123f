/-
  NARROWER THAN 'FOR EVERY INPUT', by the rows' own cells (each row's printed sentence says how): FnIterateInstructionsDecodesWhatMakeInstructionEncodes: laid · FnIterateInstructionsStopsWhenAsked: laid.
  DERIVED. THE GIVEN ROWS OF THIS SEAT. 2 by the template 'for every input the law returns true; each argument reads behind the call as it read before'; 0 by the template 'total and deterministic' (their statements: YoeczwDoorTotals.lean).
  GIVEN WITH THE SEED: the statements are not yours to turn. If you find one false, say at which input.
  Laid BY PROGRAM, IN A SANDBOX (cutbox-rows.mjs): the forced cells as the released guide's own fill.sh prints them over the translation 37c6d75e53ace8d4… (all of the seat's roots in one cut). By AI agents, Wed Nov 11 2026. No macro, syntax, notation, axiom, sorry.
-/
import Derived.Test.YoeczwDoorChecked
import GoSem.Claim
import GoSem.ClaimJoined
import GoSem.ClaimMapViews
import Derived.JoinedTies
import Derived.KernelRfl
namespace Go.Proofs.YoeczwDoor
/- THE CELL 'sum', in the pinned program and in every row, IS THE sha256 OF THE DUMP (.gsa) THAT YoeczwDoorProg.lean LOADS. Nothing in Lean hashes anything: it is a label: what it is worth is what the hold of that sum in a sandbox is worth. -/
noncomputable def Eczg.pinned : Pinned := { name := "yoeczwdoor", sum := "37c6d75e53ace8d44afc173abdcd6e364a6c3a97b3e3db10462362b07f0edd3b", checked := Eczg.checked }
namespace Rows
def none {H : Type} : Left H := { results := [], args := [] }

/- WHAT THE LISTED PACKAGE-LEVEL VARIABLES READ AS WHEN THE CALL BEGINS. Each datum BY PROGRAM (the guide's laid-datum.mjs) off the statement by which the dump's own 'gosem.cut.vars' lays the variable. In a bare row this is a premise. The card (YoeczwDoorCards.lean) ties it to the program's text. -/
def laid_github_com_d5_tengo_v2_parser_OpcodeOperands {H : Type} : DataW H := .agg [.slice [.lit (.int .i64 2)] [], .slice [] [], .slice [] [], .slice [] [], .slice [] [], .slice [] [], .slice [] [], .slice [] [], .slice [] [], .slice [.lit (.int .i64 4)] [], .slice [.lit (.int .i64 4)] [], .slice [.lit (.int .i64 4)] [], .slice [.lit (.int .i64 4)] [], .slice [] [], .slice [.lit (.int .i64 2)] [], .slice [.lit (.int .i64 2)] [], .slice [] [], .slice [] [], .slice [] [], .slice [] [], .slice [.lit (.int .i64 1), .lit (.int .i64 1)] [], .slice [.lit (.int .i64 1)] [], .slice [.lit (.int .i64 2)] [], .slice [.lit (.int .i64 2)] [], .slice [.lit (.int .i64 2), .lit (.int .i64 1)] [], .slice [.lit (.int .i64 1)] [], .slice [.lit (.int .i64 1)] [], .slice [.lit (.int .i64 1)] [], .slice [.lit (.int .i64 1), .lit (.int .i64 1)] [], .slice [.lit (.int .i64 1)] [], .slice [.lit (.int .i64 1)] [], .slice [.lit (.int .i64 1)] [], .slice [.lit (.int .i64 1)] [], .slice [.lit (.int .i64 1), .lit (.int .i64 1)] [], .slice [.lit (.int .i64 1)] [], .slice [.lit (.int .i64 2), .lit (.int .i64 1)] [], .slice [] [], .slice [] [], .slice [] [], .slice [] [], .slice [.lit (.int .i64 1)] [], .slice [] []]

/-- 'zzlaws_root_b3.FnIterateInstructionsDecodesWhatMakeInstructionEncodes': WHATEVER THE INPUT: true; the input reads as it did. -/
def fnIterateInstructionsDecodesWhatMakeInstructionEncodesSpec : ChangeSpec := { name := "fnIterateInstructionsDecodesWhatMakeInstructionEncodes", vars := ["github.com/d5/tengo/v2/parser.OpcodeOperands"], fn := fun _ => fun
  | [d1, d2, g1] => { results := [.lit (.bool true)], args := [d1, d2], vars := [g1] }
  | _ => none }
def fnIterateInstructionsDecodesWhatMakeInstructionEncodesRow : OpenClaim := { program := "yoeczwdoor", sum := "37c6d75e53ace8d44afc173abdcd6e364a6c3a97b3e3db10462362b07f0edd3b", func := "github.com/d5/tengo/v2/zzlaws_root_b3.FnIterateInstructionsDecodesWhatMakeInstructionEncodes", spec := "fnIterateInstructionsDecodesWhatMakeInstructionEncodes", unfollowed := true, recurses := true, named := ["github.com/d5/tengo/v2/parser.OpcodeOperands"], apart := false, laid := [("github.com/d5/tengo/v2/parser.OpcodeOperands", laid_github_com_d5_tengo_v2_parser_OpcodeOperands)] }
def FnIterateInstructionsDecodesWhatMakeInstructionEncodesSaid : Prop := fnIterateInstructionsDecodesWhatMakeInstructionEncodesRow.holds Eczg.pinned (OpenSpec.ofChange fnIterateInstructionsDecodesWhatMakeInstructionEncodesSpec)

/-- ITS FALSE NEIGHBOUR: 'it returns false'. Refute it at one input. -/
def fnIterateInstructionsDecodesWhatMakeInstructionEncodesWrong : ChangeSpec := { name := "fnIterateInstructionsDecodesWhatMakeInstructionEncodes", vars := ["github.com/d5/tengo/v2/parser.OpcodeOperands"], fn := fun _ => fun
  | [d1, d2, g1] => { results := [.lit (.bool false)], args := [d1, d2], vars := [g1] }
  | _ => none }
def FnIterateInstructionsDecodesWhatMakeInstructionEncodesWrongFalsely : Prop := fnIterateInstructionsDecodesWhatMakeInstructionEncodesRow.holds Eczg.pinned (OpenSpec.ofChange fnIterateInstructionsDecodesWhatMakeInstructionEncodesWrong)

/-- 'zzlaws_root_b3.FnIterateInstructionsStopsWhenAsked': WHATEVER THE INPUT: true; the input reads as it did. -/
def fnIterateInstructionsStopsWhenAskedSpec : ChangeSpec := { name := "fnIterateInstructionsStopsWhenAsked", vars := ["github.com/d5/tengo/v2/parser.OpcodeOperands"], fn := fun _ => fun
  | [d1, d2, d3, g1] => { results := [.lit (.bool true)], args := [d1, d2, d3], vars := [g1] }
  | _ => none }
def fnIterateInstructionsStopsWhenAskedRow : OpenClaim := { program := "yoeczwdoor", sum := "37c6d75e53ace8d44afc173abdcd6e364a6c3a97b3e3db10462362b07f0edd3b", func := "github.com/d5/tengo/v2/zzlaws_root_b3.FnIterateInstructionsStopsWhenAsked", spec := "fnIterateInstructionsStopsWhenAsked", unfollowed := true, recurses := true, named := ["github.com/d5/tengo/v2/parser.OpcodeOperands"], apart := false, laid := [("github.com/d5/tengo/v2/parser.OpcodeOperands", laid_github_com_d5_tengo_v2_parser_OpcodeOperands)] }
def FnIterateInstructionsStopsWhenAskedSaid : Prop := fnIterateInstructionsStopsWhenAskedRow.holds Eczg.pinned (OpenSpec.ofChange fnIterateInstructionsStopsWhenAskedSpec)

/-- ITS FALSE NEIGHBOUR: 'it returns false'. Refute it at one input. -/
def fnIterateInstructionsStopsWhenAskedWrong : ChangeSpec := { name := "fnIterateInstructionsStopsWhenAsked", vars := ["github.com/d5/tengo/v2/parser.OpcodeOperands"], fn := fun _ => fun
  | [d1, d2, d3, g1] => { results := [.lit (.bool false)], args := [d1, d2, d3], vars := [g1] }
  | _ => none }
def FnIterateInstructionsStopsWhenAskedWrongFalsely : Prop := fnIterateInstructionsStopsWhenAskedRow.holds Eczg.pinned (OpenSpec.ofChange fnIterateInstructionsStopsWhenAskedWrong)

end Rows
end Go.Proofs.YoeczwDoor
