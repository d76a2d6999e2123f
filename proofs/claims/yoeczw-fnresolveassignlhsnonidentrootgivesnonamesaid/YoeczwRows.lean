/-
  No cell of these rows narrows 'for every input' (looked for: loops, veiled, ifaces, maps, wideKeys, modest, calm, conditions, laid).
  DERIVED. THE GIVEN ROWS OF THIS SEAT. 2 by the template 'for every input the law returns true; each argument reads behind the call as it read before'; 0 by the template 'total and deterministic' (their statements: YoeczwTotals.lean).
  GIVEN WITH THE SEED: the statements are not yours to turn. If you find one false, say at which input.
  Laid BY PROGRAM, IN A SANDBOX (cutbox-rows.mjs): the forced cells as the released guide's own fill.sh prints them over the translation e39e0327f1e4a39e… (all of the seat's roots in one cut). By AI agents, Wed Nov 11 2026. No macro, syntax, notation, axiom, sorry.
-/
import Derived.Test.YoeczwChecked
import GoSem.Claim
import GoSem.ClaimJoined
import GoSem.ClaimMapViews
import Derived.JoinedTies
import Derived.KernelRfl
namespace Go.Proofs.Yoeczw
/- THE CELL 'sum', in the pinned program and in every row, IS THE sha256 OF THE DUMP (.gsa) THAT YoeczwProg.lean LOADS. Nothing in Lean hashes anything: it is a label: what it is worth is what the hold of that sum in a sandbox is worth. -/
noncomputable def Eczg.pinned : Pinned := { name := "yoeczw", sum := "e39e0327f1e4a39e7181886f93a461afa95505349e0f3f894b56b11dbde49f5f", checked := Eczg.checked }
namespace Rows
def none {H : Type} : Left H := { results := [], args := [] }

/-- 'zzlaws_root_b3.FnResolveAssignLHSUnwindsChain': WHATEVER THE INPUT: true; the input reads as it did. -/
def fnResolveAssignLHSUnwindsChainSpec : ChangeSpec := { name := "fnResolveAssignLHSUnwindsChain", fn := fun _ => fun
  | [d1, d2, d3] => { results := [.lit (.bool true)], args := [d1, d2, d3] }
  | _ => none }
def fnResolveAssignLHSUnwindsChainRow : OpenClaim := { program := "yoeczw", sum := "e39e0327f1e4a39e7181886f93a461afa95505349e0f3f894b56b11dbde49f5f", func := "github.com/d5/tengo/v2/zzlaws_root_b3.FnResolveAssignLHSUnwindsChain", spec := "fnResolveAssignLHSUnwindsChain", recurses := true, apart := false }
def FnResolveAssignLHSUnwindsChainSaid : Prop := fnResolveAssignLHSUnwindsChainRow.holds Eczg.pinned (OpenSpec.ofChange fnResolveAssignLHSUnwindsChainSpec)

/-- ITS FALSE NEIGHBOUR: 'it returns false'. Refute it at one input. -/
def fnResolveAssignLHSUnwindsChainWrong : ChangeSpec := { name := "fnResolveAssignLHSUnwindsChain", fn := fun _ => fun
  | [d1, d2, d3] => { results := [.lit (.bool false)], args := [d1, d2, d3] }
  | _ => none }
def FnResolveAssignLHSUnwindsChainWrongFalsely : Prop := fnResolveAssignLHSUnwindsChainRow.holds Eczg.pinned (OpenSpec.ofChange fnResolveAssignLHSUnwindsChainWrong)

/-- 'zzlaws_root_b3.FnResolveAssignLHSNonIdentRootGivesNoName': WHATEVER THE INPUT: true; the input reads as it did. -/
def fnResolveAssignLHSNonIdentRootGivesNoNameSpec : ChangeSpec := { name := "fnResolveAssignLHSNonIdentRootGivesNoName", fn := fun _ => fun
  | [d1, d2, d3] => { results := [.lit (.bool true)], args := [d1, d2, d3] }
  | _ => none }
def fnResolveAssignLHSNonIdentRootGivesNoNameRow : OpenClaim := { program := "yoeczw", sum := "e39e0327f1e4a39e7181886f93a461afa95505349e0f3f894b56b11dbde49f5f", func := "github.com/d5/tengo/v2/zzlaws_root_b3.FnResolveAssignLHSNonIdentRootGivesNoName", spec := "fnResolveAssignLHSNonIdentRootGivesNoName", recurses := true, apart := false }
def FnResolveAssignLHSNonIdentRootGivesNoNameSaid : Prop := fnResolveAssignLHSNonIdentRootGivesNoNameRow.holds Eczg.pinned (OpenSpec.ofChange fnResolveAssignLHSNonIdentRootGivesNoNameSpec)

/-- ITS FALSE NEIGHBOUR: 'it returns false'. Refute it at one input. -/
def fnResolveAssignLHSNonIdentRootGivesNoNameWrong : ChangeSpec := { name := "fnResolveAssignLHSNonIdentRootGivesNoName", fn := fun _ => fun
  | [d1, d2, d3] => { results := [.lit (.bool false)], args := [d1, d2, d3] }
  | _ => none }
def FnResolveAssignLHSNonIdentRootGivesNoNameWrongFalsely : Prop := fnResolveAssignLHSNonIdentRootGivesNoNameRow.holds Eczg.pinned (OpenSpec.ofChange fnResolveAssignLHSNonIdentRootGivesNoNameWrong)

end Rows
end Go.Proofs.Yoeczw
