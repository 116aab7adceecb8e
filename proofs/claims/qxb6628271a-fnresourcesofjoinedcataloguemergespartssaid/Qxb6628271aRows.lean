/-
  No cell of these rows narrows 'for every input' (looked for: loops, veiled, ifaces, maps, wideKeys, modest, calm, conditions, laid).
  DERIVED. THE GIVEN ROWS OF THIS SEAT. 2 by the template 'for every input the law returns true; each argument reads behind the call as it read before'; 0 by the template 'total and deterministic' (their statements: Qxb6628271aTotals.lean).
  GIVEN WITH THE SEED: the statements are not yours to turn. If you find one false, say at which input.
  Laid BY PROGRAM, IN A SANDBOX (cutbox-rows.mjs): the forced cells as the released guide's own fill.sh prints them over the translation d6da14f9aa5a54af… (all of the seat's roots in one cut). By AI agents, Wed Nov 11 2026. No macro, syntax, notation, axiom, sorry.
-/
import Derived.Test.Qxb6628271aChecked
import GoSem.Claim
import GoSem.ClaimJoined
import GoSem.ClaimMapViews
import Derived.JoinedTies
import Derived.KernelRfl
namespace Go.Proofs.Qxb6628271a
/- THE CELL 'sum', in the pinned program and in every row, IS THE sha256 OF THE DUMP (.gsa) THAT Qxb6628271aProg.lean LOADS. Nothing in Lean hashes anything: it is a label: what it is worth is what the hold of that sum in a sandbox is worth. -/
noncomputable def Try.pinned : Pinned := { name := "qxb6628271a", sum := "d6da14f9aa5a54af409098ca6494f7cde427fe56a96972d70a7459507a4501e5", checked := Try.checked }
namespace Rows
def none {H : Type} : Left H := { results := [], args := [] }

/-- 'zzlaws_internal_policy_b1.FnResourcesMatchFirstSeenGrouping': WHATEVER THE INPUT: true; the input reads as it did. -/
def fnResourcesMatchFirstSeenGroupingSpec : ChangeSpec := { name := "fnResourcesMatchFirstSeenGrouping", fn := fun _ => fun
  | [d] => { results := [.lit (.bool true)], args := [d] }
  | _ => none }
def fnResourcesMatchFirstSeenGroupingRow : OpenClaim := { program := "qxb6628271a", sum := "d6da14f9aa5a54af409098ca6494f7cde427fe56a96972d70a7459507a4501e5", func := "example.com/castellan/castellan/zzlaws_internal_policy_b1.FnResourcesMatchFirstSeenGrouping", spec := "fnResourcesMatchFirstSeenGrouping", apart := false }
def FnResourcesMatchFirstSeenGroupingSaid : Prop := fnResourcesMatchFirstSeenGroupingRow.holds Try.pinned (OpenSpec.ofChange fnResourcesMatchFirstSeenGroupingSpec)

/-- ITS FALSE NEIGHBOUR: 'it returns false'. Refute it at one input. -/
def fnResourcesMatchFirstSeenGroupingWrong : ChangeSpec := { name := "fnResourcesMatchFirstSeenGrouping", fn := fun _ => fun
  | [d] => { results := [.lit (.bool false)], args := [d] }
  | _ => none }
def FnResourcesMatchFirstSeenGroupingWrongFalsely : Prop := fnResourcesMatchFirstSeenGroupingRow.holds Try.pinned (OpenSpec.ofChange fnResourcesMatchFirstSeenGroupingWrong)

/-- 'zzlaws_internal_policy_b1.FnResourcesOfJoinedCatalogueMergesParts': WHATEVER THE INPUT: true; the input reads as it did. -/
def fnResourcesOfJoinedCatalogueMergesPartsSpec : ChangeSpec := { name := "fnResourcesOfJoinedCatalogueMergesParts", fn := fun _ => fun
  | [d1, d2] => { results := [.lit (.bool true)], args := [d1, d2] }
  | _ => none }
def fnResourcesOfJoinedCatalogueMergesPartsRow : OpenClaim := { program := "qxb6628271a", sum := "d6da14f9aa5a54af409098ca6494f7cde427fe56a96972d70a7459507a4501e5", func := "example.com/castellan/castellan/zzlaws_internal_policy_b1.FnResourcesOfJoinedCatalogueMergesParts", spec := "fnResourcesOfJoinedCatalogueMergesParts", apart := false }
def FnResourcesOfJoinedCatalogueMergesPartsSaid : Prop := fnResourcesOfJoinedCatalogueMergesPartsRow.holds Try.pinned (OpenSpec.ofChange fnResourcesOfJoinedCatalogueMergesPartsSpec)

/-- ITS FALSE NEIGHBOUR: 'it returns false'. Refute it at one input. -/
def fnResourcesOfJoinedCatalogueMergesPartsWrong : ChangeSpec := { name := "fnResourcesOfJoinedCatalogueMergesParts", fn := fun _ => fun
  | [d1, d2] => { results := [.lit (.bool false)], args := [d1, d2] }
  | _ => none }
def FnResourcesOfJoinedCatalogueMergesPartsWrongFalsely : Prop := fnResourcesOfJoinedCatalogueMergesPartsRow.holds Try.pinned (OpenSpec.ofChange fnResourcesOfJoinedCatalogueMergesPartsWrong)

end Rows
end Go.Proofs.Qxb6628271a
