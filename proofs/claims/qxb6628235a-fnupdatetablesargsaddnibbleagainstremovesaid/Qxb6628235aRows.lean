/-
  No cell of these rows narrows 'for every input' (looked for: loops, veiled, ifaces, maps, wideKeys, modest, calm, conditions, laid).
  DERIVED. THE GIVEN ROWS OF THIS SEAT. 2 by the template 'for every input the law returns true; each argument reads behind the call as it read before'; 0 by the template 'total and deterministic' (their statements: Qxb6628235aTotals.lean).
  GIVEN WITH THE SEED: the statements are not yours to turn. If you find one false, say at which input.
  Laid BY PROGRAM, IN A SANDBOX (cutbox-rows.mjs): the forced cells as the released guide's own fill.sh prints them over the translation 323be2166e827532… (all of the seat's roots in one cut). By AI agents, Wed Nov 11 2026. No macro, syntax, notation, axiom, sorry.
-/
import Derived.Test.Qxb6628235aChecked
import GoSem.Claim
import GoSem.ClaimJoined
import GoSem.ClaimMapViews
import Derived.JoinedTies
import Derived.KernelRfl
namespace Go.Proofs.Qxb6628235a
/- THE CELL 'sum', in the pinned program and in every row, IS THE sha256 OF THE DUMP (.gsa) THAT Qxb6628235aProg.lean LOADS. Nothing in Lean hashes anything: it is a label: what it is worth is what the hold of that sum in a sandbox is worth. -/
noncomputable def Try.pinned : Pinned := { name := "qxb6628235a", sum := "323be2166e82753294308e5c30f4928c3d8e23d62104255be2cdad859753ce72", checked := Try.checked }
namespace Rows
def none {H : Type} : Left H := { results := [], args := [] }

/-- 'zzlaws_internal_vacation_b1.FnUpdateTablesArgsJoinsAtAnyCut': WHATEVER THE INPUT: true; the input reads as it did. -/
def fnUpdateTablesArgsJoinsAtAnyCutSpec : ChangeSpec := { name := "fnUpdateTablesArgsJoinsAtAnyCut", fn := fun _ => fun
  | [d1, d2] => { results := [.lit (.bool true)], args := [d1, d2] }
  | _ => none }
def fnUpdateTablesArgsJoinsAtAnyCutRow : OpenClaim := { program := "qxb6628235a", sum := "323be2166e82753294308e5c30f4928c3d8e23d62104255be2cdad859753ce72", func := "example.com/runahead/runahead/zzlaws_internal_vacation_b1.FnUpdateTablesArgsJoinsAtAnyCut", spec := "fnUpdateTablesArgsJoinsAtAnyCut", apart := false }
def FnUpdateTablesArgsJoinsAtAnyCutSaid : Prop := fnUpdateTablesArgsJoinsAtAnyCutRow.holds Try.pinned (OpenSpec.ofChange fnUpdateTablesArgsJoinsAtAnyCutSpec)

/-- ITS FALSE NEIGHBOUR: 'it returns false'. Refute it at one input. -/
def fnUpdateTablesArgsJoinsAtAnyCutWrong : ChangeSpec := { name := "fnUpdateTablesArgsJoinsAtAnyCut", fn := fun _ => fun
  | [d1, d2] => { results := [.lit (.bool false)], args := [d1, d2] }
  | _ => none }
def FnUpdateTablesArgsJoinsAtAnyCutWrongFalsely : Prop := fnUpdateTablesArgsJoinsAtAnyCutRow.holds Try.pinned (OpenSpec.ofChange fnUpdateTablesArgsJoinsAtAnyCutWrong)

/-- 'zzlaws_internal_vacation_b1.FnUpdateTablesArgsAddNibbleAgainstRemove': WHATEVER THE INPUT: true; the input reads as it did. -/
def fnUpdateTablesArgsAddNibbleAgainstRemoveSpec : ChangeSpec := { name := "fnUpdateTablesArgsAddNibbleAgainstRemove", fn := fun _ => fun
  | [d] => { results := [.lit (.bool true)], args := [d] }
  | _ => none }
def fnUpdateTablesArgsAddNibbleAgainstRemoveRow : OpenClaim := { program := "qxb6628235a", sum := "323be2166e82753294308e5c30f4928c3d8e23d62104255be2cdad859753ce72", func := "example.com/runahead/runahead/zzlaws_internal_vacation_b1.FnUpdateTablesArgsAddNibbleAgainstRemove", spec := "fnUpdateTablesArgsAddNibbleAgainstRemove", apart := false }
def FnUpdateTablesArgsAddNibbleAgainstRemoveSaid : Prop := fnUpdateTablesArgsAddNibbleAgainstRemoveRow.holds Try.pinned (OpenSpec.ofChange fnUpdateTablesArgsAddNibbleAgainstRemoveSpec)

/-- ITS FALSE NEIGHBOUR: 'it returns false'. Refute it at one input. -/
def fnUpdateTablesArgsAddNibbleAgainstRemoveWrong : ChangeSpec := { name := "fnUpdateTablesArgsAddNibbleAgainstRemove", fn := fun _ => fun
  | [d] => { results := [.lit (.bool false)], args := [d] }
  | _ => none }
def FnUpdateTablesArgsAddNibbleAgainstRemoveWrongFalsely : Prop := fnUpdateTablesArgsAddNibbleAgainstRemoveRow.holds Try.pinned (OpenSpec.ofChange fnUpdateTablesArgsAddNibbleAgainstRemoveWrong)

end Rows
end Go.Proofs.Qxb6628235a
