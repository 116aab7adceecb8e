/-
  No cell of these rows narrows 'for every input' (looked for: loops, veiled, ifaces, maps, wideKeys, modest, calm, conditions, laid).
  DERIVED. THE GIVEN ROWS OF THIS SEAT. 2 by the template 'for every input the law returns true; each argument reads behind the call as it read before'; 0 by the template 'total and deterministic' (their statements: Qxb6628870aTotals.lean).
  GIVEN WITH THE SEED: the statements are not yours to turn. If you find one false, say at which input.
  Laid BY PROGRAM, IN A SANDBOX (cutbox-rows.mjs): the forced cells as the released guide's own fill.sh prints them over the translation 952847b07408ab3c… (all of the seat's roots in one cut). By AI agents, Wed Nov 11 2026. No macro, syntax, notation, axiom, sorry.
-/
import Derived.Test.Qxb6628870aChecked
import GoSem.Claim
import GoSem.ClaimJoined
import GoSem.ClaimMapViews
import Derived.JoinedTies
import Derived.KernelRfl
namespace Go.Proofs.Qxb6628870a
/- THE CELL 'sum', in the pinned program and in every row, IS THE sha256 OF THE DUMP (.gsa) THAT Qxb6628870aProg.lean LOADS. Nothing in Lean hashes anything: it is a label: what it is worth is what the hold of that sum in a sandbox is worth. -/
noncomputable def Try.pinned : Pinned := { name := "qxb6628870a", sum := "952847b07408ab3c279bda4b57d856767c1b54e5474f8ad37e93c0bbdfd0cf08", checked := Try.checked }
namespace Rows
def none {H : Type} : Left H := { results := [], args := [] }

/-- 'zzlaws_pkg_diag_b1.FnExcerptAgreesWithEnds': WHATEVER THE INPUT: true; the input reads as it did. -/
def fnExcerptAgreesWithEndsSpec : ChangeSpec := { name := "fnExcerptAgreesWithEnds", fn := fun _ => fun
  | [d] => { results := [.lit (.bool true)], args := [d] }
  | _ => none }
def fnExcerptAgreesWithEndsRow : OpenClaim := { program := "qxb6628870a", sum := "952847b07408ab3c279bda4b57d856767c1b54e5474f8ad37e93c0bbdfd0cf08", func := "example.com/wasatch/wasatch/zzlaws_pkg_diag_b1.FnExcerptAgreesWithEnds", spec := "fnExcerptAgreesWithEnds", apart := false }
def FnExcerptAgreesWithEndsSaid : Prop := fnExcerptAgreesWithEndsRow.holds Try.pinned (OpenSpec.ofChange fnExcerptAgreesWithEndsSpec)

/-- ITS FALSE NEIGHBOUR: 'it returns false'. Refute it at one input. -/
def fnExcerptAgreesWithEndsWrong : ChangeSpec := { name := "fnExcerptAgreesWithEnds", fn := fun _ => fun
  | [d] => { results := [.lit (.bool false)], args := [d] }
  | _ => none }
def FnExcerptAgreesWithEndsWrongFalsely : Prop := fnExcerptAgreesWithEndsRow.holds Try.pinned (OpenSpec.ofChange fnExcerptAgreesWithEndsWrong)

/-- 'zzlaws_pkg_diag_b1.FnExcerptIgnoresMiddle': WHATEVER THE INPUT: true; the input reads as it did. -/
def fnExcerptIgnoresMiddleSpec : ChangeSpec := { name := "fnExcerptIgnoresMiddle", fn := fun _ => fun
  | [d1, d2, d3] => { results := [.lit (.bool true)], args := [d1, d2, d3] }
  | _ => none }
def fnExcerptIgnoresMiddleRow : OpenClaim := { program := "qxb6628870a", sum := "952847b07408ab3c279bda4b57d856767c1b54e5474f8ad37e93c0bbdfd0cf08", func := "example.com/wasatch/wasatch/zzlaws_pkg_diag_b1.FnExcerptIgnoresMiddle", spec := "fnExcerptIgnoresMiddle", apart := false }
def FnExcerptIgnoresMiddleSaid : Prop := fnExcerptIgnoresMiddleRow.holds Try.pinned (OpenSpec.ofChange fnExcerptIgnoresMiddleSpec)

/-- ITS FALSE NEIGHBOUR: 'it returns false'. Refute it at one input. -/
def fnExcerptIgnoresMiddleWrong : ChangeSpec := { name := "fnExcerptIgnoresMiddle", fn := fun _ => fun
  | [d1, d2, d3] => { results := [.lit (.bool false)], args := [d1, d2, d3] }
  | _ => none }
def FnExcerptIgnoresMiddleWrongFalsely : Prop := fnExcerptIgnoresMiddleRow.holds Try.pinned (OpenSpec.ofChange fnExcerptIgnoresMiddleWrong)

end Rows
end Go.Proofs.Qxb6628870a
