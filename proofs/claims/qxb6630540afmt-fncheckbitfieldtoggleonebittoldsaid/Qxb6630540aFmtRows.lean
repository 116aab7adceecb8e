/-
  No cell of these rows narrows 'for every input' (looked for: loops, veiled, ifaces, maps, wideKeys, modest, calm, conditions, laid).
  DERIVED. THE GIVEN ROWS OF THIS SEAT. 2 by the template 'for every input the law returns true; each argument reads behind the call as it read before'; 0 by the template 'total and deterministic' (their statements: Qxb6630540aFmtTotals.lean).
  GIVEN WITH THE SEED: the statements are not yours to turn. If you find one false, say at which input.
  Laid BY PROGRAM, IN A SANDBOX (cutbox-rows.mjs): the forced cells as the released guide's own fill.sh prints them over the translation dc1ef2a4ca5c2000… (all of the seat's roots in one cut). By AI agents, Wed Nov 11 2026. No macro, syntax, notation, axiom, sorry.
-/
import Derived.Test.Qxb6630540aFmtChecked
import GoSem.Claim
import GoSem.ClaimJoined
import GoSem.ClaimMapViews
import Derived.JoinedTies
import Derived.KernelRfl
namespace Go.Proofs.Qxb6630540aFmt
/- THE CELL 'sum', in the pinned program and in every row, IS THE sha256 OF THE DUMP (.gsa) THAT Qxb6630540aFmtProg.lean LOADS. Nothing in Lean hashes anything: it is a label: what it is worth is what the hold of that sum in a sandbox is worth. -/
noncomputable def Tryf.pinned : Pinned := { name := "qxb6630540afmt", sum := "dc1ef2a4ca5c20009f9c54a55b02e111f7a49c2c3bcfcda7b5a848a6dace4734", checked := Tryf.checked }
namespace Rows
def none {H : Type} : Left H := { results := [], args := [] }

/-- 'zzlaws_peerwire_b1.FnCheckBitfieldSpec': WHATEVER THE INPUT: true; the input reads as it did. -/
def fnCheckBitfieldSpecSpec : ChangeSpec := { name := "fnCheckBitfieldSpec", fn := fun _ => fun
  | [d1, d2] => { results := [.lit (.bool true)], args := [d1, d2] }
  | _ => none }
def fnCheckBitfieldSpecRow : OpenClaim := { program := "qxb6630540afmt", sum := "dc1ef2a4ca5c20009f9c54a55b02e111f7a49c2c3bcfcda7b5a848a6dace4734", func := "example.com/peerflock/peerflock/zzlaws_peerwire_b1.FnCheckBitfieldSpec", spec := "fnCheckBitfieldSpec", stops := ["fmt.errorf"], inPlace := ["fmt.errorf"], apart := false }
/-- NO THEOREM (fmt's text is open here; it may be false): for the released tool's asking of the row's closed facts alone. THE STATEMENT IS 'FnCheckBitfieldSpecToldSaid' (Qxb6630540aFmtCards.lean). -/
def FnCheckBitfieldSpecFormAsk : Prop := fnCheckBitfieldSpecRow.holds Tryf.pinned (OpenSpec.ofChange fnCheckBitfieldSpecSpec)

/-- ITS FALSE NEIGHBOUR: 'it returns false'. Refute it at one input. -/
def fnCheckBitfieldSpecWrong : ChangeSpec := { name := "fnCheckBitfieldSpec", fn := fun _ => fun
  | [d1, d2] => { results := [.lit (.bool false)], args := [d1, d2] }
  | _ => none }
def FnCheckBitfieldSpecWrongFormAsk : Prop := fnCheckBitfieldSpecRow.holds Tryf.pinned (OpenSpec.ofChange fnCheckBitfieldSpecWrong)

/-- 'zzlaws_peerwire_b1.FnCheckBitfieldToggleOneBit': WHATEVER THE INPUT: true; the input reads as it did. -/
def fnCheckBitfieldToggleOneBitSpec : ChangeSpec := { name := "fnCheckBitfieldToggleOneBit", fn := fun _ => fun
  | [d1, d2, d3] => { results := [.lit (.bool true)], args := [d1, d2, d3] }
  | _ => none }
def fnCheckBitfieldToggleOneBitRow : OpenClaim := { program := "qxb6630540afmt", sum := "dc1ef2a4ca5c20009f9c54a55b02e111f7a49c2c3bcfcda7b5a848a6dace4734", func := "example.com/peerflock/peerflock/zzlaws_peerwire_b1.FnCheckBitfieldToggleOneBit", spec := "fnCheckBitfieldToggleOneBit", stops := ["fmt.errorf"], inPlace := ["fmt.errorf"], apart := false }
/-- NO THEOREM (fmt's text is open here; it may be false): for the released tool's asking of the row's closed facts alone. THE STATEMENT IS 'FnCheckBitfieldToggleOneBitToldSaid' (Qxb6630540aFmtCards.lean). -/
def FnCheckBitfieldToggleOneBitFormAsk : Prop := fnCheckBitfieldToggleOneBitRow.holds Tryf.pinned (OpenSpec.ofChange fnCheckBitfieldToggleOneBitSpec)

/-- ITS FALSE NEIGHBOUR: 'it returns false'. Refute it at one input. -/
def fnCheckBitfieldToggleOneBitWrong : ChangeSpec := { name := "fnCheckBitfieldToggleOneBit", fn := fun _ => fun
  | [d1, d2, d3] => { results := [.lit (.bool false)], args := [d1, d2, d3] }
  | _ => none }
def FnCheckBitfieldToggleOneBitWrongFormAsk : Prop := fnCheckBitfieldToggleOneBitRow.holds Tryf.pinned (OpenSpec.ofChange fnCheckBitfieldToggleOneBitWrong)

end Rows
end Go.Proofs.Qxb6630540aFmt
