/-
  DERIVED. GIVEN WITH THE SEED: THE CARDS: each row of Qxb6630540aFmtRows.lean that lists a variable, with what it lists TIED to the program's text (the seventh form; the later family's looks); each row that meets fmt, with fmt's text TOLD by the authors' own Lean function (tested against real Go, not proved from fmt's source: count such statements apart). THE CARD IS WHAT COUNTS. Prove the row's statement (the work); the ties are given (Qxb6630540aFmtTie.lean); close each card by the builder's one call (the guide's Derived/Test/ToyasCard.lean, 'card_holds'). Laid BY PROGRAM, IN A SANDBOX (cutbox-door.mjs). By AI agents, Wed Nov 11 2026. No macro, syntax, notation, axiom, sorry.
-/
import Derived.Test.Qxb6630540aFmtRows
import GoSem.ClaimSeven
namespace Go.Proofs.Qxb6630540aFmt
namespace Rows

/-- THE TOLD CARD OF 'zzlaws_peerwire_b1.FnCheckBitfieldSpec'. -/
def fnCheckBitfieldSpecCard : Claim7 := { stood := { row := fnCheckBitfieldSpecRow, standIns := [], harness := (true, "e23f513dbd1c918f73ce4390efab3efe99d37f8332a092c9fed661b8c872308c"), looks := false }, told := true, goes := false }
def FnCheckBitfieldSpecToldSaid : Prop := Claim7.holds Tryf.pinned (.plain (OpenSpec.ofChange fnCheckBitfieldSpecSpec)) fnCheckBitfieldSpecCard
/-- ITS FALSE NEIGHBOUR. Refute it at one input. -/
def FnCheckBitfieldSpecToldWrongFalsely : Prop := Claim7.holds Tryf.pinned (.plain (OpenSpec.ofChange fnCheckBitfieldSpecWrong)) fnCheckBitfieldSpecCard

/-- THE TOLD CARD OF 'zzlaws_peerwire_b1.FnCheckBitfieldToggleOneBit'. -/
def fnCheckBitfieldToggleOneBitCard : Claim7 := { stood := { row := fnCheckBitfieldToggleOneBitRow, standIns := [], harness := (true, "e23f513dbd1c918f73ce4390efab3efe99d37f8332a092c9fed661b8c872308c"), looks := false }, told := true, goes := false }
def FnCheckBitfieldToggleOneBitToldSaid : Prop := Claim7.holds Tryf.pinned (.plain (OpenSpec.ofChange fnCheckBitfieldToggleOneBitSpec)) fnCheckBitfieldToggleOneBitCard
/-- ITS FALSE NEIGHBOUR. Refute it at one input. -/
def FnCheckBitfieldToggleOneBitToldWrongFalsely : Prop := Claim7.holds Tryf.pinned (.plain (OpenSpec.ofChange fnCheckBitfieldToggleOneBitWrong)) fnCheckBitfieldToggleOneBitCard
end Rows
end Go.Proofs.Qxb6630540aFmt
