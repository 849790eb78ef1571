/-
  DERIVED. GIVEN WITH THE SEED: THE CARDS: each row of Qxb6613114aFmtRows.lean that lists a variable, with what it lists TIED to the program's text (the seventh form; the later family's looks); each row that meets fmt, with fmt's text TOLD by the authors' own Lean function (tested against real Go, not proved from fmt's source: count such statements apart). THE CARD IS WHAT COUNTS. Prove the row's statement (the work); the ties are given (Qxb6613114aFmtTie.lean); close each card by the builder's one call (the guide's Derived/Test/ToyasCard.lean, 'card_holds'). Laid BY PROGRAM, IN A SANDBOX (cutbox-door.mjs). By AI agents, Wed Nov 11 2026. No macro, syntax, notation, axiom, sorry.
-/
import Derived.Test.Qxb6613114aFmtRows
import GoSem.ClaimSeven
namespace Go.Proofs.Qxb6613114aFmt
namespace Rows

/-- THE TOLD AND TIED CARD OF 'zzlaws_root_b1.FnOfTextDecimalLeadingZero'. -/
def fnOfTextDecimalLeadingZeroCard : Claim7 := { stood := { row := fnOfTextDecimalLeadingZeroRow, standIns := [], harness := (true, "70305051558d5906e3eac6e8bea967005e479cf3ddc3d6aeb9feeb8974faf596"), looks := true }, told := true, laidByText := true, laidKinds := [.data, .data, .data, .sentinel, .sentinel], laidTests := true, laidLooks := .later, goes := false }
def FnOfTextDecimalLeadingZeroToldSaid : Prop := Claim7.holds Tryf.pinned (.plain (OpenSpec.ofChange fnOfTextDecimalLeadingZeroSpec)) fnOfTextDecimalLeadingZeroCard
/-- ITS FALSE NEIGHBOUR. Refute it at one input. -/
def FnOfTextDecimalLeadingZeroToldWrongFalsely : Prop := Claim7.holds Tryf.pinned (.plain (OpenSpec.ofChange fnOfTextDecimalLeadingZeroWrong)) fnOfTextDecimalLeadingZeroCard
end Rows
end Go.Proofs.Qxb6613114aFmt
