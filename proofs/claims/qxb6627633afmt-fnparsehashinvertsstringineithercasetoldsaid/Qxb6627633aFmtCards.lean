/-
  DERIVED. GIVEN WITH THE SEED: THE CARDS: each row of Qxb6627633aFmtRows.lean that lists a variable, with what it lists TIED to the program's text (the seventh form; the later family's looks); each row that meets fmt, with fmt's text TOLD by the authors' own Lean function (tested against real Go, not proved from fmt's source: count such statements apart). THE CARD IS WHAT COUNTS. Prove the row's statement (the work); the ties are given (Qxb6627633aFmtTie.lean); close each card by the builder's one call (the guide's Derived/Test/ToyasCard.lean, 'card_holds'). Laid BY PROGRAM, IN A SANDBOX (cutbox-door.mjs). By AI agents, Wed Nov 11 2026. No macro, syntax, notation, axiom, sorry.
-/
import Derived.Test.Qxb6627633aFmtRows
import GoSem.ClaimSeven
namespace Go.Proofs.Qxb6627633aFmt
namespace Rows

/-- THE TOLD AND TIED CARD OF 'zzlaws_root_b1.FnParseHashAcceptsExactlyFortyHexDigits'. -/
def fnParseHashAcceptsExactlyFortyHexDigitsCard : Claim7 := { stood := { row := fnParseHashAcceptsExactlyFortyHexDigitsRow, standIns := [], harness := (true, "422449b2ef547330a3ff534b9af9fc35454019122993ae49387e3a9a06d4497d"), looks := false }, told := true, laidByText := true, laidKinds := [.sentinel], laidTests := true, laidLooks := .later, goes := false }
def FnParseHashAcceptsExactlyFortyHexDigitsToldSaid : Prop := Claim7.holds Tryf.pinned (.plain (OpenSpec.ofChange fnParseHashAcceptsExactlyFortyHexDigitsSpec)) fnParseHashAcceptsExactlyFortyHexDigitsCard
/-- ITS FALSE NEIGHBOUR. Refute it at one input. -/
def FnParseHashAcceptsExactlyFortyHexDigitsToldWrongFalsely : Prop := Claim7.holds Tryf.pinned (.plain (OpenSpec.ofChange fnParseHashAcceptsExactlyFortyHexDigitsWrong)) fnParseHashAcceptsExactlyFortyHexDigitsCard

/-- THE TOLD AND TIED CARD OF 'zzlaws_root_b1.FnParseHashInvertsStringInEitherCase'. -/
def fnParseHashInvertsStringInEitherCaseCard : Claim7 := { stood := { row := fnParseHashInvertsStringInEitherCaseRow, standIns := [], harness := (true, "422449b2ef547330a3ff534b9af9fc35454019122993ae49387e3a9a06d4497d"), looks := false }, told := true, laidByText := true, laidKinds := [.sentinel], laidTests := true, laidLooks := .later, goes := false }
def FnParseHashInvertsStringInEitherCaseToldSaid : Prop := Claim7.holds Tryf.pinned (.plain (OpenSpec.ofChange fnParseHashInvertsStringInEitherCaseSpec)) fnParseHashInvertsStringInEitherCaseCard
/-- ITS FALSE NEIGHBOUR. Refute it at one input. -/
def FnParseHashInvertsStringInEitherCaseToldWrongFalsely : Prop := Claim7.holds Tryf.pinned (.plain (OpenSpec.ofChange fnParseHashInvertsStringInEitherCaseWrong)) fnParseHashInvertsStringInEitherCaseCard
end Rows
end Go.Proofs.Qxb6627633aFmt
