/-
  NARROWER THAN 'FOR EVERY INPUT', by the rows' own cells (each row's printed sentence says how): FnParseHashAcceptsExactlyFortyHexDigits: laid · FnParseHashInvertsStringInEitherCase: laid.
  DERIVED. THE GIVEN ROWS OF THIS SEAT. 2 by the template 'for every input the law returns true; each argument reads behind the call as it read before'; 0 by the template 'total and deterministic' (their statements: Qxb6627633aFmtTotals.lean).
  GIVEN WITH THE SEED: the statements are not yours to turn. If you find one false, say at which input.
  Laid BY PROGRAM, IN A SANDBOX (cutbox-rows.mjs): the forced cells as the released guide's own fill.sh prints them over the translation 856e08e5ed7ce31c… (all of the seat's roots in one cut). By AI agents, Wed Nov 11 2026. No macro, syntax, notation, axiom, sorry.
-/
import Derived.Test.Qxb6627633aFmtChecked
import GoSem.Claim
import GoSem.ClaimJoined
import GoSem.ClaimMapViews
import Derived.JoinedTies
import Derived.KernelRfl
namespace Go.Proofs.Qxb6627633aFmt
/- THE CELL 'sum', in the pinned program and in every row, IS THE sha256 OF THE DUMP (.gsa) THAT Qxb6627633aFmtProg.lean LOADS. Nothing in Lean hashes anything: it is a label: what it is worth is what the hold of that sum in a sandbox is worth. -/
noncomputable def Tryf.pinned : Pinned := { name := "qxb6627633afmt", sum := "856e08e5ed7ce31c956c9943707db3d4f295941a26c93b340a970bb6a4432971", checked := Tryf.checked }
namespace Rows
def none {H : Type} : Left H := { results := [], args := [] }

/- WHAT THE LISTED PACKAGE-LEVEL VARIABLES READ AS WHEN THE CALL BEGINS. Each datum BY PROGRAM (the guide's laid-datum.mjs) off the statement by which the dump's own 'gosem.cut.vars' lays the variable. In a bare row this is a premise. The card (Qxb6627633aFmtCards.lean) ties it to the program's text. -/
def laid_encoding_hex_ErrLength {H : Type} : DataW H := .iface "*errors.errorString" (.ptr (.agg [.lit (.string [101, 110, 99, 111, 100, 105, 110, 103, 47, 104, 101, 120, 58, 32, 111, 100, 100, 32, 108, 101, 110, 103, 116, 104, 32, 104, 101, 120, 32, 115, 116, 114, 105, 110, 103])]))

/-- 'zzlaws_root_b1.FnParseHashAcceptsExactlyFortyHexDigits': WHATEVER THE INPUT: true; the input reads as it did. -/
def fnParseHashAcceptsExactlyFortyHexDigitsSpec : ChangeSpec := { name := "fnParseHashAcceptsExactlyFortyHexDigits", fn := fun _ => fun
  | [d] => { results := [.lit (.bool true)], args := [d] }
  | _ => none }
def fnParseHashAcceptsExactlyFortyHexDigitsRow : OpenClaim := { program := "qxb6627633afmt", sum := "856e08e5ed7ce31c956c9943707db3d4f295941a26c93b340a970bb6a4432971", func := "example.com/packwright/packwright/zzlaws_root_b1.FnParseHashAcceptsExactlyFortyHexDigits", spec := "fnParseHashAcceptsExactlyFortyHexDigits", stops := ["fmt.errorf"], inPlace := ["fmt.errorf"], named := ["encoding/hex.ErrLength"], apart := false, laid := [("encoding/hex.ErrLength", laid_encoding_hex_ErrLength)] }
/-- NO THEOREM (fmt's text is open here; it may be false): for the released tool's asking of the row's closed facts alone. THE STATEMENT IS 'FnParseHashAcceptsExactlyFortyHexDigitsToldSaid' (Qxb6627633aFmtCards.lean). -/
def FnParseHashAcceptsExactlyFortyHexDigitsFormAsk : Prop := fnParseHashAcceptsExactlyFortyHexDigitsRow.holds Tryf.pinned (OpenSpec.ofChange fnParseHashAcceptsExactlyFortyHexDigitsSpec)

/-- ITS FALSE NEIGHBOUR: 'it returns false'. Refute it at one input. -/
def fnParseHashAcceptsExactlyFortyHexDigitsWrong : ChangeSpec := { name := "fnParseHashAcceptsExactlyFortyHexDigits", fn := fun _ => fun
  | [d] => { results := [.lit (.bool false)], args := [d] }
  | _ => none }
def FnParseHashAcceptsExactlyFortyHexDigitsWrongFormAsk : Prop := fnParseHashAcceptsExactlyFortyHexDigitsRow.holds Tryf.pinned (OpenSpec.ofChange fnParseHashAcceptsExactlyFortyHexDigitsWrong)

/-- 'zzlaws_root_b1.FnParseHashInvertsStringInEitherCase': WHATEVER THE INPUT: true; the input reads as it did. -/
def fnParseHashInvertsStringInEitherCaseSpec : ChangeSpec := { name := "fnParseHashInvertsStringInEitherCase", fn := fun _ => fun
  | [d] => { results := [.lit (.bool true)], args := [d] }
  | _ => none }
def fnParseHashInvertsStringInEitherCaseRow : OpenClaim := { program := "qxb6627633afmt", sum := "856e08e5ed7ce31c956c9943707db3d4f295941a26c93b340a970bb6a4432971", func := "example.com/packwright/packwright/zzlaws_root_b1.FnParseHashInvertsStringInEitherCase", spec := "fnParseHashInvertsStringInEitherCase", stops := ["fmt.errorf"], inPlace := ["fmt.errorf"], named := ["encoding/hex.ErrLength"], apart := false, laid := [("encoding/hex.ErrLength", laid_encoding_hex_ErrLength)] }
/-- NO THEOREM (fmt's text is open here; it may be false): for the released tool's asking of the row's closed facts alone. THE STATEMENT IS 'FnParseHashInvertsStringInEitherCaseToldSaid' (Qxb6627633aFmtCards.lean). -/
def FnParseHashInvertsStringInEitherCaseFormAsk : Prop := fnParseHashInvertsStringInEitherCaseRow.holds Tryf.pinned (OpenSpec.ofChange fnParseHashInvertsStringInEitherCaseSpec)

/-- ITS FALSE NEIGHBOUR: 'it returns false'. Refute it at one input. -/
def fnParseHashInvertsStringInEitherCaseWrong : ChangeSpec := { name := "fnParseHashInvertsStringInEitherCase", fn := fun _ => fun
  | [d] => { results := [.lit (.bool false)], args := [d] }
  | _ => none }
def FnParseHashInvertsStringInEitherCaseWrongFormAsk : Prop := fnParseHashInvertsStringInEitherCaseRow.holds Tryf.pinned (OpenSpec.ofChange fnParseHashInvertsStringInEitherCaseWrong)

end Rows
end Go.Proofs.Qxb6627633aFmt
