/-
  NARROWER THAN 'FOR EVERY INPUT', by the rows' own cells (each row's printed sentence says how): FnNextWorkingDayAgreesWithWorking: maps.
  DERIVED. THE GIVEN ROWS OF THIS SEAT. 1 by the template 'for every input the law returns true; each argument reads behind the call as it read before'; 0 by the template 'total and deterministic' (their statements: Qxb6627567aTotals.lean).
  GIVEN WITH THE SEED: the statements are not yours to turn. If you find one false, say at which input.
  Laid BY PROGRAM, IN A SANDBOX (cutbox-rows.mjs): the forced cells as the released guide's own fill.sh prints them over the translation 039d202efb9b47ff… (all of the seat's roots in one cut). By AI agents, Wed Nov 11 2026. No macro, syntax, notation, axiom, sorry.
-/
import Derived.Test.Qxb6627567aChecked
import GoSem.Claim
import GoSem.ClaimJoined
import GoSem.ClaimMapViews
import Derived.JoinedTies
import Derived.KernelRfl
namespace Go.Proofs.Qxb6627567a
/- THE CELL 'sum', in the pinned program and in every row, IS THE sha256 OF THE DUMP (.gsa) THAT Qxb6627567aProg.lean LOADS. Nothing in Lean hashes anything: it is a label: what it is worth is what the hold of that sum in a sandbox is worth. -/
noncomputable def Try.pinned : Pinned := { name := "qxb6627567a", sum := "039d202efb9b47ff14261bd15dc0dfc4bd3a33c7ef4e43ded97f532464b43a87", checked := Try.checked }
namespace Rows
def none {H : Type} : Left H := { results := [], args := [] }

/-- 'zzlaws_date_b1.FnNextWorkingDayAgreesWithWorking': WHATEVER THE INPUT: true; the input reads as it did. -/
def fnNextWorkingDayAgreesWithWorkingSpec : ChangeSpec := { name := "fnNextWorkingDayAgreesWithWorking", fn := fun _ => fun
  | [d1, d2, d3] => { results := [.lit (.bool true)], args := [d1, d2, d3] }
  | _ => none }
def fnNextWorkingDayAgreesWithWorkingRow : OpenClaim := { program := "qxb6627567a", sum := "039d202efb9b47ff14261bd15dc0dfc4bd3a33c7ef4e43ded97f532464b43a87", func := "example.com/zhaomu/zhaomu/zzlaws_date_b1.FnNextWorkingDayAgreesWithWorking", spec := "fnNextWorkingDayAgreesWithWorking", maps := true, apart := false }
def FnNextWorkingDayAgreesWithWorkingSaid : Prop := fnNextWorkingDayAgreesWithWorkingRow.holds Try.pinned (OpenSpec.ofChange fnNextWorkingDayAgreesWithWorkingSpec)

/-- ITS FALSE NEIGHBOUR: 'it returns false'. Refute it at one input. -/
def fnNextWorkingDayAgreesWithWorkingWrong : ChangeSpec := { name := "fnNextWorkingDayAgreesWithWorking", fn := fun _ => fun
  | [d1, d2, d3] => { results := [.lit (.bool false)], args := [d1, d2, d3] }
  | _ => none }
def FnNextWorkingDayAgreesWithWorkingWrongFalsely : Prop := fnNextWorkingDayAgreesWithWorkingRow.holds Try.pinned (OpenSpec.ofChange fnNextWorkingDayAgreesWithWorkingWrong)

end Rows
end Go.Proofs.Qxb6627567a
