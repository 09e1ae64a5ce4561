/-
  No cell of these rows narrows 'for every input' (looked for: loops, veiled, ifaces, maps, wideKeys, modest, calm, conditions, laid).
  DERIVED. THE GIVEN ROWS OF THIS SEAT. 2 by the template 'for every input the law returns true; each argument reads behind the call as it read before'; 0 by the template 'total and deterministic' (their statements: Qxb6627581aTotals.lean).
  GIVEN WITH THE SEED: the statements are not yours to turn. If you find one false, say at which input.
  Laid BY PROGRAM, IN A SANDBOX (cutbox-rows.mjs): the forced cells as the released guide's own fill.sh prints them over the translation d13ac043b3e0fd73… (all of the seat's roots in one cut). By AI agents, Wed Nov 11 2026. No macro, syntax, notation, axiom, sorry.
-/
import Derived.Test.Qxb6627581aChecked
import GoSem.Claim
import GoSem.ClaimJoined
import GoSem.ClaimMapViews
import Derived.JoinedTies
import Derived.KernelRfl
namespace Go.Proofs.Qxb6627581a
/- THE CELL 'sum', in the pinned program and in every row, IS THE sha256 OF THE DUMP (.gsa) THAT Qxb6627581aProg.lean LOADS. Nothing in Lean hashes anything: it is a label: what it is worth is what the hold of that sum in a sandbox is worth. -/
noncomputable def Try.pinned : Pinned := { name := "qxb6627581a", sum := "d13ac043b3e0fd7334d4f3f2bfac5aaa493c35eabebdb8b71e3d67477294ad8b", checked := Try.checked }
namespace Rows
def none {H : Type} : Left H := { results := [], args := [] }

/-- 'zzlaws_root_b1.FnPrefixEndJoinAtAnyCut': WHATEVER THE INPUT: true; the input reads as it did. -/
def fnPrefixEndJoinAtAnyCutSpec : ChangeSpec := { name := "fnPrefixEndJoinAtAnyCut", fn := fun _ => fun
  | [d1, d2] => { results := [.lit (.bool true)], args := [d1, d2] }
  | _ => none }
def fnPrefixEndJoinAtAnyCutRow : OpenClaim := { program := "qxb6627581a", sum := "d13ac043b3e0fd7334d4f3f2bfac5aaa493c35eabebdb8b71e3d67477294ad8b", func := "example.com/cairnstore/cairnstore/zzlaws_root_b1.FnPrefixEndJoinAtAnyCut", spec := "fnPrefixEndJoinAtAnyCut", apart := false }
def FnPrefixEndJoinAtAnyCutSaid : Prop := fnPrefixEndJoinAtAnyCutRow.holds Try.pinned (OpenSpec.ofChange fnPrefixEndJoinAtAnyCutSpec)

/-- ITS FALSE NEIGHBOUR: 'it returns false'. Refute it at one input. -/
def fnPrefixEndJoinAtAnyCutWrong : ChangeSpec := { name := "fnPrefixEndJoinAtAnyCut", fn := fun _ => fun
  | [d1, d2] => { results := [.lit (.bool false)], args := [d1, d2] }
  | _ => none }
def FnPrefixEndJoinAtAnyCutWrongFalsely : Prop := fnPrefixEndJoinAtAnyCutRow.holds Try.pinned (OpenSpec.ofChange fnPrefixEndJoinAtAnyCutWrong)

/-- 'zzlaws_root_b1.FnPrefixEndBoundsExactlyThePrefixRange': WHATEVER THE INPUT: true; the input reads as it did. -/
def fnPrefixEndBoundsExactlyThePrefixRangeSpec : ChangeSpec := { name := "fnPrefixEndBoundsExactlyThePrefixRange", fn := fun _ => fun
  | [d1, d2] => { results := [.lit (.bool true)], args := [d1, d2] }
  | _ => none }
def fnPrefixEndBoundsExactlyThePrefixRangeRow : OpenClaim := { program := "qxb6627581a", sum := "d13ac043b3e0fd7334d4f3f2bfac5aaa493c35eabebdb8b71e3d67477294ad8b", func := "example.com/cairnstore/cairnstore/zzlaws_root_b1.FnPrefixEndBoundsExactlyThePrefixRange", spec := "fnPrefixEndBoundsExactlyThePrefixRange", apart := false }
def FnPrefixEndBoundsExactlyThePrefixRangeSaid : Prop := fnPrefixEndBoundsExactlyThePrefixRangeRow.holds Try.pinned (OpenSpec.ofChange fnPrefixEndBoundsExactlyThePrefixRangeSpec)

/-- ITS FALSE NEIGHBOUR: 'it returns false'. Refute it at one input. -/
def fnPrefixEndBoundsExactlyThePrefixRangeWrong : ChangeSpec := { name := "fnPrefixEndBoundsExactlyThePrefixRange", fn := fun _ => fun
  | [d1, d2] => { results := [.lit (.bool false)], args := [d1, d2] }
  | _ => none }
def FnPrefixEndBoundsExactlyThePrefixRangeWrongFalsely : Prop := fnPrefixEndBoundsExactlyThePrefixRangeRow.holds Try.pinned (OpenSpec.ofChange fnPrefixEndBoundsExactlyThePrefixRangeWrong)

end Rows
end Go.Proofs.Qxb6627581a
