/-
  No cell of these rows narrows 'for every input' (looked for: loops, veiled, ifaces, maps, wideKeys, modest, calm, conditions, laid).
  DERIVED. THE GIVEN ROWS OF THIS SEAT. 2 by the template 'for every input the law returns true; each argument reads behind the call as it read before'; 0 by the template 'total and deterministic' (their statements: Qxb6627662aTotals.lean).
  GIVEN WITH THE SEED: the statements are not yours to turn. If you find one false, say at which input.
  Laid BY PROGRAM, IN A SANDBOX (cutbox-rows.mjs): the forced cells as the released guide's own fill.sh prints them over the translation 1e5ad2e363d0a0ce… (all of the seat's roots in one cut). By AI agents, Wed Nov 11 2026. No macro, syntax, notation, axiom, sorry.
-/
import Derived.Test.Qxb6627662aChecked
import GoSem.Claim
import GoSem.ClaimJoined
import GoSem.ClaimMapViews
import Derived.JoinedTies
import Derived.KernelRfl
namespace Go.Proofs.Qxb6627662a
/- THE CELL 'sum', in the pinned program and in every row, IS THE sha256 OF THE DUMP (.gsa) THAT Qxb6627662aProg.lean LOADS. Nothing in Lean hashes anything: it is a label: what it is worth is what the hold of that sum in a sandbox is worth. -/
noncomputable def Try.pinned : Pinned := { name := "qxb6627662a", sum := "1e5ad2e363d0a0ce2ab88476a039f57c8f191cf4c58e4ffc687798f5477e554b", checked := Try.checked }
namespace Rows
def none {H : Type} : Left H := { results := [], args := [] }

/-- 'zzlaws_internal_mailbox_b1.FnLowerDomainSplitsAndFolds': WHATEVER THE INPUT: true; the input reads as it did. -/
def fnLowerDomainSplitsAndFoldsSpec : ChangeSpec := { name := "fnLowerDomainSplitsAndFolds", fn := fun _ => fun
  | [d1, d2] => { results := [.lit (.bool true)], args := [d1, d2] }
  | _ => none }
def fnLowerDomainSplitsAndFoldsRow : OpenClaim := { program := "qxb6627662a", sum := "1e5ad2e363d0a0ce2ab88476a039f57c8f191cf4c58e4ffc687798f5477e554b", func := "example.com/sigilpost/sigilpost/zzlaws_internal_mailbox_b1.FnLowerDomainSplitsAndFolds", spec := "fnLowerDomainSplitsAndFolds", apart := false }
def FnLowerDomainSplitsAndFoldsSaid : Prop := fnLowerDomainSplitsAndFoldsRow.holds Try.pinned (OpenSpec.ofChange fnLowerDomainSplitsAndFoldsSpec)

/-- ITS FALSE NEIGHBOUR: 'it returns false'. Refute it at one input. -/
def fnLowerDomainSplitsAndFoldsWrong : ChangeSpec := { name := "fnLowerDomainSplitsAndFolds", fn := fun _ => fun
  | [d1, d2] => { results := [.lit (.bool false)], args := [d1, d2] }
  | _ => none }
def FnLowerDomainSplitsAndFoldsWrongFalsely : Prop := fnLowerDomainSplitsAndFoldsRow.holds Try.pinned (OpenSpec.ofChange fnLowerDomainSplitsAndFoldsWrong)

/-- 'zzlaws_internal_mailbox_b1.FnLowerDomainCanonicalForm': WHATEVER THE INPUT: true; the input reads as it did. -/
def fnLowerDomainCanonicalFormSpec : ChangeSpec := { name := "fnLowerDomainCanonicalForm", fn := fun _ => fun
  | [d1, d2] => { results := [.lit (.bool true)], args := [d1, d2] }
  | _ => none }
def fnLowerDomainCanonicalFormRow : OpenClaim := { program := "qxb6627662a", sum := "1e5ad2e363d0a0ce2ab88476a039f57c8f191cf4c58e4ffc687798f5477e554b", func := "example.com/sigilpost/sigilpost/zzlaws_internal_mailbox_b1.FnLowerDomainCanonicalForm", spec := "fnLowerDomainCanonicalForm", apart := false }
def FnLowerDomainCanonicalFormSaid : Prop := fnLowerDomainCanonicalFormRow.holds Try.pinned (OpenSpec.ofChange fnLowerDomainCanonicalFormSpec)

/-- ITS FALSE NEIGHBOUR: 'it returns false'. Refute it at one input. -/
def fnLowerDomainCanonicalFormWrong : ChangeSpec := { name := "fnLowerDomainCanonicalForm", fn := fun _ => fun
  | [d1, d2] => { results := [.lit (.bool false)], args := [d1, d2] }
  | _ => none }
def FnLowerDomainCanonicalFormWrongFalsely : Prop := fnLowerDomainCanonicalFormRow.holds Try.pinned (OpenSpec.ofChange fnLowerDomainCanonicalFormWrong)

end Rows
end Go.Proofs.Qxb6627662a
