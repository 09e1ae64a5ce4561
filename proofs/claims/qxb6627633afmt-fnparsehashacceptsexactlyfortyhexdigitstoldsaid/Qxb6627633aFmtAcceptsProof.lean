/-
  THE CARD 'Rows.FnParseHashAcceptsExactlyFortyHexDigitsToldSaid', PROVED: told (fmt's text by the authors' own function: nothing of the text is used here, only that an error comes back) and tied (the given tie).
-/
import Derived.Test.Qxb6627633aFmtAccepts
import Derived.Test.Qxb6627633aFmtTie
import Derived.Test.Qxb6627633aFmtCards
import Derived.ProofKit
import Derived.ShutString
import Derived.Stop.JoinedAt
import Derived.Stop.JoinedTold
import Derived.Stop.LaidErr
import Derived.SevenTiedAt
namespace Go.Proofs.Qxb6627633aFmt.fnParseHashAcceptsExactlyFortyHexDigits
open Go.ChangeShapes Go.WideShapes Go.ChangeAt Go.RowKit Go.Kit
open Go.ChangeMaps (open_string shut_string)
open Go.Extern.Stop Go.Stop Go.Extern
set_option linter.unusedVariables false

theorem own : ownKnob Tryf.prog.godebug = none := by kernel_rfl
theorem laidOut : laidOutB Tryf.pinned.checked.prog = true := by kernel_rfl
theorem stops : Tryf.pinned.checked.prog.stops = ["fmt.errorf"] := by kernel_rfl
theorem stopKnobs : Tryf.pinned.checked.prog.stopKnobs = [] := by kernel_rfl
theorem quiet (os : Os) : Stop.quiet Tryf.pinned.checked.prog os := by
  intro k hk
  rw [stopKnobs] at hk
  cases hk

/-- encoding/hex.ErrLength's text. -/
def errText : ByteArray := ⟨#[101, 110, 99, 111, 100, 105, 110, 103, 47, 104, 101, 120, 58, 32, 111, 100, 100, 32, 108, 101, 110, 103, 116, 104, 32, 104, 101, 120, 32, 115, 116, 114, 105, 110, 103]⟩

/-- No listed variable is a handle. -/
theorem noHandle (w : World) (h : laidMet Tryf.checked.prog Rows.fnParseHashAcceptsExactlyFortyHexDigitsRow.laid w) : laidMetH Tryf.checked.prog Rows.fnParseHashAcceptsExactlyFortyHexDigitsRow.laid w := by
  have e : (Rows.fnParseHashAcceptsExactlyFortyHexDigitsRow.laid.filter fun x => x.2.handleName?.isSome) = [] := by rfl
  unfold laidMetH
  rw [e]
  exact h

set_option maxRecDepth 100000 in
/-- ONE START THAT FITS: the variable as its initialiser lays it, the empty string. -/
theorem start (os : Os) (H : Type) (enc : TypeId × Value → H) (F : Interp) :
    ∃ (w : World) (tape : Tape) (i : Input), w.os = os ∧ (w.forCall tape i).Shaped Tryf.checked.prog ∧ i.vars = [] ∧ Input.okWide Tryf.checked.prog (w.forCall tape i) .any w.heap.size 3 i ∧
      (OpenSpec.ofChange Rows.fnParseHashAcceptsExactlyFortyHexDigitsSpec).preRow enc Tryf.checked.prog Tryf.f3 Rows.fnParseHashAcceptsExactlyFortyHexDigitsRow.domain false Rows.fnParseHashAcceptsExactlyFortyHexDigitsRow.laid (w.forCall tape i).memory i.args ∧
      ({} : Assume).holds Tryf.checked.prog (lone (Frame.enter Tryf.checked.prog 3 i.args .normal) [] (w.forCall tape i)) ∧ F.answers tape :=
  OpenSpec.witness_stopped_at (enc := enc) (C := Tryf.checked) false
    { World.holding Tryf.prog os ⟨#[.cells #[.string errText] 48], #[], []⟩ with
      heap := (World.holding Tryf.prog os ⟨#[.cells #[.string errText] 48], #[], []⟩).heap.modify 0 fun
        | .cells _ t frozen => .cells #[.iface 46 (.pointer (some ⟨(World.holding Tryf.prog default ⟨#[], #[], []⟩).heap.size, 0, none⟩))] t frozen
        | o => o }
    #[.string ⟨#[]⟩] rfl (by kernel_rfl) (by kernel_rfl) (by kernel_rfl)
    (OpenSpec.preRow_of_B rfl 8 (by kernel_rfl) (by kernel_rfl) (noHandle _ (laidMet_of_run (ps := [.cell 0 0, .cell (World.holding Tryf.prog default ⟨#[], #[], []⟩).heap.size 0]) 8 (by kernel_rfl) (by kernel_rfl) (by kernel_rfl)))) F

set_option maxRecDepth 100000 in
set_option maxHeartbeats 1000000 in
theorem lifted (os : Os) (started : os.Started) (H : Type) (enc : TypeId × Value → H) :
    ReturnsInTold none {} Tryf.checked os 3 .any Input.okWide ((OpenSpec.ofChange Rows.fnParseHashAcceptsExactlyFortyHexDigitsSpec).preRow enc Tryf.prog Tryf.f3 Rows.fnParseHashAcceptsExactlyFortyHexDigitsRow.domain false Rows.fnParseHashAcceptsExactlyFortyHexDigitsRow.laid)
      (fun F => ((OpenSpec.ofChange Rows.fnParseHashAcceptsExactlyFortyHexDigitsSpec).at F).post enc Tryf.prog Tryf.f3 false true false false) (aloneAtReturn Tryf.prog) nothingAlways := by
  refine returnsInTold_of_row (C := Tryf.checked) (s := OpenSpec.ofChange Rows.fnParseHashAcceptsExactlyFortyHexDigitsSpec) (by kernel_rfl) own started (by kernel_rfl) Tryf.func3 (start os H enc) ?_
  intro F W base args ds gs before _ hF hval0 hW _ _ _ hL _
  have hval : ∀ (j : Nat) t v, Tryf.f3.params[j]? = some t → args[j]? = some v → Value.okWide Tryf.prog W .any base t v := hval0
  have hW' := hW
  obtain ⟨p, q, hA0, hV0, rfl, hfz, hnd⟩ := hW
  have hA : DataW.TrodAll enc Tryf.prog W 0 (fun _ => true) true Tryf.f3.params.toList args.toList ds p := hA0
  rw [Tryf.params3] at hA hval
  obtain ⟨v0, d0, rfl, rfl, h0⟩ := trodAll_one hA
  obtain ⟨rfl, rfl⟩ := trodVars_none hV0
  obtain ⟨s, rfl, rfl, rfl, ws⟩ := open_string Tryf.underlying9 (hval 0 9 v0 rfl rfl) h0
  clear hA0 hV0 hval0
  refine (accepts_any F.told s W hF ws).mono ?_
  rintro e W' ⟨rfl, bel⟩
  exact ⟨_, rfl, _, _, _, [], [], [], hW', trodAll_mk1 (shut_bool Tryf.underlying4 _), trodAll_mk1 (shut_string Tryf.underlying9 ws), rfl, bel.frame _, fun h => by cases h⟩

theorem proved : Rows.FnParseHashAcceptsExactlyFortyHexDigitsToldSaid :=
  Claim7.holds_of_told_tied_any_at .later 3 Tryf.f3 "fmt.errorf" [] [] _ _ _ _ _ (by kernel_rfl) rfl rfl rfl laidOut (by kernel_rfl) rfl ⟨rfl, rfl, rfl, rfl, rfl, rfl, rfl⟩ rfl rfl (by kernel_rfl) (by kernel_rfl) Tryf.func3 (by kernel_rfl)
    (of_decide_eq_true (by kernel_rfl)) (by unfold Func.isWrapper; first | (rw [if_pos (by decide +kernel)]; kernel_rfl) | (rw [if_neg (by decide +kernel)]; exact ⟨rfl, rfl⟩)) stops.symm rfl stopKnobs.symm (by kernel_rfl)
    (by kernel_rfl) (by kernel_rfl) (by kernel_rfl) (by kernel_rfl) (by kernel_rfl) (by kernel_rfl) (by kernel_rfl) (by kernel_rfl) (by kernel_rfl) rfl (by kernel_rfl) rfl rfl
    rfl rfl
    rfl (by kernel_rfl) (by kernel_rfl) (by kernel_rfl) (by decide) (by kernel_rfl) fnParseHashAcceptsExactlyFortyHexDigits_row_tie
    (OpenClaim.moreEntering_of (by kernel_rfl) (by kernel_rfl) (by kernel_rfl) (by kernel_rfl) (by kernel_rfl) (by kernel_rfl) (by kernel_rfl) (by kernel_rfl) (by kernel_rfl) (by kernel_rfl))
    ⟨_, WideRow.started_initial, quiet _⟩
    (fun os started _ H enc _ => lifted os started H enc)
end Go.Proofs.Qxb6627633aFmt.fnParseHashAcceptsExactlyFortyHexDigits
