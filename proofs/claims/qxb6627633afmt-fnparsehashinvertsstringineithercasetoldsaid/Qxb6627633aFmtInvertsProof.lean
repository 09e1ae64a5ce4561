/-
  THE CARD 'Rows.FnParseHashInvertsStringInEitherCaseToldSaid', PROVED: told and tied (the given tie): no way of this law comes to fmt.
-/
import Derived.Test.Qxb6627633aFmtInverts
import Derived.Test.Qxb6627633aFmtTie
import Derived.Test.Qxb6627633aFmtCards
import Derived.ProofKit
import Derived.OpenShut
import Derived.Stop.JoinedAt
import Derived.Stop.JoinedTold
import Derived.Stop.LaidErr
import Derived.SevenTiedAt
namespace Go.Proofs.Qxb6627633aFmt.fnParseHashInvertsStringInEitherCase
open Go.ChangeShapes Go.WideShapes Go.ChangeAt Go.RowKit Go.Kit
open Go.ChangeMaps (open_string shut_string)
open Go.Extern.Stop Go.Stop Go.Extern
set_option linter.unusedVariables false

theorem own : ownKnob Tryf.prog.godebug = none := by kernel_rfl
theorem laidOut : laidOutB Tryf.pinned.checked.prog = true := by kernel_rfl
theorem stops : Tryf.pinned.checked.prog.stops = ["fmt.errorf"] := by kernel_rfl
theorem stopKnobs : Tryf.pinned.checked.prog.stopKnobs = [] := by kernel_rfl
theorem quiet (os : Os) : Stop.quiet Tryf.pinned.checked.prog os := by
  intro k hk
  rw [stopKnobs] at hk
  cases hk

theorem cells23 : Tryf.prog.cellsOf 23 = 20 := by kernel_rfl
theorem cells5 : Tryf.prog.cellsOf 5 = 1 := by kernel_rfl

/-- The byte in a cell. -/
def byteIn : Value → UInt8
  | .int _ n => UInt8.ofNat n.toNat
  | _ => 0

/-- AN ARRAY OF TWENTY BYTES BY VALUE, OPENED. -/
theorem opened {H : Type} {enc : TypeId × Value → H} {W : World} {base : Nat} {v : Value} {d : DataW H} {p : List MemPlace} (hv0 : Value.okWide Tryf.prog W .any base 23 v) (h : DataW.Trod enc Tryf.prog W 0 (fun _ => true) true 23 v d p) :
    ∃ l : List UInt8, l.length = 20 ∧ v = hv l := by
  obtain ⟨cs, rfl, hsz, _⟩ : ∃ cs, v = .agg cs ∧ cs.size = Tryf.prog.cellsOf 23 ∧ Row.okWide Tryf.prog W .any base 23 cs := by
    simpa [Value.okWide, Tryf.underlying23] using hv0
  rw [cells23] at hsz
  obtain ⟨fuel, hf⟩ := h
  obtain ⟨xs, m, _, _, _, hxl, hall⟩ := DataW.trod_array Tryf.underlying23 hf
  refine ⟨cs.toList.map byteIn, by simpa using hsz, ?_⟩
  unfold hv
  congr 1
  apply Array.ext_getElem?
  intro i
  by_cases hi : i < 20
  · have h1 := hall i hi
    rw [cells5, Nat.mul_one, List.getElem?_eq_getElem (show i < xs.length by omega)] at h1
    obtain ⟨n, hn, _, hw⟩ := DataW.trod_int Tryf.underlying5 h1
    obtain ⟨hb0, hb1⟩ := bounds_u8 hw
    have hic : i < cs.size := by omega
    have h2 : cs[i]? = some (.int .u8 n) := by
      have h3 : ((cs.toList.drop i).take 1)[0]? = some (Value.int .u8 n) := by
        have e : (Value.agg cs).cells.toList = cs.toList := rfl
        rw [e] at hn
        rw [hn]
        rfl
      rw [List.getElem?_take, if_pos (by omega), List.getElem?_drop] at h3
      simpa using h3
    rw [h2, List.getElem?_toArray, List.getElem?_map, List.getElem?_map, Array.getElem?_toList, h2]
    show some _ = some (Value.int .u8 ((UInt8.ofNat n.toNat).toNat : Int))
    rw [UInt8.toNat_ofNat', Nat.mod_eq_of_lt (by omega), Int.toNat_of_nonneg hb0]
  · rw [Array.getElem?_eq_none (by omega), Array.getElem?_eq_none (by simp; omega)]

/-- encoding/hex.ErrLength's text. -/
def errText : ByteArray := ⟨#[101, 110, 99, 111, 100, 105, 110, 103, 47, 104, 101, 120, 58, 32, 111, 100, 100, 32, 108, 101, 110, 103, 116, 104, 32, 104, 101, 120, 32, 115, 116, 114, 105, 110, 103]⟩

/-- No listed variable is a handle. -/
theorem noHandle (w : World) (h : laidMet Tryf.checked.prog Rows.fnParseHashInvertsStringInEitherCaseRow.laid w) : laidMetH Tryf.checked.prog Rows.fnParseHashInvertsStringInEitherCaseRow.laid w := by
  have e : (Rows.fnParseHashInvertsStringInEitherCaseRow.laid.filter fun x => x.2.handleName?.isSome) = [] := by rfl
  unfold laidMetH
  rw [e]
  exact h

set_option maxRecDepth 100000 in
/-- ONE START THAT FITS: the variable as its initialiser lays it, the zero array. -/
theorem start (os : Os) (H : Type) (enc : TypeId × Value → H) (F : Interp) :
    ∃ (w : World) (tape : Tape) (i : Input), w.os = os ∧ (w.forCall tape i).Shaped Tryf.checked.prog ∧ i.vars = [] ∧ Input.okWide Tryf.checked.prog (w.forCall tape i) .any w.heap.size 4 i ∧
      (OpenSpec.ofChange Rows.fnParseHashInvertsStringInEitherCaseSpec).preRow enc Tryf.checked.prog Tryf.f4 Rows.fnParseHashInvertsStringInEitherCaseRow.domain false Rows.fnParseHashInvertsStringInEitherCaseRow.laid (w.forCall tape i).memory i.args ∧
      ({} : Assume).holds Tryf.checked.prog (lone (Frame.enter Tryf.checked.prog 4 i.args .normal) [] (w.forCall tape i)) ∧ F.answers tape :=
  OpenSpec.witness_stopped_at (enc := enc) (C := Tryf.checked) false
    { World.holding Tryf.prog os ⟨#[.cells #[.string errText] 48], #[], []⟩ with
      heap := (World.holding Tryf.prog os ⟨#[.cells #[.string errText] 48], #[], []⟩).heap.modify 0 fun
        | .cells _ t frozen => .cells #[.iface 46 (.pointer (some ⟨(World.holding Tryf.prog default ⟨#[], #[], []⟩).heap.size, 0, none⟩))] t frozen
        | o => o }
    #[.agg (Array.replicate 20 (.int .u8 0))] rfl (by kernel_rfl) (by kernel_rfl) (by kernel_rfl)
    (OpenSpec.preRow_of_B rfl 8 (by kernel_rfl) (by kernel_rfl) (noHandle _ (laidMet_of_run (ps := [.cell 0 0, .cell (World.holding Tryf.prog default ⟨#[], #[], []⟩).heap.size 0]) 8 (by kernel_rfl) (by kernel_rfl) (by kernel_rfl)))) F

set_option maxRecDepth 100000 in
set_option maxHeartbeats 1000000 in
theorem lifted (os : Os) (started : os.Started) (H : Type) (enc : TypeId × Value → H) :
    ReturnsInTold none {} Tryf.checked os 4 .any Input.okWide ((OpenSpec.ofChange Rows.fnParseHashInvertsStringInEitherCaseSpec).preRow enc Tryf.prog Tryf.f4 Rows.fnParseHashInvertsStringInEitherCaseRow.domain false Rows.fnParseHashInvertsStringInEitherCaseRow.laid)
      (fun F => ((OpenSpec.ofChange Rows.fnParseHashInvertsStringInEitherCaseSpec).at F).post enc Tryf.prog Tryf.f4 false true false false) (aloneAtReturn Tryf.prog) nothingAlways := by
  refine returnsInTold_of_row (C := Tryf.checked) (s := OpenSpec.ofChange Rows.fnParseHashInvertsStringInEitherCaseSpec) (by kernel_rfl) own started (by kernel_rfl) Tryf.func4 (start os H enc) ?_
  intro F W base args ds gs before _ hF hval0 hW _ _ _ hL _
  have hval : ∀ (j : Nat) t v, Tryf.f4.params[j]? = some t → args[j]? = some v → Value.okWide Tryf.prog W .any base t v := hval0
  have hW' := hW
  obtain ⟨p, q, hA0, hV0, rfl, hfz, hnd⟩ := hW
  have hA : DataW.TrodAll enc Tryf.prog W 0 (fun _ => true) true Tryf.f4.params.toList args.toList ds p := hA0
  rw [Tryf.params4] at hA hval
  obtain ⟨v0, d0, rfl, rfl, h0⟩ := trodAll_one hA
  obtain ⟨rfl, rfl⟩ := trodVars_none hV0
  have k0 := h0
  have lt0 : ∀ x ∈ p, x.block < W.heap.size := by obtain ⟨m, hm⟩ := k0; exact DataW.trod_lt m _ _ _ hm
  obtain ⟨l, hl, rfl⟩ := opened (hval 0 23 v0 rfl rfl) h0
  clear hA0 hV0 hval0
  refine (inverts_any l hl W).mono ?_
  rintro e W' ⟨rfl, bel⟩
  exact ⟨_, rfl, _, _, _, [], _, [], hW', trodAll_mk1 (shut_bool Tryf.underlying4 _), trodAll_mk1 (Below.trod laidOut (by kernel_rfl) (of_decide_eq_true (by kernel_rfl)) k0 bel lt0), rfl, bel.frame _, fun h => by cases h⟩

theorem proved : Rows.FnParseHashInvertsStringInEitherCaseToldSaid :=
  Claim7.holds_of_told_tied_any_at .later 4 Tryf.f4 "fmt.errorf" [] [] _ _ _ _ _ (by kernel_rfl) rfl rfl rfl laidOut (by kernel_rfl) rfl ⟨rfl, rfl, rfl, rfl, rfl, rfl, rfl⟩ rfl rfl (by kernel_rfl) (by kernel_rfl) Tryf.func4 (by kernel_rfl)
    (of_decide_eq_true (by kernel_rfl)) (by unfold Func.isWrapper; first | (rw [if_pos (by decide +kernel)]; kernel_rfl) | (rw [if_neg (by decide +kernel)]; exact ⟨rfl, rfl⟩)) stops.symm rfl stopKnobs.symm (by kernel_rfl)
    (by kernel_rfl) (by kernel_rfl) (by kernel_rfl) (by kernel_rfl) (by kernel_rfl) (by kernel_rfl) (by kernel_rfl) (by kernel_rfl) (by kernel_rfl) rfl (by kernel_rfl) rfl rfl
    rfl rfl
    rfl (by kernel_rfl) (by kernel_rfl) (by kernel_rfl) (by decide) (by kernel_rfl) fnParseHashInvertsStringInEitherCase_row_tie
    (OpenClaim.moreEntering_of (by kernel_rfl) (by kernel_rfl) (by kernel_rfl) (by kernel_rfl) (by kernel_rfl) (by kernel_rfl) (by kernel_rfl) (by kernel_rfl) (by kernel_rfl) (by kernel_rfl))
    ⟨_, WideRow.started_initial, quiet _⟩
    (fun os started _ H enc _ => lifted os started H enc)
end Go.Proofs.Qxb6627633aFmt.fnParseHashInvertsStringInEitherCase
