/-
  THE WALKS: Working, NextWorkingDay, ZZnewCalendar, over a calendar whose map is told by M: 'M x': the mark of day x, if there is one.
-/
import Derived.Test.Qxb6627567aPlain
import Derived.Test.Qxb6627567aRows
import Derived.Maps.OwnSet
import Derived.WalkKit
import Derived.WalkSpells
namespace Go.Proofs.Qxb6627567a
open Go.RowKit Go.Maps Plain
set_option linter.unusedVariables false

/-- The look-up of day x in the map m, in the world w, answers as M says. -/
def LookAt (M : Int → Option Bool) (m : Option Nat) (w : World) (x : Int) : Prop :=
  (Instr.lookup 22 (.map m) (.int .i32 x) true).run Try.prog w = .ok (.tuple #[.bool ((M x).getD false), .bool (M x).isSome]) w

theorem ret_bool {a b : Bool} (h : a = b) : Ending.returned (.bool a) = .returned (.bool b) := by rw [h]

set_option maxHeartbeats 400000 in
theorem working_any (M : Int → Option Bool) (pb : Nat) (m : Option Nat) (d : Int) (w : World) (hc : w.cell? ⟨pb, 0, none⟩ = some (.map m)) (hl : LookAt M m w d) (h1 : -2147483648 ≤ d) (h2 : d ≤ 2147483647) :
    Calls Try.prog 6 #[.pointer (some ⟨pb, 0, none⟩), .int .i32 d] w fun e w' => e = .returned (.bool (wk M d)) ∧ w = w' := by
  unfold LookAt at hl
  cases hM : M d with
  | some b =>
    have hw : wk M d = b := by simp [wk, hM]
    rw [hw]
    simp only [hM, Option.getD_some, Option.isSome_some] at hl
    clear hM hw
    go_enter Try.func6, Try.ntmps6
    go_wp2
    go_ret
    exact ⟨rfl, rfl⟩
  | none =>
    have hw : wk M d = plainDay d := by simp [wk, hM]
    rw [hw]
    simp only [hM, Option.getD_none, Option.isSome_none] at hl
    clear hM hw
    have b1 : -7 < d.tmod 7 := Int.lt_tmod_of_pos d (by decide)
    have b2 : d.tmod 7 < 7 := Int.tmod_lt_of_pos d (by decide)
    go_enter Try.func6, Try.ntmps6
    go_wp2
    · have h : d.tmod 7 % 7 = 2 := by assumption
      go_ret
      exact ⟨ret_bool (by simp [plainDay, h]), rfl⟩
    · go_ret
      exact ⟨ret_bool (by simp [plainDay]), rfl⟩

/-- The calendar is laid in a new block. -/
theorem newCalendar_any (m : Option Nat) (w : World) :
    Calls Try.prog 4 #[.map m] w fun e w' => e = .returned (.pointer (some ⟨w.heap.size, 0, none⟩)) ∧ w.alloc (.cells #[.map m] 31) = w' := by
  go_enter Try.func4, Try.ntmps4
  go_wp2
  go_ret
  exact ⟨rfl, rfl⟩

set_option maxHeartbeats 400000 in
/-- NextWorkingDay: the first working day behind d; j: a working day is known to come within j days. -/
theorem nwd_any (M : Int → Option Bool) (pb : Nat) (m : Option Nat) (d : Int) (w : World) (hc : w.cell? ⟨pb, 0, none⟩ = some (.map m))
    (hl : ∀ x : Int, -2147483648 ≤ x → x ≤ 2147483647 → LookAt M m w x) (j : Int) (hj1 : 1 ≤ j) (hj2 : j ≤ 229384) (hj : wk M (d + j) = true) (h1 : -2147483648 ≤ d) (h2 : d ≤ 2147483647 - 262144) :
    Calls Try.prog 5 #[.pointer (some ⟨pb, 0, none⟩), .int .i32 d] w fun e w' => ∃ r : Int, e = .returned (.int .i32 r) ∧ First M d r ∧ r ≤ d + 229384 ∧ w = w' := by
  have HJ : Hid (wk M (d + j) = true) := hj
  have HL : Hid (∀ x : Int, -2147483648 ≤ x → x ≤ 2147483647 → LookAt M m w x) := hl
  clear hj hl
  go_enter Try.func5, Try.ntmps5
  go_wp2
  go_loop [5] (fun t => ∃ k : Int, 1 ≤ k ∧ k ≤ j ∧ t = .int .i32 (d + k) ∧ ∀ x, d < x → x < d + k → wk M x = false) (fun t => (d + j - intOf t).toNat)
  case atStart => exact ⟨1, by omega, by omega, rfl, fun x a b => by omega⟩
  case round =>
    obtain ⟨k, hk1, hk2, rfl, hno⟩ := hrel
    have HNO : Hid (∀ x, d < x → x < d + k → wk M x = false) := hno
    clear hno
    cases hw : wk M (d + k) with
    | true =>
      go_wp2_with (go_at_call 6; refine (working_any M pb m (d + k) w hc (HL.out _ (by omega) (by omega)) (by omega) (by omega)).mono ?_; rw [hw]; rintro e w' ⟨rfl, rfl⟩)
      go_ret
      exact ⟨d + k, rfl, ⟨by omega, hw, HNO.out⟩, by omega, rfl⟩
    | false =>
      have hne : k ≠ j := fun e => by have := HJ.out; rw [← e, hw] at this; cases this
      go_wp2_with (go_at_call 6; refine (working_any M pb m (d + k) w hc (HL.out _ (by omega) (by omega)) (by omega) (by omega)).mono ?_; rw [hw]; rintro e w' ⟨rfl, rfl⟩)
      go_round
      case rel => exact ⟨k + 1, by omega, by omega, by go_num, fun x a b => by
        by_cases hx : x = d + k
        · rw [hx]; exact hw
        · exact HNO.out x a (by omega)⟩
      case measure => simp [intOf]; omega
end Go.Proofs.Qxb6627567a
