/-
  THE LAW FnLowerDomainCanonicalForm, WALKED.
-/
import Derived.Test.Qxb6627662aFold
namespace Go.Proofs.Qxb6627662a
open Go.RowKit Plain
set_option linter.unusedVariables false

/-- The text in lower case. -/
def lowS (s : ByteArray) : ByteArray := ⟨(s.data.toList.map low).toArray⟩

theorem lowS_list (s : ByteArray) : (lowS s).data.toList = s.data.toList.map low := rfl
theorem lowS_size (s : ByteArray) : (lowS s).size = s.size := by rw [← size_list, lowS_list, List.length_map, size_list]
theorem lowS_lowS (s : ByteArray) : lowS (lowS s) = lowS s := by
  unfold lowS
  rw [show (⟨(s.data.toList.map low).toArray⟩ : ByteArray).data.toList = s.data.toList.map low from rfl, map_low_low]

theorem canon_off (s t : ByteArray) (w : World) (hs : s.size ≤ maxLen) (ht : t.size ≤ maxLen) (h : ¬ s.size + t.size ≤ 1048576) :
    Calls Try.prog 4 #[.string s, .string t] w fun e w' => e = .returned (.bool true) ∧ w = w' := by
  have hcon := bound2_any s t w hs ht
  rw [decide_eq_false h] at hcon
  clear h
  go_enter Try.func4, Try.ntmps4
  go_wp2_with (go_at_call 9; refine hcon.mono ?_; rintro e w' ⟨rfl, rfl⟩)
  go_ret
  exact ⟨rfl, rfl⟩

theorem lowS_eq (s t : ByteArray) : ((lowS s).toList == (lowS t).toList) = foldL s t := by
  rw [ByteArray.toList_eq, ByteArray.toList_eq, lowS_list, lowS_list]
  rfl

set_option maxHeartbeats 1000000 in
set_option maxRecDepth 100000 in
theorem canon_on (s t : ByteArray) (w : World) (h : s.size + t.size ≤ 1048576) :
    Calls Try.prog 4 #[.string s, .string t] w fun e w' => e = .returned (.bool true) ∧ Below w.heap.size w w' := by
  have hcon := bound2_any s t w (by unfold maxLen; omega) (by unfold maxLen; omega)
  rw [decide_eq_true h] at hcon
  have hs : s.size ≤ 1048576 := by omega
  have ht : t.size ≤ 1048576 := by omega
  have he := lowS_eq s t
  obtain ⟨R, hR⟩ : ∃ R, R = lowS s := ⟨_, rfl⟩
  obtain ⟨U, hU⟩ : ∃ U, U = lowS t := ⟨_, rfl⟩
  have HC1 : Hid (∀ w, Calls Try.prog 6 #[.string s] w fun e w' => e = .returned (.string R) ∧ Below w.heap.size w w') := fun w => by rw [hR]; exact lower_any s w hs
  have HC2 : Hid (∀ w, Calls Try.prog 6 #[.string t] w fun e w' => e = .returned (.string U) ∧ Below w.heap.size w w') := fun w => by rw [hU]; exact lower_any t w ht
  have HC3 : Hid (∀ w, Calls Try.prog 6 #[.string R] w fun e w' => e = .returned (.string R) ∧ Below w.heap.size w w') := fun w => by
    have h6 := lower_any R w (by rw [hR, lowS_size]; exact hs)
    have e6 : (⟨(R.data.toList.map low).toArray⟩ : ByteArray) = R := by
      show lowS R = R
      rw [hR, lowS_lowS]
    rw [e6] at h6
    exact h6
  have HC4 : Hid (∀ w, Calls Try.prog 7 #[.string s, .string t] w fun e w' => e = .returned (.bool (foldL s t)) ∧ w = w') := fun w => fold_any s t w hs ht
  rw [← hR, ← hU] at he
  clear hR hU
  have h1 : ¬ (1048576 : Int) < (s.size : Int) := by omega
  have h2 : ¬ (1048576 : Int) - (s.size : Int) < (t.size : Int) := by omega
  cases hf : foldL s t with
  | true =>
    rw [hf] at he HC4
    clear hf h
    go_enter Try.func4, Try.ntmps4
    go_wp2_with (go_at_call 9; refine hcon.mono ?_; rintro e w' ⟨rfl, rfl⟩)
    refine (HC1.out _).mono ?_
    rintro e w1 ⟨rfl, hb1⟩
    go_wp2_with fail
    refine (HC2.out _).mono ?_
    rintro e w2 ⟨rfl, hb2⟩
    go_wp2_with (go_at_call 7; refine (HC4.out _).mono ?_; rintro e w' ⟨rfl, rfl⟩)
    refine (HC3.out _).mono ?_
    rintro e w3 ⟨rfl, hb3⟩
    go_wp2_with fail
    go_ret
    have b2 : Below w.heap.size w w2 := hb1.trans (hb2.mono hb1.size)
    exact ⟨rfl, b2.trans (hb3.mono b2.size)⟩
  | false =>
    rw [hf] at he HC4
    clear hf h
    go_enter Try.func4, Try.ntmps4
    go_wp2_with (go_at_call 9; refine hcon.mono ?_; rintro e w' ⟨rfl, rfl⟩)
    refine (HC1.out _).mono ?_
    rintro e w1 ⟨rfl, hb1⟩
    go_wp2_with fail
    refine (HC2.out _).mono ?_
    rintro e w2 ⟨rfl, hb2⟩
    go_wp2_with (go_at_call 7; refine (HC4.out _).mono ?_; rintro e w' ⟨rfl, rfl⟩)
    refine (HC3.out _).mono ?_
    rintro e w3 ⟨rfl, hb3⟩
    go_wp2_with fail
    go_ret
    have b2 : Below w.heap.size w w2 := hb1.trans (hb2.mono hb1.size)
    exact ⟨rfl, b2.trans (hb3.mono b2.size)⟩
end Go.Proofs.Qxb6627662a
