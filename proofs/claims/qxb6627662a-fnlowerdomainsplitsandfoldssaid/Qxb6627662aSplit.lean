/-
  THE LAW FnLowerDomainSplitsAndFolds, WALKED.
-/
import Derived.Test.Qxb6627662aCanon
namespace Go.Proofs.Qxb6627662a
open Go.RowKit Plain
set_option linter.unusedVariables false

/-- Where the text is too long, or the cut lies outside, the law says true at once. -/
theorem split_off (s : ByteArray) (k : Int) (w : World) (hs : s.size ≤ maxLen) (h : ¬ s.size ≤ 1048576 ∨ k < 0 ∨ (s.size : Int) < k) :
    Calls Try.prog 3 #[.string s, .int .i64 k] w fun e w' => e = .returned (.bool true) ∧ w = w' := by
  have hcon := bound1_any s k w hs
  by_cases h1 : s.size ≤ 1048576
  · rw [decide_eq_true h1] at hcon
    by_cases h2 : k < 0
    · clear h
      go_enter Try.func3, Try.ntmps3
      go_wp2_with (go_at_call 5; refine hcon.mono ?_; rintro e w' ⟨rfl, rfl⟩)
      go_ret
      exact ⟨rfl, rfl⟩
    · have h3 : (s.size : Int) < k := by omega
      clear h
      go_enter Try.func3, Try.ntmps3
      go_wp2_with (go_at_call 5; refine hcon.mono ?_; rintro e w' ⟨rfl, rfl⟩)
      go_ret
      exact ⟨rfl, rfl⟩
  · rw [decide_eq_false h1] at hcon
    clear h h1
    go_enter Try.func3, Try.ntmps3
    go_wp2_with (go_at_call 5; refine hcon.mono ?_; rintro e w' ⟨rfl, rfl⟩)
    go_ret
    exact ⟨rfl, rfl⟩

theorem extract_list (s : ByteArray) (a b : Nat) : (s.extract a b).data.toList = (s.data.toList.drop a).take (b - a) := by
  rw [ByteArray.data_extract, Array.toList_extract, List.extract_eq_take_drop]

theorem lowS_split (s : ByteArray) (k : Nat) (hk : k ≤ s.size) : lowS (s.extract 0 k) ++ lowS (s.extract k s.size) = lowS s := by
  apply ByteArray.ext
  rw [ByteArray.data_append]
  apply Array.ext'
  rw [Array.toList_append, lowS_list, lowS_list, lowS_list, extract_list, extract_list, ← List.map_append, Nat.sub_zero, List.drop_zero]
  rw [List.take_of_length_le (i := s.size - k) (by rw [List.length_drop, size_list]; exact Nat.le_refl _), List.take_append_drop]

set_option maxHeartbeats 1000000 in
set_option maxRecDepth 100000 in
theorem split_on (s : ByteArray) (k : Nat) (w : World) (hs : s.size ≤ 1048576) (hk : k ≤ s.size) :
    Calls Try.prog 3 #[.string s, .int .i64 (k : Int)] w fun e w' => e = .returned (.bool true) ∧ Below w.heap.size w w' := by
  have hcon := bound1_any s k w (by unfold maxLen; omega)
  rw [decide_eq_true hs] at hcon
  have hsp := lowS_split s k hk
  obtain ⟨A, hA⟩ : ∃ A, A = lowS (s.extract 0 k) := ⟨_, rfl⟩
  obtain ⟨B, hB⟩ : ∃ B, B = lowS (s.extract k s.size) := ⟨_, rfl⟩
  rw [← hA, ← hB] at hsp
  have hAs : A.size ≤ 1048576 := by rw [hA, lowS_size]; simp; omega
  have hBs : B.size ≤ 1048576 := by rw [hB, lowS_size]; simp; omega
  have HC1 : Hid (∀ w, Calls Try.prog 6 #[.string s] w fun e w' => e = .returned (.string (A ++ B)) ∧ Below w.heap.size w w') := fun w => by rw [hsp]; exact lower_any s w hs
  have HC2 : Hid (∀ w, Calls Try.prog 6 #[.string (s.extract 0 k)] w fun e w' => e = .returned (.string A) ∧ Below w.heap.size w w') := fun w => by rw [hA]; exact lower_any _ w (by simp; omega)
  have HC3 : Hid (∀ w, Calls Try.prog 6 #[.string (s.extract k s.size)] w fun e w' => e = .returned (.string B) ∧ Below w.heap.size w w') := fun w => by rw [hB]; exact lower_any _ w (by simp; omega)
  have HC4 : Hid (∀ w, Calls Try.prog 7 #[.string (A ++ B), .string s] w fun e w' => e = .returned (.bool true) ∧ w = w') := fun w => by
    have h7 := fold_any (A ++ B) s w (by rw [hsp, lowS_size]; exact hs) hs
    have e7 : foldL (A ++ B) s = true := by
      rw [hsp]
      unfold foldL
      rw [lowS_list, map_low_low]
      simp
    rw [e7] at h7
    exact h7
  have HC5 : Hid (∀ w, Calls Try.prog 8 #[.string (A ++ B)] w fun e w' => e = .returned (.bool false) ∧ w = w') := fun w =>
    upper_none (A ++ B) w (by rw [hsp, lowS_size]; exact hs) (by rw [hsp, lowS_list]; exact none_up _)
  clear hA hB hsp
  go_enter Try.func3, Try.ntmps3
  go_wp2_with (go_at_call 5; refine hcon.mono ?_; rintro e w' ⟨rfl, rfl⟩)
  refine (HC1.out _).mono ?_
  rintro e w1 ⟨rfl, hb1⟩
  go_wp2_with fail
  refine (HC2.out _).mono ?_
  rintro e w2 ⟨rfl, hb2⟩
  go_wp2_with fail
  refine (HC3.out _).mono ?_
  rintro e w3 ⟨rfl, hb3⟩
  go_wp2_with (first
    | (go_at_call 7; refine (HC4.out _).mono ?_; rintro e w' ⟨rfl, rfl⟩)
    | (go_at_call 8; refine (HC5.out _).mono ?_; rintro e w' ⟨rfl, rfl⟩))
  go_ret
  have b2 : Below w.heap.size w w2 := hb1.trans (hb2.mono hb1.size)
  exact ⟨rfl, b2.trans (hb3.mono b2.size)⟩
end Go.Proofs.Qxb6627662a
