/-
  THE WALKS OF EncodeToString, Hash.String AND THE LAW's OWN SMALL FUNCTIONS.
-/
import Derived.Test.Qxb6627633aFmtHex
import Derived.Test.Qxb6627633aFmtPlain
import Derived.Stop.BytesEq
namespace Go.Proofs.Qxb6627633aFmt
open Go.RowKit Go.Lib Plain
open Go.Extern.Stop (cell)
set_option linter.unusedVariables false

theorem make_run (n : Nat) (hn : n ≤ 1048576) (w : World) : (Instr.makeSlice 37 (.int .i64 (n : Int)) (.int .i64 (n : Int))).run Tryf.prog w = .ok (.slice (some ⟨w.heap.size, 0, none⟩) n n) (w.alloc (.cells (madeCells #[.int .u8 0] n) 5)) :=
  run_make_row' (P := Tryf.prog) 37 5 (.int .u8 0) 1 Tryf.underlying37 Tryf.info5 rfl .i64 .i64 n (by omega) (by omega) w

set_option maxHeartbeats 1000000 in
set_option maxRecDepth 100000 in
theorem encStr_any (bs os n cs : Nat) (xs : List Int) (w : World)
    (hx : xs.length = n) (hr : ∀ i, i < n → 0 ≤ xs.getD i 0 ∧ xs.getD i 0 < 256) (hsrc : ∀ i, i < n → w.cell? ⟨bs, os + i, none⟩ = some (.int .u8 (xs.getD i 0)))
    (hb : bs < w.heap.size) (hbig : 2 * n ≤ 1048576) :
    Calls Tryf.prog 16 #[.slice (some ⟨bs, os, none⟩) n cs] w fun e w' => e = .returned (.string ⟨(Hx.encode (Lib.bytesOf xs)).toArray⟩) ∧ Below w.heap.size w w' := by
  have hmk : ∀ w : World, (Instr.makeSlice 37 (.int .i64 ((n : Int) * 2)) (.int .i64 ((n : Int) * 2))).run Tryf.prog w = .ok (.slice (some ⟨w.heap.size, 0, none⟩) (2 * n) (2 * n)) (w.alloc (.cells (madeCells #[.int .u8 0] (2 * n)) 5)) := fun w => by
    have h := make_run (2 * n) hbig w
    rwa [show ((2 * n : Nat) : Int) = (n : Int) * 2 by omega] at h
  have hsrc' : Hid (∀ o, ∀ i, i < n → (w.alloc o).cell? ⟨bs, os + i, none⟩ = some (.int .u8 (xs.getD i 0))) := fun o i hi => (((Below.refl _ w).alloc (Nat.le_refl _) o).cell (p := ⟨bs, os + i, none⟩) hb).trans (hsrc i hi)
  have HR : Hid (∀ i, i < n → 0 ≤ xs.getD i 0 ∧ xs.getD i 0 < 256) := hr
  have HX0 : Hid (xs.length = n) := hx
  clear hsrc hr hx
  go_enter Tryf.func16, Tryf.ntmps16
  go_wp2_with fail
  refine (encLen_any n (by omega) (by omega) _).mono ?_
  rintro e w1 ⟨rfl, rfl⟩
  go_wp2_with fail
  refine (encode_any 5 w.heap.size 0 (2 * n) (2 * n) (2 * n) (fun _ => .int .u8 0) bs os n cs xs _ HX0.out HR.out (hsrc'.out _) (World.rowIs_made w _ _ _) (by omega) (by omega) (by omega) (by omega)).mono ?_
  rintro e w2 ⟨rfl, hrow', hgrow⟩
  have g := run_convert_bytes_arg (P := Tryf.prog) w2 37 5 Tryf.underlying37 Tryf.underlying5 w.heap.size 0 (2 * n) (2 * n) (Hx.nums (Lib.bytesOf xs)) (by rw [Hx.nums_length, Lib.bytesOf_length, HX0.out]) (fun i hi => by rw [Nat.zero_add, hrow'.cell hi, Hx.row_in _ _ _ _ hi]) 9 Tryf.underlying9
  have HG : Hid ((w.alloc (.cells (madeCells #[.int .u8 0] (2 * n)) 5)).grownBy w2 (some w.heap.size)) := hgrow
  clear hrow' hgrow
  go_wp2
  go_ret
  exact ⟨by rw [← Hx.strOfNums_nums]; rfl, ((Below.refl _ w).alloc (Nat.le_refl _) _).grown HG.out (by simp) (fun k hk => by cases hk; exact Nat.le_refl _)⟩

theorem sizeL (l : List UInt8) : (⟨l.toArray⟩ : ByteArray).size = l.length := by simp [ByteArray.size]

/-- A Hash, as a value. -/
def hv (l : List UInt8) : Value := .agg (l.map cell).toArray

theorem hex_cell (l : List UInt8) (w : World) (t : TypeId) (i : Nat) (hi : i < l.length) : (w.alloc (.cells (l.map cell).toArray t)).cell? ⟨w.heap.size, 0 + i, none⟩ = some (.int .u8 ((Hx.numsOf ⟨l.toArray⟩).getD i 0)) := by
  rw [Nat.zero_add, Hx.numsOf_at _ _ (by simpa using hi)]
  have h1 : (w.alloc (.cells (l.map cell).toArray t)).heap[w.heap.size]? = some (.cells (l.map cell).toArray t) := heap_alloc_new _ _
  rw [cell_of_row _ _ _ _ _ _ h1]
  simp [hi, cell]

set_option maxHeartbeats 1000000 in
set_option maxRecDepth 100000 in
theorem string_any (l : List UInt8) (hl : l.length = 20) (w : World) :
    Calls Tryf.prog 9 #[hv l] w fun e w' => e = .returned (.string ⟨(Hx.encode l).toArray⟩) ∧ Below w.heap.size w w' := by
  have hcon := encStr_any w.heap.size 0 20 20 (Hx.numsOf ⟨l.toArray⟩) (w.alloc (.cells (l.map cell).toArray 24)) (by rw [Hx.numsOf_length, sizeL]; exact hl) (fun i _ => Hx.numsOf_range _ i) (fun i hi => hex_cell l w 24 i (by omega)) (by simp) (by omega)
  rw [Hx.bytesOf_numsOf] at hcon
  have HC : Hid (Calls Tryf.prog 16 #[.slice (some ⟨w.heap.size, 0, none⟩) 20 20] (w.alloc (.cells (l.map cell).toArray 24)) fun e w' => e = .returned (.string ⟨(Hx.encode l).toArray⟩) ∧ Below (w.alloc (.cells (l.map cell).toArray 24)).heap.size (w.alloc (.cells (l.map cell).toArray 24)) w') := hcon
  clear hcon
  unfold hv
  go_enter Tryf.func9, Tryf.ntmps9
  go_wp2_with fail
  refine HC.out.mono ?_
  rintro e w' ⟨rfl, hb⟩
  clear HC
  go_wp2_with fail
  go_ret
  exact ⟨rfl, ((Below.refl _ w).alloc (Nat.le_refl _) _).trans (hb.mono (by simp))⟩

theorem ret_bool {a b : Bool} (h : a = b) : Ending.returned (.bool a) = .returned (.bool b) := by rw [h]

theorem bound_any (s : ByteArray) (w : World) (hs : s.size ≤ maxLen) :
    Calls Tryf.prog 5 #[.string s] w fun e w' => e = .returned (.bool (decide (s.size ≤ 1048576))) ∧ w = w' := by
  unfold maxLen at hs
  by_cases h1 : 1048576 < s.size
  · go_enter Tryf.func5, Tryf.ntmps5
    go_wp2
    go_ret
    exact ⟨ret_bool (by simp; omega), rfl⟩
  · go_enter Tryf.func5, Tryf.ntmps5
    go_wp2
    go_ret
    exact ⟨ret_bool (by simp; omega), rfl⟩

set_option maxHeartbeats 1000000 in
theorem isHexDigit_any (c : UInt8) (w : World) :
    Calls Tryf.prog 15 #[.int .u8 (c.toNat : Int)] w fun e w' => e = .returned (.bool (isHex c)) ∧ w = w' := by
  have hc := c.toNat_lt
  obtain ⟨x, hx⟩ : ∃ x : Nat, x = c.toNat := ⟨_, rfl⟩
  have e : isHex c = ((decide (48 ≤ x) && decide (x ≤ 57)) || (decide (97 ≤ x) && decide (x ≤ 102)) || (decide (65 ≤ x) && decide (x ≤ 70))) := by rw [hx]; rfl
  rw [e, ← hx]
  rw [← hx] at hc
  clear e hx
  by_cases h1 : 48 ≤ x
  · by_cases h2 : x ≤ 57
    · go_enter Tryf.func15, Tryf.ntmps15
      go_wp2
      go_ret
      exact ⟨ret_bool (by simp [h1, h2]), rfl⟩
    · by_cases h3 : 97 ≤ x
      · by_cases h4 : x ≤ 102
        · go_enter Tryf.func15, Tryf.ntmps15
          go_wp2
          go_ret
          exact ⟨ret_bool (by simp [h3, h4]), rfl⟩
        · go_enter Tryf.func15, Tryf.ntmps15
          go_wp2
          go_ret
          exact ⟨ret_bool (by first | (simp; done) | (rw [Bool.eq_iff_iff]; simp; omega) | (simp; omega)), rfl⟩
      · by_cases h5 : 65 ≤ x
        · go_enter Tryf.func15, Tryf.ntmps15
          go_wp2
          go_ret
          exact ⟨ret_bool (by first | (simp; done) | (rw [Bool.eq_iff_iff]; simp; omega) | (simp; omega)), rfl⟩
        · go_enter Tryf.func15, Tryf.ntmps15
          go_wp2
          go_ret
          exact ⟨ret_bool (by first | (simp; done) | (rw [Bool.eq_iff_iff]; simp; omega) | (simp; omega)), rfl⟩
  · go_enter Tryf.func15, Tryf.ntmps15
    go_wp2
    go_ret
    exact ⟨ret_bool (by first | (simp; done) | (rw [Bool.eq_iff_iff]; simp; omega) | (simp; omega)), rfl⟩

theorem size_list (s : ByteArray) : s.data.toList.length = s.size := by rw [Array.length_toList]; rfl

theorem byte_getD (s : ByteArray) (k : Nat) (h : k < s.size) : s.data.toList[k]? = some s[k] := by
  rw [List.getElem?_eq_getElem (by rw [size_list]; exact h)]
  rfl

/-- Forty bytes, each a hexadecimal digit. -/
def fortyHex (s : ByteArray) : Bool := decide (s.size = 40) && s.data.toList.all isHex

set_option maxHeartbeats 1000000 in
theorem isForty_any (s : ByteArray) (w : World) (hs : s.size ≤ 1048576) :
    Calls Tryf.prog 7 #[.string s] w fun e w' => e = .returned (.bool (fortyHex s)) ∧ w = w' := by
  by_cases h40 : s.size = 40
  · have hb : ((s.size : Int) != 40) = false := by simp; omega
    have H40 : Hid (s.size = 40) := h40
    have hle : s.size ≤ 40 := by omega
    clear h40
    go_enter Tryf.func7, Tryf.ntmps7
    go_wp2
    go_loop [3] (fun t => ∃ k : Nat, k ≤ s.size ∧ t = .int .i64 k ∧ ∀ j c, j < k → s.data.toList[j]? = some c → isHex c = true) (fun t => s.size - (RowKit.intOf t).toNat)
    case atStart => exact ⟨0, by omega, rfl, fun j c hj => by omega⟩
    case round =>
      obtain ⟨k, hk, rfl, hall⟩ := hrel
      have HA : Hid (∀ j c, j < k → s.data.toList[j]? = some c → isHex c = true) := hall
      clear hall
      by_cases hlt : k < s.size
      · have hcon := isHexDigit_any s[k] w
        cases hh : isHex s[k] with
        | true =>
          rw [hh] at hcon
          have HH : Hid (isHex s[k] = true) := hh
          clear hh
          go_wp2_with (go_at_call 15; refine hcon.mono ?_; rintro e w' ⟨rfl, rfl⟩)
          go_round
          case rel => exact ⟨k + 1, by omega, by go_num, fun j c hj hc => by
            by_cases hjk : j = k
            · subst hjk
              rw [byte_getD s j hlt] at hc
              obtain rfl := Option.some.inj hc
              exact HH.out
            · exact HA.out j c (by omega) hc⟩
          case measure => simp [RowKit.intOf]; omega
        | false =>
          rw [hh] at hcon
          have HH : Hid (isHex s[k] = false) := hh
          clear hh
          go_wp2_with (go_at_call 15; refine hcon.mono ?_; rintro e w' ⟨rfl, rfl⟩)
          go_ret
          refine ⟨ret_bool ?_, rfl⟩
          symm
          unfold fortyHex
          rw [Bool.and_eq_false_iff]
          right
          rw [List.all_eq_false]
          exact ⟨s[k], List.mem_of_getElem? (byte_getD s k hlt), by rw [HH.out]; decide⟩
      · go_wp2
        go_ret
        refine ⟨ret_bool ?_, rfl⟩
        symm
        unfold fortyHex
        rw [decide_eq_true H40.out, Bool.true_and, List.all_eq_true]
        intro c hc
        obtain ⟨j, hj⟩ := List.mem_iff_getElem?.1 hc
        have hjl := (List.getElem?_eq_some_iff.1 hj).1
        rw [size_list] at hjl
        exact HA.out j c (by omega) hj
  · have hb : ((s.size : Int) != 40) = true := by simp; omega
    have H40 : Hid (¬ s.size = 40) := h40
    clear h40
    go_enter Tryf.func7, Tryf.ntmps7
    go_wp2
    go_ret
    exact ⟨ret_bool (by unfold fortyHex; rw [decide_eq_false H40.out]; rfl), rfl⟩
end Go.Proofs.Qxb6627633aFmt
