/-
  THE WALKS OF foldEqASCII, hasUpperASCII and the two small functions that bound the lengths.
-/
import Derived.Test.Qxb6627662aWalk
namespace Go.Proofs.Qxb6627662a
open Go.RowKit Plain
set_option linter.unusedVariables false

set_option maxRecDepth 100000 in
theorem or_fin : ∀ n : Fin 256, bits BinOp.or IntKind.u8 ((n.val : Nat) : Int) 32 = ((or32 n.val : Nat) : Int) := by decide +kernel

theorem or_all (x : Nat) (h : x < 256) : bits BinOp.or IntKind.u8 (x : Int) 32 = ((or32 x : Nat) : Int) := or_fin ⟨x, h⟩

/-- What foldEqASCII answers. -/
def foldL (a b : ByteArray) : Bool := a.data.toList.map low == b.data.toList.map low

set_option maxHeartbeats 1000000 in
set_option maxRecDepth 100000 in
theorem fold_any (s t : ByteArray) (w : World) (hs : s.size ≤ 1048576) (ht : t.size ≤ 1048576) :
    Calls Try.prog 7 #[.string s, .string t] w fun e w' => e = .returned (.bool (foldL s t)) ∧ w = w' := by
  by_cases hl : s.size = t.size
  · have hb : ((s.size : Int) != (t.size : Int)) = false := by simp [hl]
    have HL : Hid (s.size = t.size) := hl
    have hle : s.size ≤ t.size := by omega
    clear hl
    go_enter Try.func7, Try.ntmps7
    go_wp2
    go_loop [5] (fun i => ∃ k : Nat, k ≤ s.size ∧ i = .int .i64 k ∧ Hid (LowAlike s.data.toList t.data.toList k)) (fun i => s.size - (intOf i).toNat)
    case atStart => exact ⟨0, Nat.zero_le _, rfl, LowAlike.zero _ _⟩
    case round =>
      obtain ⟨k, hk, rfl, HA⟩ := hrel
      by_cases hlt : k < s.size
      · have hlt2 : k < t.size := by omega
        have HX : Hid (s.data.toList[k]? = some s[k]) := byte_at s k hlt
        have HY : Hid (t.data.toList[k]? = some t[k]) := byte_at t k hlt2
        obtain ⟨x, hx⟩ : ∃ x : Nat, x = s[k].toNat := ⟨_, rfl⟩
        obtain ⟨y, hy⟩ : ∃ y : Nat, y = t[k].toNat := ⟨_, rfl⟩
        have hx256 : x < 256 := by rw [hx]; exact s[k].toNat_lt
        have hy256 : y < 256 := by rw [hy]; exact t[k].toNat_lt
        have HI : Hid (low s[k] = low t[k] ↔ x = y ∨ (or32 x = or32 y ∧ 97 ≤ or32 x ∧ or32 x ≤ 122)) := by show _ ↔ _; rw [hx, hy]; exact fold_iff _ _
        have sx : (s[k].toNat : Int) = (x : Int) := by rw [hx]
        have sy : (t[k].toNat : Int) = (y : Int) := by rw [hy]
        have ox := or_all x hx256
        have oy := or_all y hy256
        obtain ⟨a, ha⟩ : ∃ a, a = or32 x := ⟨_, rfl⟩
        obtain ⟨b, hb'⟩ : ∃ b, b = or32 y := ⟨_, rfl⟩
        rw [← ha] at HI ox
        rw [← hb'] at HI oy
        clear hx hy ha hb'
        by_cases hxy : x = y
        · have hb1 : ((x : Int) == (y : Int)) = true := by simp [hxy]
          have HXY : Hid (x = y) := hxy
          clear hxy
          go_wp2
          go_round
          case rel => exact ⟨k + 1, by omega, by go_num, HA.out.step HX.out HY.out (HI.out.2 (.inl HXY.out))⟩
          case measure => simp [intOf]; omega
        · have hb1 : ((x : Int) == (y : Int)) = false := by simp; omega
          have HXY : Hid (¬ x = y) := hxy
          clear hxy
          by_cases hab : a = b
          · have hb2 : ((a : Int) != (b : Int)) = false := by simp [hab]
            have HAB : Hid (a = b) := hab
            clear hab
            by_cases h1 : a < 97
            · go_wp2
              go_ret
              exact ⟨ret_bool (unlike HX.out HY.out (fun e => by have := HI.out.1 e; have := HXY.out; omega)).symm, rfl⟩
            · by_cases h2 : 122 < a
              · go_wp2
                go_ret
                exact ⟨ret_bool (unlike HX.out HY.out (fun e => by have := HI.out.1 e; have := HXY.out; omega)).symm, rfl⟩
              · go_wp2
                go_round
                case rel => exact ⟨k + 1, by omega, by go_num, HA.out.step HX.out HY.out (HI.out.2 (.inr ⟨HAB.out, by omega, by omega⟩))⟩
                case measure => simp [intOf]; omega
          · have hb2 : ((a : Int) != (b : Int)) = true := by simp; omega
            have HAB : Hid (¬ a = b) := hab
            clear hab
            go_wp2
            go_ret
            exact ⟨ret_bool (unlike HX.out HY.out (fun e => by have := HI.out.1 e; have := HXY.out; have := HAB.out; omega)).symm, rfl⟩
      · go_wp2
        go_ret
        exact ⟨ret_bool (HA.out.whole (by rw [size_list]; omega) (by rw [size_list]; have := HL.out; omega)).symm, rfl⟩
  · have hb : ((s.size : Int) != (t.size : Int)) = true := by simp; omega
    have HL : Hid (¬ s.size = t.size) := hl
    clear hl
    go_enter Try.func7, Try.ntmps7
    go_wp2
    go_ret
    exact ⟨ret_bool (unlike_length (by rw [size_list, size_list]; exact HL.out)).symm, rfl⟩

set_option maxHeartbeats 1000000 in
/-- hasUpperASCII of a text without a capital letter. -/
theorem upper_none (s : ByteArray) (w : World) (hs : s.size ≤ 1048576) (h : ∀ c ∈ s.data.toList, isUp c = false) :
    Calls Try.prog 8 #[.string s] w fun e w' => e = .returned (.bool false) ∧ w = w' := by
  have H : Hid (∀ c ∈ s.data.toList, isUp c = false) := h
  clear h
  go_enter Try.func8, Try.ntmps8
  go_wp2
  go_loop [3] (fun i => ∃ k : Nat, k ≤ s.size ∧ i = .int .i64 k) (fun i => s.size - (intOf i).toNat)
  case atStart => exact ⟨0, Nat.zero_le _, rfl⟩
  case round =>
    obtain ⟨k, hk, rfl⟩ := hrel
    by_cases hlt : k < s.size
    · have hu := H.out s[k] (List.mem_of_getElem? (byte_at s k hlt))
      have hu2 : (s[k].toNat : Int) < 65 ∨ 90 < (s[k].toNat : Int) := by
        unfold isUp at hu
        rw [Bool.and_eq_false_iff] at hu
        simp at hu
        omega
      clear hu
      by_cases h1 : 65 ≤ (s[k].toNat : Int)
      · have h2 : ¬ (s[k].toNat : Int) ≤ 90 := by omega
        clear hu2
        go_wp2
        go_round
        case rel => exact ⟨k + 1, by omega, by go_num⟩
        case measure => simp [intOf]; omega
      · clear hu2
        go_wp2
        go_round
        case rel => exact ⟨k + 1, by omega, by go_num⟩
        case measure => simp [intOf]; omega
    · go_wp2
      go_ret
      exact ⟨rfl, rfl⟩

theorem bound1_any (s : ByteArray) (k : Int) (w : World) (hs : s.size ≤ maxLen) :
    Calls Try.prog 5 #[.string s, .int .i64 k] w fun e w' => e = .returned (.bool (decide (s.size ≤ 1048576))) ∧ w = w' := by
  unfold maxLen at hs
  by_cases h1 : 1048576 < s.size
  · go_enter Try.func5, Try.ntmps5
    go_wp2
    go_ret
    exact ⟨ret_bool (by simp; omega), rfl⟩
  · go_enter Try.func5, Try.ntmps5
    go_wp2
    go_ret
    exact ⟨ret_bool (by simp; omega), rfl⟩

theorem bound2_any (s t : ByteArray) (w : World) (hs : s.size ≤ maxLen) (ht : t.size ≤ maxLen) :
    Calls Try.prog 9 #[.string s, .string t] w fun e w' => e = .returned (.bool (decide (s.size + t.size ≤ 1048576))) ∧ w = w' := by
  unfold maxLen at hs ht
  by_cases h1 : 1048576 < s.size
  · go_enter Try.func9, Try.ntmps9
    go_wp2
    go_ret
    exact ⟨ret_bool (by simp; omega), rfl⟩
  · by_cases h2 : 1048576 < t.size
    · go_enter Try.func9, Try.ntmps9
      go_wp2
      go_ret
      exact ⟨ret_bool (by simp; omega), rfl⟩
    · by_cases h3 : 1048576 < s.size + t.size
      · go_enter Try.func9, Try.ntmps9
        go_wp2
        go_ret
        exact ⟨ret_bool (by simp; omega), rfl⟩
      · go_enter Try.func9, Try.ntmps9
        go_wp2
        go_ret
        exact ⟨ret_bool (by simp; omega), rfl⟩
end Go.Proofs.Qxb6627662a
