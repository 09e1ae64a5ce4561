/-
  THE WALKS OF THE FUNCTIONS THAT ONLY READ: onlyFF, sameBytes, startsWith, compareBytes, equalsJoin.
-/
import Derived.Test.Qxb6627581aPlain
import Derived.Test.Qxb6627581aRows
import Derived.WalkKit
import Derived.WalkSpells
import Derived.Below
import Derived.Deep.QuietTactic
import Derived.BigQuiet
namespace Go.Proofs.Qxb6627581a
open Go.RowKit Plain
set_option linter.unusedVariables false

/-- THE BYTES OF A SLICE: n of them, the numbers l; where there is one, they lie behind a plain address. -/
def BI (w : World) (a : Option Addr) (n : Nat) (l : List Int) : Prop :=
  l.length = n ∧ (∀ x ∈ l, 0 ≤ x ∧ x ≤ 255) ∧ (0 < n → ∃ b o, a = some ⟨b, o, none⟩ ∧ ∀ i, i < n → w.cell? ⟨b, o + i, none⟩ = some (.int .u8 (l.getD i 0)))

theorem BI.later {w w' : World} {a : Option Addr} {n : Nat} {l : List Int} (h : BI w a n l) (hb : Below w.heap.size w w') : BI w' a n l := by
  obtain ⟨h1, h2, h3⟩ := h
  refine ⟨h1, h2, fun hn => ?_⟩
  obtain ⟨b, o, ha, hc⟩ := h3 hn
  exact ⟨b, o, ha, fun i hi => cell_later hb (hc i hi)⟩

theorem BI.drewN {w : World} {a : Option Addr} {n : Nat} {l : List Int} (h : BI w a n l) (q : Nat) : BI (w.drewN q) a n l := by
  obtain ⟨h1, h2, h3⟩ := h
  refine ⟨h1, h2, fun hn => ?_⟩
  obtain ⟨b, o, ha, hc⟩ := h3 hn
  exact ⟨b, o, ha, fun i hi => by simpa using hc i hi⟩

theorem drew3 (w : World) (a b c : Nat) : ∃ q, ((w.drewN a).drewN b).drewN c = w.drewN q := ⟨a + b + c, by simp only [World.drewN_drewN]⟩
theorem ret_bool {a b : Bool} (h : a = b) : Ending.returned (.bool a) = .returned (.bool b) := by rw [h]
theorem ret_int {k : IntKind} {a b : Int} (h : a = b) : Ending.returned (.int k a) = .returned (.int k b) := by rw [h]

theorem byte_at {l : List Int} (h : ∀ x ∈ l, 0 ≤ x ∧ x ≤ 255) {i : Nat} (hi : i < l.length) : 0 ≤ l.getD i 0 ∧ l.getD i 0 ≤ 255 := by
  have e : l.getD i 0 = l[i] := by simp [List.getD, List.getElem?_eq_getElem hi]
  rw [e]
  exact h _ (List.getElem_mem hi)

set_option maxHeartbeats 400000 in
theorem onlyFF_any (a : Option Addr) (n c : Nat) (l : List Int) (w : World) (h : BI w a n l) (hn : n ≤ 1048576) :
    Calls Try.prog 9 #[.slice a n c] w fun e w' => e = .returned (.bool (l.all (· == 255))) ∧ w = w' := by
  obtain ⟨hl, hr, hc⟩ := h
  have HC : Hid (0 < n → ∃ b o, a = some ⟨b, o, none⟩ ∧ ∀ i, i < n → w.cell? ⟨b, o + i, none⟩ = some (.int .u8 (l.getD i 0))) := hc
  have HL : Hid (l.length = n) := hl
  clear hc hl
  go_enter Try.func9, Try.ntmps9
  go_wp2
  go_loop [3] (fun t => ∃ k : Nat, k ≤ n ∧ t = .int .i64 k ∧ ∀ j, j < k → l.getD j 0 = 255) (fun t => n - (intOf t).toNat)
  case atStart => exact ⟨0, by omega, rfl, fun j hj => by omega⟩
  case round =>
    obtain ⟨k, hk, rfl, hall⟩ := hrel
    have HA : Hid (∀ j, j < k → l.getD j 0 = 255) := hall
    clear hall
    by_cases hlt : k < n
    · obtain ⟨b, o, rfl, hcs⟩ := HC.out (by omega)
      have hck := hcs k hlt
      obtain ⟨x, hx⟩ : ∃ x, x = l.getD k 0 := ⟨_, rfl⟩
      rw [← hx] at hck
      have HX : Hid (x = l.getD k 0) := hx
      clear hx hcs
      by_cases hxx : x = 255
      · have hb : (x != 255) = false := by simp [hxx]
        have HXX : Hid (x = 255) := hxx
        clear hxx
        go_wp2
        go_round
        case rel => exact ⟨k + 1, by omega, by go_num, fun j hj => by
          by_cases hjk : j = k
          · rw [hjk, ← HX.out]; exact HXX.out
          · exact HA.out j (by omega)⟩
        case measure => simp [intOf]; omega
      · have hb : (x != 255) = true := by simp [hxx]
        have HXX : Hid (x ≠ 255) := hxx
        clear hxx
        go_wp2
        go_ret
        refine ⟨ret_bool ?_, rfl⟩
        symm
        have : ¬ (l.all (· == 255) = true) := by
          intro hal
          have hm : l.getD k 0 ∈ l := by
            have e : l.getD k 0 = l[k]'(by have := HL.out; omega) := by simp [List.getD, List.getElem?_eq_getElem (show k < l.length by have := HL.out; omega)]
            rw [e]
            exact List.getElem_mem _
          have := List.all_eq_true.1 hal _ hm
          rw [← HX.out] at this
          exact HXX.out (by simpa using this)
        simpa using this
    · go_wp2
      go_ret
      refine ⟨ret_bool ?_, rfl⟩
      symm
      rw [← pend_none]
      exact pend_at_none l (fun j hj => HA.out j (by have := HL.out; omega))

/-- A slice's facts, kept from the walk. -/
def CellsAt (w : World) (a : Option Addr) (n : Nat) (l : List Int) : Prop := 0 < n → ∃ b o, a = some ⟨b, o, none⟩ ∧ ∀ i, i < n → w.cell? ⟨b, o + i, none⟩ = some (.int .u8 (l.getD i 0))

set_option maxHeartbeats 400000 in
theorem sameBytes_any (a : Option Addr) (n c : Nat) (l : List Int) (a' : Option Addr) (n' c' : Nat) (l' : List Int) (w : World) (h : BI w a n l) (h' : BI w a' n' l') (hn : n ≤ 1048576) (hn' : n' ≤ 1048576) :
    Calls Try.prog 8 #[.slice a n c, .slice a' n' c'] w fun e w' => e = .returned (.bool (l == l')) ∧ ∃ q, w' = w.drewN q := by
  obtain ⟨hl, hr, hc⟩ := h
  obtain ⟨hl', hr', hc'⟩ := h'
  have HC : Hid (CellsAt w a n l) := hc
  have HC' : Hid (CellsAt w a' n' l') := hc'
  have HL : Hid (l.length = n) := hl
  have HL' : Hid (l'.length = n') := hl'
  clear hc hl hc' hl' hr hr'
  by_cases hnn : n = n'
  · subst hnn
    go_enter Try.func8, Try.ntmps8
    go_wp2
    go_loopw [5] (fun t wr => ∃ k q : Nat, k ≤ n ∧ t = .int .i64 k ∧ wr = w.drewN q ∧ l.take k = l'.take k) (fun t _ => n - (intOf t).toNat)
    case atStart => exact ⟨0, 0, by omega, rfl, rfl, by simp⟩
    case round =>
      obtain ⟨k, q, hk, rfl, rfl, htk⟩ := hrel
      have HT : Hid (l.take k = l'.take k) := htk
      clear htk
      by_cases hlt : k < n
      · have hlti : (k : Int) < (n : Int) := by omega
        obtain ⟨b, o, rfl, hcs⟩ := HC.out (by omega)
        obtain ⟨b', o', rfl, hcs'⟩ := HC'.out (by omega)
        have hck := hcs k hlt
        have hck' := hcs' k hlt
        obtain ⟨x, hx⟩ : ∃ x, x = l.getD k 0 := ⟨_, rfl⟩
        obtain ⟨y, hy⟩ : ∃ y, y = l'.getD k 0 := ⟨_, rfl⟩
        rw [← hx] at hck
        rw [← hy] at hck'
        have HX : Hid (x = l.getD k 0) := hx
        have HY : Hid (y = l'.getD k 0) := hy
        clear hx hy hcs hcs' HC HC'
        by_cases hxx : x = y
        · have hb : (x != y) = false := by simp [hxx]
          have HXX : Hid (x = y) := hxx
          clear hxx
          go_wp2
          go_quiet (fail)
          go_wp2
          go_roundw
          case rel => exact ⟨k + 1, q + nq, by omega, by go_num, rfl, take_both (by have := HL.out; omega) (by have := HL'.out; omega) HT.out (by rw [← HX.out, ← HY.out]; exact HXX.out)⟩
          case measure => simp [intOf]; omega
        · have hb : (x != y) = true := by simp [hxx]
          have HXX : Hid (x ≠ y) := hxx
          clear hxx
          go_wp2
          go_quiet (fail)
          go_wp2
          go_ret
          exact ⟨ret_bool (lists_differ (i := k) (by rw [← HX.out, ← HY.out]; exact HXX.out)).symm, _, World.drewN_drewN _ _ _⟩
      · go_wp2
        go_ret
        exact ⟨ret_bool (same_of_take (n := k) (by have := HL.out; omega) (by have := HL'.out; omega) HT.out).symm, _, rfl⟩
  · have hb : ((n : Int) != (n' : Int)) = true := by simp; omega
    have HNN : Hid (n ≠ n') := hnn
    clear hnn
    go_enter Try.func8, Try.ntmps8
    go_wp2
    go_ret
    exact ⟨ret_bool (lengths_differ (by have := HL.out; have := HL'.out; have := HNN.out; omega)).symm, 0, rfl⟩

set_option maxHeartbeats 400000 in
/-- startsWith(k, p): the first argument is k. -/
theorem startsWith_any (a : Option Addr) (n c : Nat) (l : List Int) (a' : Option Addr) (n' c' : Nat) (l' : List Int) (w : World) (h : BI w a n l) (h' : BI w a' n' l') (hn : n ≤ 1048576) (hn' : n' ≤ 1048576) :
    Calls Try.prog 12 #[.slice a n c, .slice a' n' c'] w fun e w' => e = .returned (.bool (starts l l')) ∧ ∃ q, w' = w.drewN q := by
  obtain ⟨hl, hr, hc⟩ := h
  obtain ⟨hl', hr', hc'⟩ := h'
  have HC : Hid (CellsAt w a n l) := hc
  have HC' : Hid (CellsAt w a' n' l') := hc'
  have HL : Hid (l.length = n) := hl
  have HL' : Hid (l'.length = n') := hl'
  clear hc hl hc' hl' hr hr'
  by_cases hnn : n < n'
  · go_enter Try.func12, Try.ntmps12
    go_wp2
    go_ret
    exact ⟨ret_bool (starts_short (by have := HL.out; have := HL'.out; omega)).symm, 0, rfl⟩
  · go_enter Try.func12, Try.ntmps12
    go_wp2
    go_loopw [5] (fun t wr => ∃ k q : Nat, k ≤ n' ∧ t = .int .i64 k ∧ wr = w.drewN q ∧ l.take k = l'.take k) (fun t _ => n' - (intOf t).toNat)
    case atStart => exact ⟨0, 0, by omega, rfl, rfl, by simp⟩
    case round =>
      obtain ⟨k, q, hk, rfl, rfl, htk⟩ := hrel
      have HT : Hid (l.take k = l'.take k) := htk
      clear htk
      by_cases hlt : k < n'
      · have hlti : (k : Int) < (n' : Int) := by omega
        have hlti' : (k : Int) < (n : Int) := by omega
        obtain ⟨b, o, rfl, hcs⟩ := HC.out (by omega)
        obtain ⟨b', o', rfl, hcs'⟩ := HC'.out (by omega)
        have hck := hcs k (by omega)
        have hck' := hcs' k hlt
        obtain ⟨x, hx⟩ : ∃ x, x = l.getD k 0 := ⟨_, rfl⟩
        obtain ⟨y, hy⟩ : ∃ y, y = l'.getD k 0 := ⟨_, rfl⟩
        rw [← hx] at hck
        rw [← hy] at hck'
        have HX : Hid (x = l.getD k 0) := hx
        have HY : Hid (y = l'.getD k 0) := hy
        clear hx hy hcs hcs' HC HC'
        by_cases hxx : x = y
        · have hb : (x != y) = false := by simp [hxx]
          have HXX : Hid (x = y) := hxx
          clear hxx
          go_wp2
          go_quiet (fail)
          go_wp2
          go_roundw
          case rel => exact ⟨k + 1, q + nq, by omega, by go_num, rfl, take_both (by have := HL.out; omega) (by have := HL'.out; omega) HT.out (by rw [← HX.out, ← HY.out]; exact HXX.out)⟩
          case measure => simp [intOf]; omega
        · have hb : (x != y) = true := by simp [hxx]
          have HXX : Hid (x ≠ y) := hxx
          clear hxx
          go_wp2
          go_quiet (fail)
          go_wp2
          go_ret
          exact ⟨ret_bool (starts_differ (i := k) (by have := HL.out; omega) (by have := HL'.out; omega) (by rw [← HX.out, ← HY.out]; exact HXX.out)).symm, _, World.drewN_drewN _ _ _⟩
      · go_wp2
        go_ret
        have hkl : k = l'.length := by have := HL'.out; omega
        exact ⟨ret_bool (starts_of_take (by have := HT.out; rw [hkl, List.take_length] at this; exact this)).symm, _, rfl⟩

set_option maxHeartbeats 1000000 in
theorem compareBytes_any (a : Option Addr) (n c : Nat) (l : List Int) (a' : Option Addr) (n' c' : Nat) (l' : List Int) (w : World) (h : BI w a n l) (h' : BI w a' n' l') (hn : n ≤ 1048576) (hn' : n' ≤ 1048576) :
    Calls Try.prog 10 #[.slice a n c, .slice a' n' c'] w fun e w' => e = .returned (.int .i64 (cmp l l')) ∧ ∃ q, w' = w.drewN q := by
  obtain ⟨hl, hr, hc⟩ := h
  obtain ⟨hl', hr', hc'⟩ := h'
  have HC : Hid (CellsAt w a n l) := hc
  have HC' : Hid (CellsAt w a' n' l') := hc'
  have HL : Hid (l.length = n) := hl
  have HL' : Hid (l'.length = n') := hl'
  clear hc hl hc' hl' hr hr'
  by_cases hlen : n' < n
  · go_enter Try.func10, Try.ntmps10
    go_wp2
    go_loopw [6] (fun t wr => ∃ k q : Nat, k ≤ n' ∧ t = .int .i64 k ∧ wr = w.drewN q ∧ l.take k = l'.take k) (fun t _ => n' - (intOf t).toNat)
    case atStart => exact ⟨0, 0, by omega, rfl, rfl, by simp⟩
    case round =>
      obtain ⟨k, q, hk, rfl, rfl, htk⟩ := hrel
      have HT : Hid (l.take k = l'.take k) := htk
      clear htk
      by_cases hlt : k < n'
      · have hlti : (k : Int) < (n : Int) := by omega
        have hlti' : (k : Int) < (n' : Int) := by omega
        obtain ⟨b, o, rfl, hcs⟩ := HC.out (by omega)
        obtain ⟨b', o', rfl, hcs'⟩ := HC'.out (by omega)
        have hck := hcs k (by omega)
        have hck' := hcs' k (by omega)
        obtain ⟨x, hx⟩ : ∃ x, x = l.getD k 0 := ⟨_, rfl⟩
        obtain ⟨y, hy⟩ : ∃ y, y = l'.getD k 0 := ⟨_, rfl⟩
        rw [← hx] at hck
        rw [← hy] at hck'
        have HX : Hid (x = l.getD k 0) := hx
        have HY : Hid (y = l'.getD k 0) := hy
        clear hx hy hcs hcs' HC HC'
        by_cases hxy : x < y
        · go_wp2
          go_quiet (fail)
          go_wp2
          go_ret
          exact ⟨ret_int (cmp_less (i := k) (by have := HL.out; omega) (by have := HL'.out; omega) HT.out (by rw [← HX.out, ← HY.out]; exact hxy)).symm, _, World.drewN_drewN _ _ _⟩
        · by_cases hyx : y < x
          · go_wp2
            go_quiet (fail)
            go_wp2
            go_quiet (fail)
            go_wp2
            go_ret
            exact ⟨ret_int (cmp_more (i := k) (by have := HL.out; omega) (by have := HL'.out; omega) HT.out (by rw [← HX.out, ← HY.out]; exact hyx)).symm, drew3 _ _ _ _⟩
          · go_wp2
            go_quiet (fail)
            go_wp2
            go_quiet (fail)
            go_wp2
            go_roundw
            case rel => exact ⟨k + 1, _, by omega, by go_num, rfl, take_both (by have := HL.out; omega) (by have := HL'.out; omega) HT.out (by rw [← HX.out, ← HY.out]; omega)⟩
            case measure => simp [intOf]; omega
      · go_wp2
        go_ret
        exact ⟨ret_int (by rw [cmp_end (i := k) HT.out (by have := HL.out; omega) (by have := HL'.out; omega) (by have := HL.out; have := HL'.out; omega), if_neg (by have := HL.out; have := HL'.out; omega), if_pos (by have := HL.out; have := HL'.out; omega)]), _, rfl⟩
  · go_enter Try.func10, Try.ntmps10
    go_wp2
    go_loopw [6] (fun t wr => ∃ k q : Nat, k ≤ n ∧ t = .int .i64 k ∧ wr = w.drewN q ∧ l.take k = l'.take k) (fun t _ => n - (intOf t).toNat)
    case atStart => exact ⟨0, 0, by omega, rfl, rfl, by simp⟩
    case round =>
      obtain ⟨k, q, hk, rfl, rfl, htk⟩ := hrel
      have HT : Hid (l.take k = l'.take k) := htk
      clear htk
      by_cases hlt : k < n
      · have hlti : (k : Int) < (n : Int) := by omega
        have hlti' : (k : Int) < (n' : Int) := by omega
        obtain ⟨b, o, rfl, hcs⟩ := HC.out (by omega)
        obtain ⟨b', o', rfl, hcs'⟩ := HC'.out (by omega)
        have hck := hcs k (by omega)
        have hck' := hcs' k (by omega)
        obtain ⟨x, hx⟩ : ∃ x, x = l.getD k 0 := ⟨_, rfl⟩
        obtain ⟨y, hy⟩ : ∃ y, y = l'.getD k 0 := ⟨_, rfl⟩
        rw [← hx] at hck
        rw [← hy] at hck'
        have HX : Hid (x = l.getD k 0) := hx
        have HY : Hid (y = l'.getD k 0) := hy
        clear hx hy hcs hcs' HC HC'
        by_cases hxy : x < y
        · go_wp2
          go_quiet (fail)
          go_wp2
          go_ret
          exact ⟨ret_int (cmp_less (i := k) (by have := HL.out; omega) (by have := HL'.out; omega) HT.out (by rw [← HX.out, ← HY.out]; exact hxy)).symm, _, World.drewN_drewN _ _ _⟩
        · by_cases hyx : y < x
          · go_wp2
            go_quiet (fail)
            go_wp2
            go_quiet (fail)
            go_wp2
            go_ret
            exact ⟨ret_int (cmp_more (i := k) (by have := HL.out; omega) (by have := HL'.out; omega) HT.out (by rw [← HX.out, ← HY.out]; exact hyx)).symm, drew3 _ _ _ _⟩
          · go_wp2
            go_quiet (fail)
            go_wp2
            go_quiet (fail)
            go_wp2
            go_roundw
            case rel => exact ⟨k + 1, _, by omega, by go_num, rfl, take_both (by have := HL.out; omega) (by have := HL'.out; omega) HT.out (by rw [← HX.out, ← HY.out]; omega)⟩
            case measure => simp [intOf]; omega
      · by_cases hll : n < n'
        · go_wp2
          go_ret
          exact ⟨ret_int (by rw [cmp_end (i := k) HT.out (by have := HL.out; omega) (by have := HL'.out; omega) (by have := HL.out; have := HL'.out; omega), if_pos (by have := HL.out; have := HL'.out; omega)]), _, rfl⟩
        · go_wp2
          go_ret
          exact ⟨ret_int (by rw [cmp_end (i := k) HT.out (by have := HL.out; omega) (by have := HL'.out; omega) (by have := HL.out; have := HL'.out; omega), if_neg (by have := HL.out; have := HL'.out; omega), if_neg (by have := HL.out; have := HL'.out; omega)]), _, rfl⟩

set_option maxHeartbeats 1000000 in
/-- equalsJoin(e, p, q), e not nil. -/
theorem equalsJoin_any (ad : Addr) (n c : Nat) (l : List Int) (a' : Option Addr) (n' c' : Nat) (l' : List Int) (a'' : Option Addr) (n'' c'' : Nat) (l'' : List Int) (w : World) (h : BI w (some ad) n l) (h' : BI w a' n' l') (h'' : BI w a'' n'' l'')
    (hn : n ≤ 1048576) (hn' : n' ≤ 1048576) (hn'' : n'' ≤ 1048576) (heq : l = l' ++ l'') :
    Calls Try.prog 7 #[.slice (some ad) n c, .slice a' n' c', .slice a'' n'' c''] w fun e w' => e = .returned (.bool true) ∧ ∃ q, w' = w.drewN q := by
  obtain ⟨hl, hr, hc⟩ := h
  obtain ⟨hl', hr', hc'⟩ := h'
  obtain ⟨hl'', hr'', hc''⟩ := h''
  have HE : Hid (l = l' ++ l'') := heq
  have hlen : n = n' + n'' := by rw [← hl, ← hl', ← hl'', heq]; simp
  have HLEN : Hid (n = n' + n'') := hlen
  have HC : Hid (CellsAt w (some ad) n l) := hc
  have HC' : Hid (CellsAt w a' n' l') := hc'
  have HC'' : Hid (CellsAt w a'' n'' l'') := hc''
  have HL : Hid (l.length = n) := hl
  have HL' : Hid (l'.length = n') := hl'
  have HL'' : Hid (l''.length = n'') := hl''
  have hb : ((n : Int) != (n' : Int) + (n'' : Int)) = false := by simp; omega
  have hle1 : n' ≤ n := by omega
  have hle2 : n' + n'' ≤ n := by omega
  have q22 : ∀ (w : World) (a : Option Addr) (n c n' c' : Nat), (binOp .eql 22 (.slice a n c) (.slice none n' c')).run Try.prog w = .ok (.bool a.isNone) w := fun w a n c n' c' => Lib.run_eql_slice_nil w _ _ a n c n' c' Try.underlying22
  clear hc hl hc' hl' hr hr' hc'' hl'' hr'' heq hlen
  go_enter Try.func7, Try.ntmps7
  go_wp2
  go_loopw [7] (fun t wr => ∃ k q : Nat, k ≤ n' ∧ t = .int .i64 k ∧ wr = w.drewN q) (fun t _ => n' - (intOf t).toNat)
  case atStart => exact ⟨0, 0, by omega, rfl, rfl⟩
  case round =>
    obtain ⟨k, q, hk, rfl, rfl⟩ := hrel
    by_cases hlt : k < n'
    · have hlti : (k : Int) < (n : Int) := by omega
      have hlti' : (k : Int) < (n' : Int) := by omega
      obtain ⟨b, o, hab, hcs⟩ := HC.out (by omega)
      obtain rfl : ad = ⟨b, o, none⟩ := by simpa using hab
      obtain ⟨b', o', rfl, hcs'⟩ := HC'.out (by omega)
      have hck := hcs k (by omega)
      have hck' := hcs' k (by omega)
      have hsame : l.getD k 0 = l'.getD k 0 := by
        rw [HE.out]
        exact getD_left l' l'' k (by have := HL'.out; omega)
      rw [hsame] at hck
      obtain ⟨x, hx⟩ : ∃ x, x = l'.getD k 0 := ⟨_, rfl⟩
      rw [← hx] at hck
      rw [← hx] at hck'
      have hbb : (x != x) = false := by simp
      clear hx hcs hcs' HC HC' HC'' hsame hab
      go_wp2
      go_quiet (fail)
      go_wp2
      go_roundw
      case rel => exact ⟨k + 1, _, by omega, by go_num, rfl⟩
      case measure => simp [intOf]; omega
    · go_wp2
      obtain ⟨q0, hq0⟩ : ∃ q0 : Nat, q0 = q := ⟨_, rfl⟩
      go_loopw [8] (fun t wr => ∃ k q : Nat, k ≤ n'' ∧ t = .int .i64 k ∧ wr = w.drewN q) (fun t _ => n'' - (intOf t).toNat)
      case atStart => exact ⟨0, _, by omega, rfl, rfl⟩
      case round =>
        obtain ⟨k2, q2, hk2, rfl, rfl⟩ := hrel
        by_cases hlt2 : k2 < n''
        · have hlti : (n' : Int) + (k2 : Int) < (n : Int) := by omega
          have hlti' : (k2 : Int) < (n'' : Int) := by omega
          obtain ⟨b, o, hab, hcs⟩ := HC.out (by omega)
          obtain rfl : ad = ⟨b, o, none⟩ := by simpa using hab
          obtain ⟨b', o', rfl, hcs'⟩ := HC''.out (by omega)
          have hck := hcs (n' + k2) (by omega)
          have hck' := hcs' k2 (by omega)
          have hsame : l.getD (n' + k2) 0 = l''.getD k2 0 := by
            rw [HE.out, ← HL'.out]
            exact getD_right l' l'' k2
          rw [hsame] at hck
          obtain ⟨x, hx⟩ : ∃ x, x = l''.getD k2 0 := ⟨_, rfl⟩
          rw [← hx] at hck
          rw [← hx] at hck'
          have hbb : (x != x) = false := by simp
          have hcast : ((n' : Int) + (k2 : Int)).toNat = n' + k2 := by omega
          clear hx hcs hcs' HC HC' HC'' hsame hab
          go_wp2
          go_quiet (fail)
          go_wp2
          go_roundw
          case rel => exact ⟨k2 + 1, _, by omega, by go_num, rfl⟩
          case measure => simp [intOf]; omega
        · go_wp2
          go_ret
          exact ⟨rfl, _, rfl⟩
end Go.Proofs.Qxb6627581a
