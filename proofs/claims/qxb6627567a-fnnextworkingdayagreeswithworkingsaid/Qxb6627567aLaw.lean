/-
  THE LAW's WALK, out of the contracts of Qxb6627567aNwd.lean.
-/
import Derived.Test.Qxb6627567aNwd
namespace Go.Proofs.Qxb6627567a
open Go.RowKit Go.Maps Plain
set_option linter.unusedVariables false

/-- Where the map is too great, or the day too late, the law says true at once. -/
theorem law_off (m : Option Nat) (n : Nat) (d k : Int) (w : World) (hlen : ∀ ty, (Builtin.len_ #[22] ty #[.map m]).run Try.prog w = .ok (.int .i64 n) w)
    (h1 : -2147483648 ≤ d) (h2 : d ≤ 2147483647) (h : 65536 < n ∨ 2145386495 < d) :
    Calls Try.prog 3 #[.map m, .int .i32 d, .int .u16 k] w fun e w' => e = .returned (.bool true) ∧ w = w' := by
  by_cases hn : 65536 < (n : Int)
  · go_enter Try.func3, Try.ntmps3
    go_wp2
    go_ret
    exact ⟨rfl, rfl⟩
  · have hd : 2145386495 < d := by omega
    clear h
    go_enter Try.func3, Try.ntmps3
    go_wp2
    go_ret
    exact ⟨rfl, rfl⟩

set_option maxHeartbeats 1000000 in
theorem law_on (M : Int → Option Bool) (ks : List Int) (hks : ∀ x, M x ≠ none → x ∈ ks) (m : Option Nat) (n : Nat) (hkl : ks.length ≤ n) (d k : Int) (w : World)
    (hlen : ∀ ty, (Builtin.len_ #[22] ty #[.map m]).run Try.prog w = .ok (.int .i64 n) w)
    (hl : ∀ x : Int, -2147483648 ≤ x → x ≤ 2147483647 → LookAt M m (w.alloc (.cells #[.map m] 31)) x)
    (h1 : -2147483648 ≤ d) (h2 : d ≤ 2145386495) (hn : n ≤ 65536) (hk1 : 0 ≤ k) (hk2 : k ≤ 65535) :
    Calls Try.prog 3 #[.map m, .int .i32 d, .int .u16 k] w fun e w' => e = .returned (.bool true) ∧ w.alloc (.cells #[.map m] 31) = w' := by
  have hni : ¬ 65536 < (n : Int) := by omega
  obtain ⟨j, hj1, hj2, hj⟩ := some_day M ks hks (by omega) d
  obtain ⟨j', hj1', hj2', hj'⟩ := some_day M ks hks (by omega) (d + k)
  have HJ : Hid (wk M (d + j) = true) := hj
  have HJ' : Hid (wk M (d + k + j') = true) := hj'
  have HL : Hid (∀ x : Int, -2147483648 ≤ x → x ≤ 2147483647 → LookAt M m (w.alloc (.cells #[.map m] 31)) x) := hl
  have hc : (w.alloc (.cells #[.map m] 31)).cell? ⟨w.heap.size, 0, none⟩ = some (.map m) := by simp [go_sem]
  have HC : Hid ((w.alloc (.cells #[.map m] 31)).cell? ⟨w.heap.size, 0, none⟩ = some (.map m)) := hc
  clear hj hj' hl hc hks hkl hn
  go_enter Try.func3, Try.ntmps3
  go_wp2_with fail
  refine (newCalendar_any m w).mono ?_
  rintro e w' ⟨rfl, rfl⟩
  go_wp2_with fail
  refine (nwd_any M w.heap.size m d _ HC.out HL.out j hj1 hj2 HJ.out (by omega) (by omega)).mono ?_
  rintro e w' ⟨r, rfl, hr, hr2, rfl⟩
  have hr1 := hr.1
  have HR : Hid (First M d r) := hr
  clear hr
  go_wp2_with fail
  refine (working_any M w.heap.size m r _ HC.out (HL.out r (by omega) (by omega)) (by omega) (by omega)).mono ?_
  rw [HR.out.2.1]
  rintro e w' ⟨rfl, rfl⟩
  go_wp2_with fail
  go_loop [9] (fun t => ∃ x : Int, d + 1 ≤ x ∧ x ≤ r ∧ t = .int .i32 x) (fun t => (r - intOf t).toNat)
  case atStart => exact ⟨d + 1, by omega, by omega, rfl⟩
  case round =>
    obtain ⟨x, hx1, hx2, rfl⟩ := hrel
    by_cases hlt : x < r
    · have hw : wk M x = false := HR.out.2.2 x (by omega) hlt
      go_wp2_with fail
      refine (working_any M w.heap.size m x _ HC.out (HL.out x (by omega) (by omega)) (by omega) (by omega)).mono ?_
      rw [hw]
      rintro e w' ⟨rfl, rfl⟩
      go_wp2_with fail
      go_round
      case rel => exact ⟨x + 1, by omega, by omega, by go_num⟩
      case measure => simp [intOf]; omega
    · go_wp2_with fail
      refine (nwd_any M w.heap.size m (d + k) _ HC.out HL.out j' hj1' hj2' HJ'.out (by omega) (by omega)).mono ?_
      rintro e w' ⟨q, rfl, hq, hq2, rfl⟩
      have hq1 := hq.1
      by_cases he : d + k < r
      · have hqr : q = r := HR.out.same hq (by omega) he
        subst hqr
        clear hq
        go_wp2_with fail
        go_ret
        exact ⟨rfl, rfl⟩
      · clear hq
        have hgt : r < q := by omega
        go_wp2_with fail
        go_ret
        exact ⟨rfl, rfl⟩
end Go.Proofs.Qxb6627567a
