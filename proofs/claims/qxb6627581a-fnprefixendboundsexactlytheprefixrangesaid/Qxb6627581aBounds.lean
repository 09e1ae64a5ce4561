/-
  THE LAW FnPrefixEndBoundsExactlyThePrefixRange, WALKED.
-/
import Derived.Test.Qxb6627581aMade
namespace Go.Proofs.Qxb6627581a
open Go.RowKit Plain
set_option linter.unusedVariables false

theorem below_draws {B : Nat} {a w : World} (h : Below B a w) (n : Nat) : Below B a (w.drewN n) := h.trans ⟨rfl, rfl, rfl, Nat.le_refl _, fun _ _ => rfl⟩

/-- Early outs: too long. -/
theorem bounds_off (a0 : Option Addr) (n0 c0 : Nat) (a1 : Option Addr) (n1 c1 : Nat) (w : World) (m0 : n0 ≤ maxLen) (m1 : n1 ≤ maxLen) (h : 524288 < n0 ∨ 524288 < n1) :
    Calls Try.prog 4 #[.slice a0 n0 c0, .slice a1 n1 c1] w fun e w' => e = .returned (.bool true) ∧ w = w' := by
  have hcon := bound_any 11 (.inr rfl) a0 n0 c0 a1 n1 c1 w m0 m1
  unfold maxLen at m0 m1
  by_cases hs : n0 + n1 ≤ 1048576
  · rw [decide_eq_true hs] at hcon
    by_cases h0 : 524288 < n0
    · clear h hs
      go_enter Try.func4, Try.ntmps4
      go_wp2_with (go_at_call 11; refine hcon.mono ?_; rintro e w' ⟨rfl, rfl⟩)
      go_ret
      exact ⟨rfl, rfl⟩
    · have h1 : 524288 < n1 := by omega
      clear h hs
      go_enter Try.func4, Try.ntmps4
      go_wp2_with (go_at_call 11; refine hcon.mono ?_; rintro e w' ⟨rfl, rfl⟩)
      go_ret
      exact ⟨rfl, rfl⟩
  · rw [decide_eq_false hs] at hcon
    clear h hs
    go_enter Try.func4, Try.ntmps4
    go_wp2_with (go_at_call 11; refine hcon.mono ?_; rintro e w' ⟨rfl, rfl⟩)
    go_ret
    exact ⟨rfl, rfl⟩

set_option maxHeartbeats 2000000 in
theorem bounds_on (a0 : Option Addr) (n0 c0 : Nat) (l0 : List Int) (a1 : Option Addr) (n1 c1 : Nat) (l1 : List Int) (w : World) (h0 : BI w a0 n0 l0) (h1 : BI w a1 n1 l1) (hc0 : n0 ≤ c0) (hc1 : n1 ≤ c1) (m0 : n0 ≤ 524288) (m1 : n1 ≤ 524288) :
    Calls Try.prog 4 #[.slice a0 n0 c0, .slice a1 n1 c1] w fun e w' => e = .returned (.bool true) ∧ Below w.heap.size w w' := by
  have hcon := bound_any 11 (.inr rfl) a0 n0 c0 a1 n1 c1 w (by unfold maxLen; omega) (by unfold maxLen; omega)
  rw [decide_eq_true (show n0 + n1 ≤ 1048576 by omega)] at hcon
  have q22 : ∀ (w : World) (a : Option Addr) (n c n' c' : Nat), (binOp .eql 22 (.slice a n c) (.slice none n' c')).run Try.prog w = .ok (.bool a.isNone) w := fun w a n c n' c' => Lib.run_eql_slice_nil w _ _ a n c n' c' Try.underlying22
  have q22n : ∀ (w : World) (a : Option Addr) (n c n' c' : Nat), (binOp .neq 22 (.slice a n c) (.slice none n' c')).run Try.prog w = .ok (.bool (!a.isNone)) w := fun w a n c n' c' => run_neq_slice_nil_any w _ _ a n c n' c' Try.underlying22
  have H0 : Hid (BI w a0 n0 l0) := h0
  have H1 : Hid (BI w a1 n1 l1) := h1
  clear h0 h1
  go_enter Try.func4, Try.ntmps4
  go_upto_if 22 with (go_at_call 11; refine hcon.mono ?_; rintro e w' ⟨rfl, rfl⟩)
  go_cut [0, 5] (fun p z wr => ∃ a c, p = .slice a n0 c ∧ n0 ≤ c ∧ Hid (BI wr a n0 l0) ∧ Hid (BI wr a1 n1 l1) ∧ Below w.heap.size w wr)
  case first =>
    cases a0 with
    | none =>
      go_wp2
      go_meet
      case rel => exact ⟨none, c0, rfl, hc0, H0, H1, Below.refl _ _⟩
    | some ad =>
      have hm0 : n0 ≤ 1048576 := by omega
      go_wp2_with (first
        | (at_make; refine make_row _ rfl _ _ rfl n0 hm0 rfl rfl ?_; intro w1 hrow1 hbel1)
        | (have _t := hrow1; refine copy_row _ rfl _ _ rfl w.heap.size n0 ad c0 rfl rfl hrow1 l0 (H0.out.later hbel1) w.heap.size w hbel1 (Nat.le_refl _) ?_; intro w2 hbi2 hbel2; clear hrow1))
      go_meet
      case rel => exact ⟨some ⟨w.heap.size, 0, none⟩, n0, rfl, Nat.le_refl _, hbi2, H1.out.later hbel2, hbel2⟩
  case rest =>
    obtain ⟨pa, pc, rfl, hpc, HP, HK, hbel⟩ := hcut
    go_upto_if 31 with fail
    go_cut [1, 6] (fun k z wr => ∃ a c, k = .slice a n1 c ∧ n1 ≤ c ∧ Hid (BI wr pa n0 l0) ∧ Hid (BI wr a n1 l1) ∧ Below w.heap.size w wr)
    case first =>
      cases a1 with
      | none =>
        go_wp2
        go_meet
        case rel => exact ⟨none, c1, rfl, hc1, HP, HK, hbel⟩
      | some ad =>
        have hm1 : n1 ≤ 1048576 := by omega
        go_wp2_with (first
          | (at_make; refine make_row _ rfl _ _ rfl n1 hm1 rfl rfl ?_; intro w1 hrow1 hbel1)
          | (have _t := hrow1; refine copy_row _ rfl _ _ rfl wc.heap.size n1 ad c1 rfl rfl hrow1 l1 (HK.out.later hbel1) wc.heap.size wc hbel1 (Nat.le_refl _) ?_; intro w2 hbi2 hbel2; clear hrow1))
        go_meet
        case rel => exact ⟨some ⟨wc.heap.size, 0, none⟩, n1, rfl, Nat.le_refl _, HP.out.later hbel2, hbi2, hbel.trans (hbel2.mono hbel.size)⟩
    case rest =>
      obtain ⟨ka, kc, rfl, hkc, HP, HK, hbel⟩ := hcut
      have hm0 : n0 ≤ 1048576 := by omega
      have hm1 : n1 ≤ 1048576 := by omega
      have HR0 : Hid (∀ x ∈ l0, 0 ≤ x ∧ x ≤ 255) := HP.out.2.1
      have HR1 : Hid (∀ x ∈ l1, 0 ≤ x ∧ x ≤ 255) := HK.out.2.1
      have HRL : Hid (starts l1 l0 = (decide (cmp l0 l1 ≤ 0) && (match pend l0 with | none => true | some e => decide (cmp l1 e < 0)))) := range_law l0 l1 (fun x hx => (HR1.out x hx).2) (fun x hx => (HR0.out x hx).2)
      go_wp2_with fail
      refine (prefixEnd_any pa n0 pc l0 wc HP.out hm0 hpc).mono ?_
      rintro r w3 (⟨hpe, rfl, rfl⟩ | ⟨e, g, cap, hpe, rfl, hbe, hecap, hecm, hg, hbel3⟩)
      · -- there is no end
        have hst : starts l1 l0 = decide (cmp l0 l1 ≤ 0) := by rw [HRL.out, hpe]; simp
        have HST : Hid (starts l1 l0 = decide (cmp l0 l1 ≤ 0)) := hst
        clear hst hpe
        have hc1 := startsWith_any ka n1 kc l1 pa n0 pc l0 wc HK.out HP.out hm1 hm0
        rw [HST.out] at hc1
        obtain ⟨v, hv⟩ : ∃ v, v = cmp l0 l1 := ⟨_, rfl⟩
        rw [← hv] at hc1
        by_cases hle : v ≤ 0
        · rw [decide_eq_true hle] at hc1
          go_wp2_with fail
          refine hc1.mono ?_
          rintro r w4 ⟨rfl, q, rfl⟩
          clear hc1
          have hc2 := compareBytes_any pa n0 pc l0 ka n1 kc l1 (wc.drewN q) (HP.out.drewN q) (HK.out.drewN q) hm0 hm1
          rw [← hv] at hc2
          clear hv
          go_wp2_with fail
          refine hc2.mono ?_
          rintro r w5 ⟨rfl, q2, rfl⟩
          clear hc2
          go_wp2_with fail
          go_ret
          exact ⟨rfl, below_draws hbel _⟩
        · rw [decide_eq_false hle] at hc1
          go_wp2_with fail
          refine hc1.mono ?_
          rintro r w4 ⟨rfl, q, rfl⟩
          clear hc1
          have hc2 := compareBytes_any pa n0 pc l0 ka n1 kc l1 (wc.drewN q) (HP.out.drewN q) (HK.out.drewN q) hm0 hm1
          rw [← hv] at hc2
          clear hv
          go_wp2_with fail
          refine hc2.mono ?_
          rintro r w5 ⟨rfl, q2, rfl⟩
          clear hc2
          go_wp2_with fail
          go_ret
          exact ⟨rfl, below_draws hbel _⟩
      · -- there is an end
        have hel : e.length ≤ n0 := by
          have h1 := (pend_some hpe).2.1
          have h2 := HP.out.1
          omega
        have hme : e.length ≤ 1048576 := by omega
        have HPE : Hid (pend l0 = some e) := hpe
        have hst : starts l1 l0 = (decide (cmp l0 l1 ≤ 0) && decide (cmp l1 e < 0)) := by rw [HRL.out, hpe]
        have HST : Hid (starts l1 l0 = (decide (cmp l0 l1 ≤ 0) && decide (cmp l1 e < 0))) := hst
        have HE : Hid (BI w3 (some ⟨g, 0, none⟩) e.length e) := hbe
        have HP3 : Hid (BI w3 pa n0 l0) := HP.out.later hbel3
        have HK3 : Hid (BI w3 ka n1 l1) := HK.out.later hbel3
        have hbel' : Below w.heap.size w w3 := hbel.trans (hbel3.mono hbel.size)
        clear hst hpe hbe hbel3 hbel HP HK HRL
        obtain ⟨ne, hne⟩ : ∃ ne, ne = e.length := ⟨_, rfl⟩
        rw [← hne] at HE hecap hel hme
        rw [← hne]
        clear hne
        have hc1 := startsWith_any ka n1 kc l1 pa n0 pc l0 w3 HK3.out HP3.out hm1 hm0
        obtain ⟨v, hv⟩ : ∃ v, v = cmp l0 l1 := ⟨_, rfl⟩
        obtain ⟨u, hu⟩ : ∃ u, u = cmp l1 e := ⟨_, rfl⟩
        have HST2 := HST.out
        rw [← hv, ← hu] at HST2
        by_cases hle : v ≤ 0
        · by_cases hlt : u < 0
          · -- inside
            have hs : starts l1 l0 = true := by rw [HST2]; simp [hle, hlt]
            obtain ⟨ek, hek, hekle⟩ := nest_law HR1.out HR0.out hs HPE.out
            have HEK : Hid (pend l1 = some ek) := hek
            have HEKLE : Hid (cmp ek e ≤ 0) := hekle
            rw [hs] at hc1
            clear HST2 HST hs hek hekle
            go_wp2_with fail
            refine hc1.mono ?_
            rintro r w4 ⟨rfl, q, rfl⟩
            clear hc1
            have hc2 := compareBytes_any pa n0 pc l0 ka n1 kc l1 (w3.drewN q) (HP3.out.drewN q) (HK3.out.drewN q) hm0 hm1
            rw [← hv] at hc2
            clear hv
            go_wp2_with fail
            refine hc2.mono ?_
            rintro r w5 ⟨rfl, q2, rfl⟩
            clear hc2
            have hc3 := compareBytes_any ka n1 kc l1 (some ⟨g, 0, none⟩) ne cap e ((w3.drewN q).drewN q2) ((HK3.out.drewN q).drewN q2) ((HE.out.drewN q).drewN q2) hm1 hme
            rw [← hu] at hc3
            clear hu
            have e2 : (w3.drewN q).drewN q2 = w3.drewN (q + q2) := World.drewN_drewN _ _ _
            rw [e2] at hc3
            clear e2
            go_wp2_with fail
            refine hc3.mono ?_
            rintro r w6 ⟨rfl, q3, rfl⟩
            clear hc3
            go_wp2_with fail
            obtain ⟨Q, hQ⟩ : ∃ Q, Q = q + q2 + q3 := ⟨_, rfl⟩
            rw [← hQ]
            clear hQ
            refine (prefixEnd_any ka n1 kc l1 (w3.drewN Q) (HK3.out.drewN Q) hm1 hkc).mono ?_
            rintro r w7 (⟨hpk, rfl, rfl⟩ | ⟨e', g', cap', hpk, rfl, hbe', hecap', hecm', hg', hbel7⟩)
            · rw [HEK.out] at hpk; cases hpk
            · obtain rfl : ek = e' := by rw [HEK.out] at hpk; exact Option.some.inj hpk
              have hel' : ek.length ≤ n1 := by
                have h1 := (pend_some hpk).2.1
                have h2 := HK3.out.1
                omega
              have hc4 := compareBytes_any (some ⟨g', 0, none⟩) ek.length cap' ek (some ⟨g, 0, none⟩) ne cap e w7 hbe' ((HE.out.drewN Q).later hbel7) (by omega) hme
              obtain ⟨v', hv'⟩ : ∃ v', v' = cmp ek e := ⟨_, rfl⟩
              rw [← hv'] at hc4
              have hv0 : v' ≤ 0 := by rw [hv']; exact HEKLE.out
              have hbel8 : Below w.heap.size w w7 := (below_draws hbel' Q).trans (hbel7.mono (below_draws hbel' Q).size)
              obtain ⟨nk, hnk⟩ : ∃ nk, nk = ek.length := ⟨_, rfl⟩
              rw [← hnk] at hc4
              rw [← hnk]
              clear hnk hv' hpk hbe' hbel7 hel' hecap'
              go_wp2_with fail
              refine hc4.mono ?_
              rintro r w8 ⟨rfl, q4, rfl⟩
              clear hc4
              go_wp2_with fail
              go_ret
              exact ⟨rfl, below_draws hbel8 _⟩
          · -- beyond the end
            have hs : starts l1 l0 = false := by rw [HST2]; simp [hlt]
            rw [hs] at hc1
            clear HST2 HST hs
            go_wp2_with fail
            refine hc1.mono ?_
            rintro r w4 ⟨rfl, q, rfl⟩
            clear hc1
            have hc2 := compareBytes_any pa n0 pc l0 ka n1 kc l1 (w3.drewN q) (HP3.out.drewN q) (HK3.out.drewN q) hm0 hm1
            rw [← hv] at hc2
            clear hv
            go_wp2_with fail
            refine hc2.mono ?_
            rintro r w5 ⟨rfl, q2, rfl⟩
            clear hc2
            have hc3 := compareBytes_any ka n1 kc l1 (some ⟨g, 0, none⟩) ne cap e ((w3.drewN q).drewN q2) ((HK3.out.drewN q).drewN q2) ((HE.out.drewN q).drewN q2) hm1 hme
            rw [← hu] at hc3
            clear hu
            have e2 : (w3.drewN q).drewN q2 = w3.drewN (q + q2) := World.drewN_drewN _ _ _
            rw [e2] at hc3
            clear e2
            go_wp2_with fail
            refine hc3.mono ?_
            rintro r w6 ⟨rfl, q3, rfl⟩
            clear hc3
            go_wp2_with fail
            go_ret
            exact ⟨rfl, below_draws hbel' _⟩
        · -- ahead of the start
          have hs : starts l1 l0 = false := by rw [HST2]; simp [hle]
          rw [hs] at hc1
          clear HST2 HST hs
          go_wp2_with fail
          refine hc1.mono ?_
          rintro r w4 ⟨rfl, q, rfl⟩
          clear hc1
          have hc2 := compareBytes_any pa n0 pc l0 ka n1 kc l1 (w3.drewN q) (HP3.out.drewN q) (HK3.out.drewN q) hm0 hm1
          rw [← hv] at hc2
          clear hv hu
          go_wp2_with fail
          refine hc2.mono ?_
          rintro r w5 ⟨rfl, q2, rfl⟩
          clear hc2
          go_wp2_with fail
          go_ret
          exact ⟨rfl, below_draws hbel' _⟩
end Go.Proofs.Qxb6627581a
