/-
  THE LAW FnPrefixEndJoinAtAnyCut, WALKED.
-/
import Derived.Test.Qxb6627581aMade
import Derived.Deep.AppendSrc
namespace Go.Proofs.Qxb6627581a
open Go.RowKit Plain
set_option linter.unusedVariables false

theorem below_draws {B : Nat} {a w : World} (h : Below B a w) (n : Nat) : Below B a (w.drewN n) := h.trans ⟨rfl, rfl, rfl, Nat.le_refl _, fun _ _ => rfl⟩

/-- 'make([]byte, 0, n)'. -/
theorem make_empty (w : World) {ops : Array Oper} {rest : List Oper} {o : Oper} {a : Act} {Q : Exit → Act → World → Prop}
    (hg : o.guard = none) (l c : Operand) (hop : o.op = Op.makeSlice 22 l c) (C : Int) (n : Nat) (hC : C = (n : Int)) (hn : n ≤ 1048576)
    (hl : a.eval l = .int .i64 0) (hc : a.eval c = .int .i64 C)
    (hK : ∀ w', w'.ownsRow w.heap.size 5 1 (.slice (some ⟨w.heap.size, 0, none⟩) 0 n) 0 (cellsOf []) → Below w.heap.size w w' → w.heap.size ≤ w'.heap.size → wpList Try.prog ops Q rest (a.put o.dst (.slice (some ⟨w.heap.size, 0, none⟩) 0 n)) w') :
    wpList Try.prog ops Q (o :: rest) a w := by
  obtain ⟨i0, hi, hz0, hz1, hz2⟩ := info_parts Try.info5
  refine wpList_make_own w hg l c 22 hop w.heap.size 5 i0 (.int .u8 0) 1 Try.underlying22 hi hz0 hz1 _ _ _ n hl hc hC (by rw [hz2]; omega) (by unfold maxLen; omega) (Nat.le_refl _) ?_
  intro w' hown hgrow
  exact hK w' hown ((Below.refl _ w).grown hgrow (Nat.le_refl _) (fun k hk => by cases hk)) hgrow.size

/-- 'j = append(j, p...)' onto a row of the call's own, p nil or not. -/
theorem append_bytes (w : World) {ops : Array Oper} {rest : List Oper} {o : Oper} {a : Act} {Q : Exit → Act → World → Prop} (hgd : o.guard = none) (s x : Operand)
    (ho : o.op = .call { callee := .builtin .append, args := #[s, x], argTypes := #[22, 22] }) (base g n cap : Nat) (xs : List Int) (hs : a.eval s = .slice (some ⟨g, 0, none⟩) n cap)
    (hown : w.ownsRow base 5 1 (.slice (some ⟨g, 0, none⟩) n cap) n (cellsOf xs)) (sa : Option Addr) (m c : Nat) (l : List Int) (hx : a.eval x = .slice sa m c) (hbi : BI w sa m l) (hnm : n + m ≤ 1048576) (w0 : World) (hbase : base ≤ w.heap.size) (hb : Below base w0 w)
    (h : ∀ g' cap' w', w'.ownsRow base 5 1 (.slice (some ⟨g', 0, none⟩) (n + m) cap') (n + m) (cellsOf (xs ++ l)) → Below base w0 w' → base ≤ w'.heap.size → wpList Try.prog ops Q rest (a.put o.dst (.slice (some ⟨g', 0, none⟩) (n + m) cap')) w') :
    wpList Try.prog ops Q (o :: rest) a w := by
  obtain ⟨i0, hi, hz0, hz1, hz2⟩ := info_parts Try.info5
  have hap : cellsOf (xs ++ l) = cellsOf xs ++ cellsOf l := by simp [cellsOf]
  cases sa with
  | some ad =>
    refine wpList_append_own w hgd s x 22 ho base 5 i0 (.int .u8 0) 1 1 Try.underlying22 hi hz0 hz1 hz2 rfl (by decide) _ n (cellsOf xs) hs hown ad m c (cellsOf l) hx (by simp [cellsOf]; exact hbi.1) hbi.source (cellsOf_one l) (by unfold maxLen; omega) (by omega) hbase ?_
    intro v' w' hown' hgrow hnil
    have hne : v' ≠ .slice none 0 0 := fun e => by have := (hnil.1 e).1; simp at this
    have hex : ∃ g cap, v' = .slice (some ⟨g, 0, none⟩) (n + m) cap := by
      rcases hown'.2 with ⟨h1, _⟩ | ⟨g, cap, _, h1, _⟩
      · exact absurd h1 hne
      · exact ⟨g, cap, h1⟩
    obtain ⟨g', cap', rfl⟩ := hex
    rw [← hap] at hown'
    exact h g' cap' w' hown' (hb.grown hgrow hbase (fun k hk => by simp [Value.ownBlock] at hk; have := (own_cap hown).2.2; omega)) (Nat.le_trans hbase hgrow.size)
  | none =>
    have hm : m = 0 := by
      rcases Nat.eq_zero_or_pos m with h0 | h0
      · exact h0
      · obtain ⟨b, o', he, _⟩ := hbi.2.2 h0; cases he
    subst hm
    have hl0 : l = [] := List.eq_nil_of_length_eq_zero hbi.1
    subst hl0
    have hcp := own_cap hown
    refine wpList_plain hgd fun K hK => ?_
    have hrun := run_append_room_src (P := Try.prog) w 22 22 o.type 5 i0 Try.underlying22 hi g 0 n cap (.slice none 0 c) 0 [] (by rw [hz1]; exact Src.ofNil w Try.underlying22 c) (by omega) (fun j hj => by simp at hj) (fun j hj => by simp at hj)
    have hw : w.setCells g (0 + n * i0.size) [] = w := rfl
    rw [hw] at hrun
    unfold Oper.wp
    simp [execOp, ho, resolve, invoke, builtin, hs, hx, hrun, Result.andThen]
    have := h g cap w (by simpa using hown) hb hbase
    simp at this
    exact hK _ _ this

/-- What PrefixEnd answers, in one form for nil and for the rest. -/
theorem prefixEnd_val (a : Option Addr) (n c : Nat) (l : List Int) (w : World) (h : BI w a n l) (hn : n ≤ 1048576) (hnc : n ≤ c) :
    Calls Try.prog 6 #[.slice a n c] w fun r w' => ∃ va vn vc, r = .returned (.slice va vn vc) ∧ Below w.heap.size w w' ∧
      Hid ((pend l = none ∧ va = none) ∨ ∃ e g, pend l = some e ∧ va = some ⟨g, 0, none⟩ ∧ vn = e.length ∧ BI w' va vn e) := by
  refine (prefixEnd_any a n c l w h hn hnc).mono ?_
  rintro r w' (⟨hp, rfl, rfl⟩ | ⟨e, g, cap, hp, rfl, hb, _, _, _, hbel⟩)
  · exact ⟨none, 0, 0, rfl, Below.refl _ _, .inl ⟨hp, rfl⟩⟩
  · exact ⟨_, _, _, rfl, hbel, .inr ⟨e, g, hp, rfl, rfl, hb⟩⟩

theorem sameBytes_true (a : Option Addr) (n c : Nat) (l : List Int) (a' : Option Addr) (n' c' : Nat) (l' : List Int) (w : World) (h : BI w a n l) (h' : BI w a' n' l') (hn : n ≤ 1048576) (hn' : n' ≤ 1048576) (he : l = l') :
    Calls Try.prog 8 #[.slice a n c, .slice a' n' c'] w fun e w' => e = .returned (.bool true) ∧ ∃ q, w' = w.drewN q := by
  have hc := sameBytes_any a n c l a' n' c' l' w h h' hn hn'
  rw [he, beq_self_eq_true] at hc
  exact hc

theorem quiet_on {w : World} {e : Ending} {v : Value} {q x : Nat} {w'' : World} (h : e = .returned v ∧ ∃ m, w'' = (w.drewN (q + x)).drewN m) : e = .returned v ∧ ∃ n, w'' = w.drewN (q + n) := by
  obtain ⟨he, m, hm⟩ := h
  exact ⟨he, x + m, by rw [hm, World.drewN_drewN, Nat.add_assoc]⟩

/-- Early outs: too long. -/
theorem join_off (a0 : Option Addr) (n0 c0 : Nat) (a1 : Option Addr) (n1 c1 : Nat) (w : World) (m0 : n0 ≤ maxLen) (m1 : n1 ≤ maxLen) (h : 524288 < n0 ∨ 524288 < n1) :
    Calls Try.prog 3 #[.slice a0 n0 c0, .slice a1 n1 c1] w fun e w' => e = .returned (.bool true) ∧ w = w' := by
  have hcon := bound_any 5 (.inl rfl) a0 n0 c0 a1 n1 c1 w m0 m1
  unfold maxLen at m0 m1
  by_cases hs : n0 + n1 ≤ 1048576
  · rw [decide_eq_true hs] at hcon
    by_cases h0 : 524288 < n0
    · clear h hs
      go_enter Try.func3, Try.ntmps3
      go_wp2_with (go_at_call 5; refine hcon.mono ?_; rintro e w' ⟨rfl, rfl⟩)
      go_ret
      exact ⟨rfl, rfl⟩
    · have h1 : 524288 < n1 := by omega
      clear h hs
      go_enter Try.func3, Try.ntmps3
      go_wp2_with (go_at_call 5; refine hcon.mono ?_; rintro e w' ⟨rfl, rfl⟩)
      go_ret
      exact ⟨rfl, rfl⟩
  · rw [decide_eq_false hs] at hcon
    clear h hs
    go_enter Try.func3, Try.ntmps3
    go_wp2_with (go_at_call 5; refine hcon.mono ?_; rintro e w' ⟨rfl, rfl⟩)
    go_ret
    exact ⟨rfl, rfl⟩

set_option maxRecDepth 100000 in
set_option maxHeartbeats 4000000 in
theorem join_on (a0 : Option Addr) (n0 c0 : Nat) (l0 : List Int) (a1 : Option Addr) (n1 c1 : Nat) (l1 : List Int) (w : World) (h0 : BI w a0 n0 l0) (h1 : BI w a1 n1 l1) (hc0 : n0 ≤ c0) (hc1 : n1 ≤ c1) (m0 : n0 ≤ 524288) (m1 : n1 ≤ 524288) :
    Calls Try.prog 3 #[.slice a0 n0 c0, .slice a1 n1 c1] w fun e w' => e = .returned (.bool true) ∧ Below w.heap.size w w' := by
  have hcon := bound_any 5 (.inl rfl) a0 n0 c0 a1 n1 c1 w (by unfold maxLen; omega) (by unfold maxLen; omega)
  rw [decide_eq_true (show n0 + n1 ≤ 1048576 by omega)] at hcon
  have q22 : ∀ (w : World) (a : Option Addr) (n c n' c' : Nat), (binOp .eql 22 (.slice a n c) (.slice none n' c')).run Try.prog w = .ok (.bool a.isNone) w := fun w a n c n' c' => Lib.run_eql_slice_nil w _ _ a n c n' c' Try.underlying22
  have q22n : ∀ (w : World) (a : Option Addr) (n c n' c' : Nat), (binOp .neq 22 (.slice a n c) (.slice none n' c')).run Try.prog w = .ok (.bool (!a.isNone)) w := fun w a n c n' c' => run_neq_slice_nil_any w _ _ a n c n' c' Try.underlying22
  have H0 : Hid (BI w a0 n0 l0) := h0
  have H1 : Hid (BI w a1 n1 l1) := h1
  clear h0 h1
  go_enter Try.func3, Try.ntmps3
  go_upto_if 22 with (go_at_call 5; refine hcon.mono ?_; rintro e w' ⟨rfl, rfl⟩)
  go_cut [0, 5] (fun p z wr => ∃ a c, p = .slice a n0 c ∧ n0 ≤ c ∧ Hid (BI wr a n0 l0) ∧ Hid (BI wr a1 n1 l1) ∧ Below w.heap.size w wr)
  case first =>
    cases a0 with
    | none =>
      go_wp2
      go_meet
      case rel => exact ⟨none, c0, rfl, hc0, H0, H1, Below.refl _ _⟩
    | some ad =>
      have hm0 : n0 ≤ 1048576 := by omega
      go_wp2_with (first
        | (at_make; refine make_row _ rfl _ _ rfl n0 hm0 rfl rfl ?_; intro w1 hrow1 hbel1)
        | (have _t := hrow1; refine copy_row _ rfl _ _ rfl w.heap.size n0 ad c0 rfl rfl hrow1 l0 (H0.out.later hbel1) w.heap.size w hbel1 (Nat.le_refl _) ?_; intro w2 hbi2 hbel2; clear hrow1))
      go_meet
      case rel => exact ⟨some ⟨w.heap.size, 0, none⟩, n0, rfl, Nat.le_refl _, hbi2, H1.out.later hbel2, hbel2⟩
  case rest =>
    obtain ⟨pa, pc, rfl, hpc, HP, HK, hbel⟩ := hcut
    go_upto_if 31 with fail
    go_cut [1, 6] (fun k z wr => ∃ a c, k = .slice a n1 c ∧ n1 ≤ c ∧ Hid (BI wr pa n0 l0) ∧ Hid (BI wr a n1 l1) ∧ Below w.heap.size w wr)
    case first =>
      cases a1 with
      | none =>
        go_wp2
        go_meet
        case rel => exact ⟨none, c1, rfl, hc1, HP, HK, hbel⟩
      | some ad =>
        have hm1 : n1 ≤ 1048576 := by omega
        go_wp2_with (first
          | (at_make; refine make_row _ rfl _ _ rfl n1 hm1 rfl rfl ?_; intro w1 hrow1 hbel1)
          | (have _t := hrow1; refine copy_row _ rfl _ _ rfl wc.heap.size n1 ad c1 rfl rfl hrow1 l1 (HK.out.later hbel1) wc.heap.size wc hbel1 (Nat.le_refl _) ?_; intro w2 hbi2 hbel2; clear hrow1))
        go_meet
        case rel => exact ⟨some ⟨wc.heap.size, 0, none⟩, n1, rfl, Nat.le_refl _, HP.out.later hbel2, hbi2, hbel.trans (hbel2.mono hbel.size)⟩
    case rest =>
      obtain ⟨sa, sc, rfl, hsc, HP, HS, hbel⟩ := hcut
      have hm0 : n0 ≤ 1048576 := by omega
      have hm1 : n1 ≤ 1048576 := by omega
      have hm01 : n0 + n1 ≤ 1048576 := by omega
      have HR0 : Hid (∀ x ∈ l0, 0 ≤ x ∧ x ≤ 255) := HP.out.2.1
      have HR1 : Hid (∀ x ∈ l1, 0 ≤ x ∧ x ≤ 255) := HS.out.2.1
      have tok1 : True := trivial
      have tok2 : True := trivial
      go_wp2_with (first
        | (at_make; refine make_empty _ rfl _ _ rfl _ (n0 + n1) (by omega) hm01 rfl rfl ?_; intro w1 hown1 hbel1 hsz1)
        | (at_builtin; have _t := tok1; refine append_bytes _ rfl _ _ rfl wc.heap.size wc.heap.size 0 (n0 + n1) [] rfl hown1 pa n0 pc l0 rfl (HP.out.later hbel1) (by omega) wc hsz1 hbel1 ?_; clear tok1; intro g2 cap2 w2 hown2 hbel2 hsz2; rw [Nat.zero_add, List.nil_append] at hown2)
        | (at_builtin; have _t := tok2; refine append_bytes _ rfl _ _ rfl wc.heap.size g2 n0 cap2 l0 rfl hown2 sa n1 sc l1 rfl (HS.out.later hbel2) (by omega) wc hsz2 hbel2 ?_; clear tok2; intro g3 cap3 w3 hown3 hbel3 hsz3))
      have HJ : Hid (BI w3 (some ⟨g3, 0, none⟩) (n0 + n1) (l0 ++ l1)) := BI.ofOwn hown3 (fun x hx => by
        rcases List.mem_append.1 hx with h | h
        · exact HR0.out x h
        · exact HR1.out x h)
      have hj3 := own_cap hown3
      have hjc : n0 + n1 ≤ cap3 := hj3.1
      have HP3 : Hid (BI w3 pa n0 l0) := HP.out.later hbel3
      have HS3 : Hid (BI w3 sa n1 l1) := HS.out.later hbel3
      have hbelw3 : Below w.heap.size w w3 := hbel.trans (hbel3.mono hbel.size)
      clear hown1 hown2 hown3 hbel1 hbel2 hbel3 hsz1 hsz2 hsz3 hj3 HP HS hbel
      obtain ⟨nj, hnj⟩ : ∃ nj, nj = n0 + n1 := ⟨_, rfl⟩
      rw [← hnj] at HJ hjc
      rw [← hnj]
      have hmj : nj ≤ 1048576 := by omega
      clear hnj
      have HPA := pend_append l0 l1
      refine (prefixEnd_any _ nj cap3 (l0 ++ l1) w3 HJ.out hmj hjc).mono ?_
      rintro r w4 (⟨hpj, rfl, rfl⟩ | ⟨ej, gj, capj, hpj, rfl, hbj, hejcap, hejcm, hgj, hbel4⟩)
      · -- the join has no end
        rw [hpj] at HPA
        cases hp1 : pend l1 with
        | some q => rw [hp1] at HPA; cases HPA
        | none =>
          rw [hp1] at HPA
          have hp0 : pend l0 = none := HPA.symm
          have hff : (l0 ++ l1).all (· == 255) = true := (pend_none _).1 hpj
          have HFF : Hid ((l0 ++ l1).all (· == 255) = true) := hff
          clear HPA hff hpj
          go_wp2_with fail
          refine (prefixEnd_any pa n0 pc l0 w3 HP3.out hm0 hpc).mono ?_
          rintro r w5 (⟨hpk, rfl, rfl⟩ | ⟨e', _, _, hpk, _⟩)
          rotate_left
          · rw [hp0] at hpk; cases hpk
          go_wp2_with fail
          refine (prefixEnd_any sa n1 sc l1 w3 HS3.out hm1 hsc).mono ?_
          rintro r w6 (⟨hpl, rfl, rfl⟩ | ⟨e', _, _, hpl, _⟩)
          rotate_left
          · rw [hp1] at hpl; cases hpl
          clear hp0 hp1 hpk hpl
          go_wp2_with fail
          refine (sameBytes_any none 0 0 [] none 0 0 [] w3 ⟨rfl, fun x hx => by simp at hx, fun h0 => absurd h0 (by omega)⟩ ⟨rfl, fun x hx => by simp at hx, fun h0 => absurd h0 (by omega)⟩ (by omega) (by omega)).mono ?_
          rintro r w7 ⟨rfl, q, rfl⟩
          rw [show (([] : List Int) == []) = true from rfl]
          have hc1 := onlyFF_any (some ⟨g3, 0, none⟩) nj cap3 (l0 ++ l1) (w3.drewN q) (HJ.out.drewN q) hmj
          rw [HFF.out] at hc1
          go_wp2_with fail
          refine hc1.mono ?_
          rintro r w8 ⟨rfl, rfl⟩
          clear hc1
          go_wp2_with fail
          go_ret
          exact ⟨rfl, below_draws hbelw3 _⟩
      · -- the join has an end
        have hps := pend_some hpj
        have hne1 : 0 < ej.length := hps.1
        have hne2 : ej.length ≤ nj := by have := hps.2.1; have := HJ.out.1; omega
        have HTK : Hid (ej.take (ej.length - 1) = (l0 ++ l1).take (ej.length - 1)) := hps.2.2.1
        have HCM : Hid (0 < cmp ej (l0 ++ l1)) := hps.2.2.2
        have hff : (l0 ++ l1).all (· == 255) = false := by
          cases hf : (l0 ++ l1).all (· == 255) with
          | false => rfl
          | true => rw [(pend_none _).2 hf] at hpj; cases hpj
        have HFF : Hid ((l0 ++ l1).all (· == 255) = false) := hff
        rw [hpj] at HPA
        have HPA' : Hid (some ej = match pend l1 with | some e => some (l0 ++ e) | none => pend l0) := HPA
        have HE4 : Hid (BI w4 (some ⟨gj, 0, none⟩) ej.length ej) := hbj
        have HJ4 : Hid (BI w4 (some ⟨g3, 0, none⟩) nj (l0 ++ l1)) := HJ.out.later hbel4
        have HP4 : Hid (BI w4 pa n0 l0) := HP3.out.later hbel4
        have HS4 : Hid (BI w4 sa n1 l1) := HS3.out.later hbel4
        have hbelw4 : Below w.heap.size w w4 := hbelw3.trans (hbel4.mono hbelw3.size)
        clear hps hff hpj HPA hbj hbel4 HJ HP3 HS3 hbelw3 hejcm hgj
        obtain ⟨ne, hne⟩ : ∃ ne, ej.length = ne + 1 := ⟨ej.length - 1, by omega⟩
        rw [hne] at hne1 hne2 HTK HE4 hejcap
        rw [hne]
        rw [Nat.add_sub_cancel] at HTK
        clear hne hne1
        have hme : ne + 1 ≤ 1048576 := by omega
        go_wp2_with fail
        refine (prefixEnd_val pa n0 pc l0 w4 HP4.out hm0 hpc).mono ?_
        rintro r w5 ⟨va, vn, vc, rfl, hbel5, HV⟩
        have HE5 : Hid (BI w5 (some ⟨gj, 0, none⟩) (ne + 1) ej) := HE4.out.later hbel5
        have HJ5 : Hid (BI w5 (some ⟨g3, 0, none⟩) nj (l0 ++ l1)) := HJ4.out.later hbel5
        have HP5 : Hid (BI w5 pa n0 l0) := HP4.out.later hbel5
        have HS5 : Hid (BI w5 sa n1 l1) := HS4.out.later hbel5
        have hbelw5 : Below w.heap.size w w5 := hbelw4.trans (hbel5.mono hbelw4.size)
        clear HE4 HJ4 HP4 HS4 hbelw4 hbel5
        go_wp2_with fail
        refine (prefixEnd_val sa n1 sc l1 w5 HS5.out hm1 hsc).mono ?_
        rintro r w6 ⟨ua, un, uc, rfl, hbel6, HU⟩
        have HE6 : Hid (BI w6 (some ⟨gj, 0, none⟩) (ne + 1) ej) := HE5.out.later hbel6
        have HJ6 : Hid (BI w6 (some ⟨g3, 0, none⟩) nj (l0 ++ l1)) := HJ5.out.later hbel6
        have HP6 : Hid (BI w6 pa n0 l0) := HP5.out.later hbel6
        have HV6 : Hid ((pend l0 = none ∧ va = none) ∨ ∃ e g, pend l0 = some e ∧ va = some ⟨g, 0, none⟩ ∧ vn = e.length ∧ BI w6 va vn e) := by
          rcases HV.out with h | ⟨e, g, h1, h2, h3, h4⟩
          · exact .inl h
          · exact .inr ⟨e, g, h1, h2, h3, h4.later hbel6⟩
        have hbelw6 : Below w.heap.size w w6 := hbelw5.trans (hbel6.mono hbelw5.size)
        clear HE5 HJ5 HP5 HS5 hbelw5 hbel6 HV
        go_upto_if 58 with fail
        go_cut [4] (fun t wr => t = .bool false ∧ ∃ q, wr = w6.drewN q)
        case first =>
          have HPA := HPA'.out
          rcases HU.out with ⟨hp1, rfl⟩ | ⟨q1, gq, hp1, rfl, rfl, hbq⟩
          · rw [hp1] at HPA
            rcases HV6.out with ⟨hp0, rfl⟩ | ⟨e0, gp, hp0, rfl, rfl, hbp⟩
            · simp only at HPA; rw [hp0] at HPA; cases HPA
            · simp only at HPA
              rw [hp0] at HPA
              obtain rfl : ej = e0 := Option.some.inj HPA
              have hc1 := sameBytes_true (some ⟨gj, 0, none⟩) (ne + 1) capj ej (some ⟨gp, 0, none⟩) ej.length vc ej w6 HE6.out hbp hme (by have := HE6.out.1; omega) rfl
              clear HPA hp0 hp1 hbp
              go_wp2_with fail
              refine hc1.mono ?_
              rintro r w7 ⟨rfl, q, rfl⟩
              clear hc1
              go_wp2_with fail
              go_meet
              case rel => exact ⟨rfl, q, rfl⟩
          · rw [hp1] at HPA
            simp only [Option.some.injEq] at HPA
            have hc1 := equalsJoin_any ⟨gj, 0, none⟩ (ne + 1) capj ej pa n0 pc l0 (some ⟨gq, 0, none⟩) q1.length uc q1 w6 HE6.out HP6.out hbq hme hm0 (by have := (pend_some hp1).2.1; have := HJ6.out.1; simp at this; omega) HPA
            clear HPA hp1 hbq
            go_wp2_with fail
            refine hc1.mono ?_
            rintro r w7 ⟨rfl, q, rfl⟩
            clear hc1
            go_wp2_with fail
            go_meet
            case rel => exact ⟨rfl, q, rfl⟩
        case rest =>
          obtain ⟨rfl, q, rfl⟩ := hcut
          have hc1 := onlyFF_any (some ⟨g3, 0, none⟩) nj cap3 (l0 ++ l1) (w6.drewN q) (HJ6.out.drewN q) hmj
          rw [HFF.out] at hc1
          go_wp2_with fail
          refine hc1.mono ?_
          rintro r w8 ⟨rfl, rfl⟩
          clear hc1
          have hz1 : ((ne : Int) + 1 == 0) = false := by simp; omega
          have hz2 : (ne : Int) + 1 ≤ (nj : Int) := by omega
          have hc2 : ∀ n, Calls Try.prog 8 #[.slice (some ⟨gj, 0, none⟩) ne capj, .slice (some ⟨g3, 0, none⟩) ne cap3] (w6.drewN n) fun e w' => e = .returned (.bool true) ∧ ∃ q, w' = (w6.drewN n).drewN q := fun n =>
            sameBytes_true (some ⟨gj, 0, none⟩) ne capj (ej.take ne) (some ⟨g3, 0, none⟩) ne cap3 ((l0 ++ l1).take ne) (w6.drewN n) ((HE6.out.cut ne (by omega)).drewN n) ((HJ6.out.cut ne (by omega)).drewN n) (by omega) (by omega) HTK.out
          have HC2 : Hid (∀ n, Calls Try.prog 8 #[.slice (some ⟨gj, 0, none⟩) ne capj, .slice (some ⟨g3, 0, none⟩) ne cap3] (w6.drewN n) fun e w' => e = .returned (.bool true) ∧ ∃ q, w' = (w6.drewN n).drewN q) := hc2
          clear hc2
          have hcp1 : (ne : Int) ≤ (capj : Int) := by omega
          have hcp2 : (ne : Int) ≤ (cap3 : Int) := by omega
          go_wp2_with fail
          go_quiet ((go_at_call 8; exact (HC2.out _).mono (fun _ _ hh => quiet_on hh)))
          have hc3 := fun n => compareBytes_any (some ⟨gj, 0, none⟩) (ne + 1) capj ej (some ⟨g3, 0, none⟩) nj cap3 (l0 ++ l1) (w6.drewN n) (HE6.out.drewN n) (HJ6.out.drewN n) hme hmj
          obtain ⟨v, hv⟩ : ∃ v, v = cmp ej (l0 ++ l1) := ⟨_, rfl⟩
          have hv0 : 0 < v := by rw [hv]; exact HCM.out
          rw [← hv] at hc3
          clear hv
          go_wp2_with fail
          refine (hc3 _).mono ?_
          rintro r w9 ⟨rfl, q9, rfl⟩
          clear hc3
          go_wp2_with fail
          go_ret
          exact ⟨rfl, below_draws hbelw6 _⟩
end Go.Proofs.Qxb6627581a
