/-
  THE PROOF OF 'Rows.FnNextWorkingDayAgreesWithWorkingSaid'.
-/
import Derived.Test.Qxb6627567aLaw
import Derived.ProofKit
import Derived.OpenShut
import Derived.ChangeOld
import Derived.Below
namespace Go.Proofs.Qxb6627567a
open Go.ChangeShapes Go.WideShapes Go.ChangeAt Go.RowKit Go.WideElems Go.Maps Plain
set_option linter.unusedVariables false

theorem own : ownKnob Try.prog.godebug = none := by kernel_rfl
theorem laidOut : laidOutB Try.prog = true := by kernel_rfl
theorem law23 : Keyed Try.prog 23 := int_keyed Try.underlying23
theorem zero4 (w : World) : (zeroValue 4).run Try.prog w = .ok (.bool false) w := by kernel_rfl

def numOf : Value → Int
  | .int _ a => a
  | _ => 0

/-- What a map of days to bools says, as a function of the day, and a list of all marked days. -/
theorem marks {H : Type} (enc : TypeId × Value → H) (W w' : World) (bm n : Nat) (es : Array MapEntry) (clock : Nat) (hb : w'.heap[bm]? = some (.map es clock)) (F : Fit Try.prog 23 (elemAt enc Try.prog W 0 (fun _ => true) true n 4) es clock) :
    ∃ (M : Int → Option Bool) (ks : List Int), ks.length ≤ es.size ∧ (∀ x, M x ≠ none → x ∈ ks) ∧ ∀ x : Int, -2147483648 ≤ x → x ≤ 2147483647 → LookAt M (some bm) w' x := by
  have hex : ∀ x : Int, ∃ o : Option Bool, (o ≠ none → x ∈ es.toList.map (fun e => numOf e.key)) ∧ (-2147483648 ≤ x → x ≤ 2147483647 →
      (Instr.lookup 22 (.map (some bm)) (.int .i32 x) true).run Try.prog w' = .ok (.tuple #[.bool (o.getD false), .bool o.isSome]) w') := by
    intro x
    by_cases hx : -2147483648 ≤ x ∧ x ≤ 2147483647
    · have hwf : (Lit.int .i32 x).wf = true := by simp [Lit.wf, IntKind.min, IntKind.max, IntKind.bits, IntKind.signed]; omega
      rcases fit_look true law23 Try.underlying22 (zero4 w') hb F (keyOf_int_mk Try.underlying23 hwf) with ⟨hrun, _, _⟩ | ⟨e0, y, hm, hk, hrun, hy, _, _⟩
      · exact ⟨none, fun h => absurd rfl h, fun _ _ => hrun⟩
      · obtain ⟨b, hb', _⟩ := elemAt_bool Try.underlying4 hy
        rw [hb'] at hrun
        exact ⟨some b, fun _ => List.mem_map.2 ⟨e0, hm, by rw [hk]; rfl⟩, fun _ _ => hrun⟩
    · exact ⟨none, fun h => absurd rfl h, fun a b => absurd ⟨a, b⟩ hx⟩
  exact ⟨fun x => Classical.choose (hex x), es.toList.map (fun e => numOf e.key), by simp, fun x => (Classical.choose_spec (hex x)).1, fun x a b => (Classical.choose_spec (hex x)).2 a b⟩

/-- The law over any map: nil or not. -/
theorem law_any (M : Int → Option Bool) (ks : List Int) (hks : ∀ x, M x ≠ none → x ∈ ks) (m : Option Nat) (n : Nat) (hkl : ks.length ≤ n) (d k : Int) (w : World)
    (hlen : ∀ ty, (Builtin.len_ #[22] ty #[.map m]).run Try.prog w = .ok (.int .i64 n) w)
    (hl : ∀ x : Int, -2147483648 ≤ x → x ≤ 2147483647 → LookAt M m (w.alloc (.cells #[.map m] 31)) x)
    (wd : (Lit.int .i32 d).wf = true) (wk : (Lit.int .u16 k).wf = true) :
    Calls Try.prog 3 #[.map m, .int .i32 d, .int .u16 k] w fun e w' => e = .returned (.bool true) ∧ Below w.heap.size w w' := by
  have bd : -2147483648 ≤ d ∧ d ≤ 2147483647 := by simp [Lit.wf, IntKind.min, IntKind.max, IntKind.bits, IntKind.signed] at wd; omega
  have bk : 0 ≤ k ∧ k ≤ 65535 := by simp [Lit.wf, IntKind.min, IntKind.max, IntKind.bits, IntKind.signed] at wk; omega
  by_cases h : 65536 < n ∨ 2145386495 < d
  · refine (law_off m n d k w hlen bd.1 bd.2 h).mono ?_
    rintro e w' ⟨rfl, rfl⟩
    exact ⟨rfl, Below.refl _ _⟩
  · refine (law_on M ks hks m n hkl d k w hlen hl bd.1 (by omega) (by omega) bk.1 bk.2).mono ?_
    rintro e w' ⟨rfl, rfl⟩
    exact ⟨rfl, (Below.refl _ _).alloc (Nat.le_refl _) _⟩

set_option maxRecDepth 100000 in
theorem lifted (os : Os) (started : os.Started) (H : Type) (enc : TypeId × Value → H) :
    ReturnsInHanded {} Try.checked os 3 .any (Rows.fnNextWorkingDayAgreesWithWorkingSpec.pre6 enc Try.prog Try.f3 Rows.fnNextWorkingDayAgreesWithWorkingRow.domain false) (Rows.fnNextWorkingDayAgreesWithWorkingSpec.post enc Try.prog Try.f3 false true false false) := by
  refine returnsInHanded_of_change (C := Try.checked) own started (by kernel_rfl) Try.func3
    (ChangeSpec.witness6 (enc := enc) (C := Try.checked) false ⟨#[], #[.map none, .int .i32 0, .int .u16 0], []⟩ 8 (by kernel_rfl) (by kernel_rfl) (by kernel_rfl) (by kernel_rfl)) ?_
  intro W base args ds gs before hval0 hW hcnd _
  have hval : ∀ (j : Nat) t v, Try.f3.params[j]? = some t → args[j]? = some v → Value.okWide Try.prog W .any base t v := hval0
  have hW' := hW
  obtain ⟨p, q, hA0, hV, rfl, hfz, hnd⟩ := hW
  have hA : DataW.TrodAll enc Try.prog W 0 (fun _ => true) true Try.f3.params.toList args.toList ds p := hA0
  rw [Try.params3] at hA hval
  obtain ⟨v0, vs0, d0, ds0, p0, q0, hargs, rfl, rfl, h0, r0⟩ := trodAll_cons hA
  obtain ⟨v1, vs1, d1, ds1, p1, q1, rfl, rfl, rfl, h1, r1⟩ := trodAll_cons r0
  obtain ⟨v2, vs2, d2, ds2, p2, q2, rfl, rfl, rfl, h2, r2⟩ := trodAll_cons r1
  obtain ⟨rfl, rfl, rfl⟩ := trodAll_nil r2
  obtain rfl : args = #[v0, v1, v2] := by cases args; simp_all
  obtain ⟨rfl, rfl⟩ := trodVars_none hV
  obtain ⟨a0, rfl⟩ := okWide_map Try.underlying22 (hval 0 22 v0 rfl rfl)
  have k0 := h0
  have lt0 : ∀ x ∈ p0, x.block < W.heap.size := by obtain ⟨m, hm⟩ := k0; exact DataW.trod_lt m _ _ _ hm
  obtain ⟨a1, rfl, rfl, rfl, w1⟩ := open_int Try.underlying23 (hval 1 23 v1 rfl rfl) h1
  obtain ⟨a2, rfl, rfl, rfl, w2⟩ := open_int Try.underlying24 (hval 2 24 v2 rfl rfl) h2
  have hcall : Calls Try.prog 3 #[.map a0, .int .i32 a1, .int .u16 a2] W fun e w' => e = .returned (.bool true) ∧ Below W.heap.size W w' := by
    obtain ⟨fuel, hf⟩ := h0
    rcases open_map Try.underlying22 hf with ⟨hcs, _⟩ | ⟨bm, es, clock, n, rfl, hcs, hb, _, F, _⟩
    · simp [Value.cells] at hcs
      subst hcs
      exact law_any (fun _ => none) [] (fun x h => absurd rfl h) none 0 (Nat.le_refl _) a1 a2 W (fun ty => len_nil Try.underlying22 ty)
        (fun x hx1 hx2 => look_nil true law23 Try.underlying22 (zero4 _) (keyOf_int_mk Try.underlying23 (by simp [Lit.wf, IntKind.min, IntKind.max, IntKind.bits, IntKind.signed]; omega))) w1 w2
    · simp [Value.cells] at hcs
      subst hcs
      have hbl : bm < W.heap.size := by
        rcases Nat.lt_or_ge bm W.heap.size with h | h
        · exact h
        · rw [Array.getElem?_eq_none h] at hb; cases hb
      have hb1 : (W.alloc (.cells #[.map (some bm)] 31)).heap[bm]? = some (.map es clock) := by
        show (W.heap.push _)[bm]? = _
        rw [Array.getElem?_push, if_neg (by omega)]
        exact hb
      obtain ⟨M, ks, hkl, hks, hl⟩ := marks enc W _ bm n es clock hb1 F
      exact law_any M ks hks (some bm) es.size hkl a1 a2 W (fun ty => by simp [Builtin.len_, run_underlying Try.underlying22, MapKept.run_getObj_map hb, goInt, Result.andThen]) hl w1 w2
  clear hA0 hval0
  refine hcall.mono fun e W' ⟨he, bel⟩ => ?_
  subst he
  exact ⟨_, rfl, _, _, _, [], _, [], hW', trodAll_mk1 (shut_bool Try.underlying4 _), (trodAll_cons_mk (Below.trod laidOut (by kernel_rfl) (of_decide_eq_true (by kernel_rfl)) k0 bel lt0) (trodAll_cons_mk (shut_int Try.underlying23 w1) (trodAll_cons_mk (shut_int Try.underlying24 w2) trodAll_mk0))), rfl, bel.frame _, fun h => by cases h⟩

theorem over : Rows.fnNextWorkingDayAgreesWithWorkingRow.holds Try.pinned (OpenSpec.ofChange Rows.fnNextWorkingDayAgreesWithWorkingSpec) :=
  OpenClaim.holds_of_wide 3 Try.f3 rfl rfl rfl rfl rfl rfl rfl ⟨rfl, rfl, rfl, rfl, rfl⟩ rfl rfl rfl rfl rfl (by kernel_rfl) Try.func3 (by kernel_rfl)
    (of_decide_eq_true (by kernel_rfl)) (by unfold Func.isWrapper; first | (rw [if_pos (by decide +kernel)]; kernel_rfl) | (rw [if_neg (by decide +kernel)]; exact ⟨rfl, rfl⟩))
    (fun os started H enc _ => lifted os started H enc)

/-- THE STATEMENT. -/
theorem proved : Rows.FnNextWorkingDayAgreesWithWorkingSaid := over
end Go.Proofs.Qxb6627567a
