/-
  THE WALKS OF bytes.Clone, PrefixEnd and the two small functions that bound the lengths.
-/
import Derived.Test.Qxb6627581aReads
import Derived.OwnWalk
import Derived.Laws.OwnMore
namespace Go.Proofs.Qxb6627581a
open Go.RowKit Plain
set_option linter.unusedVariables false

def cellsOf (l : List Int) : List Value := l.map (Value.int .u8)

theorem Try.info5 : (Try.prog.info? 5).map (fun i => (i.zero, i.size, i.bytes)) = some (some (.int .u8 0), 1, 1) := by kernel_rfl

theorem cellsOf_get {l : List Int} {j : Nat} {u : Value} (h : (cellsOf l)[j]? = some u) : j < l.length ∧ u = .int .u8 (l.getD j 0) := by
  have hj : j < l.length := by
    have := (List.getElem?_eq_some_iff.1 h).1
    simpa [cellsOf] using this
  refine ⟨hj, ?_⟩
  simp [cellsOf, List.getElem?_eq_getElem hj] at h
  simp [List.getD, List.getElem?_eq_getElem hj, h]

theorem cellsOf_at {l : List Int} {j : Nat} (hj : j < l.length) : (cellsOf l)[j]? = some (.int .u8 (l.getD j 0)) := by
  simp [cellsOf, List.getD, List.getElem?_eq_getElem hj]

theorem cellsOf_one (l : List Int) : ∀ u ∈ cellsOf l, u.oneCell' = true := by
  intro u hu
  obtain ⟨x, _, rfl⟩ := List.mem_map.1 hu
  rfl

/-- The cells of a slice, for the laws on append and copy. -/
theorem BI.source {w : World} {ad : Addr} {n : Nat} {l : List Int} (h : BI w (some ad) n l) : ∀ j u, (cellsOf l)[j]? = some u → w.cell? (ad.add j) = some u := by
  intro j u hj
  obtain ⟨hl, hr, hc⟩ := h
  obtain ⟨hjl, rfl⟩ := cellsOf_get hj
  obtain ⟨b, o, hab, hcs⟩ := hc (by omega)
  obtain rfl : ad = ⟨b, o, none⟩ := by simpa using hab
  rw [Addr.add_lit]
  exact hcs j (by omega)

theorem BI.ofOwn {w : World} {base g n cap : Nat} {l : List Int} (h : w.ownsRow base 5 1 (.slice (some ⟨g, 0, none⟩) n cap) n (cellsOf l)) (hr : ∀ x ∈ l, 0 ≤ x ∧ x ≤ 255) : BI w (some ⟨g, 0, none⟩) n l := by
  have hl : l.length = n := by have := h.1; simpa [cellsOf] using this
  refine ⟨hl, hr, fun hn => ⟨g, 0, rfl, fun i hi => ?_⟩⟩
  rw [Nat.zero_add, h.cellAt i (by omega)]
  exact cellsOf_at (by omega)

theorem own_cap {w : World} {base g n cap : Nat} {e : TypeId} {size : Nat} {xs : List Value} (h : w.ownsRow base e size (.slice (some ⟨g, 0, none⟩) n cap) n xs) : n ≤ cap ∧ cap ≤ maxLen ∧ base ≤ g := by
  rcases h.2 with ⟨h', _⟩ | ⟨g', cap', cur, h', hb, hg, hnc, hcm, _⟩
  · simp at h'
  · simp only [Value.slice.injEq, Option.some.injEq, Addr.mk.injEq, and_true, true_and] at h'
    obtain ⟨rfl, rfl⟩ := h'
    exact ⟨hnc, hcm, hb⟩

theorem BI.cut {w : World} {a : Option Addr} {n : Nat} {l : List Int} (h : BI w a n l) (m : Nat) (hm : m ≤ n) : BI w a m (l.take m) := by
  obtain ⟨hl, hr, hc⟩ := h
  refine ⟨by simp; omega, fun x hx => hr x (List.mem_of_mem_take hx), fun h0 => ?_⟩
  obtain ⟨b, o, ha, hcs⟩ := hc (by omega)
  refine ⟨b, o, ha, fun i hi => ?_⟩
  rw [hcs i (by omega)]
  simp [List.getD, hi]

set_option maxHeartbeats 1000000 in
/-- bytes.Clone of a slice that is not nil. -/
theorem clone_any (ad : Addr) (n c : Nat) (l : List Int) (w : World) (h : BI w (some ad) n l) (hn : n ≤ 1048576) :
    Calls Try.prog 13 #[.slice (some ad) n c] w fun e w' => ∃ g cap, e = .returned (.slice (some ⟨g, 0, none⟩) n cap) ∧ w'.ownsRow w.heap.size 5 1 (.slice (some ⟨g, 0, none⟩) n cap) n (cellsOf l) ∧ Below w.heap.size w w' := by
  obtain ⟨i0, hi, hz0, hz1, hz2⟩ := info_parts Try.info5
  have q22 : ∀ (w : World) (a : Option Addr) (n c n' c' : Nat), (binOp .eql 22 (.slice a n c) (.slice none n' c')).run Try.prog w = .ok (.bool a.isNone) w := fun w a n c n' c' => Lib.run_eql_slice_nil w _ _ a n c n' c' Try.underlying22
  have HB : Hid (BI w (some ad) n l) := h
  have HL : Hid (l.length = n) := h.1
  clear h
  go_enter Try.func13, Try.ntmps13
  go_wp2_with (at_builtin; refine wpList_append_own _ rfl _ _ 22 rfl w.heap.size 5 i0 (.int .u8 0) 1 1 Try.underlying22 hi hz0 hz1 hz2 rfl (by decide) _ _ _ rfl (World.ownsRow_made w #[] 0 (Nat.le_refl _) (Nat.zero_le _) rfl) ad n c (cellsOf l) rfl ?qc1 ?qc2 ?qc3 ?qc4 ?qc5 ?qc6 ?_)
  case qc1 => simp [cellsOf]; exact HL.out
  case qc2 => exact fun j u hj => cell_later ((Below.refl _ _).alloc (Nat.le_refl _) _) (HB.out.source j u hj)
  case qc3 => exact cellsOf_one l
  case qc4 => unfold maxLen; omega
  case qc5 => omega
  case qc6 => simp
  intro v' w1 hown hgrow hnil
  have hb : Below w.heap.size w w1 := ((Below.refl _ w).alloc (Nat.le_refl _) _).grown hgrow (by simp) (by intro k hk; simp [Value.ownBlock] at hk; omega)
  have hne : v' ≠ .slice none 0 0 := by
    first | exact hnil | (intro e; exact absurd (hnil.1 e).1 (by simp))
  have hown' : w1.ownsRow w.heap.size 5 1 v' n (cellsOf l) := by simpa using hown
  have hex : ∃ g cap, v' = .slice (some ⟨g, 0, none⟩) n cap := by
    rcases hown'.2 with ⟨h1, _⟩ | ⟨g, cap, _, h1, _⟩
    · exact absurd h1 hne
    · exact ⟨g, cap, h1⟩
  obtain ⟨g, cap, hv⟩ := hex
  rw [hv] at hown'
  rw [hv]
  clear hown hgrow hnil hne hv
  go_wp2
  go_ret
  exact ⟨g, cap, rfl, hown', hb⟩

/-- WHAT PrefixEnd ANSWERS. -/
def PE (l : List Int) (w : World) (r : Ending) (w' : World) : Prop :=
  (pend l = none ∧ r = .returned (.slice none 0 0) ∧ w = w') ∨
  ∃ e g cap, pend l = some e ∧ r = .returned (.slice (some ⟨g, 0, none⟩) e.length cap) ∧ BI w' (some ⟨g, 0, none⟩) e.length e ∧ e.length ≤ cap ∧ cap ≤ maxLen ∧ w.heap.size ≤ g ∧ Below w.heap.size w w'

theorem set_last (l : List Int) (m : Nat) (hm : m < l.length) (x : Int) : (l.take (m + 1)).set m x = l.take m ++ [x] := by
  rw [take_snoc l m hm, List.set_append_right _ _ (by simp; omega)]
  have : m - (l.take m).length = 0 := by simp; omega
  rw [this]
  rfl

set_option maxHeartbeats 1000000 in
theorem prefixEnd_any (a : Option Addr) (n c : Nat) (l : List Int) (w : World) (h : BI w a n l) (hn : n ≤ 1048576) (hnc : n ≤ c) :
    Calls Try.prog 6 #[.slice a n c] w (PE l w) := by
  have HB : Hid (BI w a n l) := h
  have HL : Hid (l.length = n) := h.1
  clear h
  go_enter Try.func6, Try.ntmps6
  go_wp2
  go_loop [3] (fun t => ∃ k : Int, -1 ≤ k ∧ k < n ∧ t = .int .i64 k ∧ ∀ j : Nat, k < j → j < n → l.getD j 0 = 255) (fun t => (intOf t + 1).toNat)
  case atStart => exact ⟨(n : Int) - 1, by omega, by omega, by go_num, fun j h1 h2 => by omega⟩
  case round =>
    obtain ⟨k, hk1, hk2, rfl, hall⟩ := hrel
    have HA : Hid (∀ j : Nat, k < j → j < n → l.getD j 0 = 255) := hall
    clear hall
    by_cases hk : 0 ≤ k
    · obtain ⟨m, rfl⟩ : ∃ m : Nat, k = m := ⟨k.toNat, by omega⟩
      obtain ⟨b, o, rfl, hcs⟩ := HB.out.2.2 (by omega)
      have hck := hcs m (by omega)
      have hby := byte_at HB.out.2.1 (i := m) (by have := HL.out; omega)
      obtain ⟨x, hx⟩ : ∃ x, x = l.getD m 0 := ⟨_, rfl⟩
      rw [← hx] at hck hby
      obtain ⟨hx0, hx1⟩ := hby
      have HX : Hid (x = l.getD m 0) := hx
      have HCS : Hid (∀ i, i < n → w.cell? ⟨b, o + i, none⟩ = some (.int .u8 (l.getD i 0))) := hcs
      clear hx hcs
      have hmn : (m : Int) < (n : Int) := by omega
      by_cases hxx : x = 255
      · have hb : (x != 255) = false := by simp [hxx]
        have HXX : Hid (x = 255) := hxx
        clear hxx
        go_wp2
        go_round
        case rel => exact ⟨(m : Int) - 1, by omega, by omega, by go_num, fun j h1 h2 => by
          by_cases hjm : j = m
          · rw [hjm, ← HX.out]; exact HXX.out
          · exact HA.out j (by omega) h2⟩
        case measure => simp [intOf]
      · have hb : (x != 255) = true := by simp [hxx]
        have hx2 : x ≤ 254 := by omega
        have HXX : Hid (x ≠ 255) := hxx
        clear hxx
        have hc1 : m + 1 ≤ c := by omega
        go_wp2_with fail
        refine (clone_any ⟨b, o, none⟩ (m + 1) c (l.take (m + 1)) w (BI.cut HB.out (m + 1) (by omega)) (by omega)).mono ?_
        rintro r w1 ⟨g, cap, rfl, hown, hbel⟩
        have hlen : m < l.length := by have := HL.out; omega
        have hcx : w1.cell? ⟨g, m, none⟩ = some (.int .u8 x) := by
          rw [hown.cellAt m (by omega), HX.out, cellsOf_at (by simp; omega)]
          simp [List.getD]
        have hfx : w1.frozen? ⟨g, m, none⟩ = false := hown.frozenAt m
        obtain ⟨hst, _⟩ := hown.stored m (.int .u8 (x + 1))
        have hcp := own_cap hown
        have hset : (cellsOf (l.take (m + 1))).set m (.int .u8 (x + 1)) = cellsOf (l.take m ++ [x + 1]) := by
          rw [← set_last l m hlen (x + 1)]
          simp [cellsOf, List.map_set]
        rw [hset] at hst
        have hpe : pend l = some (l.take m ++ [x + 1]) := by
          rw [HX.out]
          exact pend_at l m hlen (fun j h1 h2 => HA.out j (by omega) (by have := HL.out; omega)) (by rw [← HX.out]; exact HXX.out)
        have hlen2 : (l.take m ++ [x + 1]).length = m + 1 := by simp; omega
        have HST : Hid ((w1.setCell ⟨g, m, none⟩ (.int .u8 (x + 1))).ownsRow w.heap.size 5 1 (.slice (some ⟨g, 0, none⟩) (m + 1) cap) (m + 1) (cellsOf (l.take m ++ [x + 1]))) := hst
        have HPE : Hid (pend l = some (l.take m ++ [x + 1])) := hpe
        have HLEN2 : Hid ((l.take m ++ [x + 1]).length = m + 1) := hlen2
        have HR : Hid (∀ x ∈ l, 0 ≤ x ∧ x ≤ 255) := HB.out.2.1
        have HBEL : Hid (Below w.heap.size w w1) := hbel
        clear hst hset hpe hlen2 hown hbel
        go_wp2
        go_ret
        have hbi : BI (w1.setCell ⟨g, m, none⟩ (.int .u8 (x + 1))) (some ⟨g, 0, none⟩) (l.take m ++ [x + 1]).length (l.take m ++ [x + 1]) := by
          rw [HLEN2.out]
          exact BI.ofOwn HST.out (pend_range HR.out HPE.out)
        exact .inr ⟨_, g, cap, HPE.out, by rw [HLEN2.out]; rfl, hbi, by rw [HLEN2.out]; exact hcp.1, hcp.2.1, hcp.2.2, HBEL.out.setCell hcp.2.2 _⟩
    · go_wp2
      go_ret
      exact .inl ⟨pend_at_none l (fun j hj => HA.out j (by omega) (by have := HL.out; omega)), rfl, rfl⟩

/-- The two small functions that bound the lengths. -/
theorem bound_any (f : Nat) (hf : f = 5 ∨ f = 11) (a : Option Addr) (n c : Nat) (a' : Option Addr) (n' c' : Nat) (w : World) (hn : n ≤ maxLen) (hn' : n' ≤ maxLen) :
    Calls Try.prog f #[.slice a n c, .slice a' n' c'] w fun e w' => e = .returned (.bool (decide (n + n' ≤ 1048576))) ∧ w = w' := by
  unfold maxLen at hn hn'
  rcases hf with rfl | rfl
  · by_cases h1 : 1048576 < n
    · go_enter Try.func5, Try.ntmps5
      go_wp2
      go_ret
      exact ⟨ret_bool (by simp; omega), rfl⟩
    · by_cases h2 : 1048576 < n'
      · go_enter Try.func5, Try.ntmps5
        go_wp2
        go_ret
        exact ⟨ret_bool (by simp; omega), rfl⟩
      · by_cases h3 : 1048576 < n + n'
        · go_enter Try.func5, Try.ntmps5
          go_wp2
          go_ret
          exact ⟨ret_bool (by simp; omega), rfl⟩
        · go_enter Try.func5, Try.ntmps5
          go_wp2
          go_ret
          exact ⟨ret_bool (by simp; omega), rfl⟩
  · by_cases h1 : 1048576 < n
    · go_enter Try.func11, Try.ntmps11
      go_wp2
      go_ret
      exact ⟨ret_bool (by simp; omega), rfl⟩
    · by_cases h2 : 1048576 < n'
      · go_enter Try.func11, Try.ntmps11
        go_wp2
        go_ret
        exact ⟨ret_bool (by simp; omega), rfl⟩
      · by_cases h3 : 1048576 < n + n'
        · go_enter Try.func11, Try.ntmps11
          go_wp2
          go_ret
          exact ⟨ret_bool (by simp; omega), rfl⟩
        · go_enter Try.func11, Try.ntmps11
          go_wp2
          go_ret
          exact ⟨ret_bool (by simp; omega), rfl⟩
end Go.Proofs.Qxb6627581a
