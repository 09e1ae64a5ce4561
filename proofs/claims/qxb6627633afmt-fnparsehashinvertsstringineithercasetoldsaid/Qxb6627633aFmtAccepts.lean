/-
  THE LAW FnParseHashAcceptsExactlyFortyHexDigits, WALKED.
-/
import Derived.Test.Qxb6627633aFmtParse
namespace Go.Proofs.Qxb6627633aFmt
open Go.RowKit Go.Lib Plain
open Go.Extern.Stop (cell)
open Go.Stop (Interp)
set_option linter.unusedVariables false

theorem accepts_off (s : ByteArray) (w : World) (hs : s.size ≤ maxLen) (h : 1048576 < s.size) :
    Calls Tryf.prog 3 #[.string s] w fun e w' => e = .returned (.bool true) ∧ w = w' := by
  have hcon := bound_any s w hs
  rw [decide_eq_false (by omega)] at hcon
  go_enter Tryf.func3, Tryf.ntmps3
  go_wp2_with (go_at_call 5; refine hcon.mono ?_; rintro e w' ⟨rfl, rfl⟩)
  go_ret
  exact ⟨rfl, rfl⟩

/-- What ParseHash answers where the text is no name. -/
theorem parse_no (F : Interp) (s : ByteArray) (w : World) (hF : F.answers w.tape) (hs : s.size ≤ 1048576) (h : fortyHex s = false) :
    Calls Tryf.prog 6 #[.string s] w fun e w' => ∃ a, e = .returned (.tuple #[hv zeros, .iface 46 (.pointer (some a))]) ∧ Below w.heap.size w w' := by
  by_cases h40 : s.size = 40
  · refine parse_bad F s w hF h40 ?_
    unfold fortyHex at h
    rw [decide_eq_true h40, Bool.true_and] at h
    exact h
  · exact parse_short F s w hF hs h40

/-- A Hash stored into its new block: the world behind it is a letter. -/
theorem store_hash (w : World) {ops : Array Oper} {rest : List Oper} {o : Oper} {a : Act} {Q : Exit → Act → World → Prop} (hgd : o.guard = none) (x y : Operand) (ho : o.op = .store 24 x y)
    (g : Nat) (D : List UInt8) (hD : D.length = 20) (hx : a.eval x = .pointer (some ⟨g, 0, none⟩)) (hy : a.eval y = hv D) (B : Nat) (w0 : World) (old : Array Value) (hold : old.size = 20) (hg : w.heap[g]? = some (.cells old 24 (0, 0))) (hb : Below B w0 w) (hB : B ≤ g)
    (h : ∀ w', Hid (w'.heap[g]? = some (.cells (hc D) 24 (0, 0))) → Hid (Below B w0 w') → Hid (g < w'.heap.size) → wpList Tryf.prog ops Q rest (a.put o.dst undef) w') : wpList Tryf.prog ops Q (o :: rest) a w := by
  refine wpList_store_row hgd 24 x y ho g (hc D) hx hy 24 old hg (by rw [hc_size, hD]; exact Tryf.size24) (by rw [hc_size, hD, hold]) (hc_one _) (h _ (setRow_heap w g old _ 24 (0, 0) hg) (below_row hb hB _) ?_)
  rcases Nat.lt_or_ge g w.heap.size with h1 | h1
  · exact Nat.lt_of_lt_of_le h1 (by simp [World.setRow])
  · rw [Array.getElem?_eq_none h1] at hg; cases hg

/-- A Hash loaded (the operation's guard says yes, or it has none). -/
theorem load_hash (w : World) {ops : Array Oper} {rest : List Oper} {o : Oper} {a : Act} {Q : Exit → Act → World → Prop} (hgd : Region.wanted o (yielded ops a.tmps) = true) (x : Operand) (ho : o.op = .load 24 x)
    (g : Nat) (D : List UInt8) (hD : D.length = 20) (hx : a.eval x = .pointer (some ⟨g, 0, none⟩)) (hg : w.heap[g]? = some (.cells (hc D) 24 (0, 0)))
    (h : wpList Tryf.prog ops Q rest (a.put o.dst (hv D)) w) : wpList Tryf.prog ops Q (o :: rest) a w :=
  BigFrame.wpList_want hgd fun _ hK => wp_load_row 24 x ho g hx 24 (hc D) (0, 0) _ hg Tryf.underlying24 rfl (by rw [hc_size, hD]; exact Tryf.size24) (hK _ _ h)

set_option maxHeartbeats 1000000 in
set_option maxRecDepth 100000 in
theorem accepts_no (F : Interp) (s : ByteArray) (w : World) (hF : F.answers w.tape) (hs : s.size ≤ 1048576) (h : fortyHex s = false) :
    Calls Tryf.prog 3 #[.string s] w fun e w' => e = .returned (.bool true) ∧ Below w.heap.size w w' := by
  have hcon := bound_any s w (by unfold maxLen; omega)
  rw [decide_eq_true hs] at hcon
  have hcon6 := parse_no F s w hF hs h
  have HH : Hid (fortyHex s = false) := h
  clear h
  go_enter Tryf.func3, Tryf.ntmps3
  go_wp2_with (go_at_call 5; refine hcon.mono ?_; rintro e w' ⟨rfl, rfl⟩)
  refine hcon6.mono ?_
  rintro e w1 ⟨a, rfl, hbel⟩
  clear hcon hcon6
  have tok1 : True := trivial
  go_wp2_with (have _t := tok1; refine store_hash _ rfl _ _ rfl w1.heap.size zeros rfl rfl rfl w.heap.size w _ rfl (heap_alloc_new _ _) (hbel.alloc hbel.size _) hbel.size ?_; clear tok1; intro w2 hg2 hbel2 hsz2)
  have hcon7 := isForty_any s w2 hs
  rw [HH.out] at hcon7
  refine hcon7.mono ?_
  rintro e w3 ⟨rfl, rfl⟩
  clear hcon7
  have tok2 : True := trivial
  go_wp2_with (first
    | (go_at_call 8; refine (isZero_any _).mono ?_; rintro e w4 ⟨rfl, hbel4⟩)
    | (have _t := tok2; refine load_hash _ rfl _ rfl w1.heap.size zeros rfl rfl hg2.out ?_; clear tok2))
  go_ret
  exact ⟨rfl, hbel2.out.trans (hbel4.mono hbel2.out.size)⟩

set_option maxHeartbeats 1000000 in
set_option maxRecDepth 100000 in
theorem accepts_yes (s : ByteArray) (w : World) (h : fortyHex s = true) :
    Calls Tryf.prog 3 #[.string s] w fun e w' => e = .returned (.bool true) ∧ Below w.heap.size w w' := by
  have h2 : s.size = 40 ∧ s.data.toList.all isHex = true := by
    unfold fortyHex at h
    rw [Bool.and_eq_true, decide_eq_true_eq] at h
    exact h
  have hs : s.size ≤ 1048576 := by omega
  have hcon := bound_any s w (by unfold maxLen; omega)
  rw [decide_eq_true hs] at hcon
  have hcon6 := parse_good s w h2.1 h2.2
  obtain ⟨_, g2, g3⟩ := decode_good 20 s.data.toList (by rw [size_list]; omega) h2.2
  obtain ⟨D, hD⟩ : ∃ D, D = (Hx.decode s.data.toList).1 := ⟨_, rfl⟩
  rw [← hD] at hcon6 g2 g3
  have G2 : Hid (D.length = 20) := g2
  obtain ⟨R, hR⟩ : ∃ R : ByteArray, R = ⟨(Hx.encode D).toArray⟩ := ⟨_, rfl⟩
  have hcon9 : ∀ w, Calls Tryf.prog 9 #[hv D] w fun e w' => e = .returned (.string R) ∧ Below w.heap.size w w' := fun w => by rw [hR]; exact string_any D g2 w
  have hcon10 : ∀ w, Calls Tryf.prog 10 #[.string s] w fun e w' => e = .returned (.string R) ∧ Below w.heap.size w w' := fun w => by rw [hR, g3]; exact lower_any s w hs
  have HC9 : Hid (∀ w, Calls Tryf.prog 9 #[hv D] w fun e w' => e = .returned (.string R) ∧ Below w.heap.size w w') := hcon9
  have HC10 : Hid (∀ w, Calls Tryf.prog 10 #[.string s] w fun e w' => e = .returned (.string R) ∧ Below w.heap.size w w') := hcon10
  have HH : Hid (fortyHex s = true) := h
  clear h h2 hD g2 g3 hR hcon9 hcon10
  go_enter Tryf.func3, Tryf.ntmps3
  go_wp2_with (go_at_call 5; refine hcon.mono ?_; rintro e w' ⟨rfl, rfl⟩)
  refine hcon6.mono ?_
  rintro e w1 ⟨rfl, hbel⟩
  clear hcon hcon6
  have tok1 : True := trivial
  go_wp2_with (have _t := tok1; refine store_hash _ rfl _ _ rfl w1.heap.size D G2.out rfl rfl w.heap.size w _ rfl (heap_alloc_new _ _) (hbel.alloc hbel.size _) hbel.size ?_; clear tok1; intro w2 hg2 hbel2 hsz2)
  have hcon7 := isForty_any s w2 hs
  rw [HH.out] at hcon7
  refine hcon7.mono ?_
  rintro e w3 ⟨rfl, rfl⟩
  clear hcon7
  have tok2 : True := trivial
  go_wp2_with (first
    | (go_at_call 9; refine (HC9.out _).mono ?_; rintro e w4 ⟨rfl, hbel4⟩)
    | (go_at_call 10; refine (HC10.out _).mono ?_; rintro e w5 ⟨rfl, hbel5⟩)
    | (have _t := tok2; refine load_hash _ rfl _ rfl w1.heap.size D G2.out rfl hg2.out ?_; clear tok2))
  go_ret
  have b4 : Below w.heap.size w w4 := hbel2.out.trans (hbel4.mono hbel2.out.size)
  exact ⟨rfl, b4.trans (hbel5.mono b4.size)⟩

theorem accepts_any (F : Interp) (s : ByteArray) (w : World) (hF : F.answers w.tape) (hs : s.size ≤ maxLen) :
    Calls Tryf.prog 3 #[.string s] w fun e w' => e = .returned (.bool true) ∧ Below w.heap.size w w' := by
  by_cases h : 1048576 < s.size
  · refine (accepts_off s w hs h).mono ?_
    rintro e w' ⟨rfl, rfl⟩
    exact ⟨rfl, Below.refl _ _⟩
  · cases hf : fortyHex s with
    | true => exact accepts_yes s w hf
    | false => exact accepts_no F s w hF (by omega) hf
end Go.Proofs.Qxb6627633aFmt
