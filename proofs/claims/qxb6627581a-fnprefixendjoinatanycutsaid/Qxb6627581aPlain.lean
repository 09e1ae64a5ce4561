/-
  THE PLAIN LAWS: what PrefixEnd, compareBytes, startsWith answer, over lists of numbers. No Go in sight.
-/
namespace Go.Proofs.Qxb6627581a.Plain

/-- PrefixEnd: the last number that is not 255 is raised by one, what stands behind it falls away; none: there is no such number. -/
def pend : List Int → Option (List Int)
  | [] => none
  | x :: xs => match pend xs with
    | some e => some (x :: e)
    | none => if x = 255 then none else some [x + 1]

/-- compareBytes. -/
def cmp : List Int → List Int → Int
  | [], [] => 0
  | [], _ :: _ => -1
  | _ :: _, [] => 1
  | a :: as, b :: bs => if a < b then -1 else if b < a then 1 else cmp as bs

/-- startsWith(k, p). -/
def starts : List Int → List Int → Bool
  | _, [] => true
  | [], _ :: _ => false
  | a :: k, b :: p => if a = b then starts k p else false

theorem pend_append (p s : List Int) : pend (p ++ s) = match pend s with | some e => some (p ++ e) | none => pend p := by
  induction p with
  | nil => cases h : pend s <;> simp [h, pend]
  | cons x p ih =>
    simp only [List.cons_append, pend, ih]
    cases h : pend s <;> simp

theorem pend_none (l : List Int) : pend l = none ↔ l.all (· == 255) = true := by
  induction l with
  | nil => simp [pend]
  | cons x xs ih =>
    simp only [pend, List.all_cons, Bool.and_eq_true, ← ih]
    cases h : pend xs with
    | some e => simp
    | none => by_cases hx : x = 255 <;> simp [hx]

theorem cmp_self (l : List Int) : cmp l l = 0 := by
  induction l with
  | nil => rfl
  | cons x xs ih => simp [cmp, ih]

theorem pend_some {l e : List Int} (h : pend l = some e) : 0 < e.length ∧ e.length ≤ l.length ∧ e.take (e.length - 1) = l.take (e.length - 1) ∧ 0 < cmp e l := by
  induction l generalizing e with
  | nil => simp [pend] at h
  | cons x xs ih =>
    simp only [pend] at h
    cases hp : pend xs with
    | some e' =>
      rw [hp] at h
      simp only [Option.some.injEq] at h
      subst h
      obtain ⟨h1, h2, h3, h4⟩ := ih hp
      refine ⟨by simp, by simp; omega, ?_, by simp [cmp, h4]⟩
      cases e' with
      | nil => simp at h1
      | cons y ys => simpa using h3
    | none =>
      rw [hp] at h
      simp only at h
      split at h
      · cases h
      · simp only [Option.some.injEq] at h
        subst h
        refine ⟨by simp, by simp, by simp, ?_⟩
        have h1 : ¬ (x + 1 < x) := by omega
        have h2 : x < x + 1 := by omega
        simp [cmp, h1, h2]

/-- What is kept of the last raised number: bytes stay bytes. -/
theorem pend_range {l e : List Int} (hl : ∀ x ∈ l, 0 ≤ x ∧ x ≤ 255) (h : pend l = some e) : ∀ x ∈ e, 0 ≤ x ∧ x ≤ 255 := by
  induction l generalizing e with
  | nil => simp [pend] at h
  | cons x xs ih =>
    have hx := hl x (by simp)
    have hxs : ∀ y ∈ xs, 0 ≤ y ∧ y ≤ 255 := fun y hy => hl y (by simp [hy])
    simp only [pend] at h
    cases hp : pend xs with
    | some e' =>
      rw [hp] at h
      simp only [Option.some.injEq] at h
      subst h
      intro y hy
      rcases List.mem_cons.1 hy with rfl | hy
      · exact hx
      · exact ih hxs hp y hy
    | none =>
      rw [hp] at h
      simp only at h
      split at h
      · cases h
      · simp only [Option.some.injEq] at h
        subst h
        intro y hy
        simp at hy
        omega

theorem starts_split {k p : List Int} (h : starts k p = true) : ∃ t, k = p ++ t := by
  induction p generalizing k with
  | nil => exact ⟨k, rfl⟩
  | cons b p ih =>
    cases k with
    | nil => simp [starts] at h
    | cons a k =>
      simp only [starts] at h
      split at h
      · rename_i hab
        obtain ⟨t, rfl⟩ := ih h
        exact ⟨t, by simp [hab]⟩
      · cases h

theorem starts_append (p t : List Int) : starts (p ++ t) p = true := by
  induction p with
  | nil => simp [starts]
  | cons b p ih => simp [starts, ih]

/-- THE RANGE: k starts with p just if p ≤ k and (there is no end, or k < the end). -/
theorem range_law (p k : List Int) (hk : ∀ x ∈ k, x ≤ 255) (hp : ∀ x ∈ p, x ≤ 255) :
    starts k p = (decide (cmp p k ≤ 0) && (match pend p with | none => true | some e => decide (cmp k e < 0))) := by
  induction p generalizing k with
  | nil => cases k <;> simp [starts, cmp, pend]
  | cons x p ih =>
    cases k with
    | nil => simp [starts, cmp]
    | cons y k =>
      have ih' := ih k (fun z hz => hk z (by simp [hz])) (fun z hz => hp z (by simp [hz]))
      have hy := hk y (by simp)
      have hx := hp x (by simp)
      rcases Int.lt_trichotomy y x with h | h | h
      · have e1 : ¬ y = x := by omega
        have e2 : ¬ x < y := by omega
        simp [starts, cmp, e1, e2, h]
      · subst h
        simp only [starts, cmp, if_true, Int.lt_irrefl, if_false, ih', pend]
        cases hpd : pend p with
        | some e => simp [cmp]
        | none =>
          by_cases h255 : y = 255
          · simp [h255]
          · have e1 : y < y + 1 := by omega
            simp [h255, cmp, e1]
      · have e1 : ¬ y = x := by omega
        simp only [starts, cmp, e1, if_false, h, if_true, pend]
        have e2 : ¬ y < x := by omega
        have e3 : ¬ (y = x ∧ True) := by omega
        cases hpd : pend p with
        | some e => simp [cmp, h, e2]
        | none =>
          by_cases h255 : x = 255
          · omega
          · simp only [h255, if_false]
            have e4 : ¬ y < x + 1 := by omega
            by_cases e5 : x + 1 < y
            · simp [cmp, e4, e5]
            · cases k <;> simp [cmp, e4, e5]

/-- THE NESTED RANGE. -/
theorem nest_law {p k e : List Int} (hk : ∀ x ∈ k, 0 ≤ x ∧ x ≤ 255) (hp : ∀ x ∈ p, 0 ≤ x ∧ x ≤ 255) (hs : starts k p = true) (he : pend p = some e) : ∃ ek, pend k = some ek ∧ cmp ek e ≤ 0 := by
  obtain ⟨t, rfl⟩ := starts_split hs
  rw [pend_append]
  cases ht : pend t with
  | none => exact ⟨e, he, by rw [cmp_self]; omega⟩
  | some et =>
    refine ⟨p ++ et, rfl, ?_⟩
    have hr := pend_range (l := t) (fun x hx => hk x (by simp [hx])) ht
    have := range_law p (p ++ et) (fun x hx => by
      rcases List.mem_append.1 hx with h | h
      · exact (hp x h).2
      · exact (hr x h).2) (fun x hx => (hp x hx).2)
    rw [starts_append, he] at this
    have h2 : cmp (p ++ et) e < 0 := by
      have h3 := this.symm
      simp only [Bool.and_eq_true, decide_eq_true_eq] at h3
      exact h3.2
    omega

theorem cmp_range (a b : List Int) : cmp a b = -1 ∨ cmp a b = 0 ∨ cmp a b = 1 := by
  induction a generalizing b with
  | nil => cases b <;> simp [cmp]
  | cons x a ih =>
    cases b with
    | nil => simp [cmp]
    | cons y b =>
      simp only [cmp]
      split
      · simp
      · split
        · simp
        · exact ih b

/-! ### for the loops -/
/-- Up to place i the two are the same: compare behind it. -/
theorem cmp_drop (a b : List Int) (i : Nat) (h : a.take i = b.take i) (ha : i ≤ a.length) (hb : i ≤ b.length) : cmp a b = cmp (a.drop i) (b.drop i) := by
  induction i generalizing a b with
  | zero => simp
  | succ i ih =>
    cases a with
    | nil => simp at ha
    | cons x a =>
      cases b with
      | nil => simp at hb
      | cons y b =>
        simp only [List.take_succ_cons, List.cons.injEq] at h
        obtain ⟨rfl, h⟩ := h
        simp only [List.drop_succ_cons, cmp, Int.lt_irrefl, if_false]
        exact ih a b h (by simpa using ha) (by simpa using hb)

theorem take_snoc (l : List Int) (i : Nat) (h : i < l.length) : l.take (i + 1) = l.take i ++ [l.getD i 0] := by
  rw [List.take_succ_eq_append_getElem h]
  simp [List.getD, List.getElem?_eq_getElem h]

theorem drop_cons (l : List Int) (i : Nat) (h : i < l.length) : l.drop i = l.getD i 0 :: l.drop (i + 1) := by
  rw [List.drop_eq_getElem_cons h]
  simp [List.getD, List.getElem?_eq_getElem h]

theorem take_both {a b : List Int} {i : Nat} (ha : i < a.length) (hb : i < b.length) (h : a.take i = b.take i) (hx : a.getD i 0 = b.getD i 0) : a.take (i + 1) = b.take (i + 1) := by
  rw [take_snoc a i ha, take_snoc b i hb, h, hx]

theorem cmp_less {a b : List Int} {i : Nat} (ha : i < a.length) (hb : i < b.length) (h : a.take i = b.take i) (hx : a.getD i 0 < b.getD i 0) : cmp a b = -1 := by
  rw [cmp_drop a b i h (by omega) (by omega), drop_cons a i ha, drop_cons b i hb]
  simp only [cmp, hx, if_true]

theorem cmp_more {a b : List Int} {i : Nat} (ha : i < a.length) (hb : i < b.length) (h : a.take i = b.take i) (hx : b.getD i 0 < a.getD i 0) : cmp a b = 1 := by
  rw [cmp_drop a b i h (by omega) (by omega), drop_cons a i ha, drop_cons b i hb]
  have : ¬ a.getD i 0 < b.getD i 0 := by omega
  simp only [cmp, hx, if_true, this, if_false]

theorem cmp_end {a b : List Int} {i : Nat} (h : a.take i = b.take i) (ha : i ≤ a.length) (hb : i ≤ b.length) (hi : i = a.length ∨ i = b.length) : cmp a b = if a.length < b.length then -1 else if b.length < a.length then 1 else 0 := by
  rw [cmp_drop a b i h ha hb]
  rcases hi with rfl | rfl
  · rw [List.drop_length]
    by_cases hl : a.length < b.length
    · rw [if_pos hl, drop_cons b _ hl]; rfl
    · rw [if_neg hl, if_neg (by omega), List.drop_eq_nil_of_le (by omega)]; rfl
  · rw [List.drop_length]
    by_cases hl : b.length < a.length
    · rw [if_neg (by omega), if_pos hl, drop_cons a _ hl]; rfl
    · rw [if_neg (by omega), if_neg hl, List.drop_eq_nil_of_le (by omega)]; rfl

/-- PrefixEnd's loop: behind place i all is 255, place i is not. -/
theorem pend_at (l : List Int) (i : Nat) (hi : i < l.length) (h : ∀ j, i < j → j < l.length → l.getD j 0 = 255) (hx : l.getD i 0 ≠ 255) : pend l = some (l.take i ++ [l.getD i 0 + 1]) := by
  have hd : pend (l.drop (i + 1)) = none := by
    rw [pend_none, List.all_eq_true]
    intro x hx'
    obtain ⟨j, hj, rfl⟩ := List.mem_iff_getElem.1 hx'
    have hj' : i + 1 + j < l.length := by simp at hj; omega
    have := h (i + 1 + j) (by omega) hj'
    simp [List.getD, List.getElem?_eq_getElem hj'] at this
    simp [this]
  have e : l = l.take i ++ (l.getD i 0 :: l.drop (i + 1)) := by
    rw [← drop_cons l i hi, List.take_append_drop]
  have e2 := pend_append (l.take i) (l.getD i 0 :: l.drop (i + 1))
  rw [← e] at e2
  rw [e2]
  simp only [pend, hd, if_neg hx]

theorem pend_at_none (l : List Int) (h : ∀ j, j < l.length → l.getD j 0 = 255) : pend l = none := by
  rw [pend_none, List.all_eq_true]
  intro x hx
  obtain ⟨j, hj, rfl⟩ := List.mem_iff_getElem.1 hx
  have := h j hj
  simp [List.getD, List.getElem?_eq_getElem hj] at this
  simp [this]

theorem starts_of_take {k p : List Int} (h : k.take p.length = p) : starts k p = true := by
  have : k = p ++ k.drop p.length := by
    have := List.take_append_drop p.length k
    rw [h] at this
    exact this.symm
  rw [this]
  exact starts_append _ _

theorem starts_short {k p : List Int} (h : k.length < p.length) : starts k p = false := by
  cases hs : starts k p with
  | false => rfl
  | true =>
    obtain ⟨t, rfl⟩ := starts_split hs
    simp at h
    omega

theorem starts_differ {k p : List Int} {i : Nat} (hk : i < k.length) (hp : i < p.length) (hx : k.getD i 0 ≠ p.getD i 0) : starts k p = false := by
  cases hs : starts k p with
  | false => rfl
  | true =>
    obtain ⟨t, rfl⟩ := starts_split hs
    exact absurd (by simp [List.getD, List.getElem?_append_left hp]) hx

theorem lists_differ {a b : List Int} {i : Nat} (hx : a.getD i 0 ≠ b.getD i 0) : (a == b) = false := by
  cases h : a == b with
  | false => rfl
  | true => rw [beq_iff_eq.1 h] at hx; exact absurd rfl hx

theorem lengths_differ {a b : List Int} (h : a.length ≠ b.length) : (a == b) = false := by
  cases e : a == b with
  | false => rfl
  | true => rw [beq_iff_eq.1 e] at h; exact absurd rfl h

theorem same_of_take {a b : List Int} {n : Nat} (ha : a.length ≤ n) (hb : b.length ≤ n) (h : a.take n = b.take n) : (a == b) = true := by
  rw [List.take_of_length_le ha, List.take_of_length_le hb] at h
  simp [h]

theorem getD_left (a b : List Int) (i : Nat) (h : i < a.length) : (a ++ b).getD i 0 = a.getD i 0 := by
  simp [List.getD, List.getElem?_append_left h]

theorem getD_right (a b : List Int) (i : Nat) : (a ++ b).getD (a.length + i) 0 = b.getD i 0 := by
  simp [List.getD, List.getElem?_append_right]

end Go.Proofs.Qxb6627581a.Plain
