/-
  THE PLAIN LAWS: ASCII letters in lower case, over bytes and lists of bytes. No Go in sight.
-/
namespace Go.Proofs.Qxb6627662a.Plain

def low (c : UInt8) : UInt8 := if 65 ≤ c.toNat ∧ c.toNat ≤ 90 then c + 32 else c
def isUp (c : UInt8) : Bool := decide (65 ≤ c.toNat) && decide (c.toNat ≤ 90)
/-- 'c | 0x20', as a number. -/
def or32 (n : Nat) : Nat := if n / 32 % 2 = 1 then n else n + 32

theorem low_yes (c : UInt8) (h : 65 ≤ c.toNat ∧ c.toNat ≤ 90) : (low c).toNat = c.toNat + 32 := by
  unfold low
  rw [if_pos h, UInt8.toNat_add]
  show (c.toNat + 32) % 256 = _
  omega
theorem low_no (c : UInt8) (h : ¬ (65 ≤ c.toNat ∧ c.toNat ≤ 90)) : low c = c := by
  unfold low
  rw [if_neg h]

theorem low_cases (c : UInt8) : (65 ≤ c.toNat ∧ c.toNat ≤ 90 ∧ (low c).toNat = c.toNat + 32) ∨ (¬ (65 ≤ c.toNat ∧ c.toNat ≤ 90) ∧ (low c).toNat = c.toNat) := by
  by_cases h : 65 ≤ c.toNat ∧ c.toNat ≤ 90
  · exact .inl ⟨h.1, h.2, low_yes c h⟩
  · exact .inr ⟨h, by rw [low_no c h]⟩

theorem low_low (c : UInt8) : low (low c) = low c := by
  apply low_no
  rcases low_cases c with ⟨h1, h2, h3⟩ | ⟨h1, h3⟩
  · omega
  · omega

theorem not_up (c : UInt8) : isUp (low c) = false := by
  unfold isUp
  rcases low_cases c with ⟨h1, h2, h3⟩ | ⟨h1, h3⟩
  · rw [Bool.and_eq_false_iff]; simp; omega
  · rw [Bool.and_eq_false_iff]; simp; omega

/-- Two bytes are alike in the form that LowerDomain gives them just if they are the same, or two letters that differ in bit 0x20 alone. -/
theorem fold_iff (x y : UInt8) : low x = low y ↔ x.toNat = y.toNat ∨ (or32 x.toNat = or32 y.toNat ∧ 97 ≤ or32 x.toNat ∧ or32 x.toNat ≤ 122) := by
  rw [← UInt8.toNat_inj]
  have hx := x.toNat_lt
  have hy := y.toNat_lt
  have hox : (x.toNat / 32 % 2 = 1 ∧ or32 x.toNat = x.toNat) ∨ (x.toNat / 32 % 2 = 0 ∧ or32 x.toNat = x.toNat + 32) := by
    unfold or32
    by_cases h : x.toNat / 32 % 2 = 1
    · exact .inl ⟨h, by rw [if_pos h]⟩
    · exact .inr ⟨by omega, by rw [if_neg h]⟩
  have hoy : (y.toNat / 32 % 2 = 1 ∧ or32 y.toNat = y.toNat) ∨ (y.toNat / 32 % 2 = 0 ∧ or32 y.toNat = y.toNat + 32) := by
    unfold or32
    by_cases h : y.toNat / 32 % 2 = 1
    · exact .inl ⟨h, by rw [if_pos h]⟩
    · exact .inr ⟨by omega, by rw [if_neg h]⟩
  rcases low_cases x with ⟨h1, h2, h3⟩ | ⟨h1, h3⟩ <;> rcases low_cases y with ⟨g1, g2, g3⟩ | ⟨g1, g3⟩ <;> rcases hox with ⟨a1, a2⟩ | ⟨a1, a2⟩ <;> rcases hoy with ⟨b1, b2⟩ | ⟨b1, b2⟩ <;> omega

/-- The first k bytes of both are alike. -/
def LowAlike (a b : List UInt8) (k : Nat) : Prop := (a.map low).take k = (b.map low).take k

theorem LowAlike.zero (a b : List UInt8) : LowAlike a b 0 := by simp [LowAlike]

theorem LowAlike.step {a b : List UInt8} {k : Nat} {x y : UInt8} (h : LowAlike a b k) (hx : a[k]? = some x) (hy : b[k]? = some y) (e : low x = low y) : LowAlike a b (k + 1) := by
  unfold LowAlike at h ⊢
  have hxa := (List.getElem?_eq_some_iff.1 hx).1
  have hyb := (List.getElem?_eq_some_iff.1 hy).1
  rw [List.take_succ_eq_append_getElem (by simpa using hxa), List.take_succ_eq_append_getElem (by simpa using hyb), h]
  have e1 : (a.map low)[k]'(by simpa using hxa) = low x := by
    have := (List.getElem?_eq_some_iff.1 hx).2
    simp [this]
  have e2 : (b.map low)[k]'(by simpa using hyb) = low y := by
    have := (List.getElem?_eq_some_iff.1 hy).2
    simp [this]
  rw [e1, e2, e]

theorem LowAlike.whole {a b : List UInt8} {k : Nat} (h : LowAlike a b k) (ha : a.length ≤ k) (hb : b.length ≤ k) : (a.map low == b.map low) = true := by
  unfold LowAlike at h
  rw [List.take_of_length_le (by simpa using ha), List.take_of_length_le (by simpa using hb)] at h
  simp [h]

theorem unlike {a b : List UInt8} {k : Nat} {x y : UInt8} (hx : a[k]? = some x) (hy : b[k]? = some y) (e : low x ≠ low y) : (a.map low == b.map low) = false := by
  cases h : a.map low == b.map low with
  | false => rfl
  | true =>
    have h1 := congrArg (fun l => l[k]?) (beq_iff_eq.1 h)
    simp only [List.getElem?_map, hx, hy, Option.map_some, Option.some.injEq] at h1
    exact absurd h1 e

theorem unlike_length {a b : List UInt8} (e : a.length ≠ b.length) : (a.map low == b.map low) = false := by
  cases h : a.map low == b.map low with
  | false => rfl
  | true =>
    have h1 := congrArg List.length (beq_iff_eq.1 h)
    simp at h1
    exact absurd h1 e

theorem map_low_low (l : List UInt8) : (l.map low).map low = l.map low := by
  rw [List.map_map]
  exact List.map_congr_left fun c _ => low_low c

theorem none_up (l : List UInt8) : ∀ c ∈ l.map low, isUp c = false := by
  intro c hc
  obtain ⟨x, _, rfl⟩ := List.mem_map.1 hc
  exact not_up x

end Go.Proofs.Qxb6627662a.Plain
