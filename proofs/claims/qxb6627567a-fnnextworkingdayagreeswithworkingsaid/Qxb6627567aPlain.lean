namespace Go.Proofs.Qxb6627567a.Plain

/-- Pigeons: n different numbers that all lie in a list: the list is at least n long. -/
theorem pigeon : ∀ (n : Nat) (f : Nat → Int) (ks : List Int), (∀ i j, i < n → j < n → f i = f j → i = j) → (∀ i, i < n → f i ∈ ks) → n ≤ ks.length
  | 0, _, _, _, _ => Nat.zero_le _
  | n+1, f, ks, inj, mem => by
    have h := pigeon n f (ks.erase (f n)) (fun i j hi hj e => inj i j (by omega) (by omega) e) (fun i hi => by
      have hne : f i ≠ f n := fun e => by have := inj i n (by omega) (by omega) e; omega
      exact (List.mem_erase_of_ne hne).2 (mem i (by omega)))
    have hm := mem n (by omega)
    rw [List.length_erase_of_mem hm] at h
    have := List.length_pos_of_mem hm
    omega

/-- Is d a working day where no mark says? -/
def plainDay (d : Int) : Bool := d.tmod 7 % 7 != 2 && d.tmod 7 % 7 != 3

def wk (M : Int → Option Bool) (d : Int) : Bool := match M d with | some b => b | none => plainDay d

theorem plainDay_of (d : Int) (h : d % 7 = 4 ∨ d % 7 = 5) : plainDay d = true := by
  have e : d.tmod 7 % 7 = d % 7 := by
    rw [Int.tmod_eq_emod]
    split <;> omega
  unfold plainDay
  rw [e]
  rcases h with h | h <;> simp [h]

/-- Some day within 229384 days behind d is a working day, if at most 65536 days are marked. -/
theorem some_day (M : Int → Option Bool) (ks : List Int) (hk : ∀ x, M x ≠ none → x ∈ ks) (hl : ks.length ≤ 65536) (d : Int) : ∃ j : Int, 1 ≤ j ∧ j ≤ 229384 ∧ wk M (d + j) = true := by
  apply Classical.byContradiction
  intro hno
  have hall : ∀ j : Int, 1 ≤ j → j ≤ 229384 → wk M (d + j) = false := fun j h1 h2 => by
    cases hw : wk M (d + j) with
    | false => rfl
    | true => exact absurd ⟨j, h1, h2, hw⟩ hno
  -- the first day behind d that is 4 modulo 7
  obtain ⟨s, hs1, hs2, hs3⟩ : ∃ s : Int, 1 ≤ s ∧ s ≤ 7 ∧ (d + s) % 7 = 4 := ⟨(3 - d) % 7 + 1, by omega, by omega, by omega⟩
  have := pigeon 65537 (fun i => d + (s + 7 * ((i / 2 : Nat) : Int) + ((i % 2 : Nat) : Int))) ks (fun i j _ _ e => by omega) (fun i hi => by
    refine hk _ fun hM => ?_
    have hf := hall (s + 7 * ((i / 2 : Nat) : Int) + ((i % 2 : Nat) : Int)) (by omega) (by omega)
    unfold wk at hf
    rw [hM] at hf
    have := plainDay_of (d + (s + 7 * ((i / 2 : Nat) : Int) + ((i % 2 : Nat) : Int))) (by omega)
    simp only at hf
    rw [this] at hf
    exact absurd hf (by decide))
  omega

/-- r is the first working day behind d. -/
def First (M : Int → Option Bool) (d r : Int) : Prop := d < r ∧ wk M r = true ∧ ∀ x, d < x → x < r → wk M x = false

theorem First.same {M : Int → Option Bool} {d e r n : Int} (hr : First M d r) (hn : First M e n) (h1 : d ≤ e) (h2 : e < r) : n = r := by
  obtain ⟨a1, a2, a3⟩ := hr
  obtain ⟨b1, b2, b3⟩ := hn
  rcases Int.lt_trichotomy n r with h | h | h
  · have := a3 n (by omega) h; rw [this] at b2; cases b2
  · exact h
  · have := b3 r h2 h; rw [this] at a2; cases a2

end Go.Proofs.Qxb6627567a.Plain
