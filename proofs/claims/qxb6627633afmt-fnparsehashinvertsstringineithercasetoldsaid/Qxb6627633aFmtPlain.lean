/-
  THE PLAIN LAWS: hexadecimal digits, lower and upper case, over lists of bytes. No Go in sight.
-/
import Derived.Lib.HexFns2
namespace Go.Proofs.Qxb6627633aFmt.Plain
open Go.Lib

def low (c : UInt8) : UInt8 := if 65 ≤ c.toNat ∧ c.toNat ≤ 90 then c + 32 else c
def up (c : UInt8) : UInt8 := if 97 ≤ c.toNat ∧ c.toNat ≤ 122 then c - 32 else c
def isHex (c : UInt8) : Bool := (decide (48 ≤ c.toNat) && decide (c.toNat ≤ 57)) || (decide (97 ≤ c.toNat) && decide (c.toNat ≤ 102)) || (decide (65 ≤ c.toNat) && decide (c.toNat ≤ 70))

theorem low_yes (c : UInt8) (h : 65 ≤ c.toNat ∧ c.toNat ≤ 90) : (low c).toNat = c.toNat + 32 := by
  unfold low
  rw [if_pos h, UInt8.toNat_add]
  show (c.toNat + 32) % 256 = _
  omega
theorem low_no (c : UInt8) (h : ¬ (65 ≤ c.toNat ∧ c.toNat ≤ 90)) : low c = c := by
  unfold low
  rw [if_neg h]
theorem up_yes (c : UInt8) (h : 97 ≤ c.toNat ∧ c.toNat ≤ 122) : (up c).toNat = c.toNat - 32 := by
  unfold up
  rw [if_pos h, UInt8.toNat_sub]
  show (256 - 32 + c.toNat) % 256 = _
  omega
theorem up_no (c : UInt8) (h : ¬ (97 ≤ c.toNat ∧ c.toNat ≤ 122)) : up c = c := by
  unfold up
  rw [if_neg h]

set_option maxRecDepth 100000 in
theorem hex_fin : ∀ n : Fin 256, (isHex (UInt8.ofNat n.val) = decide (Hx.v (UInt8.ofNat n.val) ≤ 15)) ∧ (Hx.v (UInt8.ofNat n.val) ≤ 15 → Hx.digit (Hx.v (UInt8.ofNat n.val)) = low (UInt8.ofNat n.val)) := by decide +kernel

theorem hex_all (c : UInt8) : (isHex c = decide (Hx.v c ≤ 15)) ∧ (Hx.v c ≤ 15 → Hx.digit (Hx.v c) = low c) := by
  have h := hex_fin ⟨c.toNat, c.toNat_lt⟩
  simp only [UInt8.ofNat_toNat] at h
  exact h

set_option maxRecDepth 100000 in
theorem digit_fin : ∀ n : Fin 16, Hx.v (Hx.digit n.val) = n.val ∧ Hx.v (up (Hx.digit n.val)) = n.val := by decide +kernel

theorem digit_all (d : Nat) (h : d < 16) : Hx.v (Hx.digit d) = d ∧ Hx.v (up (Hx.digit d)) = d := digit_fin ⟨d, h⟩

/-- A text of hexadecimal digits, an even number of them: it is decoded whole, and what is decoded is written again as that text in lower case. -/
theorem decode_good : ∀ (n : Nat) (l : List UInt8), l.length = 2 * n → l.all isHex = true → (Hx.decode l).2 = .ok ∧ (Hx.decode l).1.length = n ∧ Hx.encode (Hx.decode l).1 = l.map low
  | 0, l, h, _ => by
    obtain rfl : l = [] := List.eq_nil_of_length_eq_zero (by omega)
    rw [Hx.decode_nil]
    exact ⟨rfl, rfl, rfl⟩
  | n + 1, [], h, _ => by simp at h
  | n + 1, [_], h, _ => by simp at h; omega
  | n + 1, p :: q :: t, h, ha => by
    simp only [List.all_cons, Bool.and_eq_true] at ha
    obtain ⟨hp, hq, ht⟩ := ha
    rw [(hex_all p).1, decide_eq_true_eq] at hp
    rw [(hex_all q).1, decide_eq_true_eq] at hq
    obtain ⟨h1, h2, h3⟩ := decode_good n t (by simp at h; omega) ht
    rw [Hx.decode_two, if_neg (by omega), if_neg (by omega)]
    have e : (UInt8.ofNat (Hx.v p * 16 + Hx.v q)).toNat = Hx.v p * 16 + Hx.v q := by
      rw [UInt8.toNat_ofNat']
      omega
    refine ⟨h1, by simp [h2], ?_⟩
    rw [Hx.encode_cons, e, show (Hx.v p * 16 + Hx.v q) / 16 = Hx.v p by omega, show (Hx.v p * 16 + Hx.v q) % 16 = Hx.v q by omega, h3, (hex_all p).2 hp, (hex_all q).2 hq]
    rfl

/-- A text with a byte that is no digit, an even number of bytes: the decoding ends at such a byte. -/
theorem decode_bad : ∀ (n : Nat) (l : List UInt8), l.length = 2 * n → l.all isHex = false → ∃ c, (Hx.decode l).2 = .bad c
  | 0, l, h, ha => by
    obtain rfl : l = [] := List.eq_nil_of_length_eq_zero (by omega)
    simp at ha
  | n + 1, [], h, _ => by simp at h
  | n + 1, [_], h, _ => by simp at h; omega
  | n + 1, p :: q :: t, h, ha => by
    rw [Hx.decode_two]
    by_cases hp : 15 < Hx.v p
    · rw [if_pos hp]; exact ⟨p, rfl⟩
    · rw [if_neg hp]
      by_cases hq : 15 < Hx.v q
      · rw [if_pos hq]; exact ⟨q, rfl⟩
      · rw [if_neg hq]
        have e1 : isHex p = true := by rw [(hex_all p).1]; simp; omega
        have e2 : isHex q = true := by rw [(hex_all q).1]; simp; omega
        simp only [List.all_cons, e1, e2, Bool.true_and] at ha
        obtain ⟨c, hc⟩ := decode_bad n t (by simp at h; omega) ha
        exact ⟨c, hc⟩

/-- What is written is read back, in lower case as written and in upper case. -/
theorem decode_encode (l : List UInt8) : Hx.decode (Hx.encode l) = (l, .ok) ∧ Hx.decode ((Hx.encode l).map up) = (l, .ok) := by
  induction l with
  | nil => exact ⟨Hx.decode_nil, Hx.decode_nil⟩
  | cons b t ih =>
    have hb := b.toNat_lt
    obtain ⟨h1, h2⟩ := digit_all (b.toNat / 16) (by omega)
    obtain ⟨h3, h4⟩ := digit_all (b.toNat % 16) (by omega)
    have e : UInt8.ofNat (b.toNat / 16 * 16 + b.toNat % 16) = b := by
      rw [show b.toNat / 16 * 16 + b.toNat % 16 = b.toNat by omega]
      simp
    rw [Hx.encode_cons]
    constructor
    · rw [Hx.decode_two, h1, h3, if_neg (by omega), if_neg (by omega), e, ih.1]
    · simp only [List.map_cons]
      rw [Hx.decode_two, h2, h4, if_neg (by omega), if_neg (by omega), e, ih.2]

end Go.Proofs.Qxb6627633aFmt.Plain
