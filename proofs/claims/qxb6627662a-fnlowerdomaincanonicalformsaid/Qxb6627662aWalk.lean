/-
  THE WALKS OF LowerDomain, foldEqASCII, hasUpperASCII and the two small functions that bound the lengths.
-/
import Derived.Test.Qxb6627662aPlain
import Derived.Test.Qxb6627662aRows
import Derived.WalkKit
import Derived.WalkSpells
import Derived.Below
import Derived.Lib.ConvBytes
import Derived.Laws.BytesArg
import Derived.Laws.BitsAllLaws
namespace Go.Proofs.Qxb6627662a
open Go.RowKit Plain
set_option linter.unusedVariables false

theorem ret_bool {a b : Bool} (h : a = b) : Ending.returned (.bool a) = .returned (.bool b) := by rw [h]
theorem size_list (s : ByteArray) : s.data.toList.length = s.size := by rw [Array.length_toList]; rfl
theorem byte_at (s : ByteArray) (k : Nat) (h : k < s.size) : s.data.toList[k]? = some s[k] := by
  rw [List.getElem?_eq_getElem (by rw [size_list]; exact h)]
  rfl

/-- n cells of block G, the numbers f, none of them frozen. -/
def Bytes (w : World) (G n : Nat) (f : Nat → Nat) : Prop := ∀ j, j < n → w.cell? ⟨G, j, none⟩ = some (.int .u8 (f j : Int)) ∧ w.frozen? ⟨G, j, none⟩ = false

theorem Bytes.set {w : World} {G n : Nat} {f g : Nat → Nat} (h : Bytes w G n f) (k v : Nat) (hg : ∀ j, j < n → g j = if j = k then v else f j) : Bytes (w.setCell ⟨G, k, none⟩ (.int .u8 (v : Int))) G n g := by
  intro j hj
  obtain ⟨h1, h2⟩ := h j hj
  refine ⟨?_, by rw [World.frozen?_setCell]; exact h2⟩
  rw [hg j hj]
  by_cases e : j = k
  · subst e
    rw [if_pos rfl]
    exact World.cell?_setCell_same _ _ _ h1
  · rw [if_neg e]
    rw [World.cell?_setCell_other _ _ _ _ (by intro h3; injection h3 with h4 h5; exact e h5.symm)]
    exact h1

theorem Bytes.congr {w : World} {G n : Nat} {f g : Nat → Nat} (h : Bytes w G n f) (hg : ∀ j, j < n → g j = f j) : Bytes w G n g := fun j hj => by rw [hg j hj]; exact h j hj

/-- '[]byte(s)', AS A LAW FOR THE WALK. -/
theorem conv_bytes (w : World) {ops : Array Oper} {rest : List Oper} {o : Oper} {a : Act} {Q : Exit → Act → World → Prop} (hgd : o.guard = none) (x : Operand) (ho : o.op = .convert 9 26 x) (s : ByteArray) (hx : a.eval x = .string s)
    (h : ∀ cap w', Hid (Bytes w' w.heap.size s.size (fun j => (s.data.toList[j]?.getD 0).toNat)) → Hid (Below w.heap.size w w') → wpList Try.prog ops Q rest (a.put o.dst (.slice (some ⟨w.heap.size, 0, none⟩) s.size cap)) w') :
    wpList Try.prog ops Q (o :: rest) a w := by
  refine wpList_plain hgd fun K hK => ?_
  have hrun := Lib.run_convert_string_bytes (P := Try.prog) w 9 26 5 s Try.underlying9 Try.underlying26 Try.underlying5
  unfold Oper.wp
  simp only [execOp, ho, hx, Sem.run_bind, hrun, Result.andThen_ok]
  refine hK _ _ (h _ _ (fun j hj => ⟨?_, ?_⟩) ?_)
  · rw [Lib.bytesWorld_cell w 5 s j hj]
    rfl
  · have hsz : s.size ≤ (Lib.bytesCells w 5 s).size := by
      unfold Lib.bytesCells
      rw [Array.size_append, Array.size_map]
      exact Nat.le_add_right _ _
    simp only [World.frozen?, Lib.bytesWorld_at_new]
    rw [Bool.and_eq_false_iff]
    left
    simp
    omega
  · exact ⟨rfl, rfl, rfl, by rw [Lib.bytesWorld_size]; omega, fun k hk => Lib.bytesWorld_at_old w 5 s k hk⟩

/-- The row when k bytes have been turned. -/
def lowRow (l : List UInt8) (k : Nat) : Nat → Nat := fun j => if j < k then (low (l[j]?.getD 0)).toNat else (l[j]?.getD 0).toNat

theorem lowRow_step (l : List UInt8) (k j : Nat) : lowRow l (k + 1) j = if j = k then (low (l[k]?.getD 0)).toNat else lowRow l k j := by
  unfold lowRow
  by_cases h : j = k
  · subst h
    rw [if_pos rfl, if_pos (by omega)]
  · rw [if_neg h]
    by_cases h2 : j < k
    · rw [if_pos h2, if_pos (by omega)]
    · rw [if_neg h2, if_neg (by omega)]

theorem lowRow_same (l : List UInt8) (k j : Nat) (h : low (l[k]?.getD 0) = l[k]?.getD 0) : lowRow l (k + 1) j = lowRow l k j := by
  rw [lowRow_step]
  by_cases e : j = k
  · subst e
    rw [if_pos rfl, h]
    unfold lowRow
    rw [if_neg (by omega)]
  · rw [if_neg e]

theorem strOfNums_of (l : List UInt8) : strOfNums (l.map fun b => (b.toNat : Int)) = ⟨l.toArray⟩ := by
  unfold strOfNums
  congr 2
  rw [List.map_map]
  conv => rhs; rw [← List.map_id l]
  apply List.map_congr_left
  intro b _
  simp

set_option maxHeartbeats 1000000 in
set_option maxRecDepth 100000 in
theorem lower_any (s : ByteArray) (w : World) (hs : s.size ≤ 1048576) :
    Calls Try.prog 6 #[.string s] w fun e w' => e = .returned (.string ⟨(s.data.toList.map low).toArray⟩) ∧ Below w.heap.size w w' := by
  obtain ⟨R, hR⟩ : ∃ R : Value, R = .string ⟨(s.data.toList.map low).toArray⟩ := ⟨_, rfl⟩
  rw [← hR]
  have HRR : Hid (R = .string ⟨(s.data.toList.map low).toArray⟩) := hR
  clear hR
  go_enter Try.func6, Try.ntmps6
  go_wp2_with (refine conv_bytes _ rfl _ rfl s rfl ?_; intro cap w1 hrow1 hbel1)
  go_loopw [10] (fun t wr => ∃ k : Nat, k ≤ s.size ∧ t = .int .i64 k ∧ Hid (Bytes wr w.heap.size s.size (lowRow s.data.toList k)) ∧ Hid (Below w.heap.size w wr)) (fun t _ => s.size - (intOf t).toNat)
  case atStart => exact ⟨0, Nat.zero_le _, rfl, hrow1.out.congr (fun j _ => by unfold lowRow; rw [if_neg (by omega)]), hbel1⟩
  case round =>
    obtain ⟨k, hk, rfl, hrw, hbel⟩ := hrel
    by_cases hlt : k < s.size
    · have HCK : Hid (s.data.toList[k]?.getD 0 = s[k]) := by show _ = _; rw [byte_at s k hlt]; rfl
      have hc1 := (hrw.out k hlt).1
      have hf1 := (hrw.out k hlt).2
      have e1 : lowRow s.data.toList k k = s[k].toNat := by unfold lowRow; rw [if_neg (by omega), HCK.out]
      rw [e1] at hc1
      clear e1
      obtain ⟨c, hc⟩ : ∃ c : UInt8, c = s[k] := ⟨_, rfl⟩
      rw [← hc] at hc1 HCK
      obtain ⟨x, hx⟩ : ∃ x : Nat, x = c.toNat := ⟨_, rfl⟩
      have hx256 : x < 256 := by rw [hx]; exact c.toNat_lt
      rw [← hx] at hc1
      have HX : Hid (x = c.toNat) := hx
      clear hc hx
      by_cases h1 : 65 ≤ x
      · by_cases h2 : x ≤ 90
        · have HY : Hid ((low c).toNat = x + 32) := by show _ = _; rw [low_yes c (by have := HX.out; omega), HX.out]
          go_wp2
          go_roundw
          case rel => exact ⟨k + 1, by omega, by go_num, (by have h := hrw.out.set (g := lowRow s.data.toList (k + 1)) k (x + 32) (fun j _ => by rw [lowRow_step, HCK.out, HY.out]); rw [show ((x + 32 : Nat) : Int) = (x : Int) + 97 - 65 by omega] at h; exact h), hbel.out.setCell (Nat.le_refl _) _⟩
          case measure => simp [intOf]; omega
        · have HY : Hid (low c = c) := low_no _ (by have := HX.out; omega)
          go_wp2
          go_roundw
          case rel => exact ⟨k + 1, by omega, by go_num, hrw.out.congr (fun j _ => lowRow_same _ k j (by rw [HCK.out]; exact HY.out)), hbel⟩
          case measure => simp [intOf]; omega
      · have HY : Hid (low c = c) := low_no _ (by have := HX.out; omega)
        go_wp2
        go_roundw
        case rel => exact ⟨k + 1, by omega, by go_num, hrw.out.congr (fun j _ => lowRow_same _ k j (by rw [HCK.out]; exact HY.out)), hbel⟩
        case measure => simp [intOf]; omega
    · have hkn : k = s.size := by omega
      have g := run_convert_bytes_arg (P := Try.prog) wr 26 5 Try.underlying26 Try.underlying5 w.heap.size 0 s.size cap ((s.data.toList.map low).map fun b => (b.toNat : Int)) (by rw [List.length_map, List.length_map, size_list]) (fun i hi => by
        rw [Nat.zero_add, (hrw.out i hi).1, hkn]
        unfold lowRow
        rw [if_pos hi]
        have hl : i < s.data.toList.length := by rw [size_list]; exact hi
        rw [List.getD_eq_getElem?_getD, List.getElem?_map, List.getElem?_map, List.getElem?_eq_getElem hl]
        rfl) 9 Try.underlying9
      rw [strOfNums_of, ← HRR.out] at g
      go_wp2
      go_ret
      exact ⟨rfl, hbel.out⟩
end Go.Proofs.Qxb6627662a
