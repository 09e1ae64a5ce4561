/-
  THE WALKS OF zzLowerASCII, zzUpperASCII, zzIsZeroHash.
-/
import Derived.Test.Qxb6627633aFmtSmall
namespace Go.Proofs.Qxb6627633aFmt
open Go.RowKit Go.Lib Plain
open Go.Extern.Stop (cell)
set_option linter.unusedVariables false

/-- The new row when k bytes have been turned. -/
def caseRow (f : UInt8 → UInt8) (l : List UInt8) (k : Nat) : Nat → Value := fun j => if j < k then .int .u8 (((f (l[j]?.getD 0)).toNat : Nat) : Int) else .int .u8 0

theorem caseRow_zero (f : UInt8 → UInt8) (l : List UInt8) (j : Nat) : Value.int .u8 0 = caseRow f l 0 j := by
  unfold caseRow
  rw [if_neg (by omega)]

theorem caseRow_step (f : UInt8 → UInt8) (l : List UInt8) (k : Nat) (c : UInt8) (hc : l[k]? = some c) (j : Nat) : (if j = k then Value.int .u8 ((f c).toNat : Int) else caseRow f l k j) = caseRow f l (k + 1) j := by
  unfold caseRow
  by_cases h : j = k
  · subst h
    rw [if_pos rfl, if_pos (by omega), hc]
    rfl
  · rw [if_neg h]
    by_cases h2 : j < k
    · rw [if_pos h2, if_pos (by omega)]
    · rw [if_neg h2, if_neg (by omega)]

theorem caseRow_end (f : UInt8 → UInt8) (l : List UInt8) (i : Nat) (hi : i < l.length) : caseRow f l l.length i = .int .u8 ((Hx.numsOf ⟨(l.map f).toArray⟩).getD i 0) := by
  unfold caseRow
  rw [if_pos hi, Hx.numsOf_getD]
  simp [hi]

theorem strOfNums_numsOf (l : List UInt8) : strOfNums (Hx.numsOf ⟨l.toArray⟩) = ⟨l.toArray⟩ := by
  unfold strOfNums Hx.numsOf
  congr 2
  rw [List.map_map]
  conv => rhs; rw [← List.map_id l]
  apply List.map_congr_left
  intro b _
  simp

set_option maxHeartbeats 1000000 in
set_option maxRecDepth 100000 in
theorem lower_any (s : ByteArray) (w : World) (hs : s.size ≤ 1048576) :
    Calls Tryf.prog 10 #[.string s] w fun e w' => e = .returned (.string ⟨(s.data.toList.map low).toArray⟩) ∧ Below w.heap.size w w' := by
  have hmk := fun w => make_run s.size hs w
  obtain ⟨R, hR⟩ : ∃ R : Value, R = .string ⟨(s.data.toList.map low).toArray⟩ := ⟨_, rfl⟩
  rw [← hR]
  have HRR : Hid (R = .string ⟨(s.data.toList.map low).toArray⟩) := hR
  clear hR
  go_enter Tryf.func10, Tryf.ntmps10
  go_wp2
  go_loopw [4] (fun t wr => ∃ k : Nat, k ≤ s.size ∧ t = .int .i64 k ∧ Hid (wr.rowIs w.heap.size 5 s.size (caseRow low s.data.toList k)) ∧ Hid (Below w.heap.size w wr)) (fun t _ => s.size - (RowKit.intOf t).toNat)
  case atStart => exact ⟨0, Nat.zero_le _, rfl, (World.rowIs_made w _ _ _).congr (fun j _ => caseRow_zero low _ j), (Below.refl _ _).alloc (Nat.le_refl _) _⟩
  case round =>
    obtain ⟨k, hk, rfl, hrw, hbel⟩ := hrel
    by_cases hlt : k < s.size
    · have HCK : Hid (s.data.toList[k]? = some s[k]) := byte_getD s k hlt
      have hc256 : (s[k].toNat : Int) < 256 := by have := s[k].toNat_lt; omega
      have hf1 : wr.frozen? ⟨w.heap.size, k, none⟩ = false := hrw.out.frozen _
      have hc1 : wr.cell? ⟨w.heap.size, k, none⟩ = some (caseRow low s.data.toList k k) := hrw.out.cell hlt
      by_cases h1 : 65 ≤ (s[k].toNat : Int)
      · by_cases h2 : (s[k].toNat : Int) ≤ 90
        · have hy : (s[k].toNat : Int) + 32 = ((low s[k]).toNat : Int) := by rw [low_yes s[k] (by omega)]; omega
          have HY : Hid ((s[k].toNat : Int) + 32 = ((low s[k]).toNat : Int)) := hy
          clear hy
          go_wp2
          go_roundw
          case rel => exact ⟨k + 1, by omega, by go_num, (hrw.out.set _ _).congr (fun j _ => by rw [← caseRow_step low _ k _ HCK.out j, HY.out]), hbel.out.setCell (Nat.le_refl _) _⟩
          case measure => simp [RowKit.intOf]; omega
        · have hy : low s[k] = s[k] := low_no _ (by omega)
          have HY : Hid (low s[k] = s[k]) := hy
          clear hy
          go_wp2
          go_roundw
          case rel => exact ⟨k + 1, by omega, by go_num, (hrw.out.set _ _).congr (fun j _ => by rw [← caseRow_step low _ k _ HCK.out j, HY.out]), hbel.out.setCell (Nat.le_refl _) _⟩
          case measure => simp [RowKit.intOf]; omega
      · have hy : low s[k] = s[k] := low_no _ (by omega)
        have HY : Hid (low s[k] = s[k]) := hy
        clear hy
        go_wp2
        go_roundw
        case rel => exact ⟨k + 1, by omega, by go_num, (hrw.out.set _ _).congr (fun j _ => by rw [← caseRow_step low _ k _ HCK.out j, HY.out]), hbel.out.setCell (Nat.le_refl _) _⟩
        case measure => simp [RowKit.intOf]; omega
    · have hkn : k = s.size := by omega
      have g := run_convert_bytes_arg (P := Tryf.prog) wr 37 5 Tryf.underlying37 Tryf.underlying5 w.heap.size 0 s.size s.size (Hx.numsOf ⟨(s.data.toList.map low).toArray⟩) (by rw [Hx.numsOf_length, sizeL, List.length_map, size_list]) (fun i hi => by
        rw [Nat.zero_add, hrw.out.cell hi, hkn, ← size_list, caseRow_end _ _ _ (by rw [size_list]; exact hi)]) 9 Tryf.underlying9
      rw [strOfNums_numsOf, ← HRR.out] at g
      go_wp2
      go_ret
      exact ⟨rfl, hbel.out⟩

set_option maxHeartbeats 1000000 in
set_option maxRecDepth 100000 in
theorem upper_any (s : ByteArray) (w : World) (hs : s.size ≤ 1048576) :
    Calls Tryf.prog 11 #[.string s] w fun e w' => e = .returned (.string ⟨(s.data.toList.map up).toArray⟩) ∧ Below w.heap.size w w' := by
  have hmk := fun w => make_run s.size hs w
  obtain ⟨R, hR⟩ : ∃ R : Value, R = .string ⟨(s.data.toList.map up).toArray⟩ := ⟨_, rfl⟩
  rw [← hR]
  have HRR : Hid (R = .string ⟨(s.data.toList.map up).toArray⟩) := hR
  clear hR
  go_enter Tryf.func11, Tryf.ntmps11
  go_wp2
  go_loopw [4] (fun t wr => ∃ k : Nat, k ≤ s.size ∧ t = .int .i64 k ∧ Hid (wr.rowIs w.heap.size 5 s.size (caseRow up s.data.toList k)) ∧ Hid (Below w.heap.size w wr)) (fun t _ => s.size - (RowKit.intOf t).toNat)
  case atStart => exact ⟨0, Nat.zero_le _, rfl, (World.rowIs_made w _ _ _).congr (fun j _ => caseRow_zero up _ j), (Below.refl _ _).alloc (Nat.le_refl _) _⟩
  case round =>
    obtain ⟨k, hk, rfl, hrw, hbel⟩ := hrel
    by_cases hlt : k < s.size
    · have HCK : Hid (s.data.toList[k]? = some s[k]) := byte_getD s k hlt
      have hc256 : (s[k].toNat : Int) < 256 := by have := s[k].toNat_lt; omega
      have hf1 : wr.frozen? ⟨w.heap.size, k, none⟩ = false := hrw.out.frozen _
      have hc1 : wr.cell? ⟨w.heap.size, k, none⟩ = some (caseRow up s.data.toList k k) := hrw.out.cell hlt
      by_cases h1 : 97 ≤ (s[k].toNat : Int)
      · by_cases h2 : (s[k].toNat : Int) ≤ 122
        · have hy : (s[k].toNat : Int) - 32 = ((up s[k]).toNat : Int) := by rw [up_yes s[k] (by omega)]; omega
          have HY : Hid ((s[k].toNat : Int) - 32 = ((up s[k]).toNat : Int)) := hy
          clear hy
          go_wp2
          go_roundw
          case rel => exact ⟨k + 1, by omega, by go_num, (hrw.out.set _ _).congr (fun j _ => by rw [← caseRow_step up _ k _ HCK.out j, HY.out]), hbel.out.setCell (Nat.le_refl _) _⟩
          case measure => simp [RowKit.intOf]; omega
        · have hy : up s[k] = s[k] := up_no _ (by omega)
          have HY : Hid (up s[k] = s[k]) := hy
          clear hy
          go_wp2
          go_roundw
          case rel => exact ⟨k + 1, by omega, by go_num, (hrw.out.set _ _).congr (fun j _ => by rw [← caseRow_step up _ k _ HCK.out j, HY.out]), hbel.out.setCell (Nat.le_refl _) _⟩
          case measure => simp [RowKit.intOf]; omega
      · have hy : up s[k] = s[k] := up_no _ (by omega)
        have HY : Hid (up s[k] = s[k]) := hy
        clear hy
        go_wp2
        go_roundw
        case rel => exact ⟨k + 1, by omega, by go_num, (hrw.out.set _ _).congr (fun j _ => by rw [← caseRow_step up _ k _ HCK.out j, HY.out]), hbel.out.setCell (Nat.le_refl _) _⟩
        case measure => simp [RowKit.intOf]; omega
    · have hkn : k = s.size := by omega
      have g := run_convert_bytes_arg (P := Tryf.prog) wr 37 5 Tryf.underlying37 Tryf.underlying5 w.heap.size 0 s.size s.size (Hx.numsOf ⟨(s.data.toList.map up).toArray⟩) (by rw [Hx.numsOf_length, sizeL, List.length_map, size_list]) (fun i hi => by
        rw [Nat.zero_add, hrw.out.cell hi, hkn, ← size_list, caseRow_end _ _ _ (by rw [size_list]; exact hi)]) 9 Tryf.underlying9
      rw [strOfNums_numsOf, ← HRR.out] at g
      go_wp2
      go_ret
      exact ⟨rfl, hbel.out⟩

/-- The zero Hash. -/
def zeros : List UInt8 := List.replicate 20 0

set_option maxHeartbeats 1000000 in
set_option maxRecDepth 100000 in
theorem isZero_any (w : World) :
    Calls Tryf.prog 8 #[hv zeros] w fun e w' => e = .returned (.bool true) ∧ Below w.heap.size w w' := by
  have hcell : ∀ k : Nat, k < 20 → (w.alloc (.cells (zeros.map cell).toArray 24)).cell? ⟨w.heap.size, k, none⟩ = some (.int .u8 0) := by
    intro k hk
    rw [cell_of_row _ _ _ _ _ _ (heap_alloc_new _ _)]
    rw [zeros, List.map_replicate, List.getElem?_toArray, List.getElem?_replicate, if_pos hk]
    rfl
  have HC : Hid (∀ k : Nat, k < 20 → (w.alloc (.cells (zeros.map cell).toArray 24)).cell? ⟨w.heap.size, k, none⟩ = some (.int .u8 0)) := hcell
  obtain ⟨cs, hcs⟩ : ∃ cs, cs = (zeros.map cell).toArray := ⟨_, rfl⟩
  rw [← hcs] at HC
  unfold hv
  rw [← hcs]
  clear hcell hcs
  go_enter Tryf.func8, Tryf.ntmps8
  go_wp2
  go_loop [3] (fun t => ∃ k : Nat, k ≤ 20 ∧ t = .int .i64 k) (fun t => 20 - (RowKit.intOf t).toNat)
  case atStart => exact ⟨0, by omega, rfl⟩
  case round =>
    obtain ⟨k, hk, rfl⟩ := hrel
    by_cases hlt : k < 20
    · have hc := HC.out k hlt
      go_wp2
      go_round
      case rel => exact ⟨k + 1, by omega, by go_num⟩
      case measure => simp [RowKit.intOf]; omega
    · go_wp2
      go_ret
      exact ⟨rfl, (Below.refl _ _).alloc (Nat.le_refl _) _⟩
end Go.Proofs.Qxb6627633aFmt
