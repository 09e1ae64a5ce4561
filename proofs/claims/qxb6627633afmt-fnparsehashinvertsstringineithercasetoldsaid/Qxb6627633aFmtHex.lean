/-
  THE WALKS OF encoding/hex (Encode, EncodedLen, EncodeToString, Decode at an even length), OVER THIS PROGRAM: after the shelf's own proofs, turned to this program's numbers.
-/
import Derived.Test.Qxb6627633aFmtRows
import Derived.WalkKit
import Derived.WalkSpells
import Derived.Lib.Walk
import Derived.Lib.Strings
import Derived.Lib.HexFns2
import Derived.Deep.OwnRows
import Derived.Laws.IdiomStrings
namespace Go.Proofs.Qxb6627633aFmt
open Go.RowKit Go.Lib
set_option linter.unusedVariables false

theorem Tryf.info5 : (Tryf.prog.info? 5).map (fun i => (i.zero, i.size, i.bytes)) = some (some (.int .u8 0), 1, 1) := by kernel_rfl

theorem encLen_any (n : Int) (h0 : 0 ≤ n) (h1 : n < 4611686018427387904) (w : World) :
    Calls Tryf.prog 12 #[.int .i64 n] w fun e w' => e = .returned (.int .i64 (n * 2)) ∧ w = w' := by
  go_enter Tryf.func12, Tryf.ntmps12
  go_wp2
  go_ret
  exact ⟨rfl, rfl⟩

set_option maxHeartbeats 2000000 in
set_option maxRecDepth 100000 in
theorem encode_any (T : TypeId) (bd od nd cd N : Nat) (f : Nat → Value) (bs os n cs : Nat) (xs : List Int) (w : World)
    (hx : xs.length = n) (hr : ∀ i, i < n → 0 ≤ xs.getD i 0 ∧ xs.getD i 0 < 256) (hsrc : ∀ i, i < n → w.cell? ⟨bs, os + i, none⟩ = some (.int .u8 (xs.getD i 0)))
    (hrow : w.rowIs bd T N f) (hfit : od + nd ≤ N) (hlen : 2 * n ≤ nd) (hne : bd ≠ bs) (hbig : n ≤ 4611686018427387903) :
    Calls Tryf.prog 18 #[.slice (some ⟨bd, od, none⟩) nd cd, .slice (some ⟨bs, os, none⟩) n cs] w fun e w' => e = .returned (.int .i64 ((n : Int) * 2)) ∧ w'.rowIs bd T N (Hx.row f od (Lib.bytesOf xs) n) ∧ w.grownBy w' (some bd) := by
  have HS : Hid (∀ i, i < n → w.cell? ⟨bs, os + i, none⟩ = some (.int .u8 (xs.getD i 0))) := hsrc
  have HR : Hid (∀ i, i < n → 0 ≤ xs.getD i 0 ∧ xs.getD i 0 < 256) := hr
  have HX0 : Hid (xs.length = n) := hx
  clear hsrc hr hx
  go_enter Tryf.func18, Tryf.ntmps18
  go_wp2
  go_loopw [5, 10] (fun vj vi wr => ∃ k : Nat, k ≤ n ∧ vi = .int .i64 k ∧ vj = .int .i64 ((2 * k : Nat) : Int) ∧ Hid (wr.rowIs bd T N (Hx.row f od (Lib.bytesOf xs) k)) ∧ Hid (w.grownBy wr (some bd))) (fun _ vi _ => n - (RowKit.intOf vi).toNat)
  case atStart => exact ⟨0, Nat.zero_le _, rfl, rfl, hrow.congr (fun j _ => Hx.row_zero f od _ j), Hx.grownBy_refl _ _⟩
  case round =>
    obtain ⟨k, hk, rfl, rfl, hrw, hgr⟩ := hrel
    obtain ⟨x, hxk⟩ : ∃ x, x = xs.getD k 0 := ⟨_, rfl⟩
    have hcx : k < n → wr.cell? ⟨bs, os + k, none⟩ = some (.int .u8 x) := fun h => by rw [hxk]; exact hgr.out.cell (HS.out k h) (by simp; omega)
    have hx0 : k < n → 0 ≤ x := fun h => by rw [hxk]; exact (HR.out k h).1
    have hx1 : k < n → x < 256 := fun h => by rw [hxk]; exact (HR.out k h).2
    have HX : Hid (x = xs.getD k 0) := hxk
    clear hxk
    have hf1 : wr.frozen? ⟨bd, od + 2 * k, none⟩ = false := hrw.out.frozen _
    have hc1 : k < n → wr.cell? ⟨bd, od + 2 * k, none⟩ = some (Hx.row f od (Lib.bytesOf xs) k (od + 2 * k)) := fun h => hrw.out.cell (by omega)
    have hf2 : ∀ v, (wr.setCell ⟨bd, od + 2 * k, none⟩ v).frozen? ⟨bd, od + (2 * k + 1), none⟩ = false := fun v => (hrw.out.set _ v).frozen _
    have hc2 : k < n → ∀ v, (wr.setCell ⟨bd, od + 2 * k, none⟩ v).cell? ⟨bd, od + (2 * k + 1), none⟩ = some (Hx.row f od (Lib.bytesOf xs) k (od + (2 * k + 1))) := fun h v => by
      have := (hrw.out.set (od + 2 * k) v).cell (i := od + (2 * k + 1)) (by omega)
      rwa [if_neg (by omega)] at this
    go_wp2
    · have hlt : k < n := by assumption
      go_roundw
      case rel =>
        refine ⟨k + 1, by omega, by go_num, by first | go_num | (congr 1; omega), ((hrw.out.set _ _).set _ _).congr (fun j _ => ?_), Hx.grownBy_set (Hx.grownBy_set hgr.out _ rfl _) _ rfl _⟩
        have e1 := Hx.dig_hi x (hx0 hlt) (hx1 hlt) (by have := hx0 hlt; have := hx1 hlt; show _ < 16; omega)
        have e2 := Hx.dig_lo x (hx0 hlt) (hx1 hlt) (by have := hx0 hlt; show _ < 16; omega)
        have e3 := Hx.row_step f od (Lib.bytesOf xs) k _ (Hx.bytes_at xs k (by rw [HX0.out]; exact hlt)) j
        rw [← HX.out, ← e1, ← e2] at e3
        exact e3
      case measure => simp [RowKit.intOf]; omega
    · have hk2 : k = n := by omega
      subst hk2
      go_ret
      exact ⟨rfl, hrw.out, hgr.out⟩

set_option maxHeartbeats 4000000 in
set_option maxRecDepth 100000 in
/-- Decode, of an even number of bytes. -/
theorem decode_any (T : TypeId) (bd od nd cd N : Nat) (f : Nat → Value) (bs os n cs : Nat) (xs : List Int) (w : World) (ev : Value)
    (hx : xs.length = n) (hr : ∀ i, i < n → 0 ≤ xs.getD i 0 ∧ xs.getD i 0 < 256) (hsrc : ∀ i, i < n → w.cell? ⟨bs, os + i, none⟩ = some (.int .u8 (xs.getD i 0)))
    (hrow : w.rowIs bd T N f) (hfit : od + nd ≤ N) (hlen : n / 2 ≤ nd) (hne : bd ≠ bs) (hbig : n ≤ 4611686018427387903) (heven : n % 2 = 0) :
    Calls Tryf.prog 14 #[.slice (some ⟨bd, od, none⟩) nd cd, .slice (some ⟨bs, os, none⟩) n cs] w fun e w' =>
      e = .returned (.tuple #[.int .i64 ((Hx.decode (Lib.bytesOf xs)).1.length : Int), Hx.errVal 41 ev (Hx.decode (Lib.bytesOf xs)).2]) ∧ w'.rowIs bd T N (Hx.rowP f od (Hx.decode (Lib.bytesOf xs)).1) ∧ w.grownBy w' (some bd) := by
  generalize hD0 : Hx.decode (Lib.bytesOf xs) = D
  obtain ⟨D1, D2⟩ := D
  have hD : Hid (Hx.decode (Lib.bytesOf xs) = (D1, D2)) := hD0
  clear hD0
  have HS : Hid (∀ i, i < n → w.cell? ⟨bs, os + i, none⟩ = some (.int .u8 (xs.getD i 0))) := hsrc
  have HR : Hid (∀ i, i < n → 0 ≤ xs.getD i 0 ∧ xs.getD i 0 < 256) := hr
  have HX0 : Hid (xs.length = n) := hx
  have HEV : Hid (n % 2 = 0) := heven
  clear hsrc hr hx heven
  go_enter Tryf.func14, Tryf.ntmps14
  go_wp2
  go_loopw [6, 7] (fun vi vj wr => ∃ (k : Nat) (pre : List UInt8), 2 * k ≤ n ∧ vi = .int .i64 k ∧ vj = .int .i64 ((2 * k : Nat) : Int) ∧ Hid (Hx.Mid (Lib.bytesOf xs) k pre) ∧ Hid (wr.rowIs bd T N (Hx.rowP f od pre)) ∧ Hid (w.grownBy wr (some bd))) (fun _ vj _ => n - (RowKit.intOf vj).toNat)
  case atStart => exact ⟨0, [], Nat.zero_le _, rfl, rfl, Hx.mid_zero _, hrow.congr (fun j _ => Hx.rowP_nil f od j), Hx.grownBy_refl _ _⟩
  case round =>
    obtain ⟨k, pre, hk, rfl, rfl, hmid, hrw, hgr⟩ := hrel
    by_cases hlt : 2 * k + 1 < n
    · obtain ⟨x, hxk⟩ : ∃ x, x = xs.getD (2 * k) 0 := ⟨_, rfl⟩
      obtain ⟨y, hyk⟩ : ∃ y, y = xs.getD (2 * k + 1) 0 := ⟨_, rfl⟩
      have hcx : wr.cell? ⟨bs, os + 2 * k, none⟩ = some (.int .u8 x) := by rw [hxk]; exact hgr.out.cell (HS.out _ (by omega)) (by simp; omega)
      have hcy : wr.cell? ⟨bs, os + (2 * k + 1), none⟩ = some (.int .u8 y) := by rw [hyk]; exact hgr.out.cell (HS.out _ hlt) (by simp; omega)
      have hx0 : 0 ≤ x := by rw [hxk]; exact (HR.out _ (by omega)).1
      have hx1 : x < 256 := by rw [hxk]; exact (HR.out _ (by omega)).2
      have hy0 : 0 ≤ y := by rw [hyk]; exact (HR.out _ hlt).1
      have hy1 : y < 256 := by rw [hyk]; exact (HR.out _ hlt).2
      have HP : Hid ((Lib.bytesOf xs)[2 * k]? = some (UInt8.ofNat x.toNat)) := by rw [hxk]; exact Hx.bytes_at xs _ (by rw [HX0.out]; omega)
      have HQ : Hid ((Lib.bytesOf xs)[2 * k + 1]? = some (UInt8.ofNat y.toNat)) := by rw [hyk]; exact Hx.bytes_at xs _ (by rw [HX0.out]; omega)
      clear hxk hyk
      have hf1 : wr.frozen? ⟨bd, od + k, none⟩ = false := hrw.out.frozen _
      have hc1 : wr.cell? ⟨bd, od + k, none⟩ = some (Hx.rowP f od pre (od + k)) := hrw.out.cell (by omega)
      have hT : 2 * (k : Int) < (n : Int) - 1 := by omega
      have sx : x.toNat < Hx.rev.size := by rw [Hx.rev_size]; omega
      have sy : y.toNat < Hx.rev.size := by rw [Hx.rev_size]; omega
      go_wp2
      · have hv : (15 : Int) < ((Hx.rev[x.toNat]'sx).toNat : Int) := by assumption
        rw [Hx.rev_at x hx0 hx1] at hv
        have e := Hx.mid_bad1 hmid.out _ _ HP.out HQ.out (by omega)
        go_ret2
        obtain ⟨rfl, rfl⟩ := Prod.mk.inj (hD.out.symm.trans e)
        exact ⟨by rw [hmid.out.1, Hx.errVal_bad _ _ x hx0 hx1]; rfl, hrw.out, hgr.out⟩
      · have hv1 : ((Hx.rev[x.toNat]'sx).toNat : Int) ≤ 15 := by assumption
        have hv : (15 : Int) < ((Hx.rev[y.toNat]'sy).toNat : Int) := by assumption
        rw [Hx.rev_at x hx0 hx1] at hv1
        rw [Hx.rev_at y hy0 hy1] at hv
        have e := Hx.mid_bad2 hmid.out _ _ HP.out HQ.out (by omega) (by omega)
        go_ret2
        obtain ⟨rfl, rfl⟩ := Prod.mk.inj (hD.out.symm.trans e)
        exact ⟨by rw [hmid.out.1, Hx.errVal_bad _ _ y hy0 hy1]; rfl, hrw.out, hgr.out⟩
      · have hv1 : ((Hx.rev[x.toNat]'sx).toNat : Int) ≤ 15 := by assumption
        have hv2 : ((Hx.rev[y.toNat]'sy).toNat : Int) ≤ 15 := by assumption
        have ex := Hx.rev_at x hx0 hx1 sx
        have ey := Hx.rev_at y hy0 hy1 sy
        rw [ex] at hv1
        rw [ey] at hv2
        go_roundw
        case rel =>
          refine ⟨k + 1, pre ++ [UInt8.ofNat (Hx.v (UInt8.ofNat x.toNat) * 16 + Hx.v (UInt8.ofNat y.toNat))], by omega, by go_num, by first | go_num | (congr 1; omega), Hx.mid_step hmid.out _ _ HP.out HQ.out (by omega) (by omega), (hrw.out.set _ _).congr (fun j _ => ?_), Hx.grownBy_set hgr.out _ rfl _⟩
          have e3 := Hx.rowP_step f od pre (UInt8.ofNat (Hx.v (UInt8.ofNat x.toNat) * 16 + Hx.v (UInt8.ofNat y.toNat))) j
          rw [hmid.out.1, ← Hx.or_digits _ _ (by omega) (by omega), ← ex, ← ey] at e3
          exact e3
        case measure => simp [RowKit.intOf]; omega
    · have hl : (Lib.bytesOf xs).length = 2 * k := by rw [Lib.bytesOf_length, HX0.out]; have := HEV.out; omega
      have hT : (n : Int) - 1 ≤ 2 * (k : Int) := by omega
      have hO : ((n : Int) % 2 == 1) = false := by simp; have := HEV.out; omega
      have e := Hx.mid_end hmid.out hl
      go_wp2
      go_ret2
      obtain ⟨rfl, rfl⟩ := Prod.mk.inj (hD.out.symm.trans e)
      exact ⟨by rw [hmid.out.1]; rfl, hrw.out, hgr.out⟩
end Go.Proofs.Qxb6627633aFmt
