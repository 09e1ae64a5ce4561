/-
  THE LAW FnParseHashInvertsStringInEitherCase, WALKED.
-/
import Derived.Test.Qxb6627633aFmtAccepts
namespace Go.Proofs.Qxb6627633aFmt
open Go.RowKit Go.Lib Plain
open Go.Extern.Stop (cell)
open Go.Stop (Interp)
set_option linter.unusedVariables false

theorem size5 (w : World) : (Go.sizeOf 5).run Tryf.prog w = .ok 1 w := by kernel_rfl

theorem hash_equal (l : List UInt8) (hl : l.length = 20) (w : World) : (Op.equalIn 10000 24 (hv l) (hv l)).run Tryf.prog w = .ok true w := by
  have h := run_equalIn_bytes (P := Tryf.prog) w 9998 24 5 20 Tryf.underlying24 Tryf.underlying5 size5 l l hl hl
  rw [beq_self_eq_true] at h
  exact h
theorem hash_eql (l : List UInt8) (hl : l.length = 20) (w : World) : (binOp .eql 24 (hv l) (hv l)).run Tryf.prog w = .ok (.bool true) w := by
  have h := hash_equal l hl w
  unfold hv at h ⊢
  rw [run_eql_struct, h]
  rfl
theorem hash_neq (l : List UInt8) (hl : l.length = 20) (w : World) : (binOp .neq 24 (hv l) (hv l)).run Tryf.prog w = .ok (.bool false) w := by
  have h := hash_equal l hl w
  unfold hv at h ⊢
  rw [run_neq_struct, h]
  rfl
theorem hash_guard (op : BinOp) (x y : Operand) (l : List UInt8) (w : World) : (eqGuard op 24 x y (hv l) (hv l)).run Tryf.prog w = .ok () w := by
  unfold hv
  exact run_eqGuard_agg w op 24 x y _ _ Tryf.eqGuardType24

/-- Text that is decoded whole bears nothing but digits. -/
theorem all_hex {l t : List UInt8} (h40 : t.length = 40) (h : Hx.decode t = (l, .ok)) : t.all isHex = true := by
  cases ha : t.all isHex with
  | true => rfl
  | false =>
    obtain ⟨c, hc⟩ := decode_bad 20 t (by omega) ha
    rw [h] at hc
    cases hc

/-- ParseHash of a text of forty bytes that is decoded whole. -/
theorem parse_back (l t : List UInt8) (h40 : t.length = 40) (h : Hx.decode t = (l, .ok)) (w : World) :
    Calls Tryf.prog 6 #[.string ⟨t.toArray⟩] w fun e w' => e = .returned (.tuple #[hv l, .nilIface]) ∧ Below w.heap.size w w' := by
  have hp := parse_good ⟨t.toArray⟩ w (by rw [sizeL]; exact h40) (by simpa using all_hex h40 h)
  have e : (⟨t.toArray⟩ : ByteArray).data.toList = t := by simp
  rw [e, h] at hp
  exact hp

/-- The argument's own block, loaded. -/
theorem load_arg (w : World) {ops : Array Oper} {rest : List Oper} {o : Oper} {a : Act} {Q : Exit → Act → World → Prop} (hgd : o.guard = none) (x : Operand) (ho : o.op = .load 23 x)
    (g : Nat) (D : List UInt8) (hD : D.length = 20) (hx : a.eval x = .pointer (some ⟨g, 0, none⟩)) (hg : w.heap[g]? = some (.cells (hc D) 23 (0, 0)))
    (h : wpList Tryf.prog ops Q rest (a.put o.dst (hv D)) w) : wpList Tryf.prog ops Q (o :: rest) a w :=
  wpList_load_row hgd 23 x ho g hx 23 (hc D) (0, 0) _ hg Tryf.underlying23 rfl (by rw [hc_size, hD]; kernel_rfl) h

set_option maxHeartbeats 2000000 in
set_option maxRecDepth 100000 in
theorem inverts_any (l : List UInt8) (hl : l.length = 20) (w : World) :
    Calls Tryf.prog 4 #[hv l] w fun e w' => e = .returned (.bool true) ∧ Below w.heap.size w w' := by
  have HL : Hid (l.length = 20) := hl
  have h40 : (Hx.encode l).length = 40 := by rw [Hx.encode_length]; omega
  have h40u : ((Hx.encode l).map up).length = 40 := by rw [List.length_map]; exact h40
  obtain ⟨R, hR⟩ : ∃ R : ByteArray, R = ⟨(Hx.encode l).toArray⟩ := ⟨_, rfl⟩
  obtain ⟨U, hU⟩ : ∃ U : ByteArray, U = ⟨((Hx.encode l).map up).toArray⟩ := ⟨_, rfl⟩
  have hRs : R.size = 40 := by rw [hR, sizeL]; exact h40
  have HC9 : Hid (∀ w, Calls Tryf.prog 9 #[hv l] w fun e w' => e = .returned (.string R) ∧ Below w.heap.size w w') := fun w => by rw [hR]; exact string_any l hl w
  have HCR : Hid (∀ w, Calls Tryf.prog 6 #[.string R] w fun e w' => e = .returned (.tuple #[hv l, .nilIface]) ∧ Below w.heap.size w w') := fun w => by rw [hR]; exact parse_back l _ h40 (decode_encode l).1 w
  have HCU : Hid (∀ w, Calls Tryf.prog 6 #[.string U] w fun e w' => e = .returned (.tuple #[hv l, .nilIface]) ∧ Below w.heap.size w w') := fun w => by rw [hU]; exact parse_back l _ h40u (decode_encode l).2 w
  have HC11 : Hid (∀ w, Calls Tryf.prog 11 #[.string R] w fun e w' => e = .returned (.string U) ∧ Below w.heap.size w w') := fun w => by
    have h := upper_any R w (by omega)
    have e : R.data.toList = Hx.encode l := by rw [hR]
    rw [e, ← hU] at h
    exact h
  have hb40 : ((R.size : Int) != 40) = false := by simp; omega
  have heq := fun w => hash_eql l hl w
  have hneq := fun w => hash_neq l hl w
  have hgd := fun op x y w => hash_guard op x y l w
  clear hR hU h40 h40u hl hRs
  have harg : (w.alloc (.cells (hc l) 23)).heap[w.heap.size]? = some (.cells (hc l) 23 (0, 0)) := heap_alloc_new _ _
  have hb1 : Below w.heap.size w (w.alloc (.cells (hc l) 23)) := (Below.refl _ w).alloc (Nat.le_refl _) _
  go_enter Tryf.func4, Tryf.ntmps4
  have tok1 : True := trivial
  have tok2 : True := trivial
  have tok3 : True := trivial
  go_wp2_with (first
    | (have _t := tok1; refine load_arg _ rfl _ rfl w.heap.size l HL.out rfl harg ?_; clear tok1)
    | (have _t := tok2; refine store_hash _ rfl _ _ rfl (w.heap.size + 1) l HL.out rfl rfl w.heap.size w _ rfl (heap_alloc2_new _ _ _) (hb1.alloc hb1.size _) (Nat.le_succ _) ?_; clear tok2; intro w2 hg2 hbel2 hsz2)
    | (have _t := tok3; refine load_hash _ rfl _ rfl (w.heap.size + 1) l HL.out rfl hg2.out ?_; clear tok3))
  refine (HC9.out _).mono ?_
  rintro e w3 ⟨rfl, hbel3⟩
  have HG3 : Hid (w3.heap[w.heap.size + 1]? = some (.cells (hc l) 24 (0, 0))) := (hbel3.block _ hsz2.out).trans hg2.out
  have HB3 : Hid (Below w.heap.size w w3) := hbel2.out.trans (hbel3.mono hbel2.out.size)
  have HS3 : Hid (w.heap.size + 1 < w3.heap.size) := Nat.lt_of_lt_of_le hsz2.out hbel3.size
  clear HC9 hg2 hbel2 hsz2 hbel3 harg hb1
  go_wp2_with fail
  refine (HCR.out _).mono ?_
  rintro e w4 ⟨rfl, hbel4⟩
  have HG4 : Hid (w4.heap[w.heap.size + 1]? = some (.cells (hc l) 24 (0, 0))) := (hbel4.block _ HS3.out).trans HG3.out
  have HB4 : Hid (Below w.heap.size w w4) := HB3.out.trans (hbel4.mono HB3.out.size)
  have HS4 : Hid (w.heap.size + 1 < w4.heap.size) := Nat.lt_of_lt_of_le HS3.out hbel4.size
  clear HCR HG3 HB3 HS3 hbel4
  have tok4 : True := trivial
  have tok5 : True := trivial
  have tok6 : True := trivial
  go_wp2_with (first
    | (have _t := tok4; refine store_hash _ rfl _ _ rfl w4.heap.size l HL.out rfl rfl w4.heap.size w4 _ rfl (heap_alloc_new _ _) ((Below.refl _ w4).alloc (Nat.le_refl _) _) (Nat.le_refl _) ?_; clear tok4; intro w5 hg5 hbel5 hsz5)
    | (have _t := tok5; refine load_hash _ rfl _ rfl w4.heap.size l HL.out rfl hg5.out ?_; clear tok5)
    | (have _t := tok6; refine load_hash _ rfl _ rfl (w.heap.size + 1) l HL.out rfl ((hbel5.out.block _ HS4.out).trans HG4.out) ?_; clear tok6))
  have HG5 : Hid (w5.heap[w.heap.size + 1]? = some (.cells (hc l) 24 (0, 0))) := (hbel5.out.block _ HS4.out).trans HG4.out
  have HB5 : Hid (Below w.heap.size w w5) := HB4.out.trans (hbel5.out.mono HB4.out.size)
  have HS5 : Hid (w.heap.size + 1 < w5.heap.size) := Nat.lt_of_lt_of_le HS4.out hbel5.out.size
  clear HG4 HB4 HS4 hg5 hbel5 hsz5
  refine (HC11.out _).mono ?_
  rintro e w6 ⟨rfl, hbel6⟩
  have HG6 : Hid (w6.heap[w.heap.size + 1]? = some (.cells (hc l) 24 (0, 0))) := (hbel6.block _ HS5.out).trans HG5.out
  have HB6 : Hid (Below w.heap.size w w6) := HB5.out.trans (hbel6.mono HB5.out.size)
  have HS6 : Hid (w.heap.size + 1 < w6.heap.size) := Nat.lt_of_lt_of_le HS5.out hbel6.size
  clear HC11 HG5 HB5 HS5 hbel6
  go_wp2_with fail
  refine (HCU.out _).mono ?_
  rintro e w7 ⟨rfl, hbel7⟩
  have HG7 : Hid (w7.heap[w.heap.size + 1]? = some (.cells (hc l) 24 (0, 0))) := (hbel7.block _ HS6.out).trans HG6.out
  have HB7 : Hid (Below w.heap.size w w7) := HB6.out.trans (hbel7.mono HB6.out.size)
  have HS7 : Hid (w.heap.size + 1 < w7.heap.size) := Nat.lt_of_lt_of_le HS6.out hbel7.size
  clear HCU HG6 HB6 HS6 hbel7
  have tok7 : True := trivial
  have tok8 : True := trivial
  have tok9 : True := trivial
  go_wp2_with (first
    | (have _t := tok7; refine store_hash _ rfl _ _ rfl w7.heap.size l HL.out rfl rfl w7.heap.size w7 _ rfl (heap_alloc_new _ _) ((Below.refl _ w7).alloc (Nat.le_refl _) _) (Nat.le_refl _) ?_; clear tok7; intro w8 hg8 hbel8 hsz8)
    | (have _t := tok8; refine load_hash _ rfl _ rfl w7.heap.size l HL.out rfl hg8.out ?_; clear tok8)
    | (have _t := tok9; refine load_hash _ rfl _ rfl (w.heap.size + 1) l HL.out rfl ((hbel8.out.block _ HS7.out).trans HG7.out) ?_; clear tok9))
  go_ret
  exact ⟨rfl, HB7.out.trans (hbel8.out.mono HB7.out.size)⟩
end Go.Proofs.Qxb6627633aFmt
