/-
  ParseHash, WALKED.
-/
import Derived.Test.Qxb6627633aFmtErr
import Derived.Test.Qxb6627633aFmtCase
import Derived.Laws.Rows
import Derived.Laws.ResultCell
import Derived.Lib.ConvBytes
namespace Go.Proofs.Qxb6627633aFmt
open Go.RowKit Go.Lib Plain
open Go.Extern.Stop (cell)
open Go.Stop (Interp)
set_option linter.unusedVariables false

theorem asize (w : World) (o : Obj) : (w.alloc o).heap.size = w.heap.size + 1 := by simp

/-- The cells of a Hash. -/
def hc (l : List UInt8) : Array Value := (l.map cell).toArray

theorem hc_size (l : List UInt8) : (hc l).size = l.length := by simp [hc]
theorem hc_one (l : List UInt8) : (hc l).all (·.oneCell') = true := by simp [hc, cell, Value.oneCell']

theorem below_row {B g : Nat} {w0 w : World} (hb : Below B w0 w) (hBg : B ≤ g) (cs : Array Value) : Below B w0 (w.setRow g cs) :=
  hb.trans ⟨rfl, rfl, rfl, by simp [World.setRow], fun k hk => setRow_other w g k cs (by omega)⟩

theorem Tryf.size24 : (Tryf.prog.info? 24).map (·.size) = some 20 := by kernel_rfl

theorem parse_result (tmps : Array Value) (w : World) (g : Nat) (cs : Array Value) (fr : Nat × Nat) (v : Value) (hp : tmps.getD 2 undef = .pointer (some ⟨g, 0, none⟩)) (hu : tmps.getD 3 undef = v) (hg : w.heap[g]? = some (.cells cs 24 fr)) (hsz : cs.size = 20) :
    (results Tryf.f6 tmps).run Tryf.prog w = .ok (.tuple #[.agg cs, v]) w := by
  rw [results_cell_tmp (p := 2) (u := 3) (ty := 24) rfl, hp, hu]
  simp only [asAddr, Sem.run_pure, Result.andThen_ok]
  rw [run_loadVar_row w g 24 24 cs fr _ hg Tryf.underlying24 rfl (by rw [hsz]; exact Tryf.size24)]
  rfl

set_option maxHeartbeats 1000000 in
set_option maxRecDepth 100000 in
/-- A text that is not 40 bytes long. -/
theorem parse_short (F : Interp) (s : ByteArray) (w : World) (hF : F.answers w.tape) (hs : s.size ≤ 1048576) (h40 : s.size ≠ 40) :
    Calls Tryf.prog 6 #[.string s] w fun e w' => ∃ a, e = .returned (.tuple #[hv zeros, .iface 46 (.pointer (some a))]) ∧ Below w.heap.size w w' := by
  have hb : ((s.size : Int) != 40) = true := by simp; omega
  clear h40
  go_enter Tryf.func6, Tryf.ntmps6
  go_wp2_with (first | (go_at_call 12; refine (encLen_any _ (by omega) (by omega) _).mono ?_; rintro e w' ⟨rfl, rfl⟩))
  refine (notAName_any F s _ (by exact hF)).mono ?_
  rintro e w1 ⟨a, rfl, hbel⟩
  have hg1 : w1.heap[w.heap.size]? = some (.cells (hc zeros) 24 (0, 0)) := by
    rw [hbel.block w.heap.size (by simp; omega)]
    exact heap_alloc2_old _ _ _
  have HB : Hid (Below w.heap.size w w1) := (((Below.refl _ w).alloc (Nat.le_refl _) _).alloc (by simp) _).trans (hbel.mono (by simp; omega))
  clear hbel
  have tok1 : True := trivial
  go_wp2_with (have _t := tok1; refine wpList_store_row rfl 24 _ _ rfl w.heap.size (hc zeros) rfl rfl 24 (hc zeros) hg1 (by rw [hc_size]; exact Tryf.size24) rfl (hc_one _) ?_; clear tok1)
  refine bodyPost_ret (parse_result _ _ w.heap.size (hc zeros) (0, 0) _ rfl rfl (setRow_heap w1 _ _ _ 24 (0, 0) hg1) rfl) rfl ?_
  exact ⟨a, rfl, below_row HB.out (Nat.le_refl _) _⟩

/-- '[]byte(s)', AS A LAW FOR THE WALK. -/
theorem conv_bytes (w : World) {ops : Array Oper} {rest : List Oper} {o : Oper} {a : Act} {Q : Exit → Act → World → Prop} (hgd : o.guard = none) (x : Operand) (ho : o.op = .convert 9 37 x) (s : ByteArray) (hx : a.eval x = .string s)
    (h : ∀ cap w', Hid (∀ j, j < s.size → w'.cell? ⟨w.heap.size, j, none⟩ = some (.int .u8 ((Hx.numsOf s).getD j 0))) → Hid (Below w.heap.size w w') → Hid (w'.heap.size = w.heap.size + 1) → wpList Tryf.prog ops Q rest (a.put o.dst (.slice (some ⟨w.heap.size, 0, none⟩) s.size cap)) w') :
    wpList Tryf.prog ops Q (o :: rest) a w := by
  refine wpList_plain hgd fun K hK => ?_
  have hrun := Lib.run_convert_string_bytes (P := Tryf.prog) w 9 37 5 s Tryf.underlying9 Tryf.underlying37 Tryf.underlying5
  unfold Oper.wp
  simp only [execOp, ho, hx, Sem.run_bind, hrun, Result.andThen_ok]
  refine hK _ _ (h _ _ (fun j hj => ?_) ?_ (Lib.bytesWorld_size w 5 s))
  · rw [Lib.bytesWorld_cell w 5 s j hj, Hx.numsOf_getD]
    rfl
  · exact ⟨rfl, rfl, rfl, by rw [Lib.bytesWorld_size]; omega, fun k hk => Lib.bytesWorld_at_old w 5 s k hk⟩

theorem row_hc {c : Array Value} {f : Nat → Value} {D : List UInt8} (hs : c.size = 20) (hD : D.length = 20) (hc1 : ∀ i, i < 20 → c[i]? = some (Hx.rowP f 0 D i)) : c = hc D := by
  apply Array.ext_getElem?
  intro i
  by_cases hi : i < 20
  · rw [hc1 i hi]
    unfold Hx.rowP hc
    rw [if_pos (by omega), List.getElem?_toArray, List.getElem?_map, Nat.sub_zero, List.getElem?_eq_getElem (show i < D.length by omega)]
    rfl
  · rw [Array.getElem?_eq_none (by omega), Array.getElem?_eq_none (by rw [hc_size]; omega)]

/-- What stands behind the decoding: the result's own block is still nought; the Hash's block holds what was decoded. -/
theorem behind {w w1 w2 : World} {Z : Array Value} {D : List UInt8} (hb : Below (w.heap.size + 1 + 1) ((w.alloc (.cells Z 24)).alloc (.cells Z 24)) w1) (hg : w1.grownBy w2 (some (w.heap.size + 1))) :
    w2.heap[w.heap.size]? = some (.cells Z 24 (0, 0)) ∧ Below w.heap.size w w2 ∧ w2.tape = w.tape ∧ w.heap.size + 1 + 1 ≤ w2.heap.size := by
  have s1 : ((w.alloc (.cells Z 24)).alloc (.cells Z 24)).heap.size = w.heap.size + 1 + 1 := by simp
  have hw1 : w.heap.size + 1 + 1 ≤ w1.heap.size := by rw [← s1]; exact hb.size
  refine ⟨?_, ?_, ?_, Nat.le_trans hw1 hg.size⟩
  · rw [hg.block w.heap.size (by omega) (by simp)]
    rw [hb.block w.heap.size (by omega)]
    exact heap_alloc2_old _ _ _
  · have b1 : Below w.heap.size w w1 := (((Below.refl _ w).alloc (Nat.le_refl _) _).alloc (by simp) _).trans (hb.mono (by omega))
    exact b1.grown hg b1.size (fun k hk => by cases hk; omega)
  · rw [hg.tape, hb.tape]
    rfl

set_option maxHeartbeats 1000000 in
set_option maxRecDepth 100000 in
/-- Forty bytes, each a hexadecimal digit. -/
theorem parse_good (s : ByteArray) (w : World) (h40 : s.size = 40) (hall : s.data.toList.all isHex = true) :
    Calls Tryf.prog 6 #[.string s] w fun e w' => e = .returned (.tuple #[hv (Hx.decode s.data.toList).1, .nilIface]) ∧ Below w.heap.size w w' := by
  have hb : ((s.size : Int) != 40) = false := by simp; omega
  have H40 : Hid (s.size = 40) := h40
  obtain ⟨g1, g2, _⟩ := decode_good 20 s.data.toList (by rw [size_list]; omega) hall
  have G1 : Hid ((Hx.decode s.data.toList).2 = .ok) := g1
  have G2 : Hid ((Hx.decode s.data.toList).1.length = 20) := g2
  obtain ⟨D, hD⟩ : ∃ D, D = (Hx.decode s.data.toList).1 := ⟨_, rfl⟩
  rw [← hD] at G2
  rw [← hD]
  have HD : Hid (D = (Hx.decode s.data.toList).1) := hD
  clear h40 hall g1 g2 hD
  go_enter Tryf.func6, Tryf.ntmps6
  go_wp2_with (first
    | (go_at_call 12; refine (encLen_any _ (by omega) (by omega) _).mono ?_; rintro e w' ⟨rfl, rfl⟩)
    | (refine conv_bytes _ rfl _ rfl s rfl ?_; intro cap w1 hcell hbel hsz))
  have HB : Hid (Below (w.heap.size + 1 + 1) ((w.alloc (.cells (hc zeros) 24)).alloc (.cells (hc zeros) 24)) w1) := by
    have := hbel.out
    simp only [asize] at this
    exact this
  have HCELL : Hid (∀ j, j < s.size → w1.cell? ⟨w.heap.size + 1 + 1, 0 + j, none⟩ = some (.int .u8 ((Hx.numsOf s).getD j 0))) := by
    intro j hj
    have := hcell.out j hj
    simp only [asize] at this
    rw [Nat.zero_add]
    exact this
  clear hcell hbel hsz
  have hrow : w1.rowIs (w.heap.size + 1) 24 20 (fun _ => .int .u8 0) := by
    refine World.rowIs.of_block (w := (w.alloc (.cells (hc zeros) 24)).alloc (.cells (hc zeros) 24)) ?_ (HB.out.block _ (by omega))
    have hr := World.rowIs_alloc (w.alloc (.cells (hc zeros) 24)) (hc zeros) 24 (fun _ => .int .u8 0) (fun i hi => by
      rw [hc_size] at hi
      rw [hc, zeros, List.map_replicate, List.getElem?_toArray, List.getElem?_replicate, if_pos (by simpa [zeros] using hi)]
      rfl)
    rw [asize] at hr
    exact hr
  refine (decode_any 24 (w.heap.size + 1) 0 20 20 20 (fun _ => .int .u8 0) (w.heap.size + 1 + 1) 0 s.size cap (Hx.numsOf s) w1 .nilIface (Hx.numsOf_length s) (fun i _ => Hx.numsOf_range s i) HCELL.out hrow (by omega) (by have := H40.out; omega) (by omega) (by have := H40.out; omega) (by have := H40.out; omega)).mono ?_
  rw [Hx.bytesOf_numsOf, G1.out, ← HD.out, show Hx.errVal 41 Value.nilIface Hx.Out.ok = .nilIface from rfl]
  rintro e w2 ⟨rfl, hrow2, hgrow⟩
  obtain ⟨hg0, hbelw, htape, hsz2⟩ := behind (D := D) HB.out hgrow
  obtain ⟨c, hgc, hcs, hci⟩ := hrow2
  obtain rfl := row_hc hcs G2.out hci
  have HG0 : Hid (w2.heap[w.heap.size]? = some (.cells (hc zeros) 24 (0, 0))) := hg0
  have HGC : Hid (w2.heap[w.heap.size + 1]? = some (.cells (hc D) 24 (0, 0))) := hgc
  clear hrow hgrow hci hg0 hgc HB HCELL
  have tok1 : True := trivial
  have tok2 : True := trivial
  go_wp2_with (first
    | (have _t := tok1; refine wpList_load_row rfl 24 _ rfl (w.heap.size + 1) rfl 24 (hc D) (0, 0) _ HGC.out Tryf.underlying24 rfl (by rw [hc_size, G2.out]; exact Tryf.size24) ?_; clear tok1)
    | (have _t := tok2; refine wpList_store_row rfl 24 _ _ rfl w.heap.size (hc D) rfl rfl 24 (hc zeros) HG0.out (by rw [hc_size, G2.out]; exact Tryf.size24) (by rw [hc_size, hc_size, G2.out]; rfl) (hc_one _) ?_; clear tok2))
  refine bodyPost_ret (parse_result _ _ w.heap.size (hc D) (0, 0) _ rfl rfl (setRow_heap w2 _ _ _ 24 (0, 0) HG0.out) (by rw [hc_size, G2.out])) rfl ?_
  exact ⟨rfl, below_row hbelw (Nat.le_refl _) _⟩
set_option maxHeartbeats 1000000 in
set_option maxRecDepth 100000 in
/-- Forty bytes, one of them no hexadecimal digit. -/
theorem parse_bad (F : Interp) (s : ByteArray) (w : World) (hF : F.answers w.tape) (h40 : s.size = 40) (hall : s.data.toList.all isHex = false) :
    Calls Tryf.prog 6 #[.string s] w fun e w' => ∃ a, e = .returned (.tuple #[hv zeros, .iface 46 (.pointer (some a))]) ∧ Below w.heap.size w w' := by
  have hb : ((s.size : Int) != 40) = false := by simp; omega
  have H40 : Hid (s.size = 40) := h40
  obtain ⟨ch, g1⟩ := decode_bad 20 s.data.toList (by rw [size_list]; omega) hall
  have G1 : Hid ((Hx.decode s.data.toList).2 = .bad ch) := g1
  clear h40 hall g1
  go_enter Tryf.func6, Tryf.ntmps6
  go_wp2_with (first
    | (go_at_call 12; refine (encLen_any _ (by omega) (by omega) _).mono ?_; rintro e w' ⟨rfl, rfl⟩)
    | (refine conv_bytes _ rfl _ rfl s rfl ?_; intro cap w1 hcell hbel hsz))
  have HB : Hid (Below (w.heap.size + 1 + 1) ((w.alloc (.cells (hc zeros) 24)).alloc (.cells (hc zeros) 24)) w1) := by
    have := hbel.out
    simp only [asize] at this
    exact this
  have HCELL : Hid (∀ j, j < s.size → w1.cell? ⟨w.heap.size + 1 + 1, 0 + j, none⟩ = some (.int .u8 ((Hx.numsOf s).getD j 0))) := by
    intro j hj
    have := hcell.out j hj
    simp only [asize] at this
    rw [Nat.zero_add]
    exact this
  clear hcell hbel hsz
  have hrow : w1.rowIs (w.heap.size + 1) 24 20 (fun _ => .int .u8 0) := by
    refine World.rowIs.of_block (w := (w.alloc (.cells (hc zeros) 24)).alloc (.cells (hc zeros) 24)) ?_ (HB.out.block _ (by omega))
    have hr := World.rowIs_alloc (w.alloc (.cells (hc zeros) 24)) (hc zeros) 24 (fun _ => .int .u8 0) (fun i hi => by
      rw [hc_size] at hi
      rw [hc, zeros, List.map_replicate, List.getElem?_toArray, List.getElem?_replicate, if_pos (by simpa [zeros] using hi)]
      rfl)
    rw [asize] at hr
    exact hr
  refine (decode_any 24 (w.heap.size + 1) 0 20 20 20 (fun _ => .int .u8 0) (w.heap.size + 1 + 1) 0 s.size cap (Hx.numsOf s) w1 .nilIface (Hx.numsOf_length s) (fun i _ => Hx.numsOf_range s i) HCELL.out hrow (by omega) (by have := H40.out; omega) (by omega) (by have := H40.out; omega) (by have := H40.out; omega)).mono ?_
  rw [Hx.bytesOf_numsOf, G1.out, show Hx.errVal 41 Value.nilIface (Hx.Out.bad ch) = .iface 41 (.int .u8 (ch.toNat : Int)) from rfl]
  rintro e w2 ⟨rfl, hrow2, hgrow⟩
  obtain ⟨hg0, hbelw, htape, hsz2⟩ := behind (D := zeros) HB.out hgrow
  have HG0 : Hid (w2.heap[w.heap.size]? = some (.cells (hc zeros) 24 (0, 0))) := hg0
  have HF : Hid (F.answers w2.tape) := by rw [htape]; exact hF
  obtain ⟨nn, hnn⟩ : ∃ nn : Int, nn = ((Hx.decode s.data.toList).1.length : Int) := ⟨_, rfl⟩
  rw [← hnn]
  clear hrow hgrow hrow2 hg0 HB HCELL htape hF hnn
  go_wp2_with fail
  refine (notAName_any F s w2 HF.out).mono ?_
  rintro e w3 ⟨a, rfl, hbel3⟩
  have hg3 : w3.heap[w.heap.size]? = some (.cells (hc zeros) 24 (0, 0)) := by
    rw [hbel3.block w.heap.size (by omega)]
    exact HG0.out
  have HB3 : Hid (Below w.heap.size w w3) := hbelw.trans (hbel3.mono hbelw.size)
  clear hbel3 hbelw HG0 HF
  have tok1 : True := trivial
  go_wp2_with (have _t := tok1; refine wpList_store_row rfl 24 _ _ rfl w.heap.size (hc zeros) rfl rfl 24 (hc zeros) hg3 (by rw [hc_size]; exact Tryf.size24) rfl (hc_one _) ?_; clear tok1)
  refine bodyPost_ret (parse_result _ _ w.heap.size (hc zeros) (0, 0) _ rfl rfl (setRow_heap w3 _ _ _ 24 (0, 0) hg3) rfl) rfl ?_
  exact ⟨a, rfl, below_row HB3.out (Nat.le_refl _) _⟩
end Go.Proofs.Qxb6627633aFmt
