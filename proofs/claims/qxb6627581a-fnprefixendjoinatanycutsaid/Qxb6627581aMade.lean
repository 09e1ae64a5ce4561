/-
  TWO LAWS FOR THE WALK: 'zzc := make([]byte, n)' and 'copy(zzc, p)', in the words of this seat.
-/
import Derived.Test.Qxb6627581aEnds
import Derived.Laws.CopyOwn
import Derived.Deep.DeepCutAuto
namespace Go.Proofs.Qxb6627581a
open Go.RowKit Plain
set_option linter.unusedVariables false

/-- Block g is a row of n bytes (whatever they are). -/
def Row (w : World) (g n : Nat) : Prop := ∃ cur : List Value, cur.length = n ∧ w.heap[g]? = some (.cells cur.toArray 5 (0, 0))

theorem make_row (w : World) {ops : Array Oper} {rest : List Oper} {o : Oper} {a : Act} {Q : Exit → Act → World → Prop}
    (hg : o.guard = none) (l c : Operand) (hop : o.op = Op.makeSlice 22 l c) (n : Nat) (hn : n ≤ 1048576)
    (hl : a.eval l = .int .i64 (n : Int)) (hc : a.eval c = .int .i64 (n : Int))
    (hK : ∀ w', Row w' w.heap.size n → Below w.heap.size w w' → wpList Try.prog ops Q rest (a.put o.dst (.slice (some ⟨w.heap.size, 0, none⟩) n n)) w') :
    wpList Try.prog ops Q (o :: rest) a w := by
  obtain ⟨i0, hi, hz0, hz1, hz2⟩ := info_parts Try.info5
  refine wpList_make_full w hg l c 22 hop w.heap.size 5 i0 (.int .u8 0) 1 Try.underlying22 hi hz0 hz1 _ _ _ _ n hl hc rfl rfl (by rw [hz2]; omega) (by unfold maxLen; omega) (Nat.le_refl _) ?_
  intro w' hown hgrow
  refine hK w' ?_ ((Below.refl _ w).grown hgrow (Nat.le_refl _) (fun k hk => by cases hk))
  rcases hown.2 with ⟨h', _⟩ | ⟨g', cap', cur, h', hb, hgg, hnc, hcm, hcs, _⟩
  · simp at h'
  · simp only [Value.slice.injEq, Option.some.injEq, Addr.mk.injEq, and_true, true_and] at h'
    obtain ⟨rfl, rfl⟩ := h'
    exact ⟨cur.toList, by simpa using hcs, by simpa using hgg⟩

theorem copy_row (w : World) {ops : Array Oper} {rest : List Oper} {o : Oper} {a : Act} {Q : Exit → Act → World → Prop} (hgd : o.guard = none) (d s : Operand)
    (ho : o.op = .call { callee := .builtin .copy, args := #[d, s], argTypes := #[22, 22] }) (g n : Nat) (ad : Addr) (c : Nat) (hd : a.eval d = .slice (some ⟨g, 0, none⟩) n n) (hs : a.eval s = .slice (some ad) n c)
    (hr : Row w g n) (l : List Int) (hbi : BI w (some ad) n l) (B : Nat) (w0 : World) (hb : Below B w0 w) (hBg : B ≤ g)
    (h : ∀ w', BI w' (some ⟨g, 0, none⟩) n l → Below B w0 w' → wpList Try.prog ops Q rest (a.put o.dst (goInt n)) w') :
    wpList Try.prog ops Q (o :: rest) a w := by
  obtain ⟨cur, hcl, hg⟩ := hr
  have hll : (cellsOf l).length = n := by simp [cellsOf]; exact hbi.1
  refine wpList_copy_splice hgd d s 22 22 ho 5 Try.underlying22 (by kernel_rfl) _ _ n n n c hd hs g 0 cur 5 hg (cellsOf l) (by rw [hll]; simp) (fun _ => ⟨rfl, ad, rfl, hbi.source⟩) (by omega) (cellsOf_one l) B w0 hb hBg ?_
  intro w' HG hB'
  rw [hll]
  refine h w' ?_ hB'
  have hg' := HG.out
  have e : splice cur 0 (cellsOf l) = cellsOf l := by
    simp [splice, hll]
    omega
  rw [e] at hg'
  refine ⟨hbi.1, hbi.2.1, fun h0 => ⟨g, 0, rfl, fun i hi => ?_⟩⟩
  rw [Nat.zero_add]
  simp only [World.cell?, hg']
  have hl' : i < l.length := by have := hbi.1; omega
  simpa using cellsOf_at hl'
end Go.Proofs.Qxb6627581a
