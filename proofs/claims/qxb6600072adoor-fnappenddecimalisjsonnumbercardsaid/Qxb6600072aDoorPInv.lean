/-
  WHAT 'recB1Parse' KEEPS IN MEMORY WHILE IT READS: the result's block, p's block, the row of digits that it gathers.
-/
import Derived.Test.Qxb6600072aDoorClone
import Derived.Test.Qxb6600072aDoorScan
namespace Go.Proofs.Qxb6600072aDoor
open Go.RowKit

/-- W: the world in which the call began. Block W.heap.size: the result; the next: p; mant: a row of the call's own behind them. -/
structure PInv (W : World) (neg pt ex : Bool) (v : Value) (l : List UInt8) (w : World) : Prop where
  below : Below W.heap.size W w
  res : w.heap[W.heap.size]? = some (.cells #[.bool false, .slice none 0 0, .int .i64 0, .bool false, .bool false] 28 (0, 0))
  num : w.heap[W.heap.size + 1]? = some (.cells #[.bool neg, .slice none 0 0, .int .i64 0, .bool pt, .bool ex] 28 (0, 0))
  own : w.ownsRow (W.heap.size + 2) 5 1 v l.length (Lib.byteCells l)

section
variable {W w : World} {neg pt ex : Bool} {v : Value} {l : List UInt8}

theorem PInv.size (h : PInv W neg pt ex v l w) : W.heap.size + 2 ≤ w.heap.size := by
  have := (Array.getElem?_eq_some_iff.1 h.num).1
  omega

theorem PInv.cells (h : PInv W neg pt ex v l w) : w.cell? ⟨W.heap.size + 1, 0, none⟩ = some (.bool neg) ∧ w.cell? ⟨W.heap.size + 1, 1, none⟩ = some (.slice none 0 0) ∧ w.cell? ⟨W.heap.size + 1, 2, none⟩ = some (.int .i64 0) ∧
    w.cell? ⟨W.heap.size + 1, 3, none⟩ = some (.bool pt) ∧ w.cell? ⟨W.heap.size + 1, 4, none⟩ = some (.bool ex) := by
  refine ⟨?_, ?_, ?_, ?_, ?_⟩ <;> (rw [cell_of_row w _ _ _ _ _ h.num]; rfl)

theorem PInv.resCells (h : PInv W neg pt ex v l w) : w.cell? ⟨W.heap.size, 0, none⟩ = some (.bool false) ∧ w.cell? ⟨W.heap.size, 1, none⟩ = some (.slice none 0 0) ∧ w.cell? ⟨W.heap.size, 2, none⟩ = some (.int .i64 0) ∧
    w.cell? ⟨W.heap.size, 3, none⟩ = some (.bool false) ∧ w.cell? ⟨W.heap.size, 4, none⟩ = some (.bool false) := by
  refine ⟨?_, ?_, ?_, ?_, ?_⟩ <;> (rw [cell_of_row w _ _ _ _ _ h.res]; rfl)

theorem PInv.free (h : PInv W neg pt ex v l w) (j : Nat) : w.frozen? ⟨W.heap.size + 1, j, none⟩ = false := frozen_of_row w _ _ _ _ h.num
theorem PInv.resFree (h : PInv W neg pt ex v l w) (j : Nat) : w.frozen? ⟨W.heap.size, j, none⟩ = false := frozen_of_row w _ _ _ _ h.res

/-- A store into p keeps the row. -/
theorem own_setCell (h : w.ownsRow (W.heap.size + 2) 5 1 v l.length (Lib.byteCells l)) (b : Nat) (hb : b < W.heap.size + 2) (j : Nat) (u : Value) : (w.setCell ⟨b, j, none⟩ u).ownsRow (W.heap.size + 2) 5 1 v l.length (Lib.byteCells l) := by
  refine ⟨h.1, ?_⟩
  rcases h.2 with h' | ⟨g, cap, cur, hv, hg, hh, h3, h4, h5, h6⟩
  · exact .inl h'
  · exact .inr ⟨g, cap, cur, hv, hg, by rw [Below.heap_setCell _ _ _ _ (by simp only []; omega)]; exact hh, h3, h4, h5, h6⟩

theorem PInv.point (h : PInv W neg pt ex v l w) : PInv W neg true ex v l (w.setCell ⟨W.heap.size + 1, 3, none⟩ (.bool true)) := by
  refine ⟨h.below.setCell (by simp only []; omega) _, ?_, ?_, own_setCell h.own _ (by omega) _ _⟩
  · rw [Below.heap_setCell _ _ _ _ (by simp only []; omega)]; exact h.res
  · rw [heap_setCell_same w _ _ _ _ _ h.num]; rfl

theorem PInv.expo (h : PInv W neg pt ex v l w) : PInv W neg pt true v l (w.setCell ⟨W.heap.size + 1, 4, none⟩ (.bool true)) := by
  refine ⟨h.below.setCell (by simp only []; omega) _, ?_, ?_, own_setCell h.own _ (by omega) _ _⟩
  · rw [Below.heap_setCell _ _ _ _ (by simp only []; omega)]; exact h.res
  · rw [heap_setCell_same w _ _ _ _ _ h.num]; rfl

theorem PInv.alloc (h : PInv W neg pt ex v l w) (o : Obj) : PInv W neg pt ex v l (w.alloc o) := by
  have hs := h.size
  exact ⟨h.below.alloc h.below.size o, (Below.heap_alloc w o _ (by omega)).trans h.res, (Below.heap_alloc w o _ (by omega)).trans h.num, h.own.alloc o⟩

theorem PInv.drew (h : PInv W neg pt ex v l w) : PInv W neg pt ex v l w.drew := ⟨h.below.drew, h.res, h.num, h.own.drew⟩

theorem PInv.start (W : World) (neg : Bool) : PInv W neg false false (.slice none 0 0) [] ((W.alloc (.cells #[.bool false, .slice none 0 0, .int .i64 0, .bool false, .bool false] 28)).alloc (.cells #[.bool neg, .slice none 0 0, .int .i64 0, .bool false, .bool false] 28)) := by
  refine ⟨((Below.refl _ _).alloc (Nat.le_refl _) _).alloc (by simp) _, ?_, ?_, World.ownsRow_nil _ _ _ _⟩
  · rw [Below.heap_alloc _ _ _ (by simp)]
    exact heap_alloc_new W _
  · have := heap_alloc_new (W.alloc (.cells #[.bool false, .slice none 0 0, .int .i64 0, .bool false, .bool false] 28)) (.cells #[.bool neg, .slice none 0 0, .int .i64 0, .bool false, .bool false] 28)
    simpa using this

theorem PInv.grown {w' : World} {v' : Value} {l' : List UInt8} (h : PInv W neg pt ex v l w) (hg : w.grownBy w' v.ownBlock) (ho : w'.ownsRow (W.heap.size + 2) 5 1 v' l'.length (Lib.byteCells l')) : PInv W neg pt ex v' l' w' := by
  have hs := h.size
  have hlt := h.own.lt
  refine ⟨h.below.grown hg h.below.size (fun k hk => by have := (hlt k hk).1; omega), ?_, ?_, ho⟩
  · rw [hg.block _ (by omega) (fun e => by have := (hlt _ e.symm).1; omega)]; exact h.res
  · rw [hg.block _ (by omega) (fun e => by have := (hlt _ e.symm).1; omega)]; exact h.num

/-- 'mant = append(mant, c)'. -/
theorem wpList_pinv_byte {P : Program} {ops : Array Oper} {rest : List Oper} {o : Oper} {a : Act} {Q : Exit → Act → World → Prop} (T : Bytes P) (hg : o.guard = none) (s x : Operand)
    (ho : o.op = .call { callee := .builtin .append, args := #[s, x], argTypes := #[22, 22] })
    (v : Value) (l : List UInt8) (hs : a.eval s = v) (h : PInv W neg pt ex v l w) (z : Int) (b : UInt8) (hz : z = (b.toNat : Int)) (hx : a.eval x = .slice (some ⟨w.heap.size, 0, none⟩) 1 1) (hb : l.length + 1 ≤ 140737488355328)
    (hK : ∀ v' w', PInv W neg pt ex v' (l ++ [b]) w' → wpList P ops Q rest (a.put o.dst v') w') : wpList P ops Q (o :: rest) a (w.alloc (.cells #[.int .u8 z] 5)) := by
  refine wpList_plain hg fun K hK' => ?_
  subst hz
  have hn : Lies (w.alloc (.cells #[.int .u8 (b.toNat : Int)] 5)) ⟨w.heap.size, 0, none⟩ [b] := by
    intro j u hj
    match j, hj with
    | 0, hj =>
      simp [Lib.byteCells] at hj
      subst hj
      simp [Addr.add]
  obtain ⟨i, hi, hz0, hz1, hz2⟩ := info_parts T.info
  have hA := h.alloc (.cells #[.int .u8 (b.toNat : Int)] 5)
  obtain ⟨v', w', hr, h1, h2, _⟩ := run_append_own (P := P) (w.alloc (.cells #[.int .u8 (b.toNat : Int)] 5)) (W.heap.size + 2) 22 o.type 5 i (.int .u8 0) 1 1 T.slice hi hz0 hz1 hz2 rfl (by decide) v l.length (Lib.byteCells l) hA.own ⟨w.heap.size, 0, none⟩ 1 1 (Lib.byteCells [b]) (by rw [byteCells_length]; rfl) hn (byteCells_one _) (by unfold maxLen; omega) (by omega) hA.size
  have hP := hA.grown (l' := l ++ [b]) h2 (by rw [List.length_append, byteCells_append]; exact h1)
  unfold Oper.wp
  simp [execOp, ho, resolve, invoke, builtin, hs, hx, hr, Result.andThen]
  exact hK' _ _ (hK v' w' hP)

/-- The gathered digits as a value. -/
theorem PInv.form (h : PInv W neg pt ex v l w) (hl : 0 < l.length) :
    ∃ g cap, v = .slice (some ⟨g, 0, none⟩) l.length cap ∧ W.heap.size + 2 ≤ g ∧ l.length ≤ cap ∧ cap ≤ maxLen ∧ Seg w g 0 l := by
  have hown := h.own
  rcases hown.2 with ⟨_, h0⟩ | ⟨g, cap, cur, rfl, hg, hh, hle, hmax, _, _⟩
  · omega
  · refine ⟨g, cap, rfl, hg, hle, hmax, fun j hj => ?_⟩
    rw [Nat.zero_add, hown.cellAt j (by omega), byteCells_get, List.getElem?_eq_getElem hj, tb_eq _ _ hj]
    rfl
end

end Go.Proofs.Qxb6600072aDoor
