/-
  A BUFFER OF BYTES THAT IS APPENDED TO: no dump. 'Buf W v l w': the slice value v holds the bytes l; it is nil or full (its capacity is its length), as it was when the call began in the world W, or it is a row that the call itself has made. 'Own': the second alone. In both: of what lay in W nothing has turned.
-/
import Derived.WalkKit
import Derived.WalkSpells
import Derived.WalkLawsBesides
import Derived.Lib.AppendStr
import Derived.Lib.UnsafeStr
import Derived.Deep.AppendSrc
namespace Go.Proofs.Qxb6600072aDoor
open Go.RowKit

/-- The cells of a list of bytes. -/
theorem byteCells_length (l : List UInt8) : (Lib.byteCells l).length = l.length := by simp [Lib.byteCells]
theorem byteCells_append (l m : List UInt8) : Lib.byteCells (l ++ m) = Lib.byteCells l ++ Lib.byteCells m := by simp [Lib.byteCells]
theorem byteCells_get (l : List UInt8) (j : Nat) : (Lib.byteCells l)[j]? = (l[j]?).map fun b => Value.int .u8 b.toNat := by simp [Lib.byteCells]
theorem byteCells_one (l : List UInt8) : ∀ u ∈ Lib.byteCells l, u.oneCell' = true := by
  intro u hu
  obtain ⟨b, _, rfl⟩ := List.mem_map.1 hu
  rfl

/-- The bytes l lie behind the address b. -/
def Lies (w : World) (b : Addr) (l : List UInt8) : Prop := ∀ j u, (Lib.byteCells l)[j]? = some u → w.cell? (b.add j) = some u

def Own (W : World) (v : Value) (l : List UInt8) (w : World) : Prop :=
  Below W.heap.size W w ∧ w.ownsRow W.heap.size 5 1 v l.length (Lib.byteCells l)

def Buf (W : World) (v : Value) (l : List UInt8) (w : World) : Prop :=
  (Below W.heap.size W w ∧ ∃ ao : Option Addr, v = .slice ao l.length l.length ∧ (ao = none → l = []) ∧ ∀ b, ao = some b → Lies W b l) ∨ Own W v l w

theorem Lies.later {W w : World} {b : Addr} {l : List UInt8} (h : Lies W b l) (hb : Below W.heap.size W w) : Lies w b l :=
  fun j u hj => (hb.cell (World.block_lt_of_cell? _ _ (h j u hj))).trans (h j u hj)

theorem Own.buf {W w : World} {v : Value} {l : List UInt8} (h : Own W v l w) : Buf W v l w := .inr h
theorem Own.below {W w : World} {v : Value} {l : List UInt8} (h : Own W v l w) : Below W.heap.size W w := h.1
theorem Buf.below {W w : World} {v : Value} {l : List UInt8} (h : Buf W v l w) : Below W.heap.size W w := by
  rcases h with h | h
  · exact h.1
  · exact h.1
theorem Own.alloc {W w : World} {v : Value} {l : List UInt8} (h : Own W v l w) (o : Obj) : Own W v l (w.alloc o) := ⟨h.1.alloc h.1.size o, h.2.alloc o⟩
theorem Own.drew {W w : World} {v : Value} {l : List UInt8} (h : Own W v l w) : Own W v l w.drew := ⟨h.1.drew, h.2.drew⟩
theorem Buf.alloc {W w : World} {v : Value} {l : List UInt8} (h : Buf W v l w) (o : Obj) : Buf W v l (w.alloc o) := by
  rcases h with h | h
  · exact .inl ⟨h.1.alloc h.1.size o, h.2⟩
  · exact .inr (h.alloc o)

/-- The byte type's row of the program's table. -/
structure Bytes (P : Program) : Prop where
  slice : P.underlying 22 = some (.slice 5)
  str : P.underlying 9 = some .string
  info : (P.info? 5).map (fun i => (i.zero, i.size, i.bytes)) = some (some (.int .u8 0), 1, 1)

section
variable {P : Program} {W w : World}

/-- THE ARM THAT GROWS, onto a slice that is nil or full; the source whatever. -/
theorem run_full (T : Bytes P) (tx ty : TypeId) (ao : Option Addr) (l : List UInt8) (hnone : ao = none → l = []) (hl : ∀ b, ao = some b → Lies W b l) (hB : Below W.heap.size W w)
    (x : Value) (news : List UInt8) (hs : Src P 1 tx x news.length (Lib.byteCells news) w) (hm : 0 < news.length) (hb : l.length + news.length ≤ 140737488355328) :
    ∃ v' w', (Builtin.append_ #[22, tx] ty #[.slice ao l.length l.length, x]).run P w = .ok v' w' ∧ Own W v' (l ++ news) w' := by
  obtain ⟨i, hi, hz0, hz1, hz2⟩ := info_parts T.info
  have hold : (Builtin.firstCells i.size l.length (.slice ao l.length l.length)).run P w.drew = .ok (Lib.byteCells l).toArray w.drew := by
    cases ao with
    | none =>
      have e := hnone rfl
      subst e
      exact run_firstCells_none w.drew i.size 0 0 0
    | some b =>
      refine run_firstCells_some w.drew i.size _ b _ _ _ (by rw [hz1, byteCells_length]; omega) ?_
      have hh := (hl b rfl).later hB
      exact fun j u hj => hh j u hj
  have hr := run_append_grow_src (P := P) w 22 tx ty 5 i (.int .u8 0) T.slice hi hz0 ao l.length l.length (Lib.byteCells l) hold x news.length (Lib.byteCells news) (by rw [hz1]; exact hs) (by omega) (by omega) (growslice_fits (by omega) (by rw [hz2]; omega))
  have hlen : (Lib.byteCells (l ++ news)).length = (l ++ news).length * 1 := by rw [byteCells_length]; omega
  have hge := grownCap_ge w (l.length + news.length) l.length 5
  have hcm : grownCap w (l.length + news.length) l.length 5 ≤ maxLen := grownCap_le_maxLen w _ _ 5 (by unfold maxLen; omega)
  refine ⟨_, _, hr, (hB.drew.alloc hB.size _), ?_⟩
  rw [List.length_append]
  refine ⟨by simpa using hlen, .inr ⟨w.heap.size, _, _, rfl, hB.size, heap_alloc_new w.drew _, hge, hcm, ?_, ?_⟩⟩
  · have hz1 : (Value.int IntKind.u8 0).cells.size = 1 := rfl
    simp only [Array.size_append, List.size_toArray, List.length_append, size_zeroCells, hz1, byteCells_length]
    omega
  · rw [byteCells_append]
    simp only [Array.toList_append]
    have e : (Lib.byteCells l ++ Lib.byteCells news).length = (l.length + news.length) * 1 := by rw [List.length_append, byteCells_length, byteCells_length]; omega
    rw [← e]
    exact List.take_left

/-- APPEND, THE SOURCE A SLICE. -/
theorem run_buf_slice (T : Bytes P) (ty : TypeId) (v : Value) (l : List UInt8) (h : Buf W v l w) (ad : Addr) (c : Nat) (news : List UInt8) (hn : Lies w ad news) (hm : 0 < news.length) (hb : l.length + news.length ≤ 140737488355328) :
    ∃ v' w', (Builtin.append_ #[22, 22] ty #[v, .slice (some ad) news.length c]).run P w = .ok v' w' ∧ Own W v' (l ++ news) w' := by
  rcases h with ⟨hB, ao, rfl, hnone, hl⟩ | ⟨hB, hown⟩
  · exact run_full T 22 ty ao l hnone hl hB _ news (Src.ofSlice w T.slice ad _ c _ (by rw [byteCells_length]; omega) hn (byteCells_one _)) hm hb
  · obtain ⟨i, hi, hz0, hz1, hz2⟩ := info_parts T.info
    obtain ⟨v', w', hr, h1, h2, _⟩ := run_append_own (P := P) w W.heap.size 22 ty 5 i (.int .u8 0) 1 1 T.slice hi hz0 hz1 hz2 rfl (by decide) v l.length (Lib.byteCells l) hown ad news.length c (Lib.byteCells news) (by rw [byteCells_length]; omega) hn (byteCells_one _) (by unfold maxLen; omega) (by omega) hB.size
    exact ⟨v', w', hr, hB.grown h2 hB.size (fun k hk => (hown.lt k hk).1), by rw [List.length_append, byteCells_append]; exact h1⟩

/-- APPEND, THE SOURCE A STRING. -/
theorem run_buf_string (T : Bytes P) (ty : TypeId) (v : Value) (l : List UInt8) (h : Buf W v l w) (s : ByteArray) (hm : 0 < s.size) (hb : l.length + s.size ≤ 140737488355328) :
    ∃ v' w', (Builtin.append_ #[22, 9] ty #[v, .string s]).run P w = .ok v' w' ∧ Own W v' (l ++ s.data.toList) w' := by
  have hs : s.data.toList.length = s.size := rfl
  rcases h with ⟨hB, ao, rfl, hnone, hl⟩ | ⟨hB, hown⟩
  · refine run_full T 9 ty ao l hnone hl hB _ s.data.toList ?_ (by omega) (by omega)
    have := Src.ofString w T.str s
    exact this
  · obtain ⟨i, hi, hz0, hz1, hz2⟩ := info_parts T.info
    obtain ⟨v', w', hr, h1, h2, _⟩ := Lib.run_append_own_string (P := P) w W.heap.size 22 9 ty 5 i T.slice T.str hi hz0 hz1 hz2 v l.length (Lib.byteCells l) hown s (by unfold maxLen; omega) (by omega) hB.size
    exact ⟨v', w', hr, hB.grown h2 hB.size (fun k hk => (hown.lt k hk).1), by rw [List.length_append, byteCells_append, hs]; exact h1⟩

/-- The three operations, for the walk: a slice, one byte, a string. -/
theorem wpList_buf_slice {ops : Array Oper} {rest : List Oper} {o : Oper} {a : Act} {Q : Exit → Act → World → Prop} (T : Bytes P) (hg : o.guard = none) (s x : Operand)
    (ho : o.op = .call { callee := .builtin .append, args := #[s, x], argTypes := #[22, 22] })
    (v : Value) (l : List UInt8) (hs : a.eval s = v) (h : Buf W v l w) (ad : Addr) (m c : Nat) (news : List UInt8) (hx : a.eval x = .slice (some ad) m c) (hmn : m = news.length) (hn : Lies w ad news) (hm : 0 < news.length) (hb : l.length + news.length ≤ 140737488355328)
    (hK : ∀ v' w', Own W v' (l ++ news) w' → wpList P ops Q rest (a.put o.dst v') w') : wpList P ops Q (o :: rest) a w := by
  refine wpList_plain hg fun K hK' => ?_
  subst hmn
  obtain ⟨v', w', hr, h2⟩ := run_buf_slice T o.type v l h ad c news hn hm hb
  unfold Oper.wp
  simp [execOp, ho, resolve, invoke, builtin, hs, hx, hr, Result.andThen]
  exact hK' _ _ (hK v' w' h2)

theorem wpList_buf_byte {ops : Array Oper} {rest : List Oper} {o : Oper} {a : Act} {Q : Exit → Act → World → Prop} (T : Bytes P) (hg : o.guard = none) (s x : Operand)
    (ho : o.op = .call { callee := .builtin .append, args := #[s, x], argTypes := #[22, 22] })
    (v : Value) (l : List UInt8) (hs : a.eval s = v) (h : Buf W v l w) (z : Int) (b : UInt8) (hz : z = (b.toNat : Int)) (hx : a.eval x = .slice (some ⟨w.heap.size, 0, none⟩) 1 1) (hb : l.length + 1 ≤ 140737488355328)
    (hK : ∀ v' w', Own W v' (l ++ [b]) w' → wpList P ops Q rest (a.put o.dst v') w') : wpList P ops Q (o :: rest) a (w.alloc (.cells #[.int .u8 z] 5)) := by
  refine wpList_buf_slice T hg s x ho v l hs (h.alloc _) ⟨w.heap.size, 0, none⟩ 1 1 [b] hx rfl ?_ (by simp) hb hK
  subst hz
  intro j u hj
  match j, hj with
  | 0, hj =>
    simp [Lib.byteCells] at hj
    subst hj
    simp [Addr.add]

theorem wpList_buf_string {ops : Array Oper} {rest : List Oper} {o : Oper} {a : Act} {Q : Exit → Act → World → Prop} (T : Bytes P) (hg : o.guard = none) (s x : Operand)
    (ho : o.op = .call { callee := .builtin .append, args := #[s, x], argTypes := #[22, 9] })
    (v : Value) (l : List UInt8) (hs : a.eval s = v) (h : Buf W v l w) (z : ByteArray) (hx : a.eval x = .string z) (hm : 0 < z.size) (hb : l.length + z.size ≤ 140737488355328)
    (hK : ∀ v' w', Own W v' (l ++ z.data.toList) w' → wpList P ops Q rest (a.put o.dst v') w') : wpList P ops Q (o :: rest) a w := by
  refine wpList_plain hg fun K hK' => ?_
  obtain ⟨v', w', hr, h2⟩ := run_buf_string T o.type v l h z hm hb
  unfold Oper.wp
  simp [execOp, ho, resolve, invoke, builtin, hs, hx, hr, Result.andThen]
  exact hK' _ _ (hK v' w' h2)
end

/-- What is owned, as a value: its head, its cells. -/
theorem Own.form {W w : World} {v : Value} {l : List UInt8} (h : Own W v l w) (hl : 0 < l.length) :
    ∃ g cap, v = .slice (some ⟨g, 0, none⟩) l.length cap ∧ W.heap.size ≤ g ∧ l.length ≤ cap ∧ cap ≤ maxLen ∧ ∀ j, (hj : j < l.length) → w.cell? ⟨g, j, none⟩ = some (.int .u8 (l[j].toNat : Int)) := by
  obtain ⟨_, hown⟩ := h
  have h2 := hown.2
  rcases h2 with ⟨_, h0⟩ | ⟨g, cap, cur, rfl, hg, hh, hle, hmax, _, _⟩
  · omega
  · refine ⟨g, cap, rfl, hg, hle, hmax, fun j hj => ?_⟩
    rw [hown.cellAt j (by omega), byteCells_get, List.getElem?_eq_getElem hj]
    rfl

end Go.Proofs.Qxb6600072aDoor
