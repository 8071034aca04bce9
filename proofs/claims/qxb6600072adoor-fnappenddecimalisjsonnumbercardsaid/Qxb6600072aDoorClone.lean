/-
  THE WALK of 'recB1Clone'.
-/
import Derived.Test.Qxb6600072aDoorSmall
import Derived.Lib.SliceRun
import Derived.Laws.CopyOwn
namespace Go.Proofs.Qxb6600072aDoor
open Go.RowKit

theorem bytesT : Bytes Tryd.prog := ⟨Tryd.underlying22, Tryd.underlying9, by kernel_rfl⟩
theorem size5 : (Tryd.prog.info? 5).map (·.size) = some 1 := by kernel_rfl

/-- What a copy leaves. -/
def Cloned (w w' : World) (l : List UInt8) : Prop := Below w.heap.size w w' ∧ w.heap.size < w'.heap.size ∧ Seg w' w.heap.size 0 l

theorem made_block {w1 : World} {B n : Nat} {xs : List Value} (h : w1.ownsRow B 5 1 (.slice (some ⟨B, 0, none⟩) n n) n xs) : w1.heap[B]? = some (.cells xs.toArray 5 (0, 0)) ∧ xs.length = n := by
  have hl := h.1
  rcases h.2 with ⟨h', _⟩ | ⟨g, cap, cur, h', _, hg, _, _, hcs, ht⟩
  · simp at h'
  · simp only [Value.slice.injEq, Option.some.injEq, Addr.mk.injEq, and_true, true_and] at h'
    obtain ⟨rfl, rfl⟩ := h'
    have e : cur = xs.toArray := by
      apply Array.ext'
      rw [← ht, List.take_of_length_le (by rw [Array.length_toList]; omega)]
    rw [← e]
    exact ⟨hg, by omega⟩

/-- What 'make' leaves. -/
structure Made (w w1 : World) (n : Nat) (zs : List Value) : Prop where
  block : w1.heap[w.heap.size]? = some (.cells zs.toArray 5 (0, 0))
  len : zs.length = n
  below : Below w.heap.size w w1

theorem made_row {w w1 : World} {n : Nat} {xs : List Value} (h : w1.ownsRow w.heap.size 5 1 (.slice (some ⟨w.heap.size, 0, none⟩) n n) n xs) (hg : w.grownBy w1 none) : ∃ zs, Made w w1 n zs :=
  ⟨xs, (made_block h).1, (made_block h).2, (Below.refl _ _).grown hg (Nat.le_refl _) (fun k hk => by cases hk)⟩

theorem cloned_of {w w2 : World} {l : List UInt8} {zs : List Value} (hz : zs.length = l.length) (hg : w2.heap[w.heap.size]? = some (.cells (splice zs 0 (Lib.byteCells l)).toArray 5 (0, 0))) (hb : Below w.heap.size w w2) : Cloned w w2 l := by
  have hs : splice zs 0 (Lib.byteCells l) = Lib.byteCells l := by
    unfold splice
    rw [List.drop_of_length_le (by rw [byteCells_length]; omega)]
    simp
  rw [hs] at hg
  refine ⟨hb, (Array.getElem?_eq_some_iff.1 hg).1, fun k hk => ?_⟩
  rw [cell_of_row w2 _ _ _ _ _ hg, Nat.zero_add]
  simp only [List.getElem?_toArray, byteCells_get, List.getElem?_eq_getElem hk, tb_eq _ _ hk]
  rfl

theorem copy_run {w w1 : World} {xs : List Value} {l : List UInt8} {a : Addr} {cap : Nat} (h : w1.ownsRow w.heap.size 5 1 (.slice (some ⟨w.heap.size, 0, none⟩) l.length l.length) l.length xs) (hg : w.grownBy w1 none) (hc : Lies w a l) :
    ∃ w2, (Builtin.copy_ #[22, 22] 3 #[.slice (some ⟨w.heap.size, 0, none⟩) l.length l.length, .slice (some a) l.length cap]).run Tryd.prog w1 = .ok (.int .i64 l.length) w2 ∧ Cloned w w2 l := by
  obtain ⟨zs, hm⟩ := made_row h hg
  have hr := run_copy_row (P := Tryd.prog) w1 22 22 3 5 w.heap.size 0 l.length l.length a l.length cap zs.toArray 5 (Lib.byteCells l) Tryd.underlying22 size5 hm.block (by rw [byteCells_length]; exact (Nat.min_self _).symm) (hc.later hm.below) (by rw [byteCells_length]; simp [hm.len]) (byteCells_one l)
  refine ⟨_, by rw [hr, byteCells_length]; rfl, cloned_of (zs := zs) hm.len ?_ (below_setRow hm.below (Nat.le_refl _) _)⟩
  rw [setRow_heap w1 _ _ _ 5 _ hm.block]
  simp [splice, byteCells_length]

set_option maxHeartbeats 400000 in
theorem clone_nil (w : World) : Calls Tryd.prog 13 #[.slice none 0 0] w fun e w' => e = .returned (.slice none 0 0) ∧ w' = w := by
  have q22 : ∀ (w : World) (a : Option Addr) (n c n' c' : Nat), (binOp .eql 22 (.slice a n c) (.slice none n' c')).run Tryd.prog w = .ok (.bool a.isNone) w := fun w a n c n' c' => Lib.run_eql_slice_nil w _ _ a n c n' c' Tryd.underlying22
  go_enter Tryd.func13, Tryd.ntmps13
  go_wp2
  go_ret
  exact ⟨rfl, rfl⟩

set_option maxHeartbeats 400000 in
theorem clone_any (a : Addr) (cap : Nat) (l : List UInt8) (w : World) (hl : l.length ≤ 1048576) (hc : Lies w a l) :
    Calls Tryd.prog 13 #[.slice (some a) l.length cap] w fun e w' => e = .returned (.slice (some ⟨w.heap.size, 0, none⟩) l.length l.length) ∧ Cloned w w' l := by
  have q22 : ∀ (w : World) (a : Option Addr) (n c n' c' : Nat), (binOp .eql 22 (.slice a n c) (.slice none n' c')).run Tryd.prog w = .ok (.bool a.isNone) w := fun w a n c n' c' => Lib.run_eql_slice_nil w _ _ a n c n' c' Tryd.underlying22
  obtain ⟨i0, hi, hz0, hz1, hz2⟩ := info_parts bytesT.info
  go_enter Tryd.func13, Tryd.ntmps13
  go_wp2_with (at_make; refine wpList_make_full _ rfl _ _ 22 rfl w.heap.size 5 i0 (.int .u8 0) 1 Tryd.underlying22 hi hz0 hz1 .i64 .i64 _ _ l.length rfl rfl rfl rfl (by rw [hz2]; omega) (by unfold maxLen; omega) (Nat.le_refl _) ?_; intro w1 hown hgrow; obtain ⟨w2, hrun, hcl⟩ := copy_run (cap := cap) hown hgrow hc; clear hown hgrow)
  go_ret
  exact ⟨rfl, hcl⟩

end Go.Proofs.Qxb6600072aDoor
