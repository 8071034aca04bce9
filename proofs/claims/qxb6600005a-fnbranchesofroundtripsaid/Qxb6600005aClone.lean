/-
  THE WALK of 'cloneStrings'.
-/
import Derived.Test.Qxb6600005aBytes
import Derived.Lib.SliceRun
namespace Go.Proofs.Qxb6600005a
open Go.RowKit

theorem info9 : (Try.prog.info? 9).map (fun i => (i.zero, i.size, i.bytes)) = some (some (.string ByteArray.empty), 1, 16) := by kernel_rfl

set_option maxHeartbeats 400000 in
theorem clone_nil (w : World) : Calls Try.prog 14 #[.slice none 0 0] w fun e w' => e = .returned (.slice none 0 0) ∧ w' = w := by
  have q28 : ∀ (w : World) (a : Option Addr) (n c n' c' : Nat), (binOp .eql 28 (.slice a n c) (.slice none n' c')).run Try.prog w = .ok (.bool a.isNone) w := fun w a n c n' c' => Lib.run_eql_slice_nil w _ _ a n c n' c' Try.underlying28
  go_enter Try.func14, Try.ntmps14
  go_wp2
  go_ret
  exact ⟨rfl, rfl⟩

/-- What a call that copies strings into a new row leaves. -/
def Cloned (w w' : World) (len : Nat) (S : Nat → ByteArray) : Prop :=
  Below w.heap.size w w' ∧ w.heap.size < w'.heap.size ∧ ∀ k, k < len → w'.cell? ⟨w.heap.size, k, none⟩ = some (.string (S k))

/-- What holds at a round's head: of the new row the first k strings are copied. -/
def CInv (w : World) (len : Nat) (S : Nat → ByteArray) (k : Nat) (wr : World) : Prop :=
  ∃ xs : List Value, wr.ownsRow w.heap.size 9 1 (.slice (some ⟨w.heap.size, 0, none⟩) len len) len xs ∧ (∀ j, j < k → xs[j]? = some (.string (S j))) ∧ Below w.heap.size w wr ∧ w.heap.size < wr.heap.size

section
variable {w wr w1 : World} {len k : Nat} {S : Nat → ByteArray} {xs : List Value}

theorem CInv.start (hown : w1.ownsRow w.heap.size 9 1 (.slice (some ⟨w.heap.size, 0, none⟩) len len) len xs) (hg : w.grownBy w1 none) : CInv w len S 0 w1 :=
  ⟨xs, hown, fun j hj => by omega, (Below.refl _ _).grown hg (Nat.le_refl _) (fun k hk => by cases hk), (hown.lt w.heap.size rfl).2⟩

theorem CInv.free (h : CInv w len S k wr) (j : Nat) : wr.frozen? ⟨w.heap.size, j, none⟩ = false := by
  obtain ⟨xs, h1, _⟩ := h
  exact h1.frozenAt j

theorem CInv.there (h : CInv w len S k wr) (hk : k < len) : ∃ v, wr.cell? ⟨w.heap.size, k, none⟩ = some v := by
  obtain ⟨xs, h1, _⟩ := h
  rw [h1.cellAt k (by omega)]
  have := h1.1
  exact ⟨xs[k]'(by omega), by simp⟩

theorem CInv.cell (h : CInv w len S k wr) {p : Addr} {v : Value} (hc : w.cell? p = some v) : wr.cell? p = some v := by
  obtain ⟨xs, _, _, h3, _⟩ := h
  exact (h3.cell (World.block_lt_of_cell? _ _ hc)).trans hc

theorem CInv.step (h : CInv w len S k wr) (hk : k < len) : CInv w len S (k + 1) (wr.setCell ⟨w.heap.size, k, none⟩ (.string (S k))) := by
  obtain ⟨xs, h1, h2, h3, h4⟩ := h
  have hl := h1.1
  refine ⟨_, (h1.stored k _).1, fun j hj => ?_, h3.setCell (Nat.le_refl _) _, by simpa [World.setCell] using h4⟩
  rw [List.getElem?_set]
  by_cases e : k = j
  · subst e; rw [if_pos rfl, if_pos (by omega)]
  · rw [if_neg e]; exact h2 j (by omega)

theorem CInv.done (h : CInv w len S len wr) : Cloned w wr len S := by
  obtain ⟨xs, h1, h2, h3, h4⟩ := h
  exact ⟨h3, h4, fun j hj => by rw [h1.cellAt j (by omega)]; exact h2 j hj⟩
end

set_option maxHeartbeats 400000 in
theorem clone_empty (a : Addr) (cap : Nat) (S : Nat → ByteArray) (w : World) :
    Calls Try.prog 14 #[.slice (some a) 0 cap] w fun e w' => e = .returned (.slice (some ⟨w.heap.size, 0, none⟩) 0 0) ∧ Cloned w w' 0 S := by
  have q28 : ∀ (w : World) (a : Option Addr) (n c n' c' : Nat), (binOp .eql 28 (.slice a n c) (.slice none n' c')).run Try.prog w = .ok (.bool a.isNone) w := fun w a n c n' c' => Lib.run_eql_slice_nil w _ _ a n c n' c' Try.underlying28
  obtain ⟨i0, hi, hz0, hz1, hz2⟩ := info_parts info9
  go_enter Try.func14, Try.ntmps14
  go_wp2_with (at_make; refine wpList_make_full _ rfl _ _ 28 rfl w.heap.size 9 i0 (.string ByteArray.empty) 1 Try.underlying28 hi hz0 hz1 .i64 .i64 _ _ 0 rfl rfl rfl rfl (by omega) (by unfold maxLen; omega) (Nat.le_refl _) ?_; intro w1 hown hgrow)
  have hinv : CInv w 0 S 0 w1 := CInv.start hown hgrow
  clear hown hgrow
  refine wp_loop_rounds 1 ?_
  rw [rounds_succ]
  go_wp2
  go_ret
  exact ⟨rfl, hinv.done⟩

set_option maxHeartbeats 400000 in
theorem clone_any (b off len cap : Nat) (S : Nat → ByteArray) (w : World) (h0 : len ≤ 65536)
    (hc : ∀ k, k < len → w.cell? ⟨b, off + k, none⟩ = some (.string (S k))) :
    Calls Try.prog 14 #[.slice (some ⟨b, off, none⟩) len cap] w fun e w' => e = .returned (.slice (some ⟨w.heap.size, 0, none⟩) len len) ∧ Cloned w w' len S := by
  have q28 : ∀ (w : World) (a : Option Addr) (n c n' c' : Nat), (binOp .eql 28 (.slice a n c) (.slice none n' c')).run Try.prog w = .ok (.bool a.isNone) w := fun w a n c n' c' => Lib.run_eql_slice_nil w _ _ a n c n' c' Try.underlying28
  have HC : Hid (∀ k, k < len → w.cell? ⟨b, off + k, none⟩ = some (.string (S k))) := hc
  clear hc
  obtain ⟨i0, hi, hz0, hz1, hz2⟩ := info_parts info9
  go_enter Try.func14, Try.ntmps14
  go_wp2_with (at_make; refine wpList_make_full _ rfl _ _ 28 rfl w.heap.size 9 i0 (.string ByteArray.empty) 1 Try.underlying28 hi hz0 hz1 .i64 .i64 _ _ len rfl rfl rfl rfl (by rw [hz2]; omega) (by unfold maxLen; omega) (Nat.le_refl _) ?_; intro w1 hown hgrow)
  have hinv : CInv w len S 0 w1 := CInv.start hown hgrow
  clear hown hgrow hi hz0 hz1 hz2 i0
  go_loopw [4] (fun i wr => ∃ k : Nat, k ≤ len ∧ i = .int .i64 k ∧ CInv w len S k wr) (fun i _ => len - (intOf i).toNat)
  case atStart => exact ⟨0, Nat.zero_le _, rfl, hinv⟩
  case round =>
    obtain ⟨k, hk, rfl, hr⟩ := hrel
    by_cases hlt : k < len
    · have hcell := hr.cell (HC.out k hlt)
      have hfree := hr.free k
      obtain ⟨v, hv⟩ := hr.there hlt
      go_wp2
      go_roundw
      case rel => exact ⟨k + 1, by omega, by go_num, hr.step hlt⟩
      case measure => simp [intOf]; omega
    · obtain rfl : k = len := by omega
      go_wp2
      go_ret
      exact ⟨rfl, hr.done⟩

end Go.Proofs.Qxb6600005a
