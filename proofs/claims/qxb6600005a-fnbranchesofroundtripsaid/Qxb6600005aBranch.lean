/-
  THE WALKS of 'branchesOf', 'ZZBranchesOf', 'ZZBranchRM', 'ZZBranchHeld', 'ZZBranchFinished'.
-/
import Derived.Test.Qxb6600005aClone
namespace Go.Proofs.Qxb6600005a
open Go.RowKit

theorem info36 : (Try.prog.info? 36).map (fun i => (i.zero, i.size, i.bytes)) = some (some (.agg #[.string ByteArray.empty, .bool false, .bool false]), 3, 24) := by kernel_rfl

/-- What holds at a round's head: of the new row the first k branches are laid. -/
def BInv (w : World) (len : Nat) (S : Nat → ByteArray) (k : Nat) (wr : World) : Prop :=
  ∃ xs : List Value, wr.ownsRow w.heap.size 36 3 (.slice (some ⟨w.heap.size, 0, none⟩) len len) len xs ∧ (∀ j, j < k → xs[j * 3]? = some (.string (S j)) ∧ xs[j * 3 + 1]? = some (.bool false) ∧ xs[j * 3 + 2]? = some (.bool false)) ∧ Below w.heap.size w wr ∧ w.heap.size < wr.heap.size

section
variable {w wr w1 : World} {len k : Nat} {S : Nat → ByteArray} {xs : List Value}

theorem BInv.start (hown : w1.ownsRow w.heap.size 36 3 (.slice (some ⟨w.heap.size, 0, none⟩) len len) len xs) (hg : w.grownBy w1 none) : BInv w len S 0 w1 :=
  ⟨xs, hown, fun j hj => by omega, (Below.refl _ _).grown hg (Nat.le_refl _) (fun k hk => by cases hk), (hown.lt w.heap.size rfl).2⟩

theorem BInv.free (h : BInv w len S k wr) (j : Nat) : wr.frozen? ⟨w.heap.size, j, none⟩ = false := by
  obtain ⟨xs, h1, _⟩ := h
  exact h1.frozenAt j

theorem BInv.there (h : BInv w len S k wr) (hk : k < len) : ∃ v0 v1 v2, wr.cell? ⟨w.heap.size, k * 3, none⟩ = some v0 ∧ wr.cell? ⟨w.heap.size, k * 3 + 1, none⟩ = some v1 ∧ wr.cell? ⟨w.heap.size, k * 3 + 2, none⟩ = some v2 := by
  obtain ⟨xs, h1, _⟩ := h
  rw [h1.cellAt (k * 3) (by omega), h1.cellAt (k * 3 + 1) (by omega), h1.cellAt (k * 3 + 2) (by omega)]
  have := h1.1
  exact ⟨xs[k * 3]'(by omega), xs[k * 3 + 1]'(by omega), xs[k * 3 + 2]'(by omega), by simp, by simp, by simp⟩

theorem BInv.cell (h : BInv w len S k wr) {p : Addr} {v : Value} (hc : w.cell? p = some v) : wr.cell? p = some v := by
  obtain ⟨xs, _, _, h3, _⟩ := h
  exact (h3.cell (World.block_lt_of_cell? _ _ hc)).trans hc

theorem BInv.step (h : BInv w len S k wr) (hk : k < len) : BInv w len S (k + 1) (((wr.setCell ⟨w.heap.size, k * 3, none⟩ (.string (S k))).setCell ⟨w.heap.size, k * 3 + 1, none⟩ (.bool false)).setCell ⟨w.heap.size, k * 3 + 2, none⟩ (.bool false)) := by
  obtain ⟨xs, h1, h2, h3, h4⟩ := h
  have hl := h1.1
  refine ⟨_, (((h1.stored _ _).1.stored _ _).1.stored _ _).1, fun j hj => ?_, ((h3.setCell (Nat.le_refl _) _).setCell (Nat.le_refl _) _).setCell (Nat.le_refl _) _, by simpa [World.setCell] using h4⟩
  simp only [List.getElem?_set, List.length_set]
  by_cases e : k = j
  · subst e; simp; omega
  · obtain ⟨g0, g1, g2⟩ := h2 j (by omega)
    rw [if_neg (by omega), if_neg (by omega), if_neg (by omega), if_neg (by omega), if_neg (by omega), if_neg (by omega), if_neg (by omega), if_neg (by omega), if_neg (by omega)]
    exact ⟨g0, g1, g2⟩

theorem BInv.at (h : BInv w len S len wr) (hk : k < len) : wr.cell? ⟨w.heap.size, k * 3, none⟩ = some (.string (S k)) ∧ wr.cell? ⟨w.heap.size, k * 3 + 1, none⟩ = some (.bool false) ∧ wr.cell? ⟨w.heap.size, k * 3 + 2, none⟩ = some (.bool false) := by
  obtain ⟨xs, h1, h2, _⟩ := h
  rw [h1.cellAt (k * 3) (by omega), h1.cellAt (k * 3 + 1) (by omega), h1.cellAt (k * 3 + 2) (by omega)]
  exact h2 k hk

theorem BInv.below (h : BInv w len S k wr) : Below w.heap.size w wr ∧ w.heap.size < wr.heap.size := by
  obtain ⟨xs, _, _, h3, h4⟩ := h
  exact ⟨h3, h4⟩
end

set_option maxHeartbeats 400000 in
theorem branches_any (b off len cap : Nat) (S : Nat → ByteArray) (w : World) (h0 : len ≤ 65536)
    (hc : ∀ k, k < len → w.cell? ⟨b, off + k, none⟩ = some (.string (S k))) :
    Calls Try.prog 23 #[.slice (some ⟨b, off, none⟩) len cap] w fun e w' => e = .returned (.slice (some ⟨w.heap.size, 0, none⟩) len len) ∧ BInv w len S len w' := by
  have HC : Hid (∀ k, k < len → w.cell? ⟨b, off + k, none⟩ = some (.string (S k))) := hc
  clear hc
  obtain ⟨i0, hi, hz0, hz1, hz2⟩ := info_parts info36
  go_enter Try.func23, Try.ntmps23
  go_wp2_with (at_make; refine wpList_make_full _ rfl _ _ 32 rfl w.heap.size 36 i0 (.agg #[.string ByteArray.empty, .bool false, .bool false]) 3 Try.underlying32 hi hz0 hz1 .i64 .i64 _ _ len rfl rfl rfl rfl (by rw [hz2]; omega) (by unfold maxLen; omega) (Nat.le_refl _) ?_; intro w1 hown hgrow)
  have hinv : BInv w len S 0 w1 := BInv.start hown hgrow
  clear hown hgrow hi hz0 hz1 hz2 i0
  go_loopw [4, 5, 11] (fun _ _ i wr => ∃ k : Nat, k ≤ len ∧ i = .int .i64 k ∧ BInv w len S k wr) (fun _ _ i _ => len - (intOf i).toNat)
  case atStart => exact ⟨0, Nat.zero_le _, rfl, hinv⟩
  case round =>
    obtain ⟨k, hk, rfl, hr⟩ := hrel
    by_cases hlt : k < len
    · have hcell := hr.cell (HC.out k hlt)
      have hfree := hr.free
      obtain ⟨v0, v1, v2, hv0, hv1, hv2⟩ := hr.there hlt
      go_wp2
      go_roundw
      case rel =>
        exact ⟨k + 1, by omega, by go_num, hr.step hlt⟩
      case measure => simp [intOf]; omega
    · obtain rfl : k = len := by omega
      go_wp2
      go_ret
      exact ⟨rfl, hr⟩

end Go.Proofs.Qxb6600005a
