/-
  THE WALK of the law.
-/
import Derived.Test.Qxb6600005aBranch
import Derived.RegionTactic
import Derived.ChangeAlike
import Derived.Deep.RegionWith
import Derived.Deep.QuietTactic
import Derived.BigQuiet
import Derived.BigRegion
import Derived.Deep.DeepCutAuto
namespace Go.Proofs.Qxb6600005a
open Go.RowKit

set_option maxHeartbeats 400000 in
theorem zzbranches_any (b off len cap : Nat) (S : Nat → ByteArray) (w : World) (h0 : len ≤ 65536)
    (hc : ∀ k, k < len → w.cell? ⟨b, off + k, none⟩ = some (.string (S k))) :
    Calls Try.prog 15 #[.slice (some ⟨b, off, none⟩) len cap] w fun e w' => e = .returned (.slice (some ⟨w.heap.size, 0, none⟩) len len) ∧ BInv w len S len w' := by
  have HC : Hid (∀ k, k < len → w.cell? ⟨b, off + k, none⟩ = some (.string (S k))) := hc
  clear hc
  go_enter Try.func15, Try.ntmps15
  go_wp2_with fail
  refine (branches_any b off len cap S w h0 HC.out).mono ?_
  rintro e w' ⟨rfl, hb⟩
  go_wp2
  go_ret
  exact ⟨rfl, hb⟩

set_option maxHeartbeats 400000 in
theorem rm_any (s : ByteArray) (h f : Bool) (w : World) :
    Calls Try.prog 16 #[.agg #[.string s, .bool h, .bool f]] w fun e w' => e = .returned (.string s) ∧ w' = w.alloc (.cells #[.string s, .bool h, .bool f] 36) := by
  go_enter Try.func16, Try.ntmps16
  go_wp2
  go_ret
  exact ⟨rfl, rfl⟩

set_option maxHeartbeats 400000 in
theorem held_any (s : ByteArray) (h f : Bool) (w : World) :
    Calls Try.prog 17 #[.agg #[.string s, .bool h, .bool f]] w fun e w' => e = .returned (.bool h) ∧ w' = w.alloc (.cells #[.string s, .bool h, .bool f] 36) := by
  go_enter Try.func17, Try.ntmps17
  go_wp2
  go_ret
  exact ⟨rfl, rfl⟩

set_option maxHeartbeats 400000 in
theorem fin_any (s : ByteArray) (h f : Bool) (w : World) :
    Calls Try.prog 18 #[.agg #[.string s, .bool h, .bool f]] w fun e w' => e = .returned (.bool f) ∧ w' = w.alloc (.cells #[.string s, .bool h, .bool f] 36) := by
  go_enter Try.func18, Try.ntmps18
  go_wp2
  go_ret
  exact ⟨rfl, rfl⟩

set_option maxHeartbeats 400000 in
theorem law_great (b off len cap : Nat) (S : Nat → ByteArray) (w : World) (hlen : len ≤ maxLen) (h0 : ¬ len ≤ 65536)
    (hc : ∀ k, k < len → w.cell? ⟨b, off + k, none⟩ = some (.string (S k))) :
    Calls Try.prog 7 #[.slice (some ⟨b, off, none⟩) len cap] w fun e w' => e = .returned (.bool true) ∧ w' = w := by
  have HC : Hid (∀ k, k < len → w.cell? ⟨b, off + k, none⟩ = some (.string (S k))) := hc
  clear hc
  go_enter Try.func7, Try.ntmps7
  go_wp2_with fail
  refine (bytes_any b off len cap S w hlen HC.out).mono ?_
  rintro e w' ⟨⟨q, rfl⟩, rfl⟩
  unfold maxLen at hlen
  cases q
  · go_wp2
    go_ret
    exact ⟨rfl, rfl⟩
  · go_wp2
    go_ret
    exact ⟨rfl, rfl⟩

set_option maxHeartbeats 400000 in
theorem law_any (b off len cap : Nat) (S : Nat → ByteArray) (w : World) (h0 : len ≤ 65536)
    (hc : ∀ k, k < len → w.cell? ⟨b, off + k, none⟩ = some (.string (S k))) :
    Calls Try.prog 7 #[.slice (some ⟨b, off, none⟩) len cap] w fun e w' => e = .returned (.bool true) ∧ Below w.heap.size w w' := by
  have HC : Hid (∀ k, k < len → w.cell? ⟨b, off + k, none⟩ = some (.string (S k))) := hc
  clear hc
  go_enter Try.func7, Try.ntmps7
  go_wp2_with fail
  refine (bytes_any b off len cap S w (by unfold maxLen; omega) HC.out).mono ?_
  rintro e w' ⟨⟨q, rfl⟩, rfl⟩
  cases q
  · go_wp2
    go_ret
    exact ⟨rfl, Below.refl _ _⟩
  · go_wp2_with fail
    refine (strs_any b off len cap S _ h0 HC.out).mono ?_
    rintro e w' ⟨⟨q, rfl⟩, rfl⟩
    by_cases hq : 1048576 < q
    · go_wp2
      go_ret
      exact ⟨rfl, Below.refl _ _⟩
    · go_wp2_with fail
      refine (clone_any b off len cap S _ h0 HC.out).mono ?_
      rintro e w1 ⟨rfl, hcl⟩
      go_wp2_with fail
      refine (zzbranches_any _ 0 len len S w1 h0 (fun k hk => by rw [Nat.zero_add]; exact hcl.2.2 k hk)).mono ?_
      rintro e w2 ⟨rfl, hbi⟩
      go_wp2
      have hB : Below w2.heap.size w2 w2 := Below.refl _ _
      have hfacts : ∀ wr, Below w2.heap.size w2 wr → ∀ k, k < len → wr.cell? ⟨w1.heap.size, k * 3, none⟩ = some (.string (S k)) ∧ wr.cell? ⟨w1.heap.size, k * 3 + 1, none⟩ = some (.bool false) ∧ wr.cell? ⟨w1.heap.size, k * 3 + 2, none⟩ = some (.bool false) ∧ wr.cell? ⟨w'.heap.size, k, none⟩ = some (.string (S k)) := by
        intro wr hw k hk
        obtain ⟨f0, f1, f2⟩ := hbi.at hk
        have g := hbi.cell (hcl.2.2 k hk)
        exact ⟨(hw.cell (World.block_lt_of_cell? _ _ f0)).trans f0, (hw.cell (World.block_lt_of_cell? _ _ f1)).trans f1, (hw.cell (World.block_lt_of_cell? _ _ f2)).trans f2, (hw.cell (World.block_lt_of_cell? _ _ g)).trans g⟩
      have hend : ∀ wr, Below w2.heap.size w2 wr → Below w'.heap.size w' wr := fun wr hw => (hcl.1.trans (hbi.below.1.mono (Nat.le_of_lt hcl.2.1))).trans (hw.mono (by have := hbi.below.2; have := hcl.2.1; omega))
      have HF : Hid (∀ wr, Below w2.heap.size w2 wr → ∀ k, k < len → wr.cell? ⟨w1.heap.size, k * 3, none⟩ = some (.string (S k)) ∧ wr.cell? ⟨w1.heap.size, k * 3 + 1, none⟩ = some (.bool false) ∧ wr.cell? ⟨w1.heap.size, k * 3 + 2, none⟩ = some (.bool false) ∧ wr.cell? ⟨w'.heap.size, k, none⟩ = some (.string (S k))) := hfacts
      have HE : Hid (∀ wr, Below w2.heap.size w2 wr → Below w'.heap.size w' wr) := hend
      clear hfacts hend hcl hbi HC
      go_loopw [4] (fun i wr => ∃ k : Nat, k ≤ len ∧ i = .int .i64 k ∧ Below w2.heap.size w2 wr) (fun i _ => len - (intOf i).toNat)
      case atStart => exact ⟨0, Nat.zero_le _, rfl, hB⟩
      case round =>
        obtain ⟨k, hk, rfl, hr⟩ := hrel
        by_cases hlt : k < len
        · obtain ⟨f0, f1, f2, f3⟩ := HF.out wr hr k hlt
          obtain ⟨s, hs⟩ : ∃ s, s = S k := ⟨_, rfl⟩
          rw [← hs] at f0 f3
          clear hs
          have hlt' : (k : Int) < (len : Int) := by omega
          have hn1 : w1.heap.size < wr.heap.size := World.block_lt_of_cell? _ _ f0
          have hn2 : w'.heap.size < wr.heap.size := World.block_lt_of_cell? _ _ f3
          go_wp2
          go_region_with (go_at_call 16; refine (rm_any _ _ _ _).mono ?_; rintro e wx ⟨rfl, rfl⟩)
          all_goals
            go_wp2_with (first | (go_at_call 17; refine (held_any _ _ _ _).mono ?_; rintro e wx ⟨rfl, rfl⟩) | (go_at_call 18; refine (fin_any _ _ _ _).mono ?_; rintro e wx ⟨rfl, rfl⟩))
            have hz := hr.size
            go_roundw
            case rel =>
              refine ⟨k + 1, by omega, by go_num, ?_⟩
              repeat (first | exact hr | apply Below.drew | (refine Below.alloc ?_ (by first | exact hz | (simp; omega)) _))
            case measure => simp [intOf]; omega
        · go_wp2
          go_ret
          exact ⟨rfl, HE.out _ hr⟩

theorem BInv.of_empty {w w1 : World} {S : Nat → ByteArray} {xs : List Value} (hown : w1.ownsRow w.heap.size 36 3 (.slice (some ⟨w.heap.size, 0, none⟩) 0 0) 0 xs) (hg : w.grownBy w1 none) : BInv w 0 S 0 w1 := BInv.start hown hg

set_option maxHeartbeats 400000 in
theorem branches_empty (a : Option Addr) (cap : Nat) (w : World) :
    Calls Try.prog 23 #[.slice a 0 cap] w fun e w' => e = .returned (.slice (some ⟨w.heap.size, 0, none⟩) 0 0) ∧ Below w.heap.size w w' := by
  obtain ⟨i0, hi, hz0, hz1, hz2⟩ := info_parts info36
  go_enter Try.func23, Try.ntmps23
  go_wp2_with (at_make; refine wpList_make_full _ rfl _ _ 32 rfl w.heap.size 36 i0 (.agg #[.string ByteArray.empty, .bool false, .bool false]) 3 Try.underlying32 hi hz0 hz1 .i64 .i64 _ _ 0 rfl rfl rfl rfl (by omega) (by unfold maxLen; omega) (Nat.le_refl _) ?_; intro w1 hown hgrow)
  have hinv : BInv w 0 (fun _ => ByteArray.empty) 0 w1 := BInv.of_empty hown hgrow
  clear hown hgrow hi hz0 hz1 hz2 i0
  refine wp_loop_rounds 1 ?_
  rw [rounds_succ]
  go_wp2
  go_ret
  exact ⟨rfl, hinv.below.1⟩

set_option maxHeartbeats 400000 in
theorem zzbranches_empty (a : Option Addr) (cap : Nat) (w : World) :
    Calls Try.prog 15 #[.slice a 0 cap] w fun e w' => e = .returned (.slice (some ⟨w.heap.size, 0, none⟩) 0 0) ∧ Below w.heap.size w w' := by
  go_enter Try.func15, Try.ntmps15
  go_wp2_with fail
  refine (branches_empty a cap w).mono ?_
  rintro e w' ⟨rfl, hb⟩
  go_wp2
  go_ret
  exact ⟨rfl, hb⟩

set_option maxHeartbeats 400000 in
theorem law_nil (w : World) :
    Calls Try.prog 7 #[.slice none 0 0] w fun e w' => e = .returned (.bool true) ∧ Below w.heap.size w w' := by
  go_enter Try.func7, Try.ntmps7
  go_wp2_with fail
  refine (bytes_empty none 0 w).mono ?_
  rintro e w' ⟨⟨q, rfl⟩, rfl⟩
  cases q
  · go_wp2
    go_ret
    exact ⟨rfl, Below.refl _ _⟩
  · go_wp2_with fail
    refine (strs_empty none 0 _).mono ?_
    rintro e w' ⟨⟨q, rfl⟩, rfl⟩
    by_cases hq : 1048576 < q
    · go_wp2
      go_ret
      exact ⟨rfl, Below.refl _ _⟩
    · go_wp2_with fail
      refine (clone_nil _).mono ?_
      rintro e w1 ⟨rfl, rfl⟩
      go_wp2_with fail
      refine (zzbranches_empty none 0 _).mono ?_
      rintro e w2 ⟨rfl, hb⟩
      go_wp2
      refine wp_loop_rounds 1 ?_
      rw [rounds_succ]
      go_wp2
      go_ret
      exact ⟨rfl, hb⟩

set_option maxHeartbeats 400000 in
theorem law_empty (a : Addr) (cap : Nat) (w : World) :
    Calls Try.prog 7 #[.slice (some a) 0 cap] w fun e w' => e = .returned (.bool true) ∧ Below w.heap.size w w' := by
  go_enter Try.func7, Try.ntmps7
  go_wp2_with fail
  refine (bytes_empty (some a) cap w).mono ?_
  rintro e w' ⟨⟨q, rfl⟩, rfl⟩
  cases q
  · go_wp2
    go_ret
    exact ⟨rfl, Below.refl _ _⟩
  · go_wp2_with fail
    refine (strs_empty (some a) cap _).mono ?_
    rintro e w' ⟨⟨q, rfl⟩, rfl⟩
    by_cases hq : 1048576 < q
    · go_wp2
      go_ret
      exact ⟨rfl, Below.refl _ _⟩
    · go_wp2_with fail
      refine (clone_empty a cap (fun _ => ByteArray.empty) _).mono ?_
      rintro e w1 ⟨rfl, hcl⟩
      go_wp2_with fail
      refine (zzbranches_empty _ 0 _).mono ?_
      rintro e w2 ⟨rfl, hb⟩
      go_wp2
      refine wp_loop_rounds 1 ?_
      rw [rounds_succ]
      go_wp2
      go_ret
      exact ⟨rfl, hcl.1.trans (hb.mono (Nat.le_of_lt hcl.2.1))⟩

end Go.Proofs.Qxb6600005a
