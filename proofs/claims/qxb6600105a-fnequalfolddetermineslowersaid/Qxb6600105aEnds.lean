/-
  'FnEqualFoldDeterminesLower': the ways on which it does not look, the empty slice, the nil one.
-/
import Derived.Test.Qxb6600105aLaw
namespace Go.Proofs.Qxb6600105a
open Go.RowKit

set_option maxRecDepth 100000 in
set_option maxHeartbeats 600000 in
theorem law_c1 (a : Option Addr) (len cap : Nat) (l1 l2 : ByteArray) (w : World) (h : len ≤ maxLen) (h1 : l1.size ≤ maxLen) (h2 : l2.size ≤ maxLen) (g1 : 262144 < len) :
    Calls Try.prog 5 #[.slice a len cap, .string l1, .string l2] w fun e w' => e = .returned (.bool true) ∧ Below w.heap.size w w' := by
  go_enter Try.func5, Try.ntmps5
  go_wp2_with fail
  refine (bytes17 _ _ _ _ _ h h1 h2 _).mono ?_
  rintro e wx ⟨⟨q, rfl⟩, hwx⟩
  subst wx
  unfold maxLen at h h1 h2
  cases q
  · go_wp2
    go_ret
    exact ⟨rfl, Below.refl _ _⟩
  · go_wp2
    go_ret
    exact ⟨rfl, Below.refl _ _⟩

set_option maxRecDepth 100000 in
set_option maxHeartbeats 600000 in
theorem law_c2 (a : Option Addr) (len cap : Nat) (l1 l2 : ByteArray) (w : World) (h : len ≤ maxLen) (h1 : l1.size ≤ maxLen) (h2 : l2.size ≤ maxLen) (g1 : len ≤ 262144) (g2 : 262144 < l1.size) :
    Calls Try.prog 5 #[.slice a len cap, .string l1, .string l2] w fun e w' => e = .returned (.bool true) ∧ Below w.heap.size w w' := by
  go_enter Try.func5, Try.ntmps5
  go_wp2_with fail
  refine (bytes17 _ _ _ _ _ h h1 h2 _).mono ?_
  rintro e wx ⟨⟨q, rfl⟩, hwx⟩
  subst wx
  unfold maxLen at h h1 h2
  cases q
  · go_wp2
    go_ret
    exact ⟨rfl, Below.refl _ _⟩
  · go_wp2
    go_ret
    exact ⟨rfl, Below.refl _ _⟩

set_option maxRecDepth 100000 in
set_option maxHeartbeats 600000 in
theorem law_c3 (a : Option Addr) (len cap : Nat) (l1 l2 : ByteArray) (w : World) (h : len ≤ maxLen) (h1 : l1.size ≤ maxLen) (h2 : l2.size ≤ maxLen) (g1 : len ≤ 262144) (g2 : l1.size ≤ 262144) (g3 : 262144 < l2.size) :
    Calls Try.prog 5 #[.slice a len cap, .string l1, .string l2] w fun e w' => e = .returned (.bool true) ∧ Below w.heap.size w w' := by
  go_enter Try.func5, Try.ntmps5
  go_wp2_with fail
  refine (bytes17 _ _ _ _ _ h h1 h2 _).mono ?_
  rintro e wx ⟨⟨q, rfl⟩, hwx⟩
  subst wx
  unfold maxLen at h h1 h2
  cases q
  · go_wp2
    go_ret
    exact ⟨rfl, Below.refl _ _⟩
  · go_wp2
    go_ret
    exact ⟨rfl, Below.refl _ _⟩

set_option maxRecDepth 100000 in
set_option maxHeartbeats 600000 in
theorem law_c4 (a : Option Addr) (len cap : Nat) (l1 l2 : ByteArray) (w : World) (h : len ≤ maxLen) (h1 : l1.size ≤ maxLen) (h2 : l2.size ≤ maxLen) (g1 : len ≤ 262144) (g2 : l1.size ≤ 262144) (g3 : l2.size ≤ 262144) (g4 : l1.size < len) :
    Calls Try.prog 5 #[.slice a len cap, .string l1, .string l2] w fun e w' => e = .returned (.bool true) ∧ Below w.heap.size w w' := by
  go_enter Try.func5, Try.ntmps5
  go_wp2_with fail
  refine (bytes17 _ _ _ _ _ h h1 h2 _).mono ?_
  rintro e wx ⟨⟨q, rfl⟩, hwx⟩
  subst wx
  unfold maxLen at h h1 h2
  cases q
  · go_wp2
    go_ret
    exact ⟨rfl, Below.refl _ _⟩
  · go_wp2
    go_ret
    exact ⟨rfl, Below.refl _ _⟩

set_option maxRecDepth 100000 in
set_option maxHeartbeats 600000 in
theorem law_c5 (a : Option Addr) (len cap : Nat) (l1 l2 : ByteArray) (w : World) (h : len ≤ maxLen) (h1 : l1.size ≤ maxLen) (h2 : l2.size ≤ maxLen) (g1 : len ≤ 262144) (g2 : l1.size ≤ 262144) (g3 : l2.size ≤ 262144) (g4 : len ≤ l1.size) (g5 : l2.size < len) :
    Calls Try.prog 5 #[.slice a len cap, .string l1, .string l2] w fun e w' => e = .returned (.bool true) ∧ Below w.heap.size w w' := by
  go_enter Try.func5, Try.ntmps5
  go_wp2_with fail
  refine (bytes17 _ _ _ _ _ h h1 h2 _).mono ?_
  rintro e wx ⟨⟨q, rfl⟩, hwx⟩
  subst wx
  unfold maxLen at h h1 h2
  cases q
  · go_wp2
    go_ret
    exact ⟨rfl, Below.refl _ _⟩
  · go_wp2
    go_ret
    exact ⟨rfl, Below.refl _ _⟩

set_option maxRecDepth 100000 in
set_option maxHeartbeats 600000 in
theorem law_nil (l1 l2 : ByteArray) (w : World) (s1 : l1.size ≤ 262144) (s2 : l2.size ≤ 262144) :
    Calls Try.prog 5 #[.slice none 0 0, .string l1, .string l2] w fun e w' => e = .returned (.bool true) ∧ Below w.heap.size w w' := by
  go_enter Try.func5, Try.ntmps5
  go_wp2_with fail
  refine (bytes17 _ _ _ _ _ (by unfold maxLen; omega) (by unfold maxLen; omega) (by unfold maxLen; omega) _).mono ?_
  rintro e wx ⟨⟨q, rfl⟩, hwx⟩
  subst wx
  cases q
  · go_wp2
    go_ret
    exact ⟨rfl, Below.refl _ _⟩
  · go_wp2_with fail
    refine (clone_nil w).mono ?_
    rintro e wx ⟨rfl, hwx⟩
    subst wx
    have hB1 : Below w.heap.size w w := Below.refl _ _
    go_wp2_with fail
    refine (zzfold_empty _ 0 l1 _).mono ?_
    rintro e wx ⟨rfl, hwx⟩
    subst wx
    go_wp2_with fail
    refine (zzfold_empty _ 0 l2 _).mono ?_
    rintro e wx ⟨rfl, hwx⟩
    subst wx
    go_wp2_with fail
    refine (lowerString_empty _ 0 _).mono ?_
    rintro e w2 ⟨rfl, hB12⟩
    go_wp2_with fail
    refine (zzfold_empty _ 0 _ _).mono ?_
    rintro e wx ⟨rfl, hwx⟩
    subst wx
    have hB2 : Below w.heap.size w w2 := hB1.trans (hB12.mono hB1.size)
    have hn1 : (0 : Int) ≤ (l1.size : Int) := by omega
    have hn2 : (0 : Int) ≤ (l2.size : Int) := by omega
    have hpe := pre_yes (x := l1) (y := l2) (n := 0) rfl
    go_wp2
    refine wp_loop_rounds 1 ?_
    rw [rounds_succ]
    go_wp2
    go_quiet (fail)
    go_wp2
    go_quiet (fail)
    go_wp2
    go_ret
    exact ⟨rfl, below_drewN (below_drewN hB2 _) _⟩

set_option maxRecDepth 100000 in
set_option maxHeartbeats 600000 in
theorem law_empty (a : Addr) (cap : Nat) (l1 l2 : ByteArray) (w : World) (s1 : l1.size ≤ 262144) (s2 : l2.size ≤ 262144) :
    Calls Try.prog 5 #[.slice (some a) 0 cap, .string l1, .string l2] w fun e w' => e = .returned (.bool true) ∧ Below w.heap.size w w' := by
  go_enter Try.func5, Try.ntmps5
  go_wp2_with fail
  refine (bytes17 _ _ _ _ _ (by unfold maxLen; omega) (by unfold maxLen; omega) (by unfold maxLen; omega) _).mono ?_
  rintro e wx ⟨⟨q, rfl⟩, hwx⟩
  subst wx
  cases q
  · go_wp2
    go_ret
    exact ⟨rfl, Below.refl _ _⟩
  · go_wp2_with fail
    refine (clone_empty a cap (fun _ => 0) w).mono ?_
    rintro e w1 ⟨rfl, hr⟩
    have hB1 := hr.below
    clear hr
    go_wp2_with fail
    refine (zzfold_empty _ 0 l1 _).mono ?_
    rintro e wx ⟨rfl, hwx⟩
    subst wx
    go_wp2_with fail
    refine (zzfold_empty _ 0 l2 _).mono ?_
    rintro e wx ⟨rfl, hwx⟩
    subst wx
    go_wp2_with fail
    refine (lowerString_empty _ 0 _).mono ?_
    rintro e w2 ⟨rfl, hB12⟩
    go_wp2_with fail
    refine (zzfold_empty _ 0 _ _).mono ?_
    rintro e wx ⟨rfl, hwx⟩
    subst wx
    have hB2 : Below w.heap.size w w2 := hB1.trans (hB12.mono hB1.size)
    have hn1 : (0 : Int) ≤ (l1.size : Int) := by omega
    have hn2 : (0 : Int) ≤ (l2.size : Int) := by omega
    have hpe := pre_yes (x := l1) (y := l2) (n := 0) rfl
    go_wp2
    refine wp_loop_rounds 1 ?_
    rw [rounds_succ]
    go_wp2
    go_quiet (fail)
    go_wp2
    go_quiet (fail)
    go_wp2
    go_ret
    exact ⟨rfl, below_drewN (below_drewN hB2 _) _⟩

end Go.Proofs.Qxb6600105a
