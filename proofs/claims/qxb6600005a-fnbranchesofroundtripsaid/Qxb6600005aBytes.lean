/-
  THE WALKS of 'zzBytes_FnBranchesOfRoundTrip' and 'stringsBytes': both only read; what they answer is of no weight for the law.
-/
import Derived.Test.Qxb6600005aProg
import Derived.WalkKit
import Derived.WalkSpells
import Derived.WalkLawsBesides
namespace Go.Proofs.Qxb6600005a
open Go.RowKit

/-- It returned a bool, a number: which, is left open. -/
def SomeBool (e : Ending) : Prop := ∃ q : Bool, e = .returned (.bool q)
def SomeInt (e : Ending) : Prop := ∃ q : Int, e = .returned (.int .i64 q)

set_option maxHeartbeats 400000 in
theorem bytes_empty (a : Option Addr) (cap : Nat) (w : World) :
    Calls Try.prog 12 #[.slice a 0 cap] w fun e w' => SomeBool e ∧ w' = w := by
  go_enter Try.func12, Try.ntmps12
  go_wp2
  refine wp_loop_rounds 1 ?_
  rw [rounds_succ]
  go_wp2
  go_ret
  exact ⟨⟨_, rfl⟩, rfl⟩

set_option maxHeartbeats 400000 in
theorem bytes_any (b off len cap : Nat) (S : Nat → ByteArray) (w : World) (hlen : len ≤ maxLen)
    (hc : ∀ k, k < len → w.cell? ⟨b, off + k, none⟩ = some (.string (S k))) :
    Calls Try.prog 12 #[.slice (some ⟨b, off, none⟩) len cap] w fun e w' => SomeBool e ∧ w' = w := by
  unfold maxLen at hlen
  have HC : Hid (∀ k, k < len → w.cell? ⟨b, off + k, none⟩ = some (.string (S k))) := hc
  clear hc
  by_cases h0 : len ≤ 1048576
  · go_enter Try.func12, Try.ntmps12
    go_wp2
    go_loop [3, 4] (fun n i => ∃ (k : Nat) (q : Int), k ≤ len ∧ 0 ≤ q ∧ q ≤ 1048576 ∧ i = .int .i64 k ∧ n = .int .i64 q) (fun _ i => len - (intOf i).toNat)
    case atStart => exact ⟨0, (len : Int), Nat.zero_le _, by omega, by omega, rfl, rfl⟩
    case round =>
      obtain ⟨k, q, hk, hq0, hq1, rfl, rfl⟩ := hrel
      by_cases hlt : k < len
      · have hcell := HC.out k hlt
        obtain ⟨s, hs⟩ : ∃ s, s = S k := ⟨_, rfl⟩
        rw [← hs] at hcell
        clear hs
        by_cases h1 : s.size ≤ 1048576
        · by_cases h2 : q + s.size ≤ 1048576
          · go_wp2
            go_round
            case rel => exact ⟨k + 1, q + s.size, by omega, by omega, by omega, by go_num, rfl⟩
            case measure => simp [intOf]; omega
          · go_wp2
            go_ret
            exact ⟨⟨_, rfl⟩, rfl⟩
        · go_wp2
          go_ret
          exact ⟨⟨_, rfl⟩, rfl⟩
      · go_wp2
        go_ret
        exact ⟨⟨_, rfl⟩, rfl⟩
  · go_enter Try.func12, Try.ntmps12
    go_wp2
    go_ret
    exact ⟨⟨_, rfl⟩, rfl⟩

set_option maxHeartbeats 400000 in
theorem strs_empty (a : Option Addr) (cap : Nat) (w : World) :
    Calls Try.prog 13 #[.slice a 0 cap] w fun e w' => SomeInt e ∧ w' = w := by
  go_enter Try.func13, Try.ntmps13
  go_wp2
  refine wp_loop_rounds 1 ?_
  rw [rounds_succ]
  go_wp2
  go_ret
  exact ⟨⟨_, rfl⟩, rfl⟩

set_option maxHeartbeats 400000 in
theorem strs_any (b off len cap : Nat) (S : Nat → ByteArray) (w : World) (h0 : len ≤ 65536)
    (hc : ∀ k, k < len → w.cell? ⟨b, off + k, none⟩ = some (.string (S k))) :
    Calls Try.prog 13 #[.slice (some ⟨b, off, none⟩) len cap] w fun e w' => SomeInt e ∧ w' = w := by
  have HC : Hid (∀ k, k < len → w.cell? ⟨b, off + k, none⟩ = some (.string (S k))) := hc
  clear hc
  go_enter Try.func13, Try.ntmps13
  go_wp2
  go_loop [3, 4] (fun n i => ∃ (k : Nat) (q : Int), k ≤ len ∧ 0 ≤ q ∧ q ≤ 1048576 ∧ i = .int .i64 k ∧ n = .int .i64 q) (fun _ i => len - (intOf i).toNat)
  case atStart => exact ⟨0, 16 * (len : Int), Nat.zero_le _, by omega, by omega, rfl, rfl⟩
  case round =>
    obtain ⟨k, q, hk, hq0, hq1, rfl, rfl⟩ := hrel
    by_cases hlt : k < len
    · have hcell := HC.out k hlt
      obtain ⟨s, hs⟩ : ∃ s, s = S k := ⟨_, rfl⟩
      rw [← hs] at hcell
      clear hs
      by_cases h1 : s.size ≤ 1048576
      · by_cases h2 : q + s.size ≤ 1048576
        · go_wp2
          go_round
          case rel => exact ⟨k + 1, q + s.size, by omega, by omega, by omega, by go_num, rfl⟩
          case measure => simp [intOf]; omega
        · go_wp2
          go_ret
          exact ⟨⟨_, rfl⟩, rfl⟩
      · go_wp2
        go_ret
        exact ⟨⟨_, rfl⟩, rfl⟩
    · go_wp2
      go_ret
      exact ⟨⟨_, rfl⟩, rfl⟩

end Go.Proofs.Qxb6600005a
