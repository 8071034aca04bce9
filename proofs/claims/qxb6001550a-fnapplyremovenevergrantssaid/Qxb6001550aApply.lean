/-
  THE WALKS of 'apply', 'ZZApply' and the law.
-/
import Derived.Test.Qxb6001550aProg
import Derived.Test.Qxb6001550aBits
import Derived.WalkKit
import Derived.WalkSpells
import Derived.WalkLawsBesides
namespace Go.Proofs.Qxb6001550a
open Go.RowKit

set_option maxHeartbeats 400000 in
theorem apply_add (p held : Int) (s : Bool) (w : World) :
    Calls Try.prog 14 #[.agg #[.int .i64 1, .int .u16 p, .bool s], .int .u16 held] w fun e w' => e = .returned (.int .u16 (bits .or .u16 held p)) ∧ w' = w.alloc (.cells #[.int .i64 1, .int .u16 p, .bool s] 37) := by
  go_enter Try.func14, Try.ntmps14
  go_wp2
  go_ret
  exact ⟨rfl, rfl⟩

set_option maxHeartbeats 400000 in
theorem apply_rm (p held : Int) (s : Bool) (w : World) :
    Calls Try.prog 14 #[.agg #[.int .i64 2, .int .u16 p, .bool s], .int .u16 held] w fun e w' => e = .returned (.int .u16 (rm p held)) ∧ w' = w.alloc (.cells #[.int .i64 2, .int .u16 p, .bool s] 37) := by
  unfold rm tk
  by_cases h : bits .and .u16 p 96 = 0
  · rw [if_pos h]
    go_enter Try.func14, Try.ntmps14
    go_wp2
    go_ret
    exact ⟨rfl, rfl⟩
  · rw [if_neg h]
    go_enter Try.func14, Try.ntmps14
    go_wp2
    go_ret
    exact ⟨rfl, rfl⟩

set_option maxHeartbeats 400000 in
theorem zz_add (p held : Int) (s : Bool) (w : World) :
    Calls Try.prog 7 #[.int .i64 1, .int .u16 p, .bool s, .int .u16 held] w fun e w' => e = .returned (.int .u16 (bits .or .u16 held p)) ∧ w' = (w.alloc (.cells #[.int .i64 1, .int .u16 p, .bool s] 37)).alloc (.cells #[.int .i64 1, .int .u16 p, .bool s] 37) := by
  go_enter Try.func7, Try.ntmps7
  go_wp2_with (go_at_call 14; refine (apply_add _ _ _ _).mono ?_; rintro e w' ⟨rfl, rfl⟩)
  go_ret
  exact ⟨rfl, rfl⟩

set_option maxHeartbeats 400000 in
theorem zz_rm (p held : Int) (s : Bool) (w : World) :
    Calls Try.prog 7 #[.int .i64 2, .int .u16 p, .bool s, .int .u16 held] w fun e w' => e = .returned (.int .u16 (rm p held)) ∧ w' = (w.alloc (.cells #[.int .i64 2, .int .u16 p, .bool s] 37)).alloc (.cells #[.int .i64 2, .int .u16 p, .bool s] 37) := by
  go_enter Try.func7, Try.ntmps7
  go_wp2_with (go_at_call 14; refine (apply_rm _ _ _ _).mono ?_; rintro e w' ⟨rfl, rfl⟩)
  go_ret
  exact ⟨rfl, rfl⟩

end Go.Proofs.Qxb6001550a
