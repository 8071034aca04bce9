/-
  'FnAppendDecimalIsJSONNumber': all ways together.
-/
import Derived.Test.Qxb6600072aDoorLawJA
import Derived.Test.Qxb6600072aDoorLawJB
namespace Go.Proofs.Qxb6600072aDoor
open Go.RowKit

set_option maxRecDepth 100000 in
set_option maxHeartbeats 600000 in
theorem lawJ_long (neg : Bool) (a : Option Addr) (len cap : Nat) (exp : Int) (w : World) (h : len ≤ maxLen) (hbig : 1048576 < len) :
    Calls Tryd.prog 4 #[.bool neg, .slice a len cap, .int .i64 exp] w fun e w' => e = .returned (.bool true) ∧ Below w.heap.size w w' := by
  go_enter Tryd.func4, Tryd.ntmps4
  go_wp2_with fail
  refine (bytes17 _ _ _ _ _ h _).mono ?_
  rintro e wx ⟨⟨q, rfl⟩, hwx⟩
  subst wx
  unfold maxLen at h
  cases q
  · go_wp2
    go_ret
    exact ⟨rfl, Below.refl _ _⟩
  · go_wp2
    go_ret
    exact ⟨rfl, Below.refl _ _⟩

set_option maxRecDepth 100000 in
set_option maxHeartbeats 600000 in
theorem lawJ_none (neg : Bool) (a : Option Addr) (cap : Nat) (exp : Int) (w : World) :
    Calls Tryd.prog 4 #[.bool neg, .slice a 0 cap, .int .i64 exp] w fun e w' => e = .returned (.bool true) ∧ Below w.heap.size w w' := by
  go_enter Tryd.func4, Tryd.ntmps4
  go_wp2_with fail
  refine (bytes17 _ _ _ _ _ (by unfold maxLen; omega) _).mono ?_
  rintro e wx ⟨⟨q, rfl⟩, hwx⟩
  subst wx
  cases q
  · go_wp2
    go_ret
    exact ⟨rfl, Below.refl _ _⟩
  · go_wp2_with fail
    refine (well_empty a cap w).mono ?_
    rintro e wx ⟨rfl, hwx⟩
    subst wx
    go_wp2
    go_ret
    exact ⟨rfl, Below.refl _ _⟩

theorem walkJ (neg : Bool) (a1 : Option Addr) (len1 cap1 : Nat) (l1 : List UInt8) (exp : Int) (w : World) (h1 : IsBytes w a1 len1 cap1 l1)
    (x0 : -9223372036854775808 ≤ exp) (x1 : exp ≤ 9223372036854775807) (htab : Tab w) :
    Calls Tryd.prog 4 #[.bool neg, .slice a1 len1 cap1, .int .i64 exp] w fun e w' => e = .returned (.bool true) ∧ Below w.heap.size w w' := by
  obtain ⟨e1, m1⟩ := h1.le
  by_cases b1 : 1048576 < len1
  · exact lawJ_long neg a1 len1 cap1 exp w m1 b1
  · by_cases hz : len1 = 0
    · subst hz
      exact lawJ_none neg a1 cap1 exp w
    · rcases h1 with ⟨_, h, _⟩ | ⟨x, rfl, _, _, hl1⟩
      · exact absurd h hz
      · obtain ⟨b, off, rfl, hseg⟩ := hl1.seg (by omega)
        subst e1
        have hp : 0 < l1.length := by omega
        have hd : l1.length ≤ 1048576 := by omega
        by_cases c1 : 21 ≤ exp
        · cases neg
          · exact lawJ_Ap b off cap1 l1 exp w hseg hp hd x0 x1 htab c1
          · exact lawJ_Am b off cap1 l1 exp w hseg hp hd x0 x1 htab c1
        · by_cases c2 : exp < -6
          · cases neg
            · exact lawJ_Bp b off cap1 l1 exp w hseg hp hd x0 x1 htab c2
            · exact lawJ_Bm b off cap1 l1 exp w hseg hp hd x0 x1 htab c2
          · by_cases c3 : exp < 0
            · cases neg
              · exact lawJ_Cp b off cap1 l1 exp w hseg hp hd x0 x1 htab (by omega) c3
              · exact lawJ_Cm b off cap1 l1 exp w hseg hp hd x0 x1 htab (by omega) c3
            · by_cases c4 : (l1.length : Int) ≤ exp + 1
              · cases neg
                · exact lawJ_Dp b off cap1 l1 exp w hseg hp hd x0 x1 htab (by omega) (by omega) c4
                · exact lawJ_Dm b off cap1 l1 exp w hseg hp hd x0 x1 htab (by omega) (by omega) c4
              · cases neg
                · exact lawJ_Ep b off cap1 l1 exp w hseg hp hd x0 x1 htab (by omega) (by omega) (by omega)
                · exact lawJ_Em b off cap1 l1 exp w hseg hp hd x0 x1 htab (by omega) (by omega) (by omega)

end Go.Proofs.Qxb6600072aDoor
