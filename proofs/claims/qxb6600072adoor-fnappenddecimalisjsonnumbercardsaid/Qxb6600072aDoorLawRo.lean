/-
  'FnAppendDecimalReadsBack': the ways on which it does not look; and all ways together.
-/
import Derived.Test.Qxb6600072aDoorLawR
namespace Go.Proofs.Qxb6600072aDoor
open Go.RowKit

set_option maxRecDepth 100000 in
set_option maxHeartbeats 600000 in
theorem lawR_longbuf (a0 : Option Addr) (len0 cap0 : Nat) (neg : Bool) (a : Option Addr) (len cap : Nat) (exp : Int) (w : World) (h0 : len0 ≤ maxLen) (h : len ≤ maxLen) (hbig : 524288 < len0) :
    Calls Tryd.prog 3 #[.slice a0 len0 cap0, .bool neg, .slice a len cap, .int .i64 exp] w fun e w' => e = .returned (.bool true) ∧ Below w.heap.size w w' := by
  go_enter Tryd.func3, Tryd.ntmps3
  go_wp2_with fail
  refine (bytes11 _ _ _ _ _ _ _ _ h0 h _).mono ?_
  rintro e wx ⟨⟨q, rfl⟩, hwx⟩
  subst wx
  unfold maxLen at h0 h
  cases q
  · go_wp2
    go_ret
    exact ⟨rfl, Below.refl _ _⟩
  · go_wp2
    go_ret
    exact ⟨rfl, Below.refl _ _⟩

set_option maxRecDepth 100000 in
set_option maxHeartbeats 600000 in
theorem lawR_longdig (a0 : Option Addr) (len0 cap0 : Nat) (neg : Bool) (a : Option Addr) (len cap : Nat) (exp : Int) (w : World) (h0 : len0 ≤ 524288) (h : len ≤ maxLen) (hbig : 524288 < len) :
    Calls Tryd.prog 3 #[.slice a0 len0 cap0, .bool neg, .slice a len cap, .int .i64 exp] w fun e w' => e = .returned (.bool true) ∧ Below w.heap.size w w' := by
  go_enter Tryd.func3, Tryd.ntmps3
  go_wp2_with fail
  refine (bytes11 _ _ _ _ _ _ _ _ (by unfold maxLen; omega) h _).mono ?_
  rintro e wx ⟨⟨q, rfl⟩, hwx⟩
  subst wx
  unfold maxLen at h
  cases q
  · go_wp2
    go_ret
    exact ⟨rfl, Below.refl _ _⟩
  · go_wp2
    go_ret
    exact ⟨rfl, Below.refl _ _⟩

set_option maxRecDepth 100000 in
set_option maxHeartbeats 600000 in
theorem lawR_nodig (a0 : Option Addr) (len0 cap0 : Nat) (neg : Bool) (a : Option Addr) (cap : Nat) (exp : Int) (w : World) (h0 : len0 ≤ 524288) :
    Calls Tryd.prog 3 #[.slice a0 len0 cap0, .bool neg, .slice a 0 cap, .int .i64 exp] w fun e w' => e = .returned (.bool true) ∧ Below w.heap.size w w' := by
  go_enter Tryd.func3, Tryd.ntmps3
  go_wp2_with fail
  refine (bytes11 _ _ _ _ _ _ _ _ (by unfold maxLen; omega) (by unfold maxLen; omega) _).mono ?_
  rintro e wx ⟨⟨q, rfl⟩, hwx⟩
  subst wx
  cases q
  · go_wp2
    go_ret
    exact ⟨rfl, Below.refl _ _⟩
  · go_wp2_with fail
    refine (well_empty a cap w).mono ?_
    rintro e wx ⟨rfl, hwx⟩
    subst wx
    go_wp2
    go_ret
    exact ⟨rfl, Below.refl _ _⟩

/-- What the walks are told of a slice of bytes that came in. -/
def IsBytes (w : World) (a : Option Addr) (len cap : Nat) (l : List UInt8) : Prop :=
  (a = none ∧ len = 0 ∧ cap = 0 ∧ l = []) ∨ ∃ x, a = some x ∧ len = l.length ∧ len ≤ maxLen ∧ Lies w x l

theorem IsBytes.le {w : World} {a : Option Addr} {len cap : Nat} {l : List UInt8} (h : IsBytes w a len cap l) : len = l.length ∧ len ≤ maxLen := by
  rcases h with ⟨_, rfl, _, rfl⟩ | ⟨x, _, h1, h2, _⟩
  · exact ⟨rfl, by unfold maxLen; omega⟩
  · exact ⟨h1, h2⟩

/-- Where there is a byte the address is a plain one. -/
theorem Lies.seg {w : World} {x : Addr} {l : List UInt8} (h : Lies w x l) (hl : 0 < l.length) : ∃ b off, x = ⟨b, off, none⟩ ∧ Seg w b off l := by
  obtain ⟨b, off, spot⟩ := x
  have get : ∀ k, (hk : k < l.length) → w.cell? ((⟨b, off, spot⟩ : Addr).add k) = some (.int .u8 (l[k].toNat : Int)) := fun k hk => h k _ (by rw [byteCells_get, List.getElem?_eq_getElem hk]; rfl)
  have hs : spot = none := by simpa [Addr.add] using World.cell?_spot (get 0 hl)
  subst hs
  refine ⟨b, off, rfl, fun k hk => ?_⟩
  have := get k hk
  rw [Addr.add_lit] at this
  rw [tb_eq _ _ hk]
  exact this

theorem walkR (a0 : Option Addr) (len0 cap0 : Nat) (l0 : List UInt8) (neg : Bool) (a1 : Option Addr) (len1 cap1 : Nat) (l1 : List UInt8) (exp : Int) (w : World) (h0 : IsBytes w a0 len0 cap0 l0) (h1 : IsBytes w a1 len1 cap1 l1)
    (x0 : -9223372036854775808 ≤ exp) (x1 : exp ≤ 9223372036854775807) (htab : Tab w) :
    Calls Tryd.prog 3 #[.slice a0 len0 cap0, .bool neg, .slice a1 len1 cap1, .int .i64 exp] w fun e w' => e = .returned (.bool true) ∧ Below w.heap.size w w' := by
  obtain ⟨e0, m0⟩ := h0.le
  obtain ⟨e1, m1⟩ := h1.le
  by_cases b0 : 524288 < len0
  · exact lawR_longbuf a0 len0 cap0 neg a1 len1 cap1 exp w m0 m1 b0
  · by_cases b1 : 524288 < len1
    · exact lawR_longdig a0 len0 cap0 neg a1 len1 cap1 exp w (by omega) m1 b1
    · by_cases hz : len1 = 0
      · subst hz
        exact lawR_nodig a0 len0 cap0 neg a1 cap1 exp w (by omega)
      · rcases h1 with ⟨_, h, _⟩ | ⟨x, rfl, _, _, hl1⟩
        · exact absurd h hz
        · obtain ⟨b, off, rfl, hseg⟩ := hl1.seg (by omega)
          subst e1
          rcases h0 with ⟨rfl, rfl, rfl, rfl⟩ | ⟨y, rfl, _, _, hl0⟩
          · exact lawR_nil neg b off cap1 l1 exp w hseg (by omega) (by omega) x0 x1 htab
          · subst e0
            exact lawR_buf y cap0 l0 neg b off cap1 l1 exp w hl0 (by omega) hseg (by omega) (by omega) x0 x1 htab

end Go.Proofs.Qxb6600072aDoor
