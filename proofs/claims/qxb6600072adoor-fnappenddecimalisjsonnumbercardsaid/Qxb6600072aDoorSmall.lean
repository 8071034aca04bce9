/-
  THE WALKS of the small functions: recB1IsDigit, writtenPlain, the two zzBytes, recB1WellFormed, recB1HasByte, recB1MantEnd, recB1Same.
-/
import Derived.Test.Qxb6600072aDoorProg
import Derived.Test.Qxb6600072aDoorPlain
import Derived.Test.Qxb6600072aDoorApp
import Derived.RegionTactic
import Derived.ChangeAlike
import Derived.Deep.QuietTactic
import Derived.BigQuiet
namespace Go.Proofs.Qxb6600072aDoor
open Go.RowKit

theorem ret_bool {a b : Bool} (h : a = b) : Ending.returned (.bool a) = .returned (.bool b) := by rw [h]
theorem ret_int {k : IntKind} {a b : Int} (h : a = b) : Ending.returned (.int k a) = .returned (.int k b) := by rw [h]

def SomeBool (e : Ending) : Prop := ∃ q : Bool, e = .returned (.bool q)

/-- The bytes l lie at the cells from (b, off) on. -/
def Seg (w : World) (b off : Nat) (l : List UInt8) : Prop := ∀ k, k < l.length → w.cell? ⟨b, off + k, none⟩ = some (.int .u8 (tb l k))

theorem Seg.lies {w : World} {b off : Nat} {l : List UInt8} (h : Seg w b off l) : Lies w ⟨b, off, none⟩ l := by
  intro j u hj
  rw [byteCells_get] at hj
  by_cases hl : j < l.length
  · rw [List.getElem?_eq_getElem hl] at hj
    simp at hj
    subst hj
    have := h j hl
    rw [tb_eq _ _ hl] at this
    rw [Addr.add_lit]
    exact this
  · rw [List.getElem?_eq_none (by omega)] at hj
    cases hj

theorem Seg.later {W w : World} {b off : Nat} {l : List UInt8} (h : Seg W b off l) (hb : Below W.heap.size W w) : Seg w b off l :=
  fun k hk => (hb.cell (World.block_lt_of_cell? _ _ (h k hk))).trans (h k hk)

theorem Seg.lt {w : World} {b off : Nat} {l : List UInt8} (h : Seg w b off l) (hl : 0 < l.length) : b < w.heap.size := World.block_lt_of_cell? _ _ (h 0 hl)

set_option maxHeartbeats 400000 in
theorem isDigit_yes (c : Int) (h0 : 48 ≤ c) (h1 : c ≤ 57) (w : World) :
    Calls Tryd.prog 34 #[.int .u8 c] w fun e w' => e = .returned (.bool true) ∧ w' = w := by
  go_enter Tryd.func34, Tryd.ntmps34
  go_wp2
  go_ret
  exact ⟨rfl, rfl⟩

set_option maxHeartbeats 400000 in
theorem isDigit_no (c : Int) (h : c < 48 ∨ 57 < c) (w : World) :
    Calls Tryd.prog 34 #[.int .u8 c] w fun e w' => e = .returned (.bool false) ∧ w' = w := by
  rcases h with h | h
  · go_enter Tryd.func34, Tryd.ntmps34
    go_wp2
    go_ret
    exact ⟨rfl, rfl⟩
  · have h2 : 48 ≤ c := by omega
    go_enter Tryd.func34, Tryd.ntmps34
    go_wp2
    go_ret
    exact ⟨ret_bool (decide_eq_false (by omega)), rfl⟩

set_option maxHeartbeats 400000 in
theorem plain_yes (c : Int) (h0 : -6 ≤ c) (h1 : c < 21) (w : World) :
    Calls Tryd.prog 42 #[.int .i64 c] w fun e w' => e = .returned (.bool true) ∧ w' = w := by
  go_enter Tryd.func42, Tryd.ntmps42
  go_wp2
  go_ret
  exact ⟨rfl, rfl⟩

set_option maxHeartbeats 400000 in
theorem plain_no (c : Int) (h : c < -6 ∨ 21 ≤ c) (w : World) :
    Calls Tryd.prog 42 #[.int .i64 c] w fun e w' => e = .returned (.bool false) ∧ w' = w := by
  rcases h with h | h
  · go_enter Tryd.func42, Tryd.ntmps42
    go_wp2
    go_ret
    exact ⟨rfl, rfl⟩
  · have h2 : -6 ≤ c := by omega
    go_enter Tryd.func42, Tryd.ntmps42
    go_wp2
    go_ret
    exact ⟨ret_bool (decide_eq_false (by omega)), rfl⟩

set_option maxHeartbeats 400000 in
theorem bytes17 (n : Bool) (a : Option Addr) (len cap : Nat) (x : Int) (h : len ≤ maxLen) (w : World) :
    Calls Tryd.prog 17 #[.bool n, .slice a len cap, .int .i64 x] w fun e w' => SomeBool e ∧ w' = w := by
  unfold maxLen at h
  go_enter Tryd.func17, Tryd.ntmps17
  go_wp2
  all_goals
    go_ret
    exact ⟨⟨_, rfl⟩, rfl⟩

set_option maxHeartbeats 400000 in
theorem bytes11 (a0 : Option Addr) (len0 cap0 : Nat) (n : Bool) (a : Option Addr) (len cap : Nat) (x : Int) (h0 : len0 ≤ maxLen) (h : len ≤ maxLen) (w : World) :
    Calls Tryd.prog 11 #[.slice a0 len0 cap0, .bool n, .slice a len cap, .int .i64 x] w fun e w' => SomeBool e ∧ w' = w := by
  unfold maxLen at h h0
  by_cases h1 : len0 ≤ 1048576
  · by_cases h2 : len ≤ 1048576
    · go_enter Tryd.func11, Tryd.ntmps11
      go_wp2
      all_goals
        go_ret
        exact ⟨⟨_, rfl⟩, rfl⟩
    · go_enter Tryd.func11, Tryd.ntmps11
      go_wp2
      all_goals
        go_ret
        exact ⟨⟨_, rfl⟩, rfl⟩
  · go_enter Tryd.func11, Tryd.ntmps11
    go_wp2
    all_goals
      go_ret
      exact ⟨⟨_, rfl⟩, rfl⟩

/-- recB1WellFormed said yes. -/
def WellSaid (ds : List UInt8) (e : Ending) : Prop := e = .returned (.bool false) ∨ (e = .returned (.bool true) ∧ WF ds)

set_option maxHeartbeats 400000 in
theorem well_empty (a : Option Addr) (cap : Nat) (w : World) :
    Calls Tryd.prog 12 #[.slice a 0 cap] w fun e w' => e = .returned (.bool false) ∧ w' = w := by
  go_enter Tryd.func12, Tryd.ntmps12
  go_wp2
  go_ret
  exact ⟨rfl, rfl⟩

theorem wf_of (ds : List UInt8) (hp : 0 < ds.length) (hd : ∀ j, j < ds.length → 48 ≤ tb ds j ∧ tb ds j ≤ 57) (h0 : ¬ tb ds 0 = 48) (h1 : ¬ tb ds (ds.length - 1) = 48) : WF ds := by
  refine ⟨fun c hc => ?_, hp, h0, h1⟩
  obtain ⟨k, hk, rfl⟩ := List.getElem_of_mem hc
  have := hd k hk
  rw [tb_eq _ _ hk] at this
  simp [isD]
  omega

set_option maxHeartbeats 1000000 in
theorem well_any (b off cap : Nat) (ds : List UInt8) (w : World) (hp : 0 < ds.length) (hl : ds.length ≤ 1048576) (hc : Seg w b off ds) :
    Calls Tryd.prog 12 #[.slice (some ⟨b, off, none⟩) ds.length cap] w fun e w' => WellSaid ds e ∧ w' = w := by
  obtain ⟨len, hlen⟩ : ∃ len, len = ds.length := ⟨_, rfl⟩
  have HL : Hid (len = ds.length) := hlen
  rw [← hlen] at hp hl ⊢
  clear hlen
  have hz : ((len : Int) == 0) = false := by simp; omega
  go_enter Tryd.func12, Tryd.ntmps12
  go_wp2
  go_loop [3] (fun i => ∃ k : Nat, k ≤ len ∧ i = .int .i64 k ∧ Hid (∀ j, j < k → 48 ≤ tb ds j ∧ tb ds j ≤ 57)) (fun i => len - (intOf i).toNat)
  case atStart => exact ⟨0, Nat.zero_le _, rfl, fun j hj => absurd hj (Nat.not_lt_zero _)⟩
  case round =>
    obtain ⟨k, hk, rfl, hd⟩ := hrel
    by_cases hlt : k < len
    · have hcell := hc k (by rw [← HL.out]; exact hlt)
      obtain ⟨c, hcc⟩ : ∃ c, c = tb ds k := ⟨_, rfl⟩
      have HC : Hid (c = tb ds k) := hcc
      rw [← hcc] at hcell
      clear hcc
      by_cases hy : 48 ≤ c ∧ c ≤ 57
      · obtain ⟨hy0, hy1⟩ := hy
        go_wp2_with (go_at_call 34; refine (isDigit_yes _ (by assumption) (by assumption) _).mono ?_; rintro e w' ⟨rfl, rfl⟩)
        go_round
        case rel =>
          refine ⟨k + 1, by omega, by go_num, fun j hj => ?_⟩
          by_cases e : j = k
          · rw [e, ← HC.out]; exact ⟨hy0, hy1⟩
          · exact hd.out j (by omega)
        case measure => simp [intOf]; omega
      · have hy' : c < 48 ∨ 57 < c := by omega
        clear hy
        go_wp2_with (go_at_call 34; refine (isDigit_no _ (by assumption) _).mono ?_; rintro e w' ⟨rfl, rfl⟩)
        go_ret
        exact ⟨.inl rfl, rfl⟩
    · obtain rfl : k = len := by omega
      have hc0 := hc 0 (by rw [← HL.out]; exact hp)
      have hc1 := hc (k - 1) (by rw [← HL.out]; omega)
      obtain ⟨c, hcc⟩ : ∃ c, c = tb ds 0 := ⟨_, rfl⟩
      have HC : Hid (c = tb ds 0) := hcc
      obtain ⟨d, hdd⟩ : ∃ d, d = tb ds (k - 1) := ⟨_, rfl⟩
      have HD : Hid (d = tb ds (k - 1)) := hdd
      rw [← hcc] at hc0
      rw [← hdd] at hc1
      clear hcc hdd
      rw [Nat.add_zero] at hc0
      by_cases h0 : c = 48
      · subst h0
        go_wp2
        go_ret
        exact ⟨.inl rfl, rfl⟩
      · by_cases h1 : d = 48
        · subst h1
          go_wp2
          go_ret
          exact ⟨.inl rfl, rfl⟩
        · go_wp2
          go_ret
          refine ⟨.inr ⟨?_, ?_⟩, rfl⟩
          · exact ret_bool (by simp [h0, h1])
          · have hl2 := HL.out
            exact wf_of ds (by omega) (fun j hj => hd.out j (by omega)) (by rw [← HC.out]; exact h0) (by rw [← hl2, ← HD.out]; exact h1)

set_option maxHeartbeats 400000 in
theorem has_no (b off cap : Nat) (l : List UInt8) (c : Int) (w : World) (hl : l.length ≤ 2097152) (hc : Seg w b off l) (hn : ∀ k, k < l.length → tb l k ≠ c) :
    Calls Tryd.prog 19 #[.slice (some ⟨b, off, none⟩) l.length cap, .int .u8 c] w fun e w' => e = .returned (.bool false) ∧ w' = w := by
  obtain ⟨len, hlen⟩ : ∃ len, len = l.length := ⟨_, rfl⟩
  have HN : Hid (∀ k, k < len → tb l k ≠ c) := by rw [hlen]; exact hn
  have HS : Hid (∀ k, k < len → w.cell? ⟨b, off + k, none⟩ = some (.int .u8 (tb l k))) := by rw [hlen]; exact hc
  rw [← hlen] at hl ⊢
  clear hlen hn hc
  go_enter Tryd.func19, Tryd.ntmps19
  go_wp2
  go_loop [5] (fun i => ∃ k : Nat, k ≤ len ∧ i = .int .i64 k) (fun i => len - (intOf i).toNat)
  case atStart => exact ⟨0, Nat.zero_le _, rfl⟩
  case round =>
    obtain ⟨k, hk, rfl⟩ := hrel
    by_cases hlt : k < len
    · have hcell := HS.out k hlt
      have hne := HN.out k hlt
      obtain ⟨d, hd⟩ : ∃ d, d = tb l k := ⟨_, rfl⟩
      rw [← hd] at hcell hne
      clear hd
      have hb : (d == c) = false := by simpa using hne
      go_wp2
      go_round
      case rel => exact ⟨k + 1, by omega, by go_num⟩
      case measure => simp [intOf]; omega
    · go_wp2
      go_ret
      exact ⟨rfl, rfl⟩

set_option maxHeartbeats 400000 in
theorem has_yes (b off cap : Nat) (l : List UInt8) (c : Int) (w : World) (hl : l.length ≤ 2097152) (hc : Seg w b off l) (m : Nat) (hm : m < l.length) (hy : tb l m = c) :
    Calls Tryd.prog 19 #[.slice (some ⟨b, off, none⟩) l.length cap, .int .u8 c] w fun e w' => e = .returned (.bool true) ∧ w' = w := by
  obtain ⟨len, hlen⟩ : ∃ len, len = l.length := ⟨_, rfl⟩
  have HY : Hid (tb l m = c) := hy
  have HS : Hid (∀ k, k < len → w.cell? ⟨b, off + k, none⟩ = some (.int .u8 (tb l k))) := by rw [hlen]; exact hc
  rw [← hlen] at hl hm ⊢
  clear hlen hy hc
  go_enter Tryd.func19, Tryd.ntmps19
  go_wp2
  go_loop [5] (fun i => ∃ k : Nat, k ≤ m ∧ i = .int .i64 k) (fun i => len - (intOf i).toNat)
  case atStart => exact ⟨0, Nat.zero_le _, rfl⟩
  case round =>
    obtain ⟨k, hk, rfl⟩ := hrel
    have hlt : k < len := by omega
    have hcell := HS.out k hlt
    by_cases he : tb l k = c
    · rw [he] at hcell
      go_wp2
      go_ret
      exact ⟨rfl, rfl⟩
    · have hkm : k ≠ m := fun e => he (by rw [e]; exact HY.out)
      obtain ⟨d, hd⟩ : ∃ d, d = tb l k := ⟨_, rfl⟩
      rw [← hd] at hcell he
      clear hd
      have hb : (d == c) = false := by simpa using he
      go_wp2
      go_round
      case rel => exact ⟨k + 1, by omega, by go_num⟩
      case measure => simp [intOf]; omega

set_option maxHeartbeats 400000 in
theorem mantEnd_any (b off cap : Nat) (l : List UInt8) (w : World) (hl : l.length ≤ 2097152) (hc : Seg w b off l) (m : Nat) (hm : m < l.length) (hy : tb l m = 101) (hn : ∀ k, k < m → tb l k ≠ 101 ∧ tb l k ≠ 69) :
    Calls Tryd.prog 20 #[.slice (some ⟨b, off, none⟩) l.length cap] w fun e w' => e = .returned (.int .i64 m) ∧ w' = w := by
  obtain ⟨len, hlen⟩ : ∃ len, len = l.length := ⟨_, rfl⟩
  have HY : Hid (tb l m = 101) := hy
  have HN : Hid (∀ k, k < m → tb l k ≠ 101 ∧ tb l k ≠ 69) := hn
  have HS : Hid (∀ k, k < len → w.cell? ⟨b, off + k, none⟩ = some (.int .u8 (tb l k))) := by rw [hlen]; exact hc
  rw [← hlen] at hl hm ⊢
  clear hlen hy hc hn
  go_enter Tryd.func20, Tryd.ntmps20
  go_wp2
  go_loop [3] (fun i => ∃ k : Nat, k ≤ m ∧ i = .int .i64 k) (fun i => len - (intOf i).toNat)
  case atStart => exact ⟨0, Nat.zero_le _, rfl⟩
  case round =>
    obtain ⟨k, hk, rfl⟩ := hrel
    have hlt : k < len := by omega
    have hcell := HS.out k hlt
    by_cases he : k = m
    · subst he
      rw [HY.out] at hcell
      go_wp2
      go_ret
      exact ⟨rfl, rfl⟩
    · obtain ⟨n1, n2⟩ := HN.out k (by omega)
      obtain ⟨d, hd⟩ : ∃ d, d = tb l k := ⟨_, rfl⟩
      rw [← hd] at hcell n1 n2
      clear hd
      have hb1 : (d == 101) = false := by simpa using n1
      have hb2 : (d == 69) = false := by simpa using n2
      go_wp2
      go_round
      case rel => exact ⟨k + 1, by omega, by go_num⟩
      case measure => simp [intOf]; omega

set_option maxHeartbeats 400000 in
theorem same_any (b off cap b' off' cap' : Nat) (l : List UInt8) (w : World) (hl : l.length ≤ 2097152) (hc : Seg w b off l) (hc' : Seg w b' off' l) :
    Calls Tryd.prog 16 #[.slice (some ⟨b, off, none⟩) l.length cap, .slice (some ⟨b', off', none⟩) l.length cap'] w fun e w' => e = .returned (.bool true) ∧ Below w.heap.size w w' := by
  obtain ⟨len, hlen⟩ : ∃ len, len = l.length := ⟨_, rfl⟩
  have HS : Hid (∀ wr, Below w.heap.size w wr → ∀ k, k < len → wr.cell? ⟨b, off + k, none⟩ = some (.int .u8 (tb l k)) ∧ wr.cell? ⟨b', off' + k, none⟩ = some (.int .u8 (tb l k))) := by
    intro wr hb k hk
    exact ⟨hc.later hb k (by omega), hc'.later hb k (by omega)⟩
  rw [← hlen] at hl ⊢
  clear hlen hc hc'
  go_enter Tryd.func16, Tryd.ntmps16
  go_wp2
  go_loopw [5] (fun i wr => ∃ k : Nat, k ≤ len ∧ i = .int .i64 k ∧ Below w.heap.size w wr) (fun i _ => len - (intOf i).toNat)
  case atStart => exact ⟨0, Nat.zero_le _, rfl, Below.refl _ _⟩
  case round =>
    obtain ⟨k, hk, rfl, hb⟩ := hrel
    by_cases hlt : k < len
    · obtain ⟨g1, g2⟩ := HS.out wr hb k hlt
      have hlt' : (k : Int) < (len : Int) := by omega
      obtain ⟨d, hd⟩ : ∃ d, d = tb l k := ⟨_, rfl⟩
      rw [← hd] at g1 g2
      clear hd
      go_wp2
      go_quiet (fail)
      go_wp2
      go_roundw
      case rel => exact ⟨k + 1, by omega, by go_num, below_drewN hb _⟩
      case measure => simp [intOf]; omega
    · go_wp2
      go_ret
      exact ⟨rfl, hb⟩

end Go.Proofs.Qxb6600072aDoor
