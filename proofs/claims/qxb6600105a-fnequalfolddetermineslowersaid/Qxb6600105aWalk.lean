/-
  THE WALKS of the functions on the law's road: zzIsUpper, zzLowerByte, zzBytes, zzCloneBytes, equalFold, ZZEqualFold, zzLowerBytes, zzLowerString.
-/
import Derived.Test.Qxb6600105aProg
import Derived.Test.Qxb6600105aPlain
import Derived.WalkKit
import Derived.WalkSpells
import Derived.WalkLawsBesides
import Derived.Lib.SliceRun
import Derived.Laws.IdiomStrings
namespace Go.Proofs.Qxb6600105a
open Go.RowKit

theorem ret_bool {a b : Bool} (h : a = b) : Ending.returned (.bool a) = .returned (.bool b) := by rw [h]
theorem ret_int {k : IntKind} {a b : Int} (h : a = b) : Ending.returned (.int k a) = .returned (.int k b) := by rw [h]
def SomeBool (e : Ending) : Prop := ∃ q : Bool, e = .returned (.bool q)

theorem info5 : (Try.prog.info? 5).map (fun i => (i.zero, i.size, i.bytes)) = some (some (.int .u8 0), 1, 1) := by kernel_rfl

set_option maxHeartbeats 400000 in
theorem isUpper_no (c : Int) (h : c < 65 ∨ 90 < c) (w : World) :
    Calls Try.prog 20 #[.int .u8 c] w fun e w' => e = .returned (.bool false) ∧ w' = w := by
  rcases h with h | h
  · go_enter Try.func20, Try.ntmps20
    go_wp2
    go_ret
    exact ⟨rfl, rfl⟩
  · have h2 : 65 ≤ c := by omega
    go_enter Try.func20, Try.ntmps20
    go_wp2
    go_ret
    exact ⟨ret_bool (decide_eq_false (by omega)), rfl⟩

set_option maxHeartbeats 400000 in
theorem lowerByte_any (c : Int) (h0 : 0 ≤ c) (h1 : c ≤ 255) (w : World) :
    Calls Try.prog 27 #[.int .u8 c] w fun e w' => e = .returned (.int .u8 (low c)) ∧ w' = w := by
  by_cases h : 65 ≤ c
  · by_cases h2 : c ≤ 90
    · rw [low_up h h2]
      go_enter Try.func27, Try.ntmps27
      go_wp2
      go_ret
      exact ⟨ret_int (by first | rfl | omega | (simp [IntKind.wrap, IntKind.bits, IntKind.signed]; omega)), rfl⟩
    · rw [low_no (by omega)]
      go_enter Try.func27, Try.ntmps27
      go_wp2
      go_ret
      exact ⟨rfl, rfl⟩
  · rw [low_no (by omega)]
    go_enter Try.func27, Try.ntmps27
    go_wp2
    go_ret
    exact ⟨rfl, rfl⟩

set_option maxHeartbeats 1000000 in
theorem bytes17 (a : Option Addr) (len cap : Nat) (s t : ByteArray) (h : len ≤ maxLen) (hs : s.size ≤ maxLen) (ht : t.size ≤ maxLen) (w : World) :
    Calls Try.prog 17 #[.slice a len cap, .string s, .string t] w fun e w' => SomeBool e ∧ w' = w := by
  unfold maxLen at h hs ht
  by_cases h1 : len ≤ 1048576
  · by_cases h2 : s.size ≤ 1048576
    · by_cases h3 : t.size ≤ 1048576
      · go_enter Try.func17, Try.ntmps17
        go_wp2
        all_goals
          go_ret
          exact ⟨⟨_, rfl⟩, rfl⟩
      · go_enter Try.func17, Try.ntmps17
        go_wp2
        all_goals
          go_ret
          exact ⟨⟨_, rfl⟩, rfl⟩
    · go_enter Try.func17, Try.ntmps17
      go_wp2
      all_goals
        go_ret
        exact ⟨⟨_, rfl⟩, rfl⟩
  · go_enter Try.func17, Try.ntmps17
    go_wp2
    all_goals
      go_ret
      exact ⟨⟨_, rfl⟩, rfl⟩

/-- The bytes l lie at the cells from (b, off) on. -/
def Seg (w : World) (b off : Nat) (l : List UInt8) : Prop := ∀ k, k < l.length → w.cell? ⟨b, off + k, none⟩ = some (.int .u8 (tb l k))

theorem Seg.later {W w : World} {b off : Nat} {l : List UInt8} (h : Seg W b off l) (hb : Below W.heap.size W w) : Seg w b off l :=
  fun k hk => (hb.cell (World.block_lt_of_cell? _ _ (h k hk))).trans (h k hk)

/-- A row that a call fills place by place with f 0, f 1, .. -/
def CInv (w : World) (len : Nat) (f : Nat → Int) (k : Nat) (wr : World) : Prop :=
  ∃ xs : List Value, wr.ownsRow w.heap.size 5 1 (.slice (some ⟨w.heap.size, 0, none⟩) len len) len xs ∧ (∀ j, j < k → xs[j]? = some (.int .u8 (f j))) ∧ Below w.heap.size w wr ∧ w.heap.size < wr.heap.size

section
variable {w wr w1 : World} {len k : Nat} {f : Nat → Int} {xs : List Value}

theorem CInv.start (hown : w1.ownsRow w.heap.size 5 1 (.slice (some ⟨w.heap.size, 0, none⟩) len len) len xs) (hg : w.grownBy w1 none) : CInv w len f 0 w1 :=
  ⟨xs, hown, fun j hj => by omega, (Below.refl _ _).grown hg (Nat.le_refl _) (fun k hk => by cases hk), (hown.lt w.heap.size rfl).2⟩

theorem CInv.free (h : CInv w len f k wr) (j : Nat) : wr.frozen? ⟨w.heap.size, j, none⟩ = false := by
  obtain ⟨xs, h1, _⟩ := h
  exact h1.frozenAt j

theorem CInv.there (h : CInv w len f k wr) (hk : k < len) : ∃ v, wr.cell? ⟨w.heap.size, k, none⟩ = some v := by
  obtain ⟨xs, h1, _⟩ := h
  rw [h1.cellAt k (by omega)]
  have := h1.1
  exact ⟨xs[k]'(by omega), by simp⟩

theorem CInv.below (h : CInv w len f k wr) : Below w.heap.size w wr := by
  obtain ⟨xs, _, _, h3, _⟩ := h
  exact h3

theorem CInv.size (h : CInv w len f k wr) : w.heap.size < wr.heap.size := by
  obtain ⟨xs, _, _, _, h4⟩ := h
  exact h4

theorem CInv.step (h : CInv w len f k wr) (hk : k < len) : CInv w len f (k + 1) (wr.setCell ⟨w.heap.size, k, none⟩ (.int .u8 (f k))) := by
  obtain ⟨xs, h1, h2, h3, h4⟩ := h
  have hl := h1.1
  refine ⟨_, (h1.stored k _).1, fun j hj => ?_, h3.setCell (Nat.le_refl _) _, by simpa [World.setCell] using h4⟩
  rw [List.getElem?_set]
  by_cases e : k = j
  · subst e; rw [if_pos rfl, if_pos (by omega)]
  · rw [if_neg e]; exact h2 j (by omega)

theorem CInv.cells (h : CInv w len f len wr) : ∀ j, j < len → wr.cell? ⟨w.heap.size, j, none⟩ = some (.int .u8 (f j)) := by
  obtain ⟨xs, h1, h2, _⟩ := h
  intro j hj
  rw [h1.cellAt j (by omega)]
  exact h2 j hj
end

set_option maxHeartbeats 400000 in
theorem clone_nil (w : World) : Calls Try.prog 11 #[.slice none 0 0] w fun e w' => e = .returned (.slice none 0 0) ∧ w' = w := by
  have q23 : ∀ (w : World) (a : Option Addr) (n c n' c' : Nat), (binOp .eql 23 (.slice a n c) (.slice none n' c')).run Try.prog w = .ok (.bool a.isNone) w := fun w a n c n' c' => Lib.run_eql_slice_nil w _ _ a n c n' c' Try.underlying23
  go_enter Try.func11, Try.ntmps11
  go_wp2
  go_ret
  exact ⟨rfl, rfl⟩

set_option maxHeartbeats 400000 in
theorem clone_empty (a : Addr) (cap : Nat) (f : Nat → Int) (w : World) :
    Calls Try.prog 11 #[.slice (some a) 0 cap] w fun e w' => e = .returned (.slice (some ⟨w.heap.size, 0, none⟩) 0 0) ∧ CInv w 0 f 0 w' := by
  have q23 : ∀ (w : World) (a : Option Addr) (n c n' c' : Nat), (binOp .eql 23 (.slice a n c) (.slice none n' c')).run Try.prog w = .ok (.bool a.isNone) w := fun w a n c n' c' => Lib.run_eql_slice_nil w _ _ a n c n' c' Try.underlying23
  obtain ⟨i0, hi, hz0, hz1, hz2⟩ := info_parts info5
  go_enter Try.func11, Try.ntmps11
  go_wp2_with (at_make; refine wpList_make_full _ rfl _ _ 23 rfl w.heap.size 5 i0 (.int .u8 0) 1 Try.underlying23 hi hz0 hz1 .i64 .i64 _ _ 0 rfl rfl rfl rfl (by omega) (by unfold maxLen; omega) (Nat.le_refl _) ?_; intro w1 hown hgrow)
  have hinv : CInv w 0 f 0 w1 := CInv.start hown hgrow
  clear hown hgrow
  refine wp_loop_rounds 1 ?_
  rw [rounds_succ]
  go_wp2
  go_ret
  exact ⟨rfl, hinv⟩

set_option maxHeartbeats 400000 in
theorem clone_any (b off cap : Nat) (l : List UInt8) (w : World) (h0 : l.length ≤ 1048576) (hc : Seg w b off l) :
    Calls Try.prog 11 #[.slice (some ⟨b, off, none⟩) l.length cap] w fun e w' => e = .returned (.slice (some ⟨w.heap.size, 0, none⟩) l.length l.length) ∧ CInv w l.length (tb l) l.length w' := by
  have q23 : ∀ (w : World) (a : Option Addr) (n c n' c' : Nat), (binOp .eql 23 (.slice a n c) (.slice none n' c')).run Try.prog w = .ok (.bool a.isNone) w := fun w a n c n' c' => Lib.run_eql_slice_nil w _ _ a n c n' c' Try.underlying23
  obtain ⟨len, hlen⟩ : ∃ len, len = l.length := ⟨_, rfl⟩
  have HC : Hid (∀ wr, Below w.heap.size w wr → ∀ k, k < len → wr.cell? ⟨b, off + k, none⟩ = some (.int .u8 (tb l k))) := fun wr hb k hk => hc.later hb k (by omega)
  rw [← hlen] at h0 ⊢
  clear hlen hc
  obtain ⟨i0, hi, hz0, hz1, hz2⟩ := info_parts info5
  go_enter Try.func11, Try.ntmps11
  go_wp2_with (at_make; refine wpList_make_full _ rfl _ _ 23 rfl w.heap.size 5 i0 (.int .u8 0) 1 Try.underlying23 hi hz0 hz1 .i64 .i64 _ _ len rfl rfl rfl rfl (by rw [hz2]; omega) (by unfold maxLen; omega) (Nat.le_refl _) ?_; intro w1 hown hgrow)
  have hinv : CInv w len (tb l) 0 w1 := CInv.start hown hgrow
  clear hown hgrow hi hz0 hz1 hz2 i0
  go_loopw [4] (fun i wr => ∃ k : Nat, k ≤ len ∧ i = .int .i64 k ∧ CInv w len (tb l) k wr) (fun i _ => len - (intOf i).toNat)
  case atStart => exact ⟨0, Nat.zero_le _, rfl, hinv⟩
  case round =>
    obtain ⟨k, hk, rfl, hr⟩ := hrel
    by_cases hlt : k < len
    · have hcell := HC.out wr hr.below k hlt
      have hfree := hr.free k
      obtain ⟨v, hv⟩ := hr.there hlt
      go_wp2
      go_roundw
      case rel => exact ⟨k + 1, by omega, by go_num, hr.step hlt⟩
      case measure => simp [intOf]; omega
    · obtain rfl : k = len := by omega
      go_wp2
      go_ret
      exact ⟨rfl, hr⟩

/-- What equalFold answered. -/
def FoldSaid (bs t : List UInt8) (e : Ending) : Prop := (e = .returned (.bool true) ∧ EF bs t) ∨ (e = .returned (.bool false) ∧ ¬ EF bs t)

set_option maxHeartbeats 400000 in
theorem fold_empty (a : Option Addr) (cap : Nat) (s : ByteArray) (w : World) :
    Calls Try.prog 26 #[.slice a 0 cap, .string s] w fun e w' => e = .returned (.bool true) ∧ w' = w := by
  go_enter Try.func26, Try.ntmps26
  go_wp2
  refine wp_loop_rounds 1 ?_
  rw [rounds_succ]
  go_wp2
  go_ret
  exact ⟨rfl, rfl⟩

set_option maxHeartbeats 400000 in
theorem fold_any (b off cap : Nat) (bs : List UInt8) (s : ByteArray) (w : World) (h0 : bs.length ≤ 1048576) (hs : bs.length ≤ s.size) (hc : Seg w b off bs) :
    Calls Try.prog 26 #[.slice (some ⟨b, off, none⟩) bs.length cap, .string s] w fun e w' => FoldSaid bs s.data.toList e ∧ w' = w := by
  obtain ⟨len, hlen⟩ : ∃ len, len = bs.length := ⟨_, rfl⟩
  have HC : Hid (∀ k, k < len → w.cell? ⟨b, off + k, none⟩ = some (.int .u8 (tb bs k)) ∧ 0 ≤ tb bs k ∧ tb bs k ≤ 255) := fun k hk => ⟨hc k (by omega), tb_bd bs k⟩
  have HS : Hid (∀ k, (hk : k < s.size) → tb s.data.toList k = ((s[k]'hk).toNat : Int)) := fun k hk => by
    rw [tb_eq _ _ hk]; rfl
  have HL : Hid (len = bs.length) := hlen
  rw [← hlen] at h0 hs ⊢
  clear hlen hc
  go_enter Try.func26, Try.ntmps26
  go_wp2
  go_loop [5, 6, 9] (fun _ _ i => ∃ k : Nat, k ≤ len ∧ i = .int .i64 k ∧ Hid (∀ j, j < k → low (tb bs j) = tb s.data.toList j)) (fun _ _ i => len - (intOf i).toNat)
  case atStart => exact ⟨0, Nat.zero_le _, rfl, fun j hj => absurd hj (Nat.not_lt_zero _)⟩
  case round =>
    obtain ⟨k, hk, rfl, hd⟩ := hrel
    by_cases hlt : k < len
    · obtain ⟨hcell, hb0, hb1⟩ := HC.out k hlt
      have hks : k < s.size := by omega
      have hsk := HS.out k hks
      obtain ⟨c, hcc⟩ : ∃ c, c = tb bs k := ⟨_, rfl⟩
      have HK : Hid (c = tb bs k ∧ tb s.data.toList k = ((s[k]'hks).toNat : Int)) := ⟨hcc, hsk⟩
      rw [← hcc] at hcell hb0 hb1
      clear hcc hsk
      by_cases hu : 65 ≤ c ∧ c ≤ 90
      · obtain ⟨hu0, hu1⟩ := hu
        by_cases hq : c + 32 = ((s[k]'hks).toNat : Int)
        · go_wp2
          go_round
          case rel =>
            refine ⟨k + 1, by omega, by go_num, fun j hj => ?_⟩
            by_cases e : j = k
            · rw [e, HK.out.2, ← HK.out.1, low_up hu0 hu1]; exact hq
            · exact hd.out j (by omega)
          case measure => simp [intOf]; omega
        · go_wp2
          go_ret
          refine ⟨.inr ⟨rfl, fun hE => hq ?_⟩, rfl⟩
          have := hE k (by have := HL.out; omega)
          rw [HK.out.2, ← HK.out.1, low_up hu0 hu1] at this
          exact this
      · have hu' : c < 65 ∨ 90 < c := by omega
        have hlo := low_no hu'
        by_cases hu0 : 65 ≤ c
        · have hu9 : 90 < c := by omega
          clear hu
          by_cases hq : c = ((s[k]'hks).toNat : Int)
          · have HLO : Hid (low c = c) := hlo
            have hz : 90 < ((s[k]'hks).toNat : Int) := by omega
            have hz2 : 65 ≤ ((s[k]'hks).toNat : Int) := by omega
            clear hlo hu'
            go_wp2
            go_round
            case rel =>
              refine ⟨k + 1, by omega, by go_num, fun j hj => ?_⟩
              by_cases e : j = k
              · rw [e, HK.out.2, ← HK.out.1, HLO.out]; exact hq
              · exact hd.out j (by omega)
            case measure => simp [intOf]; omega
          · have HLO : Hid (low c = c) := hlo
            clear hlo
            go_wp2
            go_ret
            refine ⟨.inr ⟨rfl, fun hE => hq ?_⟩, rfl⟩
            have := hE k (by have := HL.out; omega)
            rw [HK.out.2, ← HK.out.1, HLO.out] at this
            exact this
        · clear hu
          by_cases hq : c = ((s[k]'hks).toNat : Int)
          · have HLO : Hid (low c = c) := hlo
            have hz : ((s[k]'hks).toNat : Int) < 65 := by omega
            clear hlo hu'
            go_wp2
            go_round
            case rel =>
              refine ⟨k + 1, by omega, by go_num, fun j hj => ?_⟩
              by_cases e : j = k
              · rw [e, HK.out.2, ← HK.out.1, HLO.out]; exact hq
              · exact hd.out j (by omega)
            case measure => simp [intOf]; omega
          · have HLO : Hid (low c = c) := hlo
            clear hlo
            go_wp2
            go_ret
            refine ⟨.inr ⟨rfl, fun hE => hq ?_⟩, rfl⟩
            have := hE k (by have := HL.out; omega)
            rw [HK.out.2, ← HK.out.1, HLO.out] at this
            exact this
    · go_wp2
      go_ret
      have hl := HL.out
      exact ⟨.inl ⟨rfl, fun j hj => hd.out j (by omega)⟩, rfl⟩

end Go.Proofs.Qxb6600105a
