/-
  THE WALKS of ZZEqualFold, zzLowerBytes, zzLowerString.
-/
import Derived.Test.Qxb6600105aWalk
namespace Go.Proofs.Qxb6600105a
open Go.RowKit

set_option maxHeartbeats 400000 in
theorem zzfold_empty (a : Option Addr) (cap : Nat) (s : ByteArray) (w : World) :
    Calls Try.prog 18 #[.slice a 0 cap, .string s] w fun e w' => e = .returned (.bool true) ∧ w' = w := by
  go_enter Try.func18, Try.ntmps18
  go_wp2_with fail
  refine (fold_empty a cap s w).mono ?_
  rintro e wx ⟨rfl, hwx⟩
  subst wx
  go_wp2
  go_ret
  exact ⟨rfl, rfl⟩

set_option maxHeartbeats 400000 in
theorem zzfold_any (b off cap : Nat) (bs : List UInt8) (s : ByteArray) (w : World) (h0 : bs.length ≤ 1048576) (hs : bs.length ≤ s.size) (hc : Seg w b off bs) :
    Calls Try.prog 18 #[.slice (some ⟨b, off, none⟩) bs.length cap, .string s] w fun e w' => FoldSaid bs s.data.toList e ∧ w' = w := by
  go_enter Try.func18, Try.ntmps18
  go_wp2_with fail
  refine (fold_any b off cap bs s w h0 hs hc).mono ?_
  rintro e wx ⟨hE, hwx⟩
  subst wx
  rcases hE with ⟨rfl, hE⟩ | ⟨rfl, hE⟩
  · go_wp2
    go_ret
    exact ⟨.inl ⟨rfl, hE⟩, rfl⟩
  · go_wp2
    go_ret
    exact ⟨.inr ⟨rfl, hE⟩, rfl⟩

set_option maxHeartbeats 400000 in
theorem lowerBytes_empty (a : Option Addr) (cap : Nat) (f : Nat → Int) (w : World) :
    Calls Try.prog 22 #[.slice a 0 cap] w fun e w' => e = .returned (.slice (some ⟨w.heap.size, 0, none⟩) 0 0) ∧ CInv w 0 f 0 w' := by
  obtain ⟨i0, hi, hz0, hz1, hz2⟩ := info_parts info5
  go_enter Try.func22, Try.ntmps22
  go_wp2_with (at_make; refine wpList_make_full _ rfl _ _ 23 rfl w.heap.size 5 i0 (.int .u8 0) 1 Try.underlying23 hi hz0 hz1 .i64 .i64 _ _ 0 rfl rfl rfl rfl (by omega) (by unfold maxLen; omega) (Nat.le_refl _) ?_; intro w1 hown hgrow)
  have hinv : CInv w 0 f 0 w1 := CInv.start hown hgrow
  clear hown hgrow
  refine wp_loop_rounds 1 ?_
  rw [rounds_succ]
  go_wp2
  go_ret
  exact ⟨rfl, hinv⟩

set_option maxHeartbeats 400000 in
theorem lowerBytes_any (b off cap : Nat) (l : List UInt8) (w : World) (h0 : l.length ≤ 1048576) (hc : Seg w b off l) :
    Calls Try.prog 22 #[.slice (some ⟨b, off, none⟩) l.length cap] w fun e w' => e = .returned (.slice (some ⟨w.heap.size, 0, none⟩) l.length l.length) ∧ CInv w l.length (fun k => low (tb l k)) l.length w' := by
  obtain ⟨len, hlen⟩ : ∃ len, len = l.length := ⟨_, rfl⟩
  have HC : Hid (∀ wr, Below w.heap.size w wr → ∀ k, k < len → wr.cell? ⟨b, off + k, none⟩ = some (.int .u8 (tb l k)) ∧ 0 ≤ tb l k ∧ tb l k ≤ 255) := fun wr hb k hk => ⟨hc.later hb k (by omega), tb_bd l k⟩
  rw [← hlen] at h0 ⊢
  clear hlen hc
  obtain ⟨f, hf⟩ : ∃ f : Nat → Int, f = fun k => low (tb l k) := ⟨_, rfl⟩
  have HF : Hid (∀ k, f k = low (tb l k)) := fun k => by rw [hf]
  rw [← hf]
  clear hf
  obtain ⟨i0, hi, hz0, hz1, hz2⟩ := info_parts info5
  go_enter Try.func22, Try.ntmps22
  go_wp2_with (at_make; refine wpList_make_full _ rfl _ _ 23 rfl w.heap.size 5 i0 (.int .u8 0) 1 Try.underlying23 hi hz0 hz1 .i64 .i64 _ _ len rfl rfl rfl rfl (by rw [hz2]; omega) (by unfold maxLen; omega) (Nat.le_refl _) ?_; intro w1 hown hgrow)
  have hinv : CInv w len f 0 w1 := CInv.start hown hgrow
  clear hown hgrow hi hz0 hz1 hz2 i0
  go_loopw [4] (fun i wr => ∃ k : Nat, k ≤ len ∧ i = .int .i64 k ∧ CInv w len f k wr) (fun i _ => len - (intOf i).toNat)
  case atStart => exact ⟨0, Nat.zero_le _, rfl, hinv⟩
  case round =>
    obtain ⟨k, hk, rfl, hr⟩ := hrel
    by_cases hlt : k < len
    · obtain ⟨hcell, hb0, hb1⟩ := HC.out wr hr.below k hlt
      have hfree := hr.free k
      obtain ⟨v, hv⟩ := hr.there hlt
      have hfk := HF.out k
      obtain ⟨c, hcc⟩ : ∃ c, c = tb l k := ⟨_, rfl⟩
      rw [← hcc] at hcell hb0 hb1 hfk
      have HFK : Hid (f k = low c) := hfk
      clear hcc hfk
      go_wp2_with (go_at_call 27; refine (lowerByte_any _ (by assumption) (by assumption) _).mono ?_; rintro e wx ⟨rfl, hwx⟩; subst wx)
      go_roundw
      case rel => exact ⟨k + 1, by omega, by go_num, by rw [← HFK.out]; exact hr.step hlt⟩
      case measure => simp [intOf]; omega
    · obtain rfl : k = len := by omega
      go_wp2
      go_ret
      exact ⟨rfl, hr⟩

set_option maxHeartbeats 400000 in
theorem lowerString_empty (a : Option Addr) (cap : Nat) (w : World) :
    Calls Try.prog 19 #[.slice a 0 cap] w fun e w' => e = .returned (.string ⟨#[]⟩) ∧ Below w.heap.size w w' := by
  go_enter Try.func19, Try.ntmps19
  go_wp2_with fail
  refine (lowerBytes_empty a cap (fun _ => 0) w).mono ?_
  rintro e w1 ⟨rfl, hr⟩
  have hrun : (convert 23 9 (.slice (some ⟨w.heap.size, 0, none⟩) 0 0)).run Try.prog w1 = .ok (.string ⟨#[]⟩) w1 :=
    run_convert_bytes_back (P := Try.prog) w1 23 9 5 ⟨w.heap.size, 0, none⟩ 0 [] Try.underlying23 Try.underlying5 Try.underlying9 (fun j hj => absurd hj (Nat.not_lt_zero _))
  go_wp2
  go_ret
  exact ⟨rfl, hr.below⟩

set_option maxHeartbeats 400000 in
theorem lowerString_any (b off cap : Nat) (l : List UInt8) (w : World) (h0 : l.length ≤ 1048576) (hc : Seg w b off l) :
    Calls Try.prog 19 #[.slice (some ⟨b, off, none⟩) l.length cap] w fun e w' => e = .returned (.string ⟨(lowL l).toArray⟩) ∧ Below w.heap.size w w' := by
  go_enter Try.func19, Try.ntmps19
  go_wp2_with fail
  refine (lowerBytes_any b off cap l w h0 hc).mono ?_
  rintro e w1 ⟨rfl, hr⟩
  have hrun : (convert 23 9 (.slice (some ⟨w.heap.size, 0, none⟩) l.length l.length)).run Try.prog w1 = .ok (.string ⟨(lowL l).toArray⟩) w1 := by
    have h := run_convert_bytes_back (P := Try.prog) w1 23 9 5 ⟨w.heap.size, 0, none⟩ l.length (lowL l) Try.underlying23 Try.underlying5 Try.underlying9 (fun j hj => by
      have hj' : j < l.length := by rw [lowL_length] at hj; exact hj
      have := hr.cells j hj'
      rw [Addr.add_lit, Nat.zero_add, this, ← tb_eq _ _ hj, lowL_tb _ _ hj'])
    rw [lowL_length] at h
    exact h
  go_wp2
  go_ret
  exact ⟨rfl, hr.below⟩

end Go.Proofs.Qxb6600105a
