/-
  THE WALK of 'FnEqualFoldDeterminesLower'.
-/
import Derived.Test.Qxb6600105aLower
import Derived.Lib.Strings
import Derived.RegionTactic
import Derived.ChangeAlike
import Derived.Deep.QuietTactic
import Derived.BigQuiet
namespace Go.Proofs.Qxb6600105a
open Go.RowKit

theorem CInv.seg {w wr : World} {l : List UInt8} (h : CInv w l.length (tb l) l.length wr) : Seg wr w.heap.size 0 l := fun k hk => by
  rw [Nat.zero_add]; exact h.cells k hk

theorem pre_yes {x y : ByteArray} {n : Nat} (h : x.data.toList.take n = y.data.toList.take n) : ((x.extract 0 n).toList == (y.extract 0 n).toList) = true := by
  rw [Lib.toList_data, Lib.toList_data, Lib.extract_data, Lib.extract_data, beq_iff_eq]
  simpa using h

theorem pre_no {x y : ByteArray} {n : Nat} (h : ¬ x.data.toList.take n = y.data.toList.take n) : ((x.extract 0 n).toList == (y.extract 0 n).toList) = false := by
  rw [Lib.toList_data, Lib.toList_data, Lib.extract_data, Lib.extract_data, beq_eq_false_iff_ne]
  simpa using h

set_option maxRecDepth 100000 in
set_option maxHeartbeats 2000000 in
theorem law_any (b off cap : Nat) (bs : List UInt8) (l1 l2 : ByteArray) (w : World) (h0 : bs.length ≤ 262144) (s1 : l1.size ≤ 262144) (s2 : l2.size ≤ 262144) (n1 : bs.length ≤ l1.size) (n2 : bs.length ≤ l2.size) (hc : Seg w b off bs) :
    Calls Try.prog 5 #[.slice (some ⟨b, off, none⟩) bs.length cap, .string l1, .string l2] w fun e w' => e = .returned (.bool true) ∧ Below w.heap.size w w' := by
  go_enter Try.func5, Try.ntmps5
  go_wp2_with fail
  refine (bytes17 _ _ _ _ _ (by unfold maxLen; omega) (by unfold maxLen; omega) (by unfold maxLen; omega) _).mono ?_
  rintro e wx ⟨⟨q, rfl⟩, hwx⟩
  subst wx
  cases q
  · go_wp2
    go_ret
    exact ⟨rfl, Below.refl _ _⟩
  · go_wp2_with fail
    refine (clone_any b off cap bs w (by omega) hc).mono ?_
    rintro e w1 ⟨rfl, hr⟩
    have hseg := hr.seg
    have hB1 := hr.below
    clear hr hc
    go_wp2_with fail
    refine (zzfold_any _ 0 _ bs l1 w1 (by omega) n1 hseg).mono ?_
    rintro e wx ⟨hF1, hwx⟩
    subst wx
    rcases hF1 with ⟨rfl, hE1⟩ | ⟨rfl, hE1⟩
    · go_wp2_with fail
      refine (zzfold_any _ 0 _ bs l2 w1 (by omega) n2 hseg).mono ?_
      rintro e wx ⟨hF2, hwx⟩
      subst wx
      rcases hF2 with ⟨rfl, hE2⟩ | ⟨rfl, hE2⟩
      · go_wp2_with fail
        refine (lowerString_any _ 0 _ bs w1 (by omega) hseg).mono ?_
        rintro e w2 ⟨rfl, hB12⟩
        go_wp2_with fail
        refine (zzfold_any _ 0 _ bs ⟨(lowL bs).toArray⟩ w2 (by omega) (by show _ ≤ (lowL bs).toArray.size; simp [lowL_length]) (hseg.later hB12)).mono ?_
        rintro e wx ⟨hF3, hwx⟩
        subst wx
        have hB2 : Below w.heap.size w w2 := hB1.trans (hB12.mono hB1.size)
        have hn1 : (bs.length : Int) ≤ (l1.size : Int) := by omega
        have hn2 : (bs.length : Int) ≤ (l2.size : Int) := by omega
        rcases hF3 with ⟨rfl, _⟩ | ⟨_, hE3⟩
        · have hpe := pre_yes (EF_agree (s := l1.data.toList) (t := l2.data.toList) n1 n2 hE1 hE2)
          go_wp2
          go_loop [10] (fun i => ∃ k : Nat, k ≤ bs.length ∧ i = .int .i64 k) (fun i => bs.length - (intOf i).toNat)
          case atStart => exact ⟨0, Nat.zero_le _, rfl⟩
          case round =>
            obtain ⟨k, hk, rfl⟩ := hrel
            by_cases hlt : k < bs.length
            · have hks : k < l1.size := by omega
              have hup : ((l1[k]'hks).toNat : Int) < 65 ∨ 90 < ((l1[k]'hks).toNat : Int) := by
                have h1 := hE1 k hlt
                rw [tb_eq l1.data.toList k hks] at h1
                have h2 := @low_not (tb bs k)
                rw [h1] at h2
                exact h2
              go_wp2_with (go_at_call 20; refine (isUpper_no _ (by assumption) _).mono ?_; rintro e wx ⟨rfl, hwx⟩; subst wx)
              go_round
              case rel => exact ⟨k + 1, by omega, by go_num⟩
              case measure => simp [intOf]; omega
            · obtain rfl : bs.length = k := by omega
              clear hlt hk
              go_wp2
              go_quiet (fail)
              go_wp2
              go_quiet (fail)
              go_wp2
              go_ret
              exact ⟨rfl, below_drewN (below_drewN hB2 _) _⟩
        · exact absurd (EF_low bs) hE3
      · go_wp2_with fail
        refine (lowerString_any _ 0 _ bs w1 (by omega) hseg).mono ?_
        rintro e w2 ⟨rfl, hB12⟩
        go_wp2_with fail
        refine (zzfold_any _ 0 _ bs ⟨(lowL bs).toArray⟩ w2 (by omega) (by show _ ≤ (lowL bs).toArray.size; simp [lowL_length]) (hseg.later hB12)).mono ?_
        rintro e wx ⟨hF3, hwx⟩
        subst wx
        have hB2 : Below w.heap.size w w2 := hB1.trans (hB12.mono hB1.size)
        have hn1 : (bs.length : Int) ≤ (l1.size : Int) := by omega
        have hn2 : (bs.length : Int) ≤ (l2.size : Int) := by omega
        rcases hF3 with ⟨rfl, _⟩ | ⟨_, hE3⟩
        · have hpe := pre_no (x := l1) (y := l2) (n := bs.length) (fun h => hE2 ((EF_same h).1 hE1))
          go_wp2
          go_loop [10] (fun i => ∃ k : Nat, k ≤ bs.length ∧ i = .int .i64 k) (fun i => bs.length - (intOf i).toNat)
          case atStart => exact ⟨0, Nat.zero_le _, rfl⟩
          case round =>
            obtain ⟨k, hk, rfl⟩ := hrel
            by_cases hlt : k < bs.length
            · have hks : k < l1.size := by omega
              have hup : ((l1[k]'hks).toNat : Int) < 65 ∨ 90 < ((l1[k]'hks).toNat : Int) := by
                have h1 := hE1 k hlt
                rw [tb_eq l1.data.toList k hks] at h1
                have h2 := @low_not (tb bs k)
                rw [h1] at h2
                exact h2
              go_wp2_with (go_at_call 20; refine (isUpper_no _ (by assumption) _).mono ?_; rintro e wx ⟨rfl, hwx⟩; subst wx)
              go_round
              case rel => exact ⟨k + 1, by omega, by go_num⟩
              case measure => simp [intOf]; omega
            · obtain rfl : bs.length = k := by omega
              clear hlt hk
              go_wp2
              go_quiet (fail)
              go_wp2
              go_quiet (fail)
              go_wp2
              go_ret
              exact ⟨rfl, below_drewN (below_drewN hB2 _) _⟩
        · exact absurd (EF_low bs) hE3
    · go_wp2_with fail
      refine (zzfold_any _ 0 _ bs l2 w1 (by omega) n2 hseg).mono ?_
      rintro e wx ⟨hF2, hwx⟩
      subst wx
      rcases hF2 with ⟨rfl, hE2⟩ | ⟨rfl, hE2⟩
      · go_wp2_with fail
        refine (lowerString_any _ 0 _ bs w1 (by omega) hseg).mono ?_
        rintro e w2 ⟨rfl, hB12⟩
        go_wp2_with fail
        refine (zzfold_any _ 0 _ bs ⟨(lowL bs).toArray⟩ w2 (by omega) (by show _ ≤ (lowL bs).toArray.size; simp [lowL_length]) (hseg.later hB12)).mono ?_
        rintro e wx ⟨hF3, hwx⟩
        subst wx
        have hB2 : Below w.heap.size w w2 := hB1.trans (hB12.mono hB1.size)
        have hn1 : (bs.length : Int) ≤ (l1.size : Int) := by omega
        have hn2 : (bs.length : Int) ≤ (l2.size : Int) := by omega
        rcases hF3 with ⟨rfl, _⟩ | ⟨_, hE3⟩
        · have hpe := pre_no (x := l1) (y := l2) (n := bs.length) (fun h => hE1 ((EF_same h).2 hE2))
          go_wp2
          go_quiet (fail)
          go_wp2
          go_quiet (fail)
          go_wp2
          go_ret
          exact ⟨rfl, below_drewN (below_drewN hB2 _) _⟩
        · exact absurd (EF_low bs) hE3
      · go_wp2_with fail
        refine (lowerString_any _ 0 _ bs w1 (by omega) hseg).mono ?_
        rintro e w2 ⟨rfl, hB12⟩
        go_wp2_with fail
        refine (zzfold_any _ 0 _ bs ⟨(lowL bs).toArray⟩ w2 (by omega) (by show _ ≤ (lowL bs).toArray.size; simp [lowL_length]) (hseg.later hB12)).mono ?_
        rintro e wx ⟨hF3, hwx⟩
        subst wx
        have hB2 : Below w.heap.size w w2 := hB1.trans (hB12.mono hB1.size)
        have hn1 : (bs.length : Int) ≤ (l1.size : Int) := by omega
        have hn2 : (bs.length : Int) ≤ (l2.size : Int) := by omega
        rcases hF3 with ⟨rfl, _⟩ | ⟨_, hE3⟩
        · by_cases hpp : l1.data.toList.take bs.length = l2.data.toList.take bs.length
          · have hpe := pre_yes hpp
            clear hpp
            go_wp2
            go_quiet (fail)
            go_wp2
            go_quiet (fail)
            go_wp2
            go_ret
            exact ⟨rfl, below_drewN (below_drewN hB2 _) _⟩
          · have hpe := pre_no hpp
            clear hpp
            go_wp2
            go_quiet (fail)
            go_wp2
            go_quiet (fail)
            go_wp2
            go_ret
            exact ⟨rfl, below_drewN (below_drewN hB2 _) _⟩
        · exact absurd (EF_low bs) hE3

end Go.Proofs.Qxb6600105a
