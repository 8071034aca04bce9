/-
  THE WALK of 'recB1JSONNumber' at the text of a number, a minus ahead.
-/
import Derived.Test.Qxb6600072aDoorSmall
import Derived.Test.Qxb6600072aDoorShape
set_option linter.unusedVariables false
namespace Go.Proofs.Qxb6600072aDoor
open Go.RowKit

set_option maxRecDepth 100000 in
set_option maxHeartbeats 1000000 in
theorem json_mztn (t : Nat → Int) (p1 p2 len : Nat) (b off cap : Nat) (w : World) (hS : Shape t true true true false 1 p1 p2 len) (hl : len ≤ 2097152) (hc : ∀ k, k < len → w.cell? ⟨b, off + k, none⟩ = some (.int .u8 (t k))) :
    Calls Tryd.prog 18 #[.slice (some ⟨b, off, none⟩) len cap] w fun e w' => e = .returned (.bool true) ∧ w' = w := by
  have HC : Hid (∀ k, k < len → w.cell? ⟨b, off + k, none⟩ = some (.int .u8 (t k))) := hc
  have HI : Hid (∀ k, 1 ≤ k → k < p1 → 48 ≤ t k ∧ t k ≤ 57) := hS.intD
  have HF : Hid (∀ k, p1 + 1 ≤ k → k < p2 → 48 ≤ t k ∧ t k ≤ 57) := hS.fracD
  have HX : Hid (∀ k, p2 + 2 ≤ k → k < len → 48 ≤ t k ∧ t k ≤ 57) := hS.expD
  obtain ⟨hi1, hi2⟩ := hS.int
  have hp2 := hS.p2len
  have hc0 := hc 0 (by omega)
  rw [(hS.sign.1 rfl).2, Nat.add_zero] at hc0
  have hcs := hc 1 (by omega)
  have hz1 : p1 = 1 + 1 := (hS.intZ.1 rfl).1
  subst hz1
  rw [(hS.intZ.1 rfl).2] at hcs
  have hbl : ((1 : Int) == (len : Int)) = false := by rw [beq_eq_false_iff_ne]; omega
  have hcp : w.cell? ⟨b, off + (1 + 1), none⟩ = some (.int .u8 46) := by
    have h1 := hS.frac.1 rfl
    rw [hc _ (by omega), h1.1]
  have hpp : 1 + 1 + 1 < p2 := (hS.frac.1 rfl).2
  have hq2 : len = p2 := hS.exp.2 rfl
  subst hq2
  clear hS hc
  go_enter Tryd.func18, Tryd.ntmps18
  go_wp2
  go_loop [3] (fun i => ∃ k : Nat, 1 + 1 + 1 ≤ k ∧ k ≤ len ∧ i = .int .i64 k) (fun i => len + 1 - (intOf i).toNat)
  case atStart => exact ⟨1 + 1 + 1, Nat.le_refl _, by omega, by go_num⟩
  case round =>
    obtain ⟨k, hk1, hk2, rfl⟩ := hrel
    by_cases hlt : k < len
    · have hck := HC.out k (by omega)
      obtain ⟨hy0, hy1⟩ := HF.out k hk1 hlt
      obtain ⟨c, hcc⟩ : ∃ c, c = t k := ⟨_, rfl⟩
      rw [← hcc] at hck hy0 hy1
      clear hcc
      go_wp2_with (go_at_call 34; refine (isDigit_yes _ (by assumption) (by assumption) _).mono ?_; rintro e wx ⟨rfl, hwx⟩; subst wx)
      go_round
      case rel => exact ⟨k + 1, by omega, by omega, by go_num⟩
      case measure => simp [intOf]; omega
    · obtain rfl : len = k := by omega
      have hst : ((len : Int) == 3) = false := by rw [beq_eq_false_iff_ne]; omega
      go_wp2
      go_ret
      exact ⟨ret_bool (by simp), rfl⟩

set_option maxRecDepth 100000 in
set_option maxHeartbeats 1000000 in
theorem json_mnfn (t : Nat → Int) (p1 p2 len : Nat) (b off cap : Nat) (w : World) (hS : Shape t true false false false 1 p1 p2 len) (hl : len ≤ 2097152) (hc : ∀ k, k < len → w.cell? ⟨b, off + k, none⟩ = some (.int .u8 (t k))) :
    Calls Tryd.prog 18 #[.slice (some ⟨b, off, none⟩) len cap] w fun e w' => e = .returned (.bool true) ∧ w' = w := by
  have HC : Hid (∀ k, k < len → w.cell? ⟨b, off + k, none⟩ = some (.int .u8 (t k))) := hc
  have HI : Hid (∀ k, 1 ≤ k → k < p1 → 48 ≤ t k ∧ t k ≤ 57) := hS.intD
  have HF : Hid (∀ k, p1 + 1 ≤ k → k < p2 → 48 ≤ t k ∧ t k ≤ 57) := hS.fracD
  have HX : Hid (∀ k, p2 + 2 ≤ k → k < len → 48 ≤ t k ∧ t k ≤ 57) := hS.expD
  obtain ⟨hi1, hi2⟩ := hS.int
  have hp2 := hS.p2len
  have hc0 := hc 0 (by omega)
  rw [(hS.sign.1 rfl).2, Nat.add_zero] at hc0
  have hcs := hc 1 (by omega)
  have hd0 : 49 ≤ t 1 := hS.intZ.2 rfl
  have hd1 := (hS.intD 1 (Nat.le_refl _) hi1).2
  obtain ⟨c0, hcc⟩ : ∃ c0, c0 = t 1 := ⟨_, rfl⟩
  rw [← hcc] at hcs hd0 hd1
  clear hcc
  have hb48 : (c0 == 48) = false := by rw [beq_eq_false_iff_ne]; omega
  have hbl : ((1 : Int) == (len : Int)) = false := by rw [beq_eq_false_iff_ne]; omega
  have hq : p2 = p1 := hS.frac.2 rfl
  subst hq
  have hq2 : len = p2 := hS.exp.2 rfl
  subst hq2
  clear hS hc
  go_enter Tryd.func18, Tryd.ntmps18
  go_wp2
  go_loop [3] (fun i => ∃ k : Nat, 1 ≤ k ∧ k ≤ len ∧ i = .int .i64 k) (fun i => len + 1 - (intOf i).toNat)
  case atStart => exact ⟨1, Nat.le_refl _, by omega, rfl⟩
  case round =>
    obtain ⟨k, hk1, hk2, rfl⟩ := hrel
    by_cases hlt : k < len
    · have hck := HC.out k (by omega)
      obtain ⟨hy0, hy1⟩ := HI.out k hk1 hlt
      obtain ⟨c, hcc⟩ : ∃ c, c = t k := ⟨_, rfl⟩
      rw [← hcc] at hck hy0 hy1
      clear hcc
      go_wp2_with (go_at_call 34; refine (isDigit_yes _ (by assumption) (by assumption) _).mono ?_; rintro e wx ⟨rfl, hwx⟩; subst wx)
      go_round
      case rel => exact ⟨k + 1, by omega, by omega, by go_num⟩
      case measure => simp [intOf]; omega
    · obtain rfl : len = k := by omega
      go_wp2
      go_ret
      exact ⟨ret_bool (by simp), rfl⟩

set_option maxRecDepth 100000 in
set_option maxHeartbeats 1000000 in
theorem json_mntn (t : Nat → Int) (p1 p2 len : Nat) (b off cap : Nat) (w : World) (hS : Shape t true false true false 1 p1 p2 len) (hl : len ≤ 2097152) (hc : ∀ k, k < len → w.cell? ⟨b, off + k, none⟩ = some (.int .u8 (t k))) :
    Calls Tryd.prog 18 #[.slice (some ⟨b, off, none⟩) len cap] w fun e w' => e = .returned (.bool true) ∧ w' = w := by
  have HC : Hid (∀ k, k < len → w.cell? ⟨b, off + k, none⟩ = some (.int .u8 (t k))) := hc
  have HI : Hid (∀ k, 1 ≤ k → k < p1 → 48 ≤ t k ∧ t k ≤ 57) := hS.intD
  have HF : Hid (∀ k, p1 + 1 ≤ k → k < p2 → 48 ≤ t k ∧ t k ≤ 57) := hS.fracD
  have HX : Hid (∀ k, p2 + 2 ≤ k → k < len → 48 ≤ t k ∧ t k ≤ 57) := hS.expD
  obtain ⟨hi1, hi2⟩ := hS.int
  have hp2 := hS.p2len
  have hc0 := hc 0 (by omega)
  rw [(hS.sign.1 rfl).2, Nat.add_zero] at hc0
  have hcs := hc 1 (by omega)
  have hd0 : 49 ≤ t 1 := hS.intZ.2 rfl
  have hd1 := (hS.intD 1 (Nat.le_refl _) hi1).2
  obtain ⟨c0, hcc⟩ : ∃ c0, c0 = t 1 := ⟨_, rfl⟩
  rw [← hcc] at hcs hd0 hd1
  clear hcc
  have hb48 : (c0 == 48) = false := by rw [beq_eq_false_iff_ne]; omega
  have hbl : ((1 : Int) == (len : Int)) = false := by rw [beq_eq_false_iff_ne]; omega
  have hcp : w.cell? ⟨b, off + (p1), none⟩ = some (.int .u8 46) := by
    have h1 := hS.frac.1 rfl
    rw [hc _ (by omega), h1.1]
  have hpp : p1 + 1 < p2 := (hS.frac.1 rfl).2
  have hq2 : len = p2 := hS.exp.2 rfl
  subst hq2
  clear hS hc
  go_enter Tryd.func18, Tryd.ntmps18
  go_wp2
  go_loop [3] (fun i => ∃ k : Nat, 1 ≤ k ∧ k ≤ p1 ∧ i = .int .i64 k) (fun i => len + 1 - (intOf i).toNat)
  case atStart => exact ⟨1, Nat.le_refl _, by omega, rfl⟩
  case round =>
    obtain ⟨k, hk1, hk2, rfl⟩ := hrel
    by_cases hlt : k < p1
    · have hck := HC.out k (by omega)
      obtain ⟨hy0, hy1⟩ := HI.out k hk1 hlt
      obtain ⟨c, hcc⟩ : ∃ c, c = t k := ⟨_, rfl⟩
      rw [← hcc] at hck hy0 hy1
      clear hcc
      go_wp2_with (go_at_call 34; refine (isDigit_yes _ (by assumption) (by assumption) _).mono ?_; rintro e wx ⟨rfl, hwx⟩; subst wx)
      go_round
      case rel => exact ⟨k + 1, by omega, by omega, by go_num⟩
      case measure => simp [intOf]; omega
    · obtain rfl : p1 = k := by omega
      go_wp2_with (go_at_call 34; refine (isDigit_no _ (by omega) _).mono ?_; rintro e wx ⟨rfl, hwx⟩; subst wx)
      go_loop [3] (fun i => ∃ k : Nat, p1 + 1 ≤ k ∧ k ≤ len ∧ i = .int .i64 k) (fun i => len + 1 - (intOf i).toNat)
      case atStart => exact ⟨p1 + 1, Nat.le_refl _, by omega, by go_num⟩
      case round =>
        obtain ⟨k, hk1, hk2, rfl⟩ := hrel
        by_cases hlt : k < len
        · have hck := HC.out k (by omega)
          obtain ⟨hy0, hy1⟩ := HF.out k hk1 hlt
          obtain ⟨c, hcc⟩ : ∃ c, c = t k := ⟨_, rfl⟩
          rw [← hcc] at hck hy0 hy1
          clear hcc
          go_wp2_with (go_at_call 34; refine (isDigit_yes _ (by assumption) (by assumption) _).mono ?_; rintro e wx ⟨rfl, hwx⟩; subst wx)
          go_round
          case rel => exact ⟨k + 1, by omega, by omega, by go_num⟩
          case measure => simp [intOf]; omega
        · obtain rfl : len = k := by omega
          have hst : ((len : Int) == (p1 : Int) + 1) = false := by rw [beq_eq_false_iff_ne]; omega
          go_wp2
          go_ret
          exact ⟨ret_bool (by simp), rfl⟩

set_option maxRecDepth 100000 in
set_option maxHeartbeats 1000000 in
theorem json_mnfy (t : Nat → Int) (p1 p2 len : Nat) (b off cap : Nat) (w : World) (hS : Shape t true false false true 1 p1 p2 len) (hl : len ≤ 2097152) (hc : ∀ k, k < len → w.cell? ⟨b, off + k, none⟩ = some (.int .u8 (t k))) :
    Calls Tryd.prog 18 #[.slice (some ⟨b, off, none⟩) len cap] w fun e w' => e = .returned (.bool true) ∧ w' = w := by
  have HC : Hid (∀ k, k < len → w.cell? ⟨b, off + k, none⟩ = some (.int .u8 (t k))) := hc
  have HI : Hid (∀ k, 1 ≤ k → k < p1 → 48 ≤ t k ∧ t k ≤ 57) := hS.intD
  have HF : Hid (∀ k, p1 + 1 ≤ k → k < p2 → 48 ≤ t k ∧ t k ≤ 57) := hS.fracD
  have HX : Hid (∀ k, p2 + 2 ≤ k → k < len → 48 ≤ t k ∧ t k ≤ 57) := hS.expD
  obtain ⟨hi1, hi2⟩ := hS.int
  have hp2 := hS.p2len
  have hc0 := hc 0 (by omega)
  rw [(hS.sign.1 rfl).2, Nat.add_zero] at hc0
  have hcs := hc 1 (by omega)
  have hd0 : 49 ≤ t 1 := hS.intZ.2 rfl
  have hd1 := (hS.intD 1 (Nat.le_refl _) hi1).2
  obtain ⟨c0, hcc⟩ : ∃ c0, c0 = t 1 := ⟨_, rfl⟩
  rw [← hcc] at hcs hd0 hd1
  clear hcc
  have hb48 : (c0 == 48) = false := by rw [beq_eq_false_iff_ne]; omega
  have hbl : ((1 : Int) == (len : Int)) = false := by rw [beq_eq_false_iff_ne]; omega
  have hq : p2 = p1 := hS.frac.2 rfl
  subst hq
  have hce : w.cell? ⟨b, off + p2, none⟩ = some (.int .u8 101) := by
    have h1 := hS.exp.1 rfl
    rw [hc _ (by omega), h1.1]
  have hsg := (hS.exp.1 rfl).2.1
  have hxl : p2 + 2 < len := (hS.exp.1 rfl).2.2.1
  have hc1 := hc (p2 + 1) (by omega)
  clear hS hc
  rcases hsg with hsg | hsg
  · rw [hsg] at hc1
    clear hsg
    go_enter Tryd.func18, Tryd.ntmps18
    go_wp2
    go_loop [3] (fun i => ∃ k : Nat, 1 ≤ k ∧ k ≤ p2 ∧ i = .int .i64 k) (fun i => len + 1 - (intOf i).toNat)
    case atStart => exact ⟨1, Nat.le_refl _, by omega, rfl⟩
    case round =>
      obtain ⟨k, hk1, hk2, rfl⟩ := hrel
      by_cases hlt : k < p2
      · have hck := HC.out k (by omega)
        obtain ⟨hy0, hy1⟩ := HI.out k hk1 hlt
        obtain ⟨c, hcc⟩ : ∃ c, c = t k := ⟨_, rfl⟩
        rw [← hcc] at hck hy0 hy1
        clear hcc
        go_wp2_with (go_at_call 34; refine (isDigit_yes _ (by assumption) (by assumption) _).mono ?_; rintro e wx ⟨rfl, hwx⟩; subst wx)
        go_round
        case rel => exact ⟨k + 1, by omega, by omega, by go_num⟩
        case measure => simp [intOf]; omega
      · obtain rfl : p2 = k := by omega
        go_wp2_with (go_at_call 34; refine (isDigit_no _ (by omega) _).mono ?_; rintro e wx ⟨rfl, hwx⟩; subst wx)
        go_loop [3] (fun i => ∃ k : Nat, p2 + 2 ≤ k ∧ k ≤ len ∧ i = .int .i64 k) (fun i => len + 1 - (intOf i).toNat)
        case atStart => exact ⟨p2 + 2, Nat.le_refl _, by omega, by go_num⟩
        case round =>
          obtain ⟨k, hk1, hk2, rfl⟩ := hrel
          by_cases hlt : k < len
          · have hck := HC.out k hlt
            obtain ⟨hy0, hy1⟩ := HX.out k hk1 hlt
            obtain ⟨c, hcc⟩ : ∃ c, c = t k := ⟨_, rfl⟩
            rw [← hcc] at hck hy0 hy1
            clear hcc
            go_wp2_with (go_at_call 34; refine (isDigit_yes _ (by assumption) (by assumption) _).mono ?_; rintro e wx ⟨rfl, hwx⟩; subst wx)
            go_round
            case rel => exact ⟨k + 1, by omega, by omega, by go_num⟩
            case measure => simp [intOf]; omega
          · obtain rfl : len = k := by omega
            have hst3 : ((len : Int) == (p2 : Int) + 1 + 1) = false := by rw [beq_eq_false_iff_ne]; omega
            go_wp2
            go_ret
            exact ⟨ret_bool (by simp), rfl⟩
  · rw [hsg] at hc1
    clear hsg
    go_enter Tryd.func18, Tryd.ntmps18
    go_wp2
    go_loop [3] (fun i => ∃ k : Nat, 1 ≤ k ∧ k ≤ p2 ∧ i = .int .i64 k) (fun i => len + 1 - (intOf i).toNat)
    case atStart => exact ⟨1, Nat.le_refl _, by omega, rfl⟩
    case round =>
      obtain ⟨k, hk1, hk2, rfl⟩ := hrel
      by_cases hlt : k < p2
      · have hck := HC.out k (by omega)
        obtain ⟨hy0, hy1⟩ := HI.out k hk1 hlt
        obtain ⟨c, hcc⟩ : ∃ c, c = t k := ⟨_, rfl⟩
        rw [← hcc] at hck hy0 hy1
        clear hcc
        go_wp2_with (go_at_call 34; refine (isDigit_yes _ (by assumption) (by assumption) _).mono ?_; rintro e wx ⟨rfl, hwx⟩; subst wx)
        go_round
        case rel => exact ⟨k + 1, by omega, by omega, by go_num⟩
        case measure => simp [intOf]; omega
      · obtain rfl : p2 = k := by omega
        go_wp2_with (go_at_call 34; refine (isDigit_no _ (by omega) _).mono ?_; rintro e wx ⟨rfl, hwx⟩; subst wx)
        go_loop [3] (fun i => ∃ k : Nat, p2 + 2 ≤ k ∧ k ≤ len ∧ i = .int .i64 k) (fun i => len + 1 - (intOf i).toNat)
        case atStart => exact ⟨p2 + 2, Nat.le_refl _, by omega, by go_num⟩
        case round =>
          obtain ⟨k, hk1, hk2, rfl⟩ := hrel
          by_cases hlt : k < len
          · have hck := HC.out k hlt
            obtain ⟨hy0, hy1⟩ := HX.out k hk1 hlt
            obtain ⟨c, hcc⟩ : ∃ c, c = t k := ⟨_, rfl⟩
            rw [← hcc] at hck hy0 hy1
            clear hcc
            go_wp2_with (go_at_call 34; refine (isDigit_yes _ (by assumption) (by assumption) _).mono ?_; rintro e wx ⟨rfl, hwx⟩; subst wx)
            go_round
            case rel => exact ⟨k + 1, by omega, by omega, by go_num⟩
            case measure => simp [intOf]; omega
          · obtain rfl : len = k := by omega
            have hst3 : ((len : Int) == (p2 : Int) + 1 + 1) = false := by rw [beq_eq_false_iff_ne]; omega
            go_wp2
            go_ret
            exact ⟨ret_bool (by simp), rfl⟩

set_option maxRecDepth 100000 in
set_option maxHeartbeats 1000000 in
theorem json_mnty (t : Nat → Int) (p1 p2 len : Nat) (b off cap : Nat) (w : World) (hS : Shape t true false true true 1 p1 p2 len) (hl : len ≤ 2097152) (hc : ∀ k, k < len → w.cell? ⟨b, off + k, none⟩ = some (.int .u8 (t k))) :
    Calls Tryd.prog 18 #[.slice (some ⟨b, off, none⟩) len cap] w fun e w' => e = .returned (.bool true) ∧ w' = w := by
  have HC : Hid (∀ k, k < len → w.cell? ⟨b, off + k, none⟩ = some (.int .u8 (t k))) := hc
  have HI : Hid (∀ k, 1 ≤ k → k < p1 → 48 ≤ t k ∧ t k ≤ 57) := hS.intD
  have HF : Hid (∀ k, p1 + 1 ≤ k → k < p2 → 48 ≤ t k ∧ t k ≤ 57) := hS.fracD
  have HX : Hid (∀ k, p2 + 2 ≤ k → k < len → 48 ≤ t k ∧ t k ≤ 57) := hS.expD
  obtain ⟨hi1, hi2⟩ := hS.int
  have hp2 := hS.p2len
  have hc0 := hc 0 (by omega)
  rw [(hS.sign.1 rfl).2, Nat.add_zero] at hc0
  have hcs := hc 1 (by omega)
  have hd0 : 49 ≤ t 1 := hS.intZ.2 rfl
  have hd1 := (hS.intD 1 (Nat.le_refl _) hi1).2
  obtain ⟨c0, hcc⟩ : ∃ c0, c0 = t 1 := ⟨_, rfl⟩
  rw [← hcc] at hcs hd0 hd1
  clear hcc
  have hb48 : (c0 == 48) = false := by rw [beq_eq_false_iff_ne]; omega
  have hbl : ((1 : Int) == (len : Int)) = false := by rw [beq_eq_false_iff_ne]; omega
  have hcp : w.cell? ⟨b, off + (p1), none⟩ = some (.int .u8 46) := by
    have h1 := hS.frac.1 rfl
    rw [hc _ (by omega), h1.1]
  have hpp : p1 + 1 < p2 := (hS.frac.1 rfl).2
  have hce : w.cell? ⟨b, off + p2, none⟩ = some (.int .u8 101) := by
    have h1 := hS.exp.1 rfl
    rw [hc _ (by omega), h1.1]
  have hsg := (hS.exp.1 rfl).2.1
  have hxl : p2 + 2 < len := (hS.exp.1 rfl).2.2.1
  have hc1 := hc (p2 + 1) (by omega)
  clear hS hc
  rcases hsg with hsg | hsg
  · rw [hsg] at hc1
    clear hsg
    go_enter Tryd.func18, Tryd.ntmps18
    go_wp2
    go_loop [3] (fun i => ∃ k : Nat, 1 ≤ k ∧ k ≤ p1 ∧ i = .int .i64 k) (fun i => len + 1 - (intOf i).toNat)
    case atStart => exact ⟨1, Nat.le_refl _, by omega, rfl⟩
    case round =>
      obtain ⟨k, hk1, hk2, rfl⟩ := hrel
      by_cases hlt : k < p1
      · have hck := HC.out k (by omega)
        obtain ⟨hy0, hy1⟩ := HI.out k hk1 hlt
        obtain ⟨c, hcc⟩ : ∃ c, c = t k := ⟨_, rfl⟩
        rw [← hcc] at hck hy0 hy1
        clear hcc
        go_wp2_with (go_at_call 34; refine (isDigit_yes _ (by assumption) (by assumption) _).mono ?_; rintro e wx ⟨rfl, hwx⟩; subst wx)
        go_round
        case rel => exact ⟨k + 1, by omega, by omega, by go_num⟩
        case measure => simp [intOf]; omega
      · obtain rfl : p1 = k := by omega
        go_wp2_with (go_at_call 34; refine (isDigit_no _ (by omega) _).mono ?_; rintro e wx ⟨rfl, hwx⟩; subst wx)
        go_loop [3] (fun i => ∃ k : Nat, p1 + 1 ≤ k ∧ k ≤ p2 ∧ i = .int .i64 k) (fun i => len + 1 - (intOf i).toNat)
        case atStart => exact ⟨p1 + 1, Nat.le_refl _, by omega, by go_num⟩
        case round =>
          obtain ⟨k, hk1, hk2, rfl⟩ := hrel
          by_cases hlt : k < p2
          · have hck := HC.out k (by omega)
            obtain ⟨hy0, hy1⟩ := HF.out k hk1 hlt
            obtain ⟨c, hcc⟩ : ∃ c, c = t k := ⟨_, rfl⟩
            rw [← hcc] at hck hy0 hy1
            clear hcc
            go_wp2_with (go_at_call 34; refine (isDigit_yes _ (by assumption) (by assumption) _).mono ?_; rintro e wx ⟨rfl, hwx⟩; subst wx)
            go_round
            case rel => exact ⟨k + 1, by omega, by omega, by go_num⟩
            case measure => simp [intOf]; omega
          · obtain rfl : p2 = k := by omega
            have hst : ((p2 : Int) == (p1 : Int) + 1) = false := by rw [beq_eq_false_iff_ne]; omega
            go_wp2_with (go_at_call 34; refine (isDigit_no _ (by omega) _).mono ?_; rintro e wx ⟨rfl, hwx⟩; subst wx)
            go_loop [3] (fun i => ∃ k : Nat, p2 + 2 ≤ k ∧ k ≤ len ∧ i = .int .i64 k) (fun i => len + 1 - (intOf i).toNat)
            case atStart => exact ⟨p2 + 2, Nat.le_refl _, by omega, by go_num⟩
            case round =>
              obtain ⟨k, hk1, hk2, rfl⟩ := hrel
              by_cases hlt : k < len
              · have hck := HC.out k hlt
                obtain ⟨hy0, hy1⟩ := HX.out k hk1 hlt
                obtain ⟨c, hcc⟩ : ∃ c, c = t k := ⟨_, rfl⟩
                rw [← hcc] at hck hy0 hy1
                clear hcc
                go_wp2_with (go_at_call 34; refine (isDigit_yes _ (by assumption) (by assumption) _).mono ?_; rintro e wx ⟨rfl, hwx⟩; subst wx)
                go_round
                case rel => exact ⟨k + 1, by omega, by omega, by go_num⟩
                case measure => simp [intOf]; omega
              · obtain rfl : len = k := by omega
                have hst3 : ((len : Int) == (p2 : Int) + 1 + 1) = false := by rw [beq_eq_false_iff_ne]; omega
                go_wp2
                go_ret
                exact ⟨ret_bool (by simp), rfl⟩
  · rw [hsg] at hc1
    clear hsg
    go_enter Tryd.func18, Tryd.ntmps18
    go_wp2
    go_loop [3] (fun i => ∃ k : Nat, 1 ≤ k ∧ k ≤ p1 ∧ i = .int .i64 k) (fun i => len + 1 - (intOf i).toNat)
    case atStart => exact ⟨1, Nat.le_refl _, by omega, rfl⟩
    case round =>
      obtain ⟨k, hk1, hk2, rfl⟩ := hrel
      by_cases hlt : k < p1
      · have hck := HC.out k (by omega)
        obtain ⟨hy0, hy1⟩ := HI.out k hk1 hlt
        obtain ⟨c, hcc⟩ : ∃ c, c = t k := ⟨_, rfl⟩
        rw [← hcc] at hck hy0 hy1
        clear hcc
        go_wp2_with (go_at_call 34; refine (isDigit_yes _ (by assumption) (by assumption) _).mono ?_; rintro e wx ⟨rfl, hwx⟩; subst wx)
        go_round
        case rel => exact ⟨k + 1, by omega, by omega, by go_num⟩
        case measure => simp [intOf]; omega
      · obtain rfl : p1 = k := by omega
        go_wp2_with (go_at_call 34; refine (isDigit_no _ (by omega) _).mono ?_; rintro e wx ⟨rfl, hwx⟩; subst wx)
        go_loop [3] (fun i => ∃ k : Nat, p1 + 1 ≤ k ∧ k ≤ p2 ∧ i = .int .i64 k) (fun i => len + 1 - (intOf i).toNat)
        case atStart => exact ⟨p1 + 1, Nat.le_refl _, by omega, by go_num⟩
        case round =>
          obtain ⟨k, hk1, hk2, rfl⟩ := hrel
          by_cases hlt : k < p2
          · have hck := HC.out k (by omega)
            obtain ⟨hy0, hy1⟩ := HF.out k hk1 hlt
            obtain ⟨c, hcc⟩ : ∃ c, c = t k := ⟨_, rfl⟩
            rw [← hcc] at hck hy0 hy1
            clear hcc
            go_wp2_with (go_at_call 34; refine (isDigit_yes _ (by assumption) (by assumption) _).mono ?_; rintro e wx ⟨rfl, hwx⟩; subst wx)
            go_round
            case rel => exact ⟨k + 1, by omega, by omega, by go_num⟩
            case measure => simp [intOf]; omega
          · obtain rfl : p2 = k := by omega
            have hst : ((p2 : Int) == (p1 : Int) + 1) = false := by rw [beq_eq_false_iff_ne]; omega
            go_wp2_with (go_at_call 34; refine (isDigit_no _ (by omega) _).mono ?_; rintro e wx ⟨rfl, hwx⟩; subst wx)
            go_loop [3] (fun i => ∃ k : Nat, p2 + 2 ≤ k ∧ k ≤ len ∧ i = .int .i64 k) (fun i => len + 1 - (intOf i).toNat)
            case atStart => exact ⟨p2 + 2, Nat.le_refl _, by omega, by go_num⟩
            case round =>
              obtain ⟨k, hk1, hk2, rfl⟩ := hrel
              by_cases hlt : k < len
              · have hck := HC.out k hlt
                obtain ⟨hy0, hy1⟩ := HX.out k hk1 hlt
                obtain ⟨c, hcc⟩ : ∃ c, c = t k := ⟨_, rfl⟩
                rw [← hcc] at hck hy0 hy1
                clear hcc
                go_wp2_with (go_at_call 34; refine (isDigit_yes _ (by assumption) (by assumption) _).mono ?_; rintro e wx ⟨rfl, hwx⟩; subst wx)
                go_round
                case rel => exact ⟨k + 1, by omega, by omega, by go_num⟩
                case measure => simp [intOf]; omega
              · obtain rfl : len = k := by omega
                have hst3 : ((len : Int) == (p2 : Int) + 1 + 1) = false := by rw [beq_eq_false_iff_ne]; omega
                go_wp2
                go_ret
                exact ⟨ret_bool (by simp), rfl⟩

end Go.Proofs.Qxb6600072aDoor
