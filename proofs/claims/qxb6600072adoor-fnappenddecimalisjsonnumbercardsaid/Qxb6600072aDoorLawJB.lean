/-
  THE WALK of 'FnAppendDecimalIsJSONNumber', the other forms.
-/
import Derived.Test.Qxb6600072aDoorOut
namespace Go.Proofs.Qxb6600072aDoor
open Go.RowKit

set_option maxRecDepth 100000 in
set_option maxHeartbeats 1000000 in
theorem lawJ_Cp (b off cap : Nat) (ds : List UInt8) (exp : Int) (w : World) (hd : Seg w b off ds) (hp : 0 < ds.length) (hdl : ds.length ≤ 1048576) (x0 : -9223372036854775808 ≤ exp) (x1 : exp ≤ 9223372036854775807) (htab : Tab w) (y0 : -6 ≤ exp) (y1 : exp < 0) :
    Calls Tryd.prog 4 #[.bool false, .slice (some ⟨b, off, none⟩) ds.length cap, .int .i64 exp] w fun e w' => e = .returned (.bool true) ∧ Below w.heap.size w w' := by
  have y3 : exp < 21 := by omega
  go_enter Tryd.func4, Tryd.ntmps4
  go_wp2_with fail
  refine (bytes17 _ _ _ _ _ (by unfold maxLen; omega) _).mono ?_
  rintro e wx ⟨⟨q, rfl⟩, hwx⟩
  subst wx
  cases q
  · go_wp2
    go_ret
    exact ⟨rfl, Below.refl _ _⟩
  · go_wp2_with fail
    refine (well_any b off cap ds w hp (by omega) hd).mono ?_
    rintro e wx ⟨hw, hwx⟩
    subst wx
    rcases hw with rfl | ⟨rfl, hwf⟩
    · go_wp2
      go_ret
      exact ⟨rfl, Below.refl _ _⟩
    · go_wp2_with fail
      refine (clone_any ⟨b, off, none⟩ cap ds w (by omega) hd.lies).mono ?_
      rintro e w1 ⟨rfl, hcl⟩
      obtain ⟨hB1, hs1, hseg1⟩ := hcl
      have hbuf : Buf w1 (.slice none 0 0) [] w1 := .inl ⟨Below.refl _ _, none, rfl, fun _ => rfl, fun b hb => (by cases hb)⟩
      go_wp2_with fail
      refine (zzdec_any _ [] ds false exp _ w1 hbuf hwf hseg1 x0 x1 (by simp) (by omega) (htab.at hB1)).mono ?_
      rintro e w2 ⟨v, I, F, E, rfl, hf, hO⟩
      have hB2 : Below w.heap.size w w2 := hB1.trans (hO.below.mono hB1.size)
      obtain ⟨g, cp, zero, pt, ex, p1, p2, T, hv, ho, hpe, hbe⟩ := out_of hf hO (by omega)
      rw [hv]
      obtain rfl : ex = false := by
        rw [hpe]; simp; omega
      obtain rfl : pt = true := by
        have h := hbe
        rw [Bool.false_or] at h
        rw [h]; simp; omega
      clear hv hpe hbe hO hf hbuf hseg1 hB1 hs1 hd htab hwf
      have HO : Hid (Out w2 g cp T false zero true false 0 p1 p2) := ho
      have HCell : Hid (∀ k, k < T.length → w2.cell? ⟨g, k, none⟩ = some (.int .u8 (tb T k))) := fun k hk => by
        have := ho.seg k hk
        rw [Nat.zero_add] at this
        exact this
      obtain ⟨hi1, hi2⟩ := ho.shape.int
      have hlT := ho.len
      have hcpT := ho.cap
      have htl0 : (0 : Int) < (T.length : Int) := by omega
      have hc0 := HCell.out 0 (by omega)
      have hd0 := ho.shape.intD 0 (Nat.le_refl _) hi1
      obtain ⟨c0, hcc⟩ : ∃ c0, c0 = tb T 0 := ⟨_, rfl⟩
      rw [← hcc] at hc0 hd0
      have hb45 : (c0 == 45) = false := by rw [beq_eq_false_iff_ne]; omega
      have HC0 : Hid (c0 = tb T 0) := hcc
      clear hcc hd0
      clear ho
      go_wp2_with fail
      refine HO.out.json.mono ?_
      rintro e wx ⟨rfl, hwx⟩
      subst wx
      go_wp2_with fail
      refine (has_no g 0 cp T 69 w2 hlT HO.out.seg (fun k hk => HO.out.shape.noE k hk)).mono ?_
      rintro e wx ⟨rfl, hwx⟩
      subst wx
      go_wp2_with fail
      refine (has_no g 0 cp T 101 w2 hlT HO.out.seg (fun k hk => HO.out.shape.noe k hk)).mono ?_
      rintro e wx ⟨rfl, hwx⟩
      subst wx
      go_wp2_with fail
      refine (has_yes g 0 cp T 46 w2 hlT HO.out.seg p1 (by have h1 := (HO.out.shape.frac.1 rfl).2; have h2 := HO.out.shape.p2len; omega) (HO.out.shape.frac.1 rfl).1).mono ?_
      rintro e wx ⟨rfl, hwx⟩
      subst wx
      go_wp2
      go_ret
      exact ⟨rfl, hB2⟩

set_option maxRecDepth 100000 in
set_option maxHeartbeats 1000000 in
theorem lawJ_Dp (b off cap : Nat) (ds : List UInt8) (exp : Int) (w : World) (hd : Seg w b off ds) (hp : 0 < ds.length) (hdl : ds.length ≤ 1048576) (x0 : -9223372036854775808 ≤ exp) (x1 : exp ≤ 9223372036854775807) (htab : Tab w) (y0 : 0 ≤ exp) (y1 : exp < 21) (y2 : (ds.length : Int) ≤ exp + 1) :
    Calls Tryd.prog 4 #[.bool false, .slice (some ⟨b, off, none⟩) ds.length cap, .int .i64 exp] w fun e w' => e = .returned (.bool true) ∧ Below w.heap.size w w' := by
  go_enter Tryd.func4, Tryd.ntmps4
  go_wp2_with fail
  refine (bytes17 _ _ _ _ _ (by unfold maxLen; omega) _).mono ?_
  rintro e wx ⟨⟨q, rfl⟩, hwx⟩
  subst wx
  cases q
  · go_wp2
    go_ret
    exact ⟨rfl, Below.refl _ _⟩
  · go_wp2_with fail
    refine (well_any b off cap ds w hp (by omega) hd).mono ?_
    rintro e wx ⟨hw, hwx⟩
    subst wx
    rcases hw with rfl | ⟨rfl, hwf⟩
    · go_wp2
      go_ret
      exact ⟨rfl, Below.refl _ _⟩
    · go_wp2_with fail
      refine (clone_any ⟨b, off, none⟩ cap ds w (by omega) hd.lies).mono ?_
      rintro e w1 ⟨rfl, hcl⟩
      obtain ⟨hB1, hs1, hseg1⟩ := hcl
      have hbuf : Buf w1 (.slice none 0 0) [] w1 := .inl ⟨Below.refl _ _, none, rfl, fun _ => rfl, fun b hb => (by cases hb)⟩
      go_wp2_with fail
      refine (zzdec_any _ [] ds false exp _ w1 hbuf hwf hseg1 x0 x1 (by simp) (by omega) (htab.at hB1)).mono ?_
      rintro e w2 ⟨v, I, F, E, rfl, hf, hO⟩
      have hB2 : Below w.heap.size w w2 := hB1.trans (hO.below.mono hB1.size)
      obtain ⟨g, cp, zero, pt, ex, p1, p2, T, hv, ho, hpe, hbe⟩ := out_of hf hO (by omega)
      rw [hv]
      obtain rfl : ex = false := by
        rw [hpe]; simp; omega
      obtain rfl : pt = false := by
        have h := hbe
        rw [Bool.false_or] at h
        rw [h]; simp; omega
      clear hv hpe hbe hO hf hbuf hseg1 hB1 hs1 hd htab hwf
      have HO : Hid (Out w2 g cp T false zero false false 0 p1 p2) := ho
      have HCell : Hid (∀ k, k < T.length → w2.cell? ⟨g, k, none⟩ = some (.int .u8 (tb T k))) := fun k hk => by
        have := ho.seg k hk
        rw [Nat.zero_add] at this
        exact this
      obtain ⟨hi1, hi2⟩ := ho.shape.int
      have hlT := ho.len
      have hcpT := ho.cap
      have htl0 : (0 : Int) < (T.length : Int) := by omega
      have hc0 := HCell.out 0 (by omega)
      have hd0 := ho.shape.intD 0 (Nat.le_refl _) hi1
      obtain ⟨c0, hcc⟩ : ∃ c0, c0 = tb T 0 := ⟨_, rfl⟩
      rw [← hcc] at hc0 hd0
      have hb45 : (c0 == 45) = false := by rw [beq_eq_false_iff_ne]; omega
      have HC0 : Hid (c0 = tb T 0) := hcc
      clear hcc hd0
      clear ho
      go_wp2_with fail
      refine HO.out.json.mono ?_
      rintro e wx ⟨rfl, hwx⟩
      subst wx
      go_wp2_with fail
      refine (has_no g 0 cp T 69 w2 hlT HO.out.seg (fun k hk => HO.out.shape.noE k hk)).mono ?_
      rintro e wx ⟨rfl, hwx⟩
      subst wx
      go_wp2_with fail
      refine (has_no g 0 cp T 101 w2 hlT HO.out.seg (fun k hk => HO.out.shape.noe k hk)).mono ?_
      rintro e wx ⟨rfl, hwx⟩
      subst wx
      go_wp2_with fail
      refine (has_no g 0 cp T 46 w2 hlT HO.out.seg (fun k hk => HO.out.shape.noDot k hk)).mono ?_
      rintro e wx ⟨rfl, hwx⟩
      subst wx
      go_wp2
      go_ret
      exact ⟨rfl, hB2⟩

set_option maxRecDepth 100000 in
set_option maxHeartbeats 1000000 in
theorem lawJ_Ep (b off cap : Nat) (ds : List UInt8) (exp : Int) (w : World) (hd : Seg w b off ds) (hp : 0 < ds.length) (hdl : ds.length ≤ 1048576) (x0 : -9223372036854775808 ≤ exp) (x1 : exp ≤ 9223372036854775807) (htab : Tab w) (y0 : 0 ≤ exp) (y1 : exp < 21) (y2 : exp + 1 < (ds.length : Int)) :
    Calls Tryd.prog 4 #[.bool false, .slice (some ⟨b, off, none⟩) ds.length cap, .int .i64 exp] w fun e w' => e = .returned (.bool true) ∧ Below w.heap.size w w' := by
  go_enter Tryd.func4, Tryd.ntmps4
  go_wp2_with fail
  refine (bytes17 _ _ _ _ _ (by unfold maxLen; omega) _).mono ?_
  rintro e wx ⟨⟨q, rfl⟩, hwx⟩
  subst wx
  cases q
  · go_wp2
    go_ret
    exact ⟨rfl, Below.refl _ _⟩
  · go_wp2_with fail
    refine (well_any b off cap ds w hp (by omega) hd).mono ?_
    rintro e wx ⟨hw, hwx⟩
    subst wx
    rcases hw with rfl | ⟨rfl, hwf⟩
    · go_wp2
      go_ret
      exact ⟨rfl, Below.refl _ _⟩
    · go_wp2_with fail
      refine (clone_any ⟨b, off, none⟩ cap ds w (by omega) hd.lies).mono ?_
      rintro e w1 ⟨rfl, hcl⟩
      obtain ⟨hB1, hs1, hseg1⟩ := hcl
      have hbuf : Buf w1 (.slice none 0 0) [] w1 := .inl ⟨Below.refl _ _, none, rfl, fun _ => rfl, fun b hb => (by cases hb)⟩
      go_wp2_with fail
      refine (zzdec_any _ [] ds false exp _ w1 hbuf hwf hseg1 x0 x1 (by simp) (by omega) (htab.at hB1)).mono ?_
      rintro e w2 ⟨v, I, F, E, rfl, hf, hO⟩
      have hB2 : Below w.heap.size w w2 := hB1.trans (hO.below.mono hB1.size)
      obtain ⟨g, cp, zero, pt, ex, p1, p2, T, hv, ho, hpe, hbe⟩ := out_of hf hO (by omega)
      rw [hv]
      obtain rfl : ex = false := by
        rw [hpe]; simp; omega
      obtain rfl : pt = true := by
        have h := hbe
        rw [Bool.false_or] at h
        rw [h]; simp; omega
      clear hv hpe hbe hO hf hbuf hseg1 hB1 hs1 hd htab hwf
      have HO : Hid (Out w2 g cp T false zero true false 0 p1 p2) := ho
      have HCell : Hid (∀ k, k < T.length → w2.cell? ⟨g, k, none⟩ = some (.int .u8 (tb T k))) := fun k hk => by
        have := ho.seg k hk
        rw [Nat.zero_add] at this
        exact this
      obtain ⟨hi1, hi2⟩ := ho.shape.int
      have hlT := ho.len
      have hcpT := ho.cap
      have htl0 : (0 : Int) < (T.length : Int) := by omega
      have hc0 := HCell.out 0 (by omega)
      have hd0 := ho.shape.intD 0 (Nat.le_refl _) hi1
      obtain ⟨c0, hcc⟩ : ∃ c0, c0 = tb T 0 := ⟨_, rfl⟩
      rw [← hcc] at hc0 hd0
      have hb45 : (c0 == 45) = false := by rw [beq_eq_false_iff_ne]; omega
      have HC0 : Hid (c0 = tb T 0) := hcc
      clear hcc hd0
      clear ho
      go_wp2_with fail
      refine HO.out.json.mono ?_
      rintro e wx ⟨rfl, hwx⟩
      subst wx
      go_wp2_with fail
      refine (has_no g 0 cp T 69 w2 hlT HO.out.seg (fun k hk => HO.out.shape.noE k hk)).mono ?_
      rintro e wx ⟨rfl, hwx⟩
      subst wx
      go_wp2_with fail
      refine (has_no g 0 cp T 101 w2 hlT HO.out.seg (fun k hk => HO.out.shape.noe k hk)).mono ?_
      rintro e wx ⟨rfl, hwx⟩
      subst wx
      go_wp2_with fail
      refine (has_yes g 0 cp T 46 w2 hlT HO.out.seg p1 (by have h1 := (HO.out.shape.frac.1 rfl).2; have h2 := HO.out.shape.p2len; omega) (HO.out.shape.frac.1 rfl).1).mono ?_
      rintro e wx ⟨rfl, hwx⟩
      subst wx
      go_wp2
      go_ret
      exact ⟨rfl, hB2⟩

set_option maxRecDepth 100000 in
set_option maxHeartbeats 1000000 in
theorem lawJ_Cm (b off cap : Nat) (ds : List UInt8) (exp : Int) (w : World) (hd : Seg w b off ds) (hp : 0 < ds.length) (hdl : ds.length ≤ 1048576) (x0 : -9223372036854775808 ≤ exp) (x1 : exp ≤ 9223372036854775807) (htab : Tab w) (y0 : -6 ≤ exp) (y1 : exp < 0) :
    Calls Tryd.prog 4 #[.bool true, .slice (some ⟨b, off, none⟩) ds.length cap, .int .i64 exp] w fun e w' => e = .returned (.bool true) ∧ Below w.heap.size w w' := by
  have y3 : exp < 21 := by omega
  go_enter Tryd.func4, Tryd.ntmps4
  go_wp2_with fail
  refine (bytes17 _ _ _ _ _ (by unfold maxLen; omega) _).mono ?_
  rintro e wx ⟨⟨q, rfl⟩, hwx⟩
  subst wx
  cases q
  · go_wp2
    go_ret
    exact ⟨rfl, Below.refl _ _⟩
  · go_wp2_with fail
    refine (well_any b off cap ds w hp (by omega) hd).mono ?_
    rintro e wx ⟨hw, hwx⟩
    subst wx
    rcases hw with rfl | ⟨rfl, hwf⟩
    · go_wp2
      go_ret
      exact ⟨rfl, Below.refl _ _⟩
    · go_wp2_with fail
      refine (clone_any ⟨b, off, none⟩ cap ds w (by omega) hd.lies).mono ?_
      rintro e w1 ⟨rfl, hcl⟩
      obtain ⟨hB1, hs1, hseg1⟩ := hcl
      have hbuf : Buf w1 (.slice none 0 0) [] w1 := .inl ⟨Below.refl _ _, none, rfl, fun _ => rfl, fun b hb => (by cases hb)⟩
      go_wp2_with fail
      refine (zzdec_any _ [] ds true exp _ w1 hbuf hwf hseg1 x0 x1 (by simp) (by omega) (htab.at hB1)).mono ?_
      rintro e w2 ⟨v, I, F, E, rfl, hf, hO⟩
      have hB2 : Below w.heap.size w w2 := hB1.trans (hO.below.mono hB1.size)
      obtain ⟨g, cp, zero, pt, ex, p1, p2, T, hv, ho, hpe, hbe⟩ := out_of hf hO (by omega)
      rw [hv]
      obtain rfl : ex = false := by
        rw [hpe]; simp; omega
      obtain rfl : pt = true := by
        have h := hbe
        rw [Bool.false_or] at h
        rw [h]; simp; omega
      clear hv hpe hbe hO hf hbuf hseg1 hB1 hs1 hd htab hwf
      have HO : Hid (Out w2 g cp T true zero true false 1 p1 p2) := ho
      have HCell : Hid (∀ k, k < T.length → w2.cell? ⟨g, k, none⟩ = some (.int .u8 (tb T k))) := fun k hk => by
        have := ho.seg k hk
        rw [Nat.zero_add] at this
        exact this
      obtain ⟨hi1, hi2⟩ := ho.shape.int
      have hlT := ho.len
      have hcpT := ho.cap
      have htl0 : (0 : Int) < (T.length : Int) := by omega
      have hc0 := HCell.out 0 (by omega)
      rw [(ho.shape.sign.1 rfl).2] at hc0
      clear ho
      go_wp2_with fail
      refine HO.out.json.mono ?_
      rintro e wx ⟨rfl, hwx⟩
      subst wx
      go_wp2_with fail
      refine (has_no g 0 cp T 69 w2 hlT HO.out.seg (fun k hk => HO.out.shape.noE k hk)).mono ?_
      rintro e wx ⟨rfl, hwx⟩
      subst wx
      go_wp2_with fail
      refine (has_no g 0 cp T 101 w2 hlT HO.out.seg (fun k hk => HO.out.shape.noe k hk)).mono ?_
      rintro e wx ⟨rfl, hwx⟩
      subst wx
      go_wp2_with fail
      refine (has_yes g 0 cp T 46 w2 hlT HO.out.seg p1 (by have h1 := (HO.out.shape.frac.1 rfl).2; have h2 := HO.out.shape.p2len; omega) (HO.out.shape.frac.1 rfl).1).mono ?_
      rintro e wx ⟨rfl, hwx⟩
      subst wx
      go_wp2
      go_ret
      exact ⟨rfl, hB2⟩

set_option maxRecDepth 100000 in
set_option maxHeartbeats 1000000 in
theorem lawJ_Dm (b off cap : Nat) (ds : List UInt8) (exp : Int) (w : World) (hd : Seg w b off ds) (hp : 0 < ds.length) (hdl : ds.length ≤ 1048576) (x0 : -9223372036854775808 ≤ exp) (x1 : exp ≤ 9223372036854775807) (htab : Tab w) (y0 : 0 ≤ exp) (y1 : exp < 21) (y2 : (ds.length : Int) ≤ exp + 1) :
    Calls Tryd.prog 4 #[.bool true, .slice (some ⟨b, off, none⟩) ds.length cap, .int .i64 exp] w fun e w' => e = .returned (.bool true) ∧ Below w.heap.size w w' := by
  go_enter Tryd.func4, Tryd.ntmps4
  go_wp2_with fail
  refine (bytes17 _ _ _ _ _ (by unfold maxLen; omega) _).mono ?_
  rintro e wx ⟨⟨q, rfl⟩, hwx⟩
  subst wx
  cases q
  · go_wp2
    go_ret
    exact ⟨rfl, Below.refl _ _⟩
  · go_wp2_with fail
    refine (well_any b off cap ds w hp (by omega) hd).mono ?_
    rintro e wx ⟨hw, hwx⟩
    subst wx
    rcases hw with rfl | ⟨rfl, hwf⟩
    · go_wp2
      go_ret
      exact ⟨rfl, Below.refl _ _⟩
    · go_wp2_with fail
      refine (clone_any ⟨b, off, none⟩ cap ds w (by omega) hd.lies).mono ?_
      rintro e w1 ⟨rfl, hcl⟩
      obtain ⟨hB1, hs1, hseg1⟩ := hcl
      have hbuf : Buf w1 (.slice none 0 0) [] w1 := .inl ⟨Below.refl _ _, none, rfl, fun _ => rfl, fun b hb => (by cases hb)⟩
      go_wp2_with fail
      refine (zzdec_any _ [] ds true exp _ w1 hbuf hwf hseg1 x0 x1 (by simp) (by omega) (htab.at hB1)).mono ?_
      rintro e w2 ⟨v, I, F, E, rfl, hf, hO⟩
      have hB2 : Below w.heap.size w w2 := hB1.trans (hO.below.mono hB1.size)
      obtain ⟨g, cp, zero, pt, ex, p1, p2, T, hv, ho, hpe, hbe⟩ := out_of hf hO (by omega)
      rw [hv]
      obtain rfl : ex = false := by
        rw [hpe]; simp; omega
      obtain rfl : pt = false := by
        have h := hbe
        rw [Bool.false_or] at h
        rw [h]; simp; omega
      clear hv hpe hbe hO hf hbuf hseg1 hB1 hs1 hd htab hwf
      have HO : Hid (Out w2 g cp T true zero false false 1 p1 p2) := ho
      have HCell : Hid (∀ k, k < T.length → w2.cell? ⟨g, k, none⟩ = some (.int .u8 (tb T k))) := fun k hk => by
        have := ho.seg k hk
        rw [Nat.zero_add] at this
        exact this
      obtain ⟨hi1, hi2⟩ := ho.shape.int
      have hlT := ho.len
      have hcpT := ho.cap
      have htl0 : (0 : Int) < (T.length : Int) := by omega
      have hc0 := HCell.out 0 (by omega)
      rw [(ho.shape.sign.1 rfl).2] at hc0
      clear ho
      go_wp2_with fail
      refine HO.out.json.mono ?_
      rintro e wx ⟨rfl, hwx⟩
      subst wx
      go_wp2_with fail
      refine (has_no g 0 cp T 69 w2 hlT HO.out.seg (fun k hk => HO.out.shape.noE k hk)).mono ?_
      rintro e wx ⟨rfl, hwx⟩
      subst wx
      go_wp2_with fail
      refine (has_no g 0 cp T 101 w2 hlT HO.out.seg (fun k hk => HO.out.shape.noe k hk)).mono ?_
      rintro e wx ⟨rfl, hwx⟩
      subst wx
      go_wp2_with fail
      refine (has_no g 0 cp T 46 w2 hlT HO.out.seg (fun k hk => HO.out.shape.noDot k hk)).mono ?_
      rintro e wx ⟨rfl, hwx⟩
      subst wx
      go_wp2
      go_ret
      exact ⟨rfl, hB2⟩

set_option maxRecDepth 100000 in
set_option maxHeartbeats 1000000 in
theorem lawJ_Em (b off cap : Nat) (ds : List UInt8) (exp : Int) (w : World) (hd : Seg w b off ds) (hp : 0 < ds.length) (hdl : ds.length ≤ 1048576) (x0 : -9223372036854775808 ≤ exp) (x1 : exp ≤ 9223372036854775807) (htab : Tab w) (y0 : 0 ≤ exp) (y1 : exp < 21) (y2 : exp + 1 < (ds.length : Int)) :
    Calls Tryd.prog 4 #[.bool true, .slice (some ⟨b, off, none⟩) ds.length cap, .int .i64 exp] w fun e w' => e = .returned (.bool true) ∧ Below w.heap.size w w' := by
  go_enter Tryd.func4, Tryd.ntmps4
  go_wp2_with fail
  refine (bytes17 _ _ _ _ _ (by unfold maxLen; omega) _).mono ?_
  rintro e wx ⟨⟨q, rfl⟩, hwx⟩
  subst wx
  cases q
  · go_wp2
    go_ret
    exact ⟨rfl, Below.refl _ _⟩
  · go_wp2_with fail
    refine (well_any b off cap ds w hp (by omega) hd).mono ?_
    rintro e wx ⟨hw, hwx⟩
    subst wx
    rcases hw with rfl | ⟨rfl, hwf⟩
    · go_wp2
      go_ret
      exact ⟨rfl, Below.refl _ _⟩
    · go_wp2_with fail
      refine (clone_any ⟨b, off, none⟩ cap ds w (by omega) hd.lies).mono ?_
      rintro e w1 ⟨rfl, hcl⟩
      obtain ⟨hB1, hs1, hseg1⟩ := hcl
      have hbuf : Buf w1 (.slice none 0 0) [] w1 := .inl ⟨Below.refl _ _, none, rfl, fun _ => rfl, fun b hb => (by cases hb)⟩
      go_wp2_with fail
      refine (zzdec_any _ [] ds true exp _ w1 hbuf hwf hseg1 x0 x1 (by simp) (by omega) (htab.at hB1)).mono ?_
      rintro e w2 ⟨v, I, F, E, rfl, hf, hO⟩
      have hB2 : Below w.heap.size w w2 := hB1.trans (hO.below.mono hB1.size)
      obtain ⟨g, cp, zero, pt, ex, p1, p2, T, hv, ho, hpe, hbe⟩ := out_of hf hO (by omega)
      rw [hv]
      obtain rfl : ex = false := by
        rw [hpe]; simp; omega
      obtain rfl : pt = true := by
        have h := hbe
        rw [Bool.false_or] at h
        rw [h]; simp; omega
      clear hv hpe hbe hO hf hbuf hseg1 hB1 hs1 hd htab hwf
      have HO : Hid (Out w2 g cp T true zero true false 1 p1 p2) := ho
      have HCell : Hid (∀ k, k < T.length → w2.cell? ⟨g, k, none⟩ = some (.int .u8 (tb T k))) := fun k hk => by
        have := ho.seg k hk
        rw [Nat.zero_add] at this
        exact this
      obtain ⟨hi1, hi2⟩ := ho.shape.int
      have hlT := ho.len
      have hcpT := ho.cap
      have htl0 : (0 : Int) < (T.length : Int) := by omega
      have hc0 := HCell.out 0 (by omega)
      rw [(ho.shape.sign.1 rfl).2] at hc0
      clear ho
      go_wp2_with fail
      refine HO.out.json.mono ?_
      rintro e wx ⟨rfl, hwx⟩
      subst wx
      go_wp2_with fail
      refine (has_no g 0 cp T 69 w2 hlT HO.out.seg (fun k hk => HO.out.shape.noE k hk)).mono ?_
      rintro e wx ⟨rfl, hwx⟩
      subst wx
      go_wp2_with fail
      refine (has_no g 0 cp T 101 w2 hlT HO.out.seg (fun k hk => HO.out.shape.noe k hk)).mono ?_
      rintro e wx ⟨rfl, hwx⟩
      subst wx
      go_wp2_with fail
      refine (has_yes g 0 cp T 46 w2 hlT HO.out.seg p1 (by have h1 := (HO.out.shape.frac.1 rfl).2; have h2 := HO.out.shape.p2len; omega) (HO.out.shape.frac.1 rfl).1).mono ?_
      rintro e wx ⟨rfl, hwx⟩
      subst wx
      go_wp2
      go_ret
      exact ⟨rfl, hB2⟩

end Go.Proofs.Qxb6600072aDoor
