/-
  THE WALK of 'FnAppendDecimalIsJSONNumber', the exponent form.
-/
import Derived.Test.Qxb6600072aDoorOut
namespace Go.Proofs.Qxb6600072aDoor
open Go.RowKit

set_option maxRecDepth 100000 in
set_option maxHeartbeats 1000000 in
theorem lawJ_Ap (b off cap : Nat) (ds : List UInt8) (exp : Int) (w : World) (hd : Seg w b off ds) (hp : 0 < ds.length) (hdl : ds.length ≤ 1048576) (x0 : -9223372036854775808 ≤ exp) (x1 : exp ≤ 9223372036854775807) (htab : Tab w) (y0 : 21 ≤ exp) :
    Calls Tryd.prog 4 #[.bool false, .slice (some ⟨b, off, none⟩) ds.length cap, .int .i64 exp] w fun e w' => e = .returned (.bool true) ∧ Below w.heap.size w w' := by
  go_enter Tryd.func4, Tryd.ntmps4
  go_wp2_with fail
  refine (bytes17 _ _ _ _ _ (by unfold maxLen; omega) _).mono ?_
  rintro e wx ⟨⟨q, rfl⟩, hwx⟩
  subst wx
  cases q
  · go_wp2
    go_ret
    exact ⟨rfl, Below.refl _ _⟩
  · go_wp2_with fail
    refine (well_any b off cap ds w hp (by omega) hd).mono ?_
    rintro e wx ⟨hw, hwx⟩
    subst wx
    rcases hw with rfl | ⟨rfl, hwf⟩
    · go_wp2
      go_ret
      exact ⟨rfl, Below.refl _ _⟩
    · go_wp2_with fail
      refine (clone_any ⟨b, off, none⟩ cap ds w (by omega) hd.lies).mono ?_
      rintro e w1 ⟨rfl, hcl⟩
      obtain ⟨hB1, hs1, hseg1⟩ := hcl
      have hbuf : Buf w1 (.slice none 0 0) [] w1 := .inl ⟨Below.refl _ _, none, rfl, fun _ => rfl, fun b hb => (by cases hb)⟩
      go_wp2_with fail
      refine (zzdec_any _ [] ds false exp _ w1 hbuf hwf hseg1 x0 x1 (by simp) (by omega) (htab.at hB1)).mono ?_
      rintro e w2 ⟨v, I, F, E, rfl, hf, hO⟩
      have hB2 : Below w.heap.size w w2 := hB1.trans (hO.below.mono hB1.size)
      obtain ⟨g, cp, zero, pt, ex, p1, p2, T, hv, ho, hpe, hbe⟩ := out_of hf hO (by omega)
      rw [hv]
      obtain rfl : ex = true := by
        rw [hpe]; simp; omega
      clear hv hpe hbe hO hf hbuf hseg1 hB1 hs1 hd htab hwf
      have HO : Hid (Out w2 g cp T false zero pt true 0 p1 p2) := ho
      have HCell : Hid (∀ k, k < T.length → w2.cell? ⟨g, k, none⟩ = some (.int .u8 (tb T k))) := fun k hk => by
        have := ho.seg k hk
        rw [Nat.zero_add] at this
        exact this
      obtain ⟨hi1, hi2⟩ := ho.shape.int
      have hlT := ho.len
      have hcpT := ho.cap
      have htl0 : (0 : Int) < (T.length : Int) := by omega
      have hc0 := HCell.out 0 (by omega)
      have hd0 := ho.shape.intD 0 (Nat.le_refl _) hi1
      obtain ⟨c0, hcc⟩ : ∃ c0, c0 = tb T 0 := ⟨_, rfl⟩
      rw [← hcc] at hc0 hd0
      have hb45 : (c0 == 45) = false := by rw [beq_eq_false_iff_ne]; omega
      have HC0 : Hid (c0 = tb T 0) := hcc
      clear hcc hd0
      clear ho
      go_wp2_with fail
      refine HO.out.json.mono ?_
      rintro e wx ⟨rfl, hwx⟩
      subst wx
      go_wp2_with fail
      refine (has_no g 0 cp T 69 w2 hlT HO.out.seg (fun k hk => HO.out.shape.noE k hk)).mono ?_
      rintro e wx ⟨rfl, hwx⟩
      subst wx
      go_wp2_with fail
      refine (has_yes g 0 cp T 101 w2 hlT HO.out.seg p2 (by have := (HO.out.shape.exp.1 rfl).2.2.1; omega) (HO.out.shape.exp.1 rfl).1).mono ?_
      rintro e wx ⟨rfl, hwx⟩
      subst wx
      cases pt
      · go_wp2_with fail
        refine (has_no g 0 cp T 46 w2 hlT HO.out.seg (fun k hk => HO.out.shape.noDot k hk)).mono ?_
        rintro e wx ⟨rfl, hwx⟩
        subst wx
        have hp1 : p1 = 0 + 1 := (HO.out.lead rfl).1
        have hzf : zero = false := (HO.out.lead rfl).2
        subst hzf
        have hxl := (HO.out.shape.exp.1 rfl).2.2.1
        have hp2 := HO.out.shape.p2len
        have hq1 := HO.out.shape.int.1
        have hge : p1 ≤ p2 := by
          have := HO.out.shape.frac.2 rfl; omega
        have hs0 : 49 ≤ tb T 0 := HO.out.shape.intZ.2 rfl
        rw [← HC0.out] at hs0
        have hb48 : (c0 == 48) = false := by rw [beq_eq_false_iff_ne]; omega
        have hci : w2.cell? ⟨g, 1, none⟩ = some (.int .u8 101) := by
          have h1 := HCell.out (0 + 1) (by omega)
          rw [h1]
          have h2 := (HO.out.shape.exp.1 rfl).1; rw [HO.out.shape.frac.2 rfl, hp1] at h2; rw [h2]
        have hl1 : (1 : Int) < (T.length : Int) := by omega
        have hl2 : (1 : Int) < (T.length : Int) := by omega
        clear hp1
        go_wp2_with fail
        refine (mantEnd_any g 0 cp T w2 hlT HO.out.seg p2 (by omega) (HO.out.shape.exp.1 rfl).1 (fun k hk => HO.out.shape.mant k hk)).mono ?_
        rintro e wx ⟨rfl, hwx⟩
        subst wx
        have hcd := HCell.out (p2 + 1 + 1) hxl
        have hsd : 49 ≤ tb T (p2 + 1 + 1) := (HO.out.shape.exp.1 rfl).2.2.2
        obtain ⟨cd, hcdv⟩ : ∃ cd, cd = tb T (p2 + 1 + 1) := ⟨_, rfl⟩
        rw [← hcdv] at hcd hsd
        clear hcdv
        have hd48 : (cd == 48) = false := by rw [beq_eq_false_iff_ne]; omega
        have hck := HCell.out (p2 + 1) (by omega)
        rcases (HO.out.shape.exp.1 rfl).2.1 with hsg | hsg
        · rw [hsg] at hck
          clear hsg
          go_wp2
          go_ret
          exact ⟨rfl, hB2⟩
        · rw [hsg] at hck
          clear hsg
          go_wp2
          go_ret
          exact ⟨rfl, hB2⟩
      · go_wp2_with fail
        refine (has_yes g 0 cp T 46 w2 hlT HO.out.seg p1 (by have h1 := (HO.out.shape.frac.1 rfl).2; have h2 := HO.out.shape.p2len; omega) (HO.out.shape.frac.1 rfl).1).mono ?_
        rintro e wx ⟨rfl, hwx⟩
        subst wx
        have hp1 : p1 = 0 + 1 := (HO.out.lead rfl).1
        have hzf : zero = false := (HO.out.lead rfl).2
        subst hzf
        have hxl := (HO.out.shape.exp.1 rfl).2.2.1
        have hp2 := HO.out.shape.p2len
        have hq1 := HO.out.shape.int.1
        have hge : p1 ≤ p2 := by
          have := (HO.out.shape.frac.1 rfl).2; omega
        have hs0 : 49 ≤ tb T 0 := HO.out.shape.intZ.2 rfl
        rw [← HC0.out] at hs0
        have hb48 : (c0 == 48) = false := by rw [beq_eq_false_iff_ne]; omega
        have hci : w2.cell? ⟨g, 1, none⟩ = some (.int .u8 46) := by
          have h1 := HCell.out (0 + 1) (by omega)
          rw [h1]
          have h2 := (HO.out.shape.frac.1 rfl).1; rw [hp1] at h2; rw [h2]
        have hl1 : (1 : Int) < (T.length : Int) := by omega
        have hl2 : (1 : Int) < (T.length : Int) := by omega
        clear hp1
        go_wp2_with fail
        refine (mantEnd_any g 0 cp T w2 hlT HO.out.seg p2 (by omega) (HO.out.shape.exp.1 rfl).1 (fun k hk => HO.out.shape.mant k hk)).mono ?_
        rintro e wx ⟨rfl, hwx⟩
        subst wx
        have hcd := HCell.out (p2 + 1 + 1) hxl
        have hsd : 49 ≤ tb T (p2 + 1 + 1) := (HO.out.shape.exp.1 rfl).2.2.2
        obtain ⟨cd, hcdv⟩ : ∃ cd, cd = tb T (p2 + 1 + 1) := ⟨_, rfl⟩
        rw [← hcdv] at hcd hsd
        clear hcdv
        have hd48 : (cd == 48) = false := by rw [beq_eq_false_iff_ne]; omega
        have hck := HCell.out (p2 + 1) (by omega)
        rcases (HO.out.shape.exp.1 rfl).2.1 with hsg | hsg
        · rw [hsg] at hck
          clear hsg
          go_wp2
          go_ret
          exact ⟨rfl, hB2⟩
        · rw [hsg] at hck
          clear hsg
          go_wp2
          go_ret
          exact ⟨rfl, hB2⟩

set_option maxRecDepth 100000 in
set_option maxHeartbeats 1000000 in
theorem lawJ_Bp (b off cap : Nat) (ds : List UInt8) (exp : Int) (w : World) (hd : Seg w b off ds) (hp : 0 < ds.length) (hdl : ds.length ≤ 1048576) (x0 : -9223372036854775808 ≤ exp) (x1 : exp ≤ 9223372036854775807) (htab : Tab w) (y0 : exp < -6) :
    Calls Tryd.prog 4 #[.bool false, .slice (some ⟨b, off, none⟩) ds.length cap, .int .i64 exp] w fun e w' => e = .returned (.bool true) ∧ Below w.heap.size w w' := by
  go_enter Tryd.func4, Tryd.ntmps4
  go_wp2_with fail
  refine (bytes17 _ _ _ _ _ (by unfold maxLen; omega) _).mono ?_
  rintro e wx ⟨⟨q, rfl⟩, hwx⟩
  subst wx
  cases q
  · go_wp2
    go_ret
    exact ⟨rfl, Below.refl _ _⟩
  · go_wp2_with fail
    refine (well_any b off cap ds w hp (by omega) hd).mono ?_
    rintro e wx ⟨hw, hwx⟩
    subst wx
    rcases hw with rfl | ⟨rfl, hwf⟩
    · go_wp2
      go_ret
      exact ⟨rfl, Below.refl _ _⟩
    · go_wp2_with fail
      refine (clone_any ⟨b, off, none⟩ cap ds w (by omega) hd.lies).mono ?_
      rintro e w1 ⟨rfl, hcl⟩
      obtain ⟨hB1, hs1, hseg1⟩ := hcl
      have hbuf : Buf w1 (.slice none 0 0) [] w1 := .inl ⟨Below.refl _ _, none, rfl, fun _ => rfl, fun b hb => (by cases hb)⟩
      go_wp2_with fail
      refine (zzdec_any _ [] ds false exp _ w1 hbuf hwf hseg1 x0 x1 (by simp) (by omega) (htab.at hB1)).mono ?_
      rintro e w2 ⟨v, I, F, E, rfl, hf, hO⟩
      have hB2 : Below w.heap.size w w2 := hB1.trans (hO.below.mono hB1.size)
      obtain ⟨g, cp, zero, pt, ex, p1, p2, T, hv, ho, hpe, hbe⟩ := out_of hf hO (by omega)
      rw [hv]
      obtain rfl : ex = true := by
        rw [hpe]; simp; omega
      clear hv hpe hbe hO hf hbuf hseg1 hB1 hs1 hd htab hwf
      have HO : Hid (Out w2 g cp T false zero pt true 0 p1 p2) := ho
      have HCell : Hid (∀ k, k < T.length → w2.cell? ⟨g, k, none⟩ = some (.int .u8 (tb T k))) := fun k hk => by
        have := ho.seg k hk
        rw [Nat.zero_add] at this
        exact this
      obtain ⟨hi1, hi2⟩ := ho.shape.int
      have hlT := ho.len
      have hcpT := ho.cap
      have htl0 : (0 : Int) < (T.length : Int) := by omega
      have hc0 := HCell.out 0 (by omega)
      have hd0 := ho.shape.intD 0 (Nat.le_refl _) hi1
      obtain ⟨c0, hcc⟩ : ∃ c0, c0 = tb T 0 := ⟨_, rfl⟩
      rw [← hcc] at hc0 hd0
      have hb45 : (c0 == 45) = false := by rw [beq_eq_false_iff_ne]; omega
      have HC0 : Hid (c0 = tb T 0) := hcc
      clear hcc hd0
      clear ho
      go_wp2_with fail
      refine HO.out.json.mono ?_
      rintro e wx ⟨rfl, hwx⟩
      subst wx
      go_wp2_with fail
      refine (has_no g 0 cp T 69 w2 hlT HO.out.seg (fun k hk => HO.out.shape.noE k hk)).mono ?_
      rintro e wx ⟨rfl, hwx⟩
      subst wx
      go_wp2_with fail
      refine (has_yes g 0 cp T 101 w2 hlT HO.out.seg p2 (by have := (HO.out.shape.exp.1 rfl).2.2.1; omega) (HO.out.shape.exp.1 rfl).1).mono ?_
      rintro e wx ⟨rfl, hwx⟩
      subst wx
      cases pt
      · go_wp2_with fail
        refine (has_no g 0 cp T 46 w2 hlT HO.out.seg (fun k hk => HO.out.shape.noDot k hk)).mono ?_
        rintro e wx ⟨rfl, hwx⟩
        subst wx
        have hp1 : p1 = 0 + 1 := (HO.out.lead rfl).1
        have hzf : zero = false := (HO.out.lead rfl).2
        subst hzf
        have hxl := (HO.out.shape.exp.1 rfl).2.2.1
        have hp2 := HO.out.shape.p2len
        have hq1 := HO.out.shape.int.1
        have hge : p1 ≤ p2 := by
          have := HO.out.shape.frac.2 rfl; omega
        have hs0 : 49 ≤ tb T 0 := HO.out.shape.intZ.2 rfl
        rw [← HC0.out] at hs0
        have hb48 : (c0 == 48) = false := by rw [beq_eq_false_iff_ne]; omega
        have hci : w2.cell? ⟨g, 1, none⟩ = some (.int .u8 101) := by
          have h1 := HCell.out (0 + 1) (by omega)
          rw [h1]
          have h2 := (HO.out.shape.exp.1 rfl).1; rw [HO.out.shape.frac.2 rfl, hp1] at h2; rw [h2]
        have hl1 : (1 : Int) < (T.length : Int) := by omega
        have hl2 : (1 : Int) < (T.length : Int) := by omega
        clear hp1
        go_wp2_with fail
        refine (mantEnd_any g 0 cp T w2 hlT HO.out.seg p2 (by omega) (HO.out.shape.exp.1 rfl).1 (fun k hk => HO.out.shape.mant k hk)).mono ?_
        rintro e wx ⟨rfl, hwx⟩
        subst wx
        have hcd := HCell.out (p2 + 1 + 1) hxl
        have hsd : 49 ≤ tb T (p2 + 1 + 1) := (HO.out.shape.exp.1 rfl).2.2.2
        obtain ⟨cd, hcdv⟩ : ∃ cd, cd = tb T (p2 + 1 + 1) := ⟨_, rfl⟩
        rw [← hcdv] at hcd hsd
        clear hcdv
        have hd48 : (cd == 48) = false := by rw [beq_eq_false_iff_ne]; omega
        have hck := HCell.out (p2 + 1) (by omega)
        rcases (HO.out.shape.exp.1 rfl).2.1 with hsg | hsg
        · rw [hsg] at hck
          clear hsg
          go_wp2
          go_ret
          exact ⟨rfl, hB2⟩
        · rw [hsg] at hck
          clear hsg
          go_wp2
          go_ret
          exact ⟨rfl, hB2⟩
      · go_wp2_with fail
        refine (has_yes g 0 cp T 46 w2 hlT HO.out.seg p1 (by have h1 := (HO.out.shape.frac.1 rfl).2; have h2 := HO.out.shape.p2len; omega) (HO.out.shape.frac.1 rfl).1).mono ?_
        rintro e wx ⟨rfl, hwx⟩
        subst wx
        have hp1 : p1 = 0 + 1 := (HO.out.lead rfl).1
        have hzf : zero = false := (HO.out.lead rfl).2
        subst hzf
        have hxl := (HO.out.shape.exp.1 rfl).2.2.1
        have hp2 := HO.out.shape.p2len
        have hq1 := HO.out.shape.int.1
        have hge : p1 ≤ p2 := by
          have := (HO.out.shape.frac.1 rfl).2; omega
        have hs0 : 49 ≤ tb T 0 := HO.out.shape.intZ.2 rfl
        rw [← HC0.out] at hs0
        have hb48 : (c0 == 48) = false := by rw [beq_eq_false_iff_ne]; omega
        have hci : w2.cell? ⟨g, 1, none⟩ = some (.int .u8 46) := by
          have h1 := HCell.out (0 + 1) (by omega)
          rw [h1]
          have h2 := (HO.out.shape.frac.1 rfl).1; rw [hp1] at h2; rw [h2]
        have hl1 : (1 : Int) < (T.length : Int) := by omega
        have hl2 : (1 : Int) < (T.length : Int) := by omega
        clear hp1
        go_wp2_with fail
        refine (mantEnd_any g 0 cp T w2 hlT HO.out.seg p2 (by omega) (HO.out.shape.exp.1 rfl).1 (fun k hk => HO.out.shape.mant k hk)).mono ?_
        rintro e wx ⟨rfl, hwx⟩
        subst wx
        have hcd := HCell.out (p2 + 1 + 1) hxl
        have hsd : 49 ≤ tb T (p2 + 1 + 1) := (HO.out.shape.exp.1 rfl).2.2.2
        obtain ⟨cd, hcdv⟩ : ∃ cd, cd = tb T (p2 + 1 + 1) := ⟨_, rfl⟩
        rw [← hcdv] at hcd hsd
        clear hcdv
        have hd48 : (cd == 48) = false := by rw [beq_eq_false_iff_ne]; omega
        have hck := HCell.out (p2 + 1) (by omega)
        rcases (HO.out.shape.exp.1 rfl).2.1 with hsg | hsg
        · rw [hsg] at hck
          clear hsg
          go_wp2
          go_ret
          exact ⟨rfl, hB2⟩
        · rw [hsg] at hck
          clear hsg
          go_wp2
          go_ret
          exact ⟨rfl, hB2⟩

set_option maxRecDepth 100000 in
set_option maxHeartbeats 1000000 in
theorem lawJ_Am (b off cap : Nat) (ds : List UInt8) (exp : Int) (w : World) (hd : Seg w b off ds) (hp : 0 < ds.length) (hdl : ds.length ≤ 1048576) (x0 : -9223372036854775808 ≤ exp) (x1 : exp ≤ 9223372036854775807) (htab : Tab w) (y0 : 21 ≤ exp) :
    Calls Tryd.prog 4 #[.bool true, .slice (some ⟨b, off, none⟩) ds.length cap, .int .i64 exp] w fun e w' => e = .returned (.bool true) ∧ Below w.heap.size w w' := by
  go_enter Tryd.func4, Tryd.ntmps4
  go_wp2_with fail
  refine (bytes17 _ _ _ _ _ (by unfold maxLen; omega) _).mono ?_
  rintro e wx ⟨⟨q, rfl⟩, hwx⟩
  subst wx
  cases q
  · go_wp2
    go_ret
    exact ⟨rfl, Below.refl _ _⟩
  · go_wp2_with fail
    refine (well_any b off cap ds w hp (by omega) hd).mono ?_
    rintro e wx ⟨hw, hwx⟩
    subst wx
    rcases hw with rfl | ⟨rfl, hwf⟩
    · go_wp2
      go_ret
      exact ⟨rfl, Below.refl _ _⟩
    · go_wp2_with fail
      refine (clone_any ⟨b, off, none⟩ cap ds w (by omega) hd.lies).mono ?_
      rintro e w1 ⟨rfl, hcl⟩
      obtain ⟨hB1, hs1, hseg1⟩ := hcl
      have hbuf : Buf w1 (.slice none 0 0) [] w1 := .inl ⟨Below.refl _ _, none, rfl, fun _ => rfl, fun b hb => (by cases hb)⟩
      go_wp2_with fail
      refine (zzdec_any _ [] ds true exp _ w1 hbuf hwf hseg1 x0 x1 (by simp) (by omega) (htab.at hB1)).mono ?_
      rintro e w2 ⟨v, I, F, E, rfl, hf, hO⟩
      have hB2 : Below w.heap.size w w2 := hB1.trans (hO.below.mono hB1.size)
      obtain ⟨g, cp, zero, pt, ex, p1, p2, T, hv, ho, hpe, hbe⟩ := out_of hf hO (by omega)
      rw [hv]
      obtain rfl : ex = true := by
        rw [hpe]; simp; omega
      clear hv hpe hbe hO hf hbuf hseg1 hB1 hs1 hd htab hwf
      have HO : Hid (Out w2 g cp T true zero pt true 1 p1 p2) := ho
      have HCell : Hid (∀ k, k < T.length → w2.cell? ⟨g, k, none⟩ = some (.int .u8 (tb T k))) := fun k hk => by
        have := ho.seg k hk
        rw [Nat.zero_add] at this
        exact this
      obtain ⟨hi1, hi2⟩ := ho.shape.int
      have hlT := ho.len
      have hcpT := ho.cap
      have htl0 : (0 : Int) < (T.length : Int) := by omega
      have hc0 := HCell.out 0 (by omega)
      rw [(ho.shape.sign.1 rfl).2] at hc0
      clear ho
      go_wp2_with fail
      refine HO.out.json.mono ?_
      rintro e wx ⟨rfl, hwx⟩
      subst wx
      go_wp2_with fail
      refine (has_no g 0 cp T 69 w2 hlT HO.out.seg (fun k hk => HO.out.shape.noE k hk)).mono ?_
      rintro e wx ⟨rfl, hwx⟩
      subst wx
      go_wp2_with fail
      refine (has_yes g 0 cp T 101 w2 hlT HO.out.seg p2 (by have := (HO.out.shape.exp.1 rfl).2.2.1; omega) (HO.out.shape.exp.1 rfl).1).mono ?_
      rintro e wx ⟨rfl, hwx⟩
      subst wx
      cases pt
      · go_wp2_with fail
        refine (has_no g 0 cp T 46 w2 hlT HO.out.seg (fun k hk => HO.out.shape.noDot k hk)).mono ?_
        rintro e wx ⟨rfl, hwx⟩
        subst wx
        have hp1 : p1 = 1 + 1 := (HO.out.lead rfl).1
        have hzf : zero = false := (HO.out.lead rfl).2
        subst hzf
        have hxl := (HO.out.shape.exp.1 rfl).2.2.1
        have hp2 := HO.out.shape.p2len
        have hq1 := HO.out.shape.int.1
        have hge : p1 ≤ p2 := by
          have := HO.out.shape.frac.2 rfl; omega
        have hs0 : 49 ≤ tb T 1 := HO.out.shape.intZ.2 rfl
        have hcs := HCell.out 1 (by omega)
        obtain ⟨cs, hcsv⟩ : ∃ cs, cs = tb T 1 := ⟨_, rfl⟩
        rw [← hcsv] at hcs hs0
        clear hcsv
        have hb48 : (cs == 48) = false := by rw [beq_eq_false_iff_ne]; omega
        have hci : w2.cell? ⟨g, 2, none⟩ = some (.int .u8 101) := by
          have h1 := HCell.out (1 + 1) (by omega)
          rw [h1]
          have h2 := (HO.out.shape.exp.1 rfl).1; rw [HO.out.shape.frac.2 rfl, hp1] at h2; rw [h2]
        have hl1 : (1 : Int) < (T.length : Int) := by omega
        have hl2 : (2 : Int) < (T.length : Int) := by omega
        clear hp1
        go_wp2_with fail
        refine (mantEnd_any g 0 cp T w2 hlT HO.out.seg p2 (by omega) (HO.out.shape.exp.1 rfl).1 (fun k hk => HO.out.shape.mant k hk)).mono ?_
        rintro e wx ⟨rfl, hwx⟩
        subst wx
        have hcd := HCell.out (p2 + 1 + 1) hxl
        have hsd : 49 ≤ tb T (p2 + 1 + 1) := (HO.out.shape.exp.1 rfl).2.2.2
        obtain ⟨cd, hcdv⟩ : ∃ cd, cd = tb T (p2 + 1 + 1) := ⟨_, rfl⟩
        rw [← hcdv] at hcd hsd
        clear hcdv
        have hd48 : (cd == 48) = false := by rw [beq_eq_false_iff_ne]; omega
        have hck := HCell.out (p2 + 1) (by omega)
        rcases (HO.out.shape.exp.1 rfl).2.1 with hsg | hsg
        · rw [hsg] at hck
          clear hsg
          go_wp2
          go_ret
          exact ⟨rfl, hB2⟩
        · rw [hsg] at hck
          clear hsg
          go_wp2
          go_ret
          exact ⟨rfl, hB2⟩
      · go_wp2_with fail
        refine (has_yes g 0 cp T 46 w2 hlT HO.out.seg p1 (by have h1 := (HO.out.shape.frac.1 rfl).2; have h2 := HO.out.shape.p2len; omega) (HO.out.shape.frac.1 rfl).1).mono ?_
        rintro e wx ⟨rfl, hwx⟩
        subst wx
        have hp1 : p1 = 1 + 1 := (HO.out.lead rfl).1
        have hzf : zero = false := (HO.out.lead rfl).2
        subst hzf
        have hxl := (HO.out.shape.exp.1 rfl).2.2.1
        have hp2 := HO.out.shape.p2len
        have hq1 := HO.out.shape.int.1
        have hge : p1 ≤ p2 := by
          have := (HO.out.shape.frac.1 rfl).2; omega
        have hs0 : 49 ≤ tb T 1 := HO.out.shape.intZ.2 rfl
        have hcs := HCell.out 1 (by omega)
        obtain ⟨cs, hcsv⟩ : ∃ cs, cs = tb T 1 := ⟨_, rfl⟩
        rw [← hcsv] at hcs hs0
        clear hcsv
        have hb48 : (cs == 48) = false := by rw [beq_eq_false_iff_ne]; omega
        have hci : w2.cell? ⟨g, 2, none⟩ = some (.int .u8 46) := by
          have h1 := HCell.out (1 + 1) (by omega)
          rw [h1]
          have h2 := (HO.out.shape.frac.1 rfl).1; rw [hp1] at h2; rw [h2]
        have hl1 : (1 : Int) < (T.length : Int) := by omega
        have hl2 : (2 : Int) < (T.length : Int) := by omega
        clear hp1
        go_wp2_with fail
        refine (mantEnd_any g 0 cp T w2 hlT HO.out.seg p2 (by omega) (HO.out.shape.exp.1 rfl).1 (fun k hk => HO.out.shape.mant k hk)).mono ?_
        rintro e wx ⟨rfl, hwx⟩
        subst wx
        have hcd := HCell.out (p2 + 1 + 1) hxl
        have hsd : 49 ≤ tb T (p2 + 1 + 1) := (HO.out.shape.exp.1 rfl).2.2.2
        obtain ⟨cd, hcdv⟩ : ∃ cd, cd = tb T (p2 + 1 + 1) := ⟨_, rfl⟩
        rw [← hcdv] at hcd hsd
        clear hcdv
        have hd48 : (cd == 48) = false := by rw [beq_eq_false_iff_ne]; omega
        have hck := HCell.out (p2 + 1) (by omega)
        rcases (HO.out.shape.exp.1 rfl).2.1 with hsg | hsg
        · rw [hsg] at hck
          clear hsg
          go_wp2
          go_ret
          exact ⟨rfl, hB2⟩
        · rw [hsg] at hck
          clear hsg
          go_wp2
          go_ret
          exact ⟨rfl, hB2⟩

set_option maxRecDepth 100000 in
set_option maxHeartbeats 1000000 in
theorem lawJ_Bm (b off cap : Nat) (ds : List UInt8) (exp : Int) (w : World) (hd : Seg w b off ds) (hp : 0 < ds.length) (hdl : ds.length ≤ 1048576) (x0 : -9223372036854775808 ≤ exp) (x1 : exp ≤ 9223372036854775807) (htab : Tab w) (y0 : exp < -6) :
    Calls Tryd.prog 4 #[.bool true, .slice (some ⟨b, off, none⟩) ds.length cap, .int .i64 exp] w fun e w' => e = .returned (.bool true) ∧ Below w.heap.size w w' := by
  go_enter Tryd.func4, Tryd.ntmps4
  go_wp2_with fail
  refine (bytes17 _ _ _ _ _ (by unfold maxLen; omega) _).mono ?_
  rintro e wx ⟨⟨q, rfl⟩, hwx⟩
  subst wx
  cases q
  · go_wp2
    go_ret
    exact ⟨rfl, Below.refl _ _⟩
  · go_wp2_with fail
    refine (well_any b off cap ds w hp (by omega) hd).mono ?_
    rintro e wx ⟨hw, hwx⟩
    subst wx
    rcases hw with rfl | ⟨rfl, hwf⟩
    · go_wp2
      go_ret
      exact ⟨rfl, Below.refl _ _⟩
    · go_wp2_with fail
      refine (clone_any ⟨b, off, none⟩ cap ds w (by omega) hd.lies).mono ?_
      rintro e w1 ⟨rfl, hcl⟩
      obtain ⟨hB1, hs1, hseg1⟩ := hcl
      have hbuf : Buf w1 (.slice none 0 0) [] w1 := .inl ⟨Below.refl _ _, none, rfl, fun _ => rfl, fun b hb => (by cases hb)⟩
      go_wp2_with fail
      refine (zzdec_any _ [] ds true exp _ w1 hbuf hwf hseg1 x0 x1 (by simp) (by omega) (htab.at hB1)).mono ?_
      rintro e w2 ⟨v, I, F, E, rfl, hf, hO⟩
      have hB2 : Below w.heap.size w w2 := hB1.trans (hO.below.mono hB1.size)
      obtain ⟨g, cp, zero, pt, ex, p1, p2, T, hv, ho, hpe, hbe⟩ := out_of hf hO (by omega)
      rw [hv]
      obtain rfl : ex = true := by
        rw [hpe]; simp; omega
      clear hv hpe hbe hO hf hbuf hseg1 hB1 hs1 hd htab hwf
      have HO : Hid (Out w2 g cp T true zero pt true 1 p1 p2) := ho
      have HCell : Hid (∀ k, k < T.length → w2.cell? ⟨g, k, none⟩ = some (.int .u8 (tb T k))) := fun k hk => by
        have := ho.seg k hk
        rw [Nat.zero_add] at this
        exact this
      obtain ⟨hi1, hi2⟩ := ho.shape.int
      have hlT := ho.len
      have hcpT := ho.cap
      have htl0 : (0 : Int) < (T.length : Int) := by omega
      have hc0 := HCell.out 0 (by omega)
      rw [(ho.shape.sign.1 rfl).2] at hc0
      clear ho
      go_wp2_with fail
      refine HO.out.json.mono ?_
      rintro e wx ⟨rfl, hwx⟩
      subst wx
      go_wp2_with fail
      refine (has_no g 0 cp T 69 w2 hlT HO.out.seg (fun k hk => HO.out.shape.noE k hk)).mono ?_
      rintro e wx ⟨rfl, hwx⟩
      subst wx
      go_wp2_with fail
      refine (has_yes g 0 cp T 101 w2 hlT HO.out.seg p2 (by have := (HO.out.shape.exp.1 rfl).2.2.1; omega) (HO.out.shape.exp.1 rfl).1).mono ?_
      rintro e wx ⟨rfl, hwx⟩
      subst wx
      cases pt
      · go_wp2_with fail
        refine (has_no g 0 cp T 46 w2 hlT HO.out.seg (fun k hk => HO.out.shape.noDot k hk)).mono ?_
        rintro e wx ⟨rfl, hwx⟩
        subst wx
        have hp1 : p1 = 1 + 1 := (HO.out.lead rfl).1
        have hzf : zero = false := (HO.out.lead rfl).2
        subst hzf
        have hxl := (HO.out.shape.exp.1 rfl).2.2.1
        have hp2 := HO.out.shape.p2len
        have hq1 := HO.out.shape.int.1
        have hge : p1 ≤ p2 := by
          have := HO.out.shape.frac.2 rfl; omega
        have hs0 : 49 ≤ tb T 1 := HO.out.shape.intZ.2 rfl
        have hcs := HCell.out 1 (by omega)
        obtain ⟨cs, hcsv⟩ : ∃ cs, cs = tb T 1 := ⟨_, rfl⟩
        rw [← hcsv] at hcs hs0
        clear hcsv
        have hb48 : (cs == 48) = false := by rw [beq_eq_false_iff_ne]; omega
        have hci : w2.cell? ⟨g, 2, none⟩ = some (.int .u8 101) := by
          have h1 := HCell.out (1 + 1) (by omega)
          rw [h1]
          have h2 := (HO.out.shape.exp.1 rfl).1; rw [HO.out.shape.frac.2 rfl, hp1] at h2; rw [h2]
        have hl1 : (1 : Int) < (T.length : Int) := by omega
        have hl2 : (2 : Int) < (T.length : Int) := by omega
        clear hp1
        go_wp2_with fail
        refine (mantEnd_any g 0 cp T w2 hlT HO.out.seg p2 (by omega) (HO.out.shape.exp.1 rfl).1 (fun k hk => HO.out.shape.mant k hk)).mono ?_
        rintro e wx ⟨rfl, hwx⟩
        subst wx
        have hcd := HCell.out (p2 + 1 + 1) hxl
        have hsd : 49 ≤ tb T (p2 + 1 + 1) := (HO.out.shape.exp.1 rfl).2.2.2
        obtain ⟨cd, hcdv⟩ : ∃ cd, cd = tb T (p2 + 1 + 1) := ⟨_, rfl⟩
        rw [← hcdv] at hcd hsd
        clear hcdv
        have hd48 : (cd == 48) = false := by rw [beq_eq_false_iff_ne]; omega
        have hck := HCell.out (p2 + 1) (by omega)
        rcases (HO.out.shape.exp.1 rfl).2.1 with hsg | hsg
        · rw [hsg] at hck
          clear hsg
          go_wp2
          go_ret
          exact ⟨rfl, hB2⟩
        · rw [hsg] at hck
          clear hsg
          go_wp2
          go_ret
          exact ⟨rfl, hB2⟩
      · go_wp2_with fail
        refine (has_yes g 0 cp T 46 w2 hlT HO.out.seg p1 (by have h1 := (HO.out.shape.frac.1 rfl).2; have h2 := HO.out.shape.p2len; omega) (HO.out.shape.frac.1 rfl).1).mono ?_
        rintro e wx ⟨rfl, hwx⟩
        subst wx
        have hp1 : p1 = 1 + 1 := (HO.out.lead rfl).1
        have hzf : zero = false := (HO.out.lead rfl).2
        subst hzf
        have hxl := (HO.out.shape.exp.1 rfl).2.2.1
        have hp2 := HO.out.shape.p2len
        have hq1 := HO.out.shape.int.1
        have hge : p1 ≤ p2 := by
          have := (HO.out.shape.frac.1 rfl).2; omega
        have hs0 : 49 ≤ tb T 1 := HO.out.shape.intZ.2 rfl
        have hcs := HCell.out 1 (by omega)
        obtain ⟨cs, hcsv⟩ : ∃ cs, cs = tb T 1 := ⟨_, rfl⟩
        rw [← hcsv] at hcs hs0
        clear hcsv
        have hb48 : (cs == 48) = false := by rw [beq_eq_false_iff_ne]; omega
        have hci : w2.cell? ⟨g, 2, none⟩ = some (.int .u8 46) := by
          have h1 := HCell.out (1 + 1) (by omega)
          rw [h1]
          have h2 := (HO.out.shape.frac.1 rfl).1; rw [hp1] at h2; rw [h2]
        have hl1 : (1 : Int) < (T.length : Int) := by omega
        have hl2 : (2 : Int) < (T.length : Int) := by omega
        clear hp1
        go_wp2_with fail
        refine (mantEnd_any g 0 cp T w2 hlT HO.out.seg p2 (by omega) (HO.out.shape.exp.1 rfl).1 (fun k hk => HO.out.shape.mant k hk)).mono ?_
        rintro e wx ⟨rfl, hwx⟩
        subst wx
        have hcd := HCell.out (p2 + 1 + 1) hxl
        have hsd : 49 ≤ tb T (p2 + 1 + 1) := (HO.out.shape.exp.1 rfl).2.2.2
        obtain ⟨cd, hcdv⟩ : ∃ cd, cd = tb T (p2 + 1 + 1) := ⟨_, rfl⟩
        rw [← hcdv] at hcd hsd
        clear hcdv
        have hd48 : (cd == 48) = false := by rw [beq_eq_false_iff_ne]; omega
        have hck := HCell.out (p2 + 1) (by omega)
        rcases (HO.out.shape.exp.1 rfl).2.1 with hsg | hsg
        · rw [hsg] at hck
          clear hsg
          go_wp2
          go_ret
          exact ⟨rfl, hB2⟩
        · rw [hsg] at hck
          clear hsg
          go_wp2
          go_ret
          exact ⟨rfl, hB2⟩

end Go.Proofs.Qxb6600072aDoor
