/-
  THE WALK of 'FnAppendDecimalReadsBack'.
-/
import Derived.Test.Qxb6600072aDoorParse
import Derived.Test.Qxb6600072aDoorDec
namespace Go.Proofs.Qxb6600072aDoor
open Go.RowKit

theorem Tab.at {W w : World} (h : Tab W) (hb : Below W.heap.size W w) : Tab w := fun w' hw => h w' (hb.trans (hw.mono hb.size))

theorem Own.seg {W w : World} {v : Value} {l : List UInt8} (h : Own W v l w) (hl : 0 < l.length) :
    ∃ g cap, v = .slice (some ⟨g, 0, none⟩) l.length cap ∧ W.heap.size ≤ g ∧ l.length ≤ cap ∧ cap ≤ maxLen ∧ Seg w g 0 l := by
  obtain ⟨g, cap, h1, h2, h3, h4, h5⟩ := h.form hl
  exact ⟨g, cap, h1, h2, h3, h4, fun k hk => by rw [Nat.zero_add, tb_eq _ _ hk]; exact h5 k hk⟩

theorem Seg.append {w : World} {b off : Nat} {l m : List UInt8} (h : Seg w b off (l ++ m)) : Seg w b off l ∧ Seg w b (off + l.length) m := by
  refine ⟨fun k hk => ?_, fun k hk => ?_⟩
  · have := h k (by rw [List.length_append]; omega)
    rw [tb_left _ _ _ hk] at this
    exact this
  · have := h (l.length + k) (by rw [List.length_append]; omega)
    rw [tb_right, ← Nat.add_assoc] at this
    exact this

theorem shp_pos {ds I : List UInt8} {F : Option (List UInt8)} {E : Option (Bool × List UInt8)} {exp : Int} (neg : Bool) (h : Form ds exp I F E) : 0 < (shp neg I F E).length := by
  have := h.intPos
  unfold shp
  simp only [List.length_append]; omega

theorem shp_len {ds I : List UInt8} {F : Option (List UInt8)} {E : Option (Bool × List UInt8)} {exp : Int} (neg : Bool) (h : Form ds exp I F E) : (shp neg I F E).length ≤ ds.length + 60 := by
  have h1 := h.size
  have h2 : (sg neg).length ≤ 1 := by cases neg <;> simp [sg]
  have h3 : (ex E).length ≤ 22 := by
    cases hE : E with
    | none => simp [ex]
    | some p =>
      have := h.expLen p.1 p.2 hE
      simp [ex]; omega
  unfold shp
  simp only [List.length_append]; omega

set_option maxRecDepth 100000 in
set_option maxHeartbeats 600000 in
theorem lawR_nil (neg : Bool) (b off cap : Nat) (ds : List UInt8) (exp : Int) (w : World) (hd : Seg w b off ds) (hp : 0 < ds.length) (hdl : ds.length ≤ 524288) (x0 : -9223372036854775808 ≤ exp) (x1 : exp ≤ 9223372036854775807) (htab : Tab w) :
    Calls Tryd.prog 3 #[.slice none 0 0, .bool neg, .slice (some ⟨b, off, none⟩) ds.length cap, .int .i64 exp] w fun e w' => e = .returned (.bool true) ∧ Below w.heap.size w w' := by
  go_enter Tryd.func3, Tryd.ntmps3
  go_wp2_with fail
  refine (bytes11 _ _ _ _ _ _ _ _ (by unfold maxLen; omega) (by unfold maxLen; omega) _).mono ?_
  rintro e wx ⟨⟨q, rfl⟩, hwx⟩
  subst wx
  cases q
  · go_wp2
    go_ret
    exact ⟨rfl, Below.refl _ _⟩
  · go_wp2_with fail
    refine (well_any b off cap ds w hp (by omega) hd).mono ?_
    rintro e wx ⟨hw, hwx⟩
    subst wx
    rcases hw with rfl | ⟨rfl, hwf⟩
    · go_wp2
      go_ret
      exact ⟨rfl, Below.refl _ _⟩
    · go_wp2_with fail
      refine (clone_nil _).mono ?_
      rintro e wx ⟨rfl, hwx⟩
      subst wx
      go_wp2_with fail
      refine (clone_any ⟨b, off, none⟩ cap ds w (by omega) hd.lies).mono ?_
      rintro e w2 ⟨rfl, hcl⟩
      obtain ⟨hB2, hs2, hseg2⟩ := hcl
      have hbuf : Buf w2 (.slice none 0 0) [] w2 := .inl ⟨Below.refl _ _, none, rfl, fun _ => rfl, fun b hb => (by cases hb)⟩
      go_wp2_with fail
      refine (zzdec_any _ [] ds neg exp _ w2 hbuf hwf hseg2 x0 x1 (by simp) (by omega) (htab.at hB2)).mono ?_
      rintro e w3 ⟨v3, I, F, E, rfl, hf, hO⟩
      have hBw : Below w.heap.size w w3 := hB2.trans (hO.below.mono hB2.size)
      have hseg3 := hseg2.later hO.below
      have htp := shp_pos neg hf
      have htl := shp_len neg hf
      obtain ⟨g, cp, hv, hg, hcp, hcm, hsegO⟩ := hO.seg (by rw [List.length_append]; omega)
      obtain ⟨hsl, hst⟩ := hsegO.append
      rw [List.length_append] at hcp hv
      unfold maxLen at hcm
      have HP : Hid (∀ wr, Below w3.heap.size w3 wr → ∀ cc, Calls Tryd.prog 15 #[.slice (some ⟨g, 0, none⟩) (shp neg I F E).length cc] wr fun e w' => Parsed wr neg ds exp e w') := fun wr hb cc => by
        have hq := hst.later hb
        rw [Nat.zero_add] at hq
        exact parse_any neg ds I F E exp g 0 cc wr hwf hf hq (by omega) x0 x1
      obtain ⟨tl, htl'⟩ : ∃ tl, tl = (shp neg I F E).length := ⟨_, rfl⟩
      rw [← htl'] at HP htp htl hcp hv
      clear htl' hO hsegO hst
      rw [hv]
      clear hv
      have hcp' : tl ≤ cp := by simpa using hcp
      simp only [List.length_nil, Nat.zero_add]
      clear hcp hsl
      go_wp2
      go_loopw [10] (fun i wr => i = .int .i64 0 ∧ Below w3.heap.size w3 wr) (fun i _ => 0)
      case atStart => exact ⟨rfl, Below.refl _ _⟩
      case round =>
        obtain ⟨rfl, hr⟩ := hrel
        go_wp2_with fail
        refine (HP.out wr hr _).mono ?_
        rintro e w5 ⟨hB5, h, f, c5, c3, c4, rfl, hsig⟩
        have hseg5 := (hseg3.later hr).later hB5
        have hB5' : Below w.heap.size w w5 := (hBw.trans (hr.mono hBw.size)).trans (hB5.mono (by have := hBw.size; have := hr.size; omega))
        go_wp2_with fail
        refine (same_any _ _ _ _ _ _ ds _ (by omega) (by exact hsig.later ((Below.refl _ _).alloc (Nat.le_refl _) _)) (by exact hseg5.later ((Below.refl _ _).alloc (Nat.le_refl _) _))).mono ?_
        rintro e w6 ⟨rfl, hB6⟩
        go_wp2
        go_ret
        have hz := hB5'.size
        exact ⟨rfl, (hB5'.alloc hz _).trans (hB6.mono (by simp; omega))⟩

set_option maxRecDepth 100000 in
set_option maxHeartbeats 600000 in
theorem lawR_buf (a0 : Addr) (cap0 : Nat) (l : List UInt8) (neg : Bool) (b off cap : Nat) (ds : List UInt8) (exp : Int) (w : World) (hl0 : Lies w a0 l) (hll : l.length ≤ 524288) (hd : Seg w b off ds) (hp : 0 < ds.length) (hdl : ds.length ≤ 524288) (x0 : -9223372036854775808 ≤ exp) (x1 : exp ≤ 9223372036854775807) (htab : Tab w) :
    Calls Tryd.prog 3 #[.slice (some a0) l.length cap0, .bool neg, .slice (some ⟨b, off, none⟩) ds.length cap, .int .i64 exp] w fun e w' => e = .returned (.bool true) ∧ Below w.heap.size w w' := by
  go_enter Tryd.func3, Tryd.ntmps3
  go_wp2_with fail
  refine (bytes11 _ _ _ _ _ _ _ _ (by unfold maxLen; omega) (by unfold maxLen; omega) _).mono ?_
  rintro e wx ⟨⟨q, rfl⟩, hwx⟩
  subst wx
  cases q
  · go_wp2
    go_ret
    exact ⟨rfl, Below.refl _ _⟩
  · go_wp2_with fail
    refine (well_any b off cap ds w hp (by omega) hd).mono ?_
    rintro e wx ⟨hw, hwx⟩
    subst wx
    rcases hw with rfl | ⟨rfl, hwf⟩
    · go_wp2
      go_ret
      exact ⟨rfl, Below.refl _ _⟩
    · go_wp2_with fail
      refine (clone_any a0 cap0 l w (by omega) hl0).mono ?_
      rintro e w1 ⟨rfl, hcl1⟩
      obtain ⟨hB1, hs1, hseg1⟩ := hcl1
      go_wp2_with fail
      refine (clone_any ⟨b, off, none⟩ cap ds w1 (by omega) (hd.later hB1).lies).mono ?_
      rintro e w2 ⟨rfl, hcl⟩
      obtain ⟨hB2, hs2, hseg2⟩ := hcl
      have hsegb : Seg w2 w.heap.size 0 l := hseg1.later hB2
      have hbuf : Buf w2 (.slice (some ⟨w.heap.size, 0, none⟩) l.length l.length) l w2 := .inl ⟨Below.refl _ _, some ⟨w.heap.size, 0, none⟩, rfl, fun h => (by cases h), fun b hb => (by cases hb; exact hsegb.lies)⟩
      go_wp2_with fail
      refine (zzdec_any _ l ds neg exp _ w2 hbuf hwf hseg2 x0 x1 (by omega) (by omega) (htab.at (hB1.trans (hB2.mono (by omega))))).mono ?_
      rintro e w3 ⟨v3, I, F, E, rfl, hf, hO⟩
      have hBw : Below w.heap.size w w3 := (hB1.trans (hB2.mono (by omega))).trans (hO.below.mono (by omega))
      have hsegb3 := hsegb.later hO.below
      have hseg3 := hseg2.later hO.below
      have htp := shp_pos neg hf
      have htl := shp_len neg hf
      obtain ⟨g, cp, hv, hg, hcp, hcm, hsegO⟩ := hO.seg (by rw [List.length_append]; omega)
      obtain ⟨hsl, hst⟩ := hsegO.append
      rw [List.length_append] at hcp hv
      unfold maxLen at hcm
      have HP : Hid (∀ wr, Below w3.heap.size w3 wr → ∀ cc, Calls Tryd.prog 15 #[.slice (some ⟨g, l.length, none⟩) (shp neg I F E).length cc] wr fun e w' => Parsed wr neg ds exp e w') := fun wr hb cc => by
        have hq := hst.later hb
        rw [Nat.zero_add] at hq
        exact parse_any neg ds I F E exp g l.length cc wr hwf hf hq (by omega) x0 x1
      obtain ⟨tl, htl'⟩ : ∃ tl, tl = (shp neg I F E).length := ⟨_, rfl⟩
      rw [← htl'] at HP htp htl hcp hv
      clear htl' hO hsegO hst
      rw [hv]
      clear hv
      have HL : Hid (∀ wr, Below w3.heap.size w3 wr → ∀ k, k < l.length → wr.cell? ⟨g, k, none⟩ = some (.int .u8 (tb l k)) ∧ wr.cell? ⟨w.heap.size, k, none⟩ = some (.int .u8 (tb l k))) := fun wr hb k hk => by
        have h1 := hsl.later hb k hk
        have h2 := hsegb3.later hb k hk
        rw [Nat.zero_add] at h1 h2
        exact ⟨h1, h2⟩
      clear hsl hsegb3 hsegb hseg1
      go_wp2
      go_loopw [10] (fun i wr => ∃ k : Nat, k ≤ l.length ∧ i = .int .i64 k ∧ Below w3.heap.size w3 wr) (fun i _ => l.length - (intOf i).toNat)
      case atStart => exact ⟨0, Nat.zero_le _, rfl, Below.refl _ _⟩
      case round =>
        obtain ⟨k, hk, rfl, hr⟩ := hrel
        by_cases hlt : k < l.length
        · obtain ⟨g1, g2⟩ := HL.out wr hr k hlt
          have hlt' : (k : Int) < (l.length : Int) := by omega
          have hlt2 : (k : Int) < (l.length : Int) + (tl : Int) := by omega
          obtain ⟨d, hd⟩ : ∃ d, d = tb l k := ⟨_, rfl⟩
          rw [← hd] at g1 g2
          clear hd
          go_wp2
          go_quiet (fail)
          go_wp2
          go_roundw
          case rel => exact ⟨k + 1, by omega, by go_num, below_drewN hr _⟩
          case measure => simp [intOf]; omega
        · go_wp2_with fail
          refine (HP.out wr hr _).mono ?_
          rintro e w5 ⟨hB5, h, f, c5, c3, c4, rfl, hsig⟩
          have hseg5 := (hseg3.later hr).later hB5
          have hB5' : Below w.heap.size w w5 := (hBw.trans (hr.mono hBw.size)).trans (hB5.mono (by have := hBw.size; have := hr.size; omega))
          go_wp2_with fail
          refine (same_any _ _ _ _ _ _ ds _ (by omega) (by exact hsig.later ((Below.refl _ _).alloc (Nat.le_refl _) _)) (by exact hseg5.later ((Below.refl _ _).alloc (Nat.le_refl _) _))).mono ?_
          rintro e w6 ⟨rfl, hB6⟩
          go_wp2
          go_ret
          have hz := hB5'.size
          exact ⟨rfl, (hB5'.alloc hz _).trans (hB6.mono (by simp; omega))⟩

end Go.Proofs.Qxb6600072aDoor
