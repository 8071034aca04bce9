/-
  THE WALK of 'recB1Parse' at the text of a number: no exponent.
-/
import Derived.Test.Qxb6600072aDoorPInv
set_option linter.unusedVariables false
namespace Go.Proofs.Qxb6600072aDoor
open Go.RowKit

/-- What 'recB1Parse' leaves at the text of a number. -/
def Parsed (w : World) (neg : Bool) (ds : List UInt8) (x : Int) (e : Ending) (w' : World) : Prop :=
  Below w.heap.size w w' ∧ ∃ h f cp c3 c4, e = .returned (.tuple #[.agg #[.bool neg, .slice (some ⟨h, f, none⟩) ds.length cp, .int .i64 x, .bool c3, .bool c4], .bool true]) ∧ Seg w' h f ds

theorem seg_setCell {w : World} {g o : Nat} {l : List UInt8} (h : Seg w g o l) {b : Nat} (hb : b ≠ g) (j : Nat) (u : Value) : Seg (w.setCell ⟨b, j, none⟩ u) g o l := fun k hk =>
  (World.cell?_of_block (a := ⟨g, o + k, none⟩) (Below.heap_setCell w ⟨b, j, none⟩ u g (Ne.symm hb))).trans (h k hk)

theorem seg_mid {w : World} {g a : Nat} {D ds : List UInt8} (h : Seg w g 0 D) (hl : a + ds.length ≤ D.length) (hm : ∀ j, j < ds.length → tb D (a + j) = tb ds j) : Seg w g a ds := fun j hj => by
  have := h (a + j) (by omega)
  rw [Nat.zero_add, hm j hj] at this
  exact this

theorem parsed_of {w wr : World} {neg pt ex : Bool} {v : Value} {D ds : List UInt8} {g a n1 c1 : Nat} {x xx : Int} {s1 x1 y0 y1 y2 y3 y4 : Value} {c3 c4 : Bool}
    (hr : PInv w neg pt ex v D wr) (hg : w.heap.size + 2 ≤ g) (hs : Seg wr g 0 D) (hm : ∀ j, j < ds.length → tb D (a + j) = tb ds j) (hl : a + ds.length ≤ D.length) (hn : n1 = ds.length) (hx : xx = x) :
    Parsed w neg ds x (.returned (.tuple #[.agg #[.bool neg, .slice (some ⟨g, a, none⟩) n1 c1, .int .i64 xx, .bool c3, .bool c4], .bool true]))
      (((((((wr.setCell ⟨w.heap.size + 1, 1, none⟩ s1).setCell ⟨w.heap.size + 1, 2, none⟩ x1).setCell ⟨w.heap.size, 0, none⟩ y0).setCell ⟨w.heap.size, 1, none⟩ y1).setCell ⟨w.heap.size, 2, none⟩ y2).setCell ⟨w.heap.size, 3, none⟩ y3).setCell ⟨w.heap.size, 4, none⟩ y4) := by
  subst hn hx
  refine ⟨?_, g, a, c1, c3, c4, rfl, seg_mid ?_ hl hm⟩
  · exact ((((((hr.below.setCell (by simp only []; omega) _).setCell (by simp only []; omega) _).setCell (Nat.le_refl _) _).setCell (Nat.le_refl _) _).setCell (Nat.le_refl _) _).setCell (Nat.le_refl _) _).setCell (Nat.le_refl _) _
  · exact seg_setCell (seg_setCell (seg_setCell (seg_setCell (seg_setCell (seg_setCell (seg_setCell hs (by omega) _ _) (by omega) _ _) (by omega) _ _) (by omega) _ _) (by omega) _ _) (by omega) _ _) (by omega) _ _

set_option maxRecDepth 100000 in
set_option maxHeartbeats 2000000 in
theorem parse_pn (M D ds dE : List UInt8) (k0 a : Nat) (pt : Bool) (x : Int) (b off cap : Nat) (w : World) (hT : Seg w b off (sg false ++ (M ++ ex none))) (hM : Mant M D k0 pt) (hC : Core D ds a) (hwf : WF ds) (hlen : M.length ≤ 2097152)
    (hx : (k0 : Int) - 1 - a + ev none = x) (x0 : -9223372036854775808 ≤ x) (x1 : x ≤ 9223372036854775807) :
    Calls Tryd.prog 15 #[.slice (some ⟨b, off, none⟩) (sg false ++ (M ++ ex none)).length cap] w fun e w' => Parsed w false ds x e w' := by
  obtain ⟨m, hm⟩ : ∃ m, m = M.length := ⟨_, rfl⟩
  have hLn : (sg false ++ (M ++ ex none)).length = m := by simp [sg, ex, hm]
  have hD : D.length ≤ m := by rw [← hM.digits, hm]; exact sd_len M _
  have hK : k0 ≤ m := by rw [← hM.before, hm]; exact sk_len M _
  have hpos := hwf.pos
  have hlenD := hC.len
  have HMid : Hid (∀ j, j < ds.length → tb D (a + j) = tb ds j) := hC.mid
  have HLead : Hid (∀ j, j < a → tb D j = 48) := hC.lead
  have HTail : Hid (∀ j, a + ds.length ≤ j → j < D.length → tb D j = 48) := hC.tail
  have HHead : Hid (tb ds 0 ≠ 48 ∧ tb ds (ds.length - 1) ≠ 48) := ⟨hwf.head, hwf.last⟩
  have HC : Hid (∀ wr, Below w.heap.size w wr → ∀ j, j < m → wr.cell? ⟨b, off + j, none⟩ = some (.int .u8 (tb M j))) := fun wr hb j hj => by
    have := hT.later hb (j) (by rw [hLn]; omega)
    rw [this]
    congr 2
    show tb ([] ++ _) j = _
    rw [List.nil_append, tb_left _ _ _ (by omega)]
  have HE : Hid (∀ j, j < m → (48 ≤ tb M j ∧ tb M j ≤ 57) ∨ (tb M j = 46 ∧ sp M j = false)) := by rw [hm]; exact hM.each
  have HD : Hid (sd M m = D ∧ sk M m = k0 ∧ sp M m = pt) := by rw [hm]; exact ⟨hM.digits, hM.before, hM.point⟩
  have HB : Hid (∀ j, M.getD j 0 = M.getD j 0 ∧ tb M j = ((M.getD j 0).toNat : Int)) := fun j => ⟨rfl, rfl⟩
  have HS : Hid (∀ j, sk M j ≤ j ∧ (sd M j).length ≤ j) := fun j => ⟨sk_len M j, sd_len M j⟩
  have HX2 : Hid ((k0 : Int) - 1 - a + ev none = x) := hx
  rw [hLn]
  rw [← hm] at hlen
  clear hm hM hT hLn hx
  have hm0 : (0 : Int) < (m : Int) := by omega
  have hf0 := HE.out 0 (by omega)
  have hc0 := HC.out w (Below.refl _ _) 0 (by omega)
  obtain ⟨c, hc⟩ : ∃ c, c = tb M 0 := ⟨_, rfl⟩
  rw [← hc] at hf0 hc0
  clear hc
  rw [Nat.add_zero] at hc0
  have hbl : b < w.heap.size := World.block_lt_of_cell? _ _ hc0
  have hn45 : (c == 45) = false := by simp; omega
  clear hf0
  go_enter Tryd.func15, Tryd.ntmps15
  go_wp2
  go_loopw [5, 6, 7] (fun i v kk wr => ∃ j : Nat, j ≤ m ∧ i = .int .i64 ((j : Int)) ∧ kk = .int .i64 (sk M j : Int) ∧ PInv w false (sp M j) false v (sd M j) wr) (fun i _ _ _ => (m + 2 - (intOf i).toNat))
  case atStart => exact ⟨0, Nat.zero_le _, rfl, rfl, PInv.start w false⟩
  case round =>
    obtain ⟨j, hj, rfl, rfl, hr⟩ := hrel
    have hsz := hr.size
    obtain ⟨hsk, hsd⟩ := HS.out j
    by_cases hjm : j < m
    · have hcell := HC.out wr hr.below j hjm
      have hb := (HB.out j).2
      rcases HE.out j hjm with ⟨hy0, hy1⟩ | ⟨hdot, hsp⟩
      · have hsd2 := (sd_yes hy0 hy1).1
        have hsp2 := (sd_yes hy0 hy1).2
        cases hsp : sp M j
        · have hsk2 := sk_before hy0 hy1 hsp
          rw [hsp] at hr
          have HR : Hid (sd M (j + 1) = sd M j ++ [M.getD j 0] ∧ sp M (j + 1) = false ∧ sk M (j + 1) = sk M j + 1) := ⟨hsd2, hsp2.trans hsp, hsk2⟩
          have HBj : Hid (tb M j = ((M.getD j 0).toNat : Int)) := hb
          obtain ⟨c, hc⟩ : ∃ c, c = tb M j := ⟨_, rfl⟩
          have HCj : Hid (c = tb M j) := hc
          rw [← hc] at hcell hy0 hy1
          clear hc hsd2 hsp2 hsp hsk2 hb
          go_wp2_with (first | (go_at_call 34; refine (isDigit_yes _ (by assumption) (by assumption) _).mono ?_; rintro e wx ⟨rfl, hwx⟩; subst wx) | (at_builtin; refine wpList_pinv_byte bytesT rfl (.tmp 40) (.tmp 42) rfl _ (sd M j) rfl hr _ (M.getD j 0) (HCj.out.trans HBj.out) rfl (by omega) ?_; intro v2 w2 hP2; have hq := hP2.cells.2.2.2.1))
          go_roundw
          case rel => exact ⟨j + 1, by omega, by go_num, by rw [HR.out.2.2]; go_num, by rw [HR.out.1, HR.out.2.1]; exact hP2⟩
          case measure => simp [intOf]; omega
        · have hsk2 := sk_behind hy0 hy1 hsp
          rw [hsp] at hr
          have HR : Hid (sd M (j + 1) = sd M j ++ [M.getD j 0] ∧ sp M (j + 1) = true ∧ sk M (j + 1) = sk M j) := ⟨hsd2, hsp2.trans hsp, hsk2⟩
          have HBj : Hid (tb M j = ((M.getD j 0).toNat : Int)) := hb
          obtain ⟨c, hc⟩ : ∃ c, c = tb M j := ⟨_, rfl⟩
          have HCj : Hid (c = tb M j) := hc
          rw [← hc] at hcell hy0 hy1
          clear hc hsd2 hsp2 hsp hsk2 hb
          go_wp2_with (first | (go_at_call 34; refine (isDigit_yes _ (by assumption) (by assumption) _).mono ?_; rintro e wx ⟨rfl, hwx⟩; subst wx) | (at_builtin; refine wpList_pinv_byte bytesT rfl (.tmp 40) (.tmp 42) rfl _ (sd M j) rfl hr _ (M.getD j 0) (HCj.out.trans HBj.out) rfl (by omega) ?_; intro v2 w2 hP2; have hq := hP2.cells.2.2.2.1))
          go_roundw
          case rel => exact ⟨j + 1, by omega, by go_num, by rw [HR.out.2.2], by rw [HR.out.1, HR.out.2.1]; exact hP2⟩
          case measure => simp [intOf]; omega
      · rw [hsp] at hr
        have HR : Hid (sd M (j + 1) = sd M j ∧ sp M (j + 1) = true ∧ sk M (j + 1) = sk M j) := sd_no (by omega)
        rw [hdot] at hcell
        have hq := hr.cells.2.2.2.1
        have hfz := hr.free 3
        clear hdot hsp hb
        go_wp2_with (go_at_call 34; refine (isDigit_no _ (by omega) _).mono ?_; rintro e wx ⟨rfl, hwx⟩; subst wx)
        go_roundw
        case rel => exact ⟨j + 1, by omega, by go_num, by rw [HR.out.2.2], by rw [HR.out.1, HR.out.2.1]; exact hr.point⟩
        case measure => simp [intOf]; omega
    · obtain rfl : m = j := by omega
      rw [HD.out.1, HD.out.2.2] at hr
      rw [HD.out.2.1]
      clear hsk hsd hjm hj
      obtain ⟨g, cp, hv, hg, hcp, hcm, hseg⟩ := hr.form (show 0 < D.length by omega)
      unfold maxLen at hcm
      rw [hv]
      rw [hv] at hr
      clear hv
      have hDz : ((D.length : Int) == 0) = false := by rw [beq_eq_false_iff_ne]; omega
      have HSeg : Hid (∀ k, k < D.length → wr.cell? ⟨g, k, none⟩ = some (.int .u8 (tb D k))) := fun k hk => by
        have := hseg k hk
        rw [Nat.zero_add] at this
        exact this
      obtain ⟨q0, q1, q2, q3, q4⟩ := hr.cells
      obtain ⟨r0, r1, r2, r3, r4⟩ := hr.resCells
      have hfz := hr.free
      have hfr := hr.resFree
      have HSeg0 : Hid (Seg wr g 0 D) := hseg
      clear hseg
      go_wp2
      go_loop [14] (fun f => ∃ n : Nat, n ≤ a ∧ f = .int .i64 n) (fun f => a + 1 - (intOf f).toNat)
      case atStart => exact ⟨0, Nat.zero_le _, rfl⟩
      case round =>
        obtain ⟨n, hn, rfl⟩ := hrel
        have hnD : n < D.length := by omega
        have hcn := HSeg.out n hnD
        by_cases hna : n < a
        · rw [HLead.out n hna] at hcn
          go_wp2
          go_round
          case rel => exact ⟨n + 1, by omega, by go_num⟩
          case measure => simp [intOf]; omega
        · obtain rfl : a = n := by omega
          have hne : (tb D a == 48) = false := by
            have h1 := HMid.out 0 hpos
            rw [Nat.add_zero] at h1
            rw [h1]
            simpa using HHead.out.1
          obtain ⟨c2, hc2⟩ : ∃ c2, c2 = tb D a := ⟨_, rfl⟩
          rw [← hc2] at hcn hne
          clear hc2
          have haD : ((a : Int) == (D.length : Int)) = false := by simp; omega
          go_wp2
          go_loop [15] (fun t => ∃ n : Nat, a + ds.length ≤ n ∧ n ≤ D.length ∧ t = .int .i64 n) (fun t => (intOf t).toNat)
          case atStart => exact ⟨D.length, hlenD, Nat.le_refl _, rfl⟩
          case round =>
            obtain ⟨n, hn1, hn2, rfl⟩ := hrel
            obtain ⟨q, rfl⟩ : ∃ q, n = q + 1 := ⟨n - 1, by omega⟩
            have hcq := HSeg.out q (by omega)
            by_cases hqa : a + ds.length ≤ q
            · rw [HTail.out q hqa (by omega)] at hcq
              go_wp2
              go_round
              case rel => exact ⟨q, by omega, by omega, by go_num⟩
              case measure => simp [intOf]
            · have hne2 : (tb D q == 48) = false := by
                have h1 := HMid.out (ds.length - 1) (by omega)
                rw [show a + (ds.length - 1) = q from by omega] at h1
                rw [h1]
                simpa using HHead.out.2
              obtain ⟨c3, hc3⟩ : ∃ c3, c3 = tb D q := ⟨_, rfl⟩
              rw [← hc3] at hcq hne2
              clear hc3
              go_wp2
              refine bodyPost_ret (v := .tuple #[.agg #[.bool false, .slice (some ⟨g, a, none⟩) (q + 1 - a) (cp - a), .int .i64 ((k0 : Int) - 1 - a), .bool pt, .bool false], .bool true]) (by simp [results, Tryd.results15, go_sem, r0, r1, r2, r3, r4]) rfl ?_
              exact parsed_of hr hg HSeg0.out HMid.out (by omega) (by omega) (by rw [← HX2.out]; simp [ev])

set_option maxRecDepth 100000 in
set_option maxHeartbeats 2000000 in
theorem parse_mn (M D ds dE : List UInt8) (k0 a : Nat) (pt : Bool) (x : Int) (b off cap : Nat) (w : World) (hT : Seg w b off (sg true ++ (M ++ ex none))) (hM : Mant M D k0 pt) (hC : Core D ds a) (hwf : WF ds) (hlen : M.length ≤ 2097152)
    (hx : (k0 : Int) - 1 - a + ev none = x) (x0 : -9223372036854775808 ≤ x) (x1 : x ≤ 9223372036854775807) :
    Calls Tryd.prog 15 #[.slice (some ⟨b, off, none⟩) (sg true ++ (M ++ ex none)).length cap] w fun e w' => Parsed w true ds x e w' := by
  obtain ⟨m, hm⟩ : ∃ m, m = M.length := ⟨_, rfl⟩
  have hLn : (sg true ++ (M ++ ex none)).length = m + 1 := by simp [sg, ex, hm]; try omega
  have hD : D.length ≤ m := by rw [← hM.digits, hm]; exact sd_len M _
  have hK : k0 ≤ m := by rw [← hM.before, hm]; exact sk_len M _
  have hpos := hwf.pos
  have hlenD := hC.len
  have HMid : Hid (∀ j, j < ds.length → tb D (a + j) = tb ds j) := hC.mid
  have HLead : Hid (∀ j, j < a → tb D j = 48) := hC.lead
  have HTail : Hid (∀ j, a + ds.length ≤ j → j < D.length → tb D j = 48) := hC.tail
  have HHead : Hid (tb ds 0 ≠ 48 ∧ tb ds (ds.length - 1) ≠ 48) := ⟨hwf.head, hwf.last⟩
  have HC : Hid (∀ wr, Below w.heap.size w wr → ∀ j, j < m → wr.cell? ⟨b, off + (j + 1), none⟩ = some (.int .u8 (tb M j))) := fun wr hb j hj => by
    have := hT.later hb (j + 1) (by rw [hLn]; omega)
    rw [this]
    congr 2
    show tb ([45] ++ _) (j + 1) = _
    rw [Nat.add_comm j 1]; rw [show (1 : Nat) + j = [(45 : UInt8)].length + j from rfl, tb_right, tb_left _ _ _ (by omega)]
  have HSG : Hid (w.cell? ⟨b, off, none⟩ = some (.int .u8 45)) := by
    have := hT 0 (by rw [hLn]; omega)
    rw [Nat.add_zero] at this
    exact this
  have HE : Hid (∀ j, j < m → (48 ≤ tb M j ∧ tb M j ≤ 57) ∨ (tb M j = 46 ∧ sp M j = false)) := by rw [hm]; exact hM.each
  have HD : Hid (sd M m = D ∧ sk M m = k0 ∧ sp M m = pt) := by rw [hm]; exact ⟨hM.digits, hM.before, hM.point⟩
  have HB : Hid (∀ j, M.getD j 0 = M.getD j 0 ∧ tb M j = ((M.getD j 0).toNat : Int)) := fun j => ⟨rfl, rfl⟩
  have HS : Hid (∀ j, sk M j ≤ j ∧ (sd M j).length ≤ j) := fun j => ⟨sk_len M j, sd_len M j⟩
  have HX2 : Hid ((k0 : Int) - 1 - a + ev none = x) := hx
  rw [hLn]
  rw [← hm] at hlen
  clear hm hM hT hLn hx
  have hm0 : (0 : Int) < (m : Int) := by omega
  have hf0 := HE.out 0 (by omega)
  have hc0 := HC.out w (Below.refl _ _) 0 (by omega)
  obtain ⟨c, hc⟩ : ∃ c, c = tb M 0 := ⟨_, rfl⟩
  rw [← hc] at hf0 hc0
  clear hc
  have hs0 : w.cell? ⟨b, off, none⟩ = some (.int .u8 45) := HSG.out
  have hbl : b < w.heap.size := World.block_lt_of_cell? _ _ hc0
  clear hf0 hc0
  go_enter Tryd.func15, Tryd.ntmps15
  go_wp2
  go_loopw [5, 6, 7] (fun i v kk wr => ∃ j : Nat, j ≤ m ∧ i = .int .i64 ((j : Int) + 1) ∧ kk = .int .i64 (sk M j : Int) ∧ PInv w true (sp M j) false v (sd M j) wr) (fun i _ _ _ => (m + 2 - (intOf i).toNat))
  case atStart => exact ⟨0, Nat.zero_le _, rfl, rfl, PInv.start w true⟩
  case round =>
    obtain ⟨j, hj, rfl, rfl, hr⟩ := hrel
    have hsz := hr.size
    obtain ⟨hsk, hsd⟩ := HS.out j
    by_cases hjm : j < m
    · have hcell := HC.out wr hr.below j hjm
      have hb := (HB.out j).2
      rcases HE.out j hjm with ⟨hy0, hy1⟩ | ⟨hdot, hsp⟩
      · have hsd2 := (sd_yes hy0 hy1).1
        have hsp2 := (sd_yes hy0 hy1).2
        cases hsp : sp M j
        · have hsk2 := sk_before hy0 hy1 hsp
          rw [hsp] at hr
          have HR : Hid (sd M (j + 1) = sd M j ++ [M.getD j 0] ∧ sp M (j + 1) = false ∧ sk M (j + 1) = sk M j + 1) := ⟨hsd2, hsp2.trans hsp, hsk2⟩
          have HBj : Hid (tb M j = ((M.getD j 0).toNat : Int)) := hb
          obtain ⟨c, hc⟩ : ∃ c, c = tb M j := ⟨_, rfl⟩
          have HCj : Hid (c = tb M j) := hc
          rw [← hc] at hcell hy0 hy1
          clear hc hsd2 hsp2 hsp hsk2 hb
          go_wp2_with (first | (go_at_call 34; refine (isDigit_yes _ (by assumption) (by assumption) _).mono ?_; rintro e wx ⟨rfl, hwx⟩; subst wx) | (at_builtin; refine wpList_pinv_byte bytesT rfl (.tmp 40) (.tmp 42) rfl _ (sd M j) rfl hr _ (M.getD j 0) (HCj.out.trans HBj.out) rfl (by omega) ?_; intro v2 w2 hP2; have hq := hP2.cells.2.2.2.1))
          go_roundw
          case rel => exact ⟨j + 1, by omega, by go_num, by rw [HR.out.2.2]; go_num, by rw [HR.out.1, HR.out.2.1]; exact hP2⟩
          case measure => simp [intOf]; omega
        · have hsk2 := sk_behind hy0 hy1 hsp
          rw [hsp] at hr
          have HR : Hid (sd M (j + 1) = sd M j ++ [M.getD j 0] ∧ sp M (j + 1) = true ∧ sk M (j + 1) = sk M j) := ⟨hsd2, hsp2.trans hsp, hsk2⟩
          have HBj : Hid (tb M j = ((M.getD j 0).toNat : Int)) := hb
          obtain ⟨c, hc⟩ : ∃ c, c = tb M j := ⟨_, rfl⟩
          have HCj : Hid (c = tb M j) := hc
          rw [← hc] at hcell hy0 hy1
          clear hc hsd2 hsp2 hsp hsk2 hb
          go_wp2_with (first | (go_at_call 34; refine (isDigit_yes _ (by assumption) (by assumption) _).mono ?_; rintro e wx ⟨rfl, hwx⟩; subst wx) | (at_builtin; refine wpList_pinv_byte bytesT rfl (.tmp 40) (.tmp 42) rfl _ (sd M j) rfl hr _ (M.getD j 0) (HCj.out.trans HBj.out) rfl (by omega) ?_; intro v2 w2 hP2; have hq := hP2.cells.2.2.2.1))
          go_roundw
          case rel => exact ⟨j + 1, by omega, by go_num, by rw [HR.out.2.2], by rw [HR.out.1, HR.out.2.1]; exact hP2⟩
          case measure => simp [intOf]; omega
      · rw [hsp] at hr
        have HR : Hid (sd M (j + 1) = sd M j ∧ sp M (j + 1) = true ∧ sk M (j + 1) = sk M j) := sd_no (by omega)
        rw [hdot] at hcell
        have hq := hr.cells.2.2.2.1
        have hfz := hr.free 3
        clear hdot hsp hb
        go_wp2_with (go_at_call 34; refine (isDigit_no _ (by omega) _).mono ?_; rintro e wx ⟨rfl, hwx⟩; subst wx)
        go_roundw
        case rel => exact ⟨j + 1, by omega, by go_num, by rw [HR.out.2.2], by rw [HR.out.1, HR.out.2.1]; exact hr.point⟩
        case measure => simp [intOf]; omega
    · obtain rfl : m = j := by omega
      rw [HD.out.1, HD.out.2.2] at hr
      rw [HD.out.2.1]
      clear hsk hsd hjm hj
      obtain ⟨g, cp, hv, hg, hcp, hcm, hseg⟩ := hr.form (show 0 < D.length by omega)
      unfold maxLen at hcm
      rw [hv]
      rw [hv] at hr
      clear hv
      have hDz : ((D.length : Int) == 0) = false := by rw [beq_eq_false_iff_ne]; omega
      have HSeg : Hid (∀ k, k < D.length → wr.cell? ⟨g, k, none⟩ = some (.int .u8 (tb D k))) := fun k hk => by
        have := hseg k hk
        rw [Nat.zero_add] at this
        exact this
      obtain ⟨q0, q1, q2, q3, q4⟩ := hr.cells
      obtain ⟨r0, r1, r2, r3, r4⟩ := hr.resCells
      have hfz := hr.free
      have hfr := hr.resFree
      have HSeg0 : Hid (Seg wr g 0 D) := hseg
      clear hseg
      go_wp2
      go_loop [14] (fun f => ∃ n : Nat, n ≤ a ∧ f = .int .i64 n) (fun f => a + 1 - (intOf f).toNat)
      case atStart => exact ⟨0, Nat.zero_le _, rfl⟩
      case round =>
        obtain ⟨n, hn, rfl⟩ := hrel
        have hnD : n < D.length := by omega
        have hcn := HSeg.out n hnD
        by_cases hna : n < a
        · rw [HLead.out n hna] at hcn
          go_wp2
          go_round
          case rel => exact ⟨n + 1, by omega, by go_num⟩
          case measure => simp [intOf]; omega
        · obtain rfl : a = n := by omega
          have hne : (tb D a == 48) = false := by
            have h1 := HMid.out 0 hpos
            rw [Nat.add_zero] at h1
            rw [h1]
            simpa using HHead.out.1
          obtain ⟨c2, hc2⟩ : ∃ c2, c2 = tb D a := ⟨_, rfl⟩
          rw [← hc2] at hcn hne
          clear hc2
          have haD : ((a : Int) == (D.length : Int)) = false := by simp; omega
          go_wp2
          go_loop [15] (fun t => ∃ n : Nat, a + ds.length ≤ n ∧ n ≤ D.length ∧ t = .int .i64 n) (fun t => (intOf t).toNat)
          case atStart => exact ⟨D.length, hlenD, Nat.le_refl _, rfl⟩
          case round =>
            obtain ⟨n, hn1, hn2, rfl⟩ := hrel
            obtain ⟨q, rfl⟩ : ∃ q, n = q + 1 := ⟨n - 1, by omega⟩
            have hcq := HSeg.out q (by omega)
            by_cases hqa : a + ds.length ≤ q
            · rw [HTail.out q hqa (by omega)] at hcq
              go_wp2
              go_round
              case rel => exact ⟨q, by omega, by omega, by go_num⟩
              case measure => simp [intOf]
            · have hne2 : (tb D q == 48) = false := by
                have h1 := HMid.out (ds.length - 1) (by omega)
                rw [show a + (ds.length - 1) = q from by omega] at h1
                rw [h1]
                simpa using HHead.out.2
              obtain ⟨c3, hc3⟩ : ∃ c3, c3 = tb D q := ⟨_, rfl⟩
              rw [← hc3] at hcq hne2
              clear hc3
              go_wp2
              refine bodyPost_ret (v := .tuple #[.agg #[.bool true, .slice (some ⟨g, a, none⟩) (q + 1 - a) (cp - a), .int .i64 ((k0 : Int) - 1 - a), .bool pt, .bool false], .bool true]) (by simp [results, Tryd.results15, go_sem, r0, r1, r2, r3, r4]) rfl ?_
              exact parsed_of hr hg HSeg0.out HMid.out (by omega) (by omega) (by rw [← HX2.out]; simp [ev])

end Go.Proofs.Qxb6600072aDoor
