/-
  THE WALK of 'recB1Parse' at the text of a number: an exponent, no minus ahead.
-/
import Derived.Test.Qxb6600072aDoorParseA
set_option linter.unusedVariables false
namespace Go.Proofs.Qxb6600072aDoor
open Go.RowKit

set_option maxRecDepth 100000 in
set_option maxHeartbeats 2000000 in
theorem parse_pp (M D ds dE : List UInt8) (k0 a : Nat) (pt : Bool) (x : Int) (b off cap : Nat) (w : World) (hT : Seg w b off (sg false ++ (M ++ ex (some (false, dE))))) (hM : Mant M D k0 pt) (hC : Core D ds a) (hwf : WF ds) (hlen : M.length ≤ 2097152)
    (hx : (k0 : Int) - 1 - a + ev (some (false, dE)) = x) (x0 : -9223372036854775808 ≤ x) (x1 : x ≤ 9223372036854775807) (hdD : ∀ c ∈ dE, isD c = true) (hd0 : 0 < dE.length) (hd1 : dE.length ≤ 2097152) (hv1 : 1 ≤ val dE) (hv2 : val dE < 9223372036854775808) :
    Calls Tryd.prog 15 #[.slice (some ⟨b, off, none⟩) (sg false ++ (M ++ ex (some (false, dE)))).length cap] w fun e w' => Parsed w false ds x e w' := by
  obtain ⟨m, hm⟩ : ∃ m, m = M.length := ⟨_, rfl⟩
  obtain ⟨dl, hdl⟩ : ∃ dl, dl = dE.length := ⟨_, rfl⟩
  have hLn : (sg false ++ (M ++ ex (some (false, dE)))).length = m + 2 + dl := by simp [sg, ex, hm, hdl]; try omega
  have hD : D.length ≤ m := by rw [← hM.digits, hm]; exact sd_len M _
  have hK : k0 ≤ m := by rw [← hM.before, hm]; exact sk_len M _
  have hpos := hwf.pos
  have hlenD := hC.len
  have HMid : Hid (∀ j, j < ds.length → tb D (a + j) = tb ds j) := hC.mid
  have HLead : Hid (∀ j, j < a → tb D j = 48) := hC.lead
  have HTail : Hid (∀ j, a + ds.length ≤ j → j < D.length → tb D j = 48) := hC.tail
  have HHead : Hid (tb ds 0 ≠ 48 ∧ tb ds (ds.length - 1) ≠ 48) := ⟨hwf.head, hwf.last⟩
  have HC : Hid (∀ wr, Below w.heap.size w wr → ∀ j, j < m → wr.cell? ⟨b, off + j, none⟩ = some (.int .u8 (tb M j))) := fun wr hb j hj => by
    have := hT.later hb (j) (by rw [hLn]; omega)
    rw [this]
    congr 2
    show tb ([] ++ _) j = _
    rw [List.nil_append, tb_left _ _ _ (by omega)]
  have HX : Hid (∀ wr, Below w.heap.size w wr → ∀ i, i < dl + 2 → wr.cell? ⟨b, off + (m + 0 + i), none⟩ = some (.int .u8 (tb (ex (some (false, dE))) i))) := fun wr hb i hi => by
    have := hT.later hb (m + 0 + i) (by rw [hLn]; omega)
    rw [this]
    congr 2
    rw [show m + 0 + i = M.length + i from by simp [hm]]
    show tb ([] ++ _) _ = _; rw [List.nil_append, tb_right]
  have HG : Hid (∀ n, m + 0 + 2 ≤ n → n < m + 0 + 2 + dl → ∀ wr, Below w.heap.size w wr → wr.cell? ⟨b, off + n, none⟩ = some (.int .u8 (tb dE (n - (m + 0 + 2)))) ∧ 48 ≤ tb dE (n - (m + 0 + 2)) ∧ tb dE (n - (m + 0 + 2)) ≤ 57) := fun n h1 h2 wr hb => by
    have := HX.out wr hb (n - (m + 0)) (by omega)
    rw [show m + 0 + (n - (m + 0)) = n from by omega] at this
    have e : tb (ex (some (false, dE))) (n - (m + 0)) = tb dE (n - (m + 0 + 2)) := by
      rw [show n - (m + 0) = (n - (m + 0 + 2)) + 2 from by omega]
      unfold tb; simp [ex]
    rw [e] at this
    exact ⟨this, isD_tb hdD (by omega)⟩
  have HV : Hid (∀ n, m + 0 + 2 ≤ n → n < m + 0 + 2 + dl → (val (dE.take (n + 1 - (m + 0 + 2))) : Int) = 10 * (val (dE.take (n - (m + 0 + 2))) : Int) + (tb dE (n - (m + 0 + 2)) - 48) ∧ val (dE.take (n + 1 - (m + 0 + 2))) ≤ val dE) := fun n h1 h2 => by
    have hq : n - (m + 0 + 2) < dE.length := by omega
    have h3 := isD_tb hdD hq
    refine ⟨?_, val_take_le _ _⟩
    rw [show n + 1 - (m + 0 + 2) = n - (m + 0 + 2) + 1 from by omega, val_take_succ _ _ hq]
    rw [tb_eq _ _ hq] at h3 ⊢
    omega
  have HVN : Hid (val (dE.take (m + 0 + 2 + dl - (m + 0 + 2))) = val dE) := by
    rw [List.take_of_length_le (by omega)]; rfl
  have HV0 : Hid (∀ n, val (dE.take n) ≤ val dE) := fun n => val_take_le _ _
  obtain ⟨vd, hvd⟩ : ∃ vd, vd = val dE := ⟨_, rfl⟩
  rw [← hvd] at HVN HV0 HV hv1 hv2
  have HE : Hid (∀ j, j < m → (48 ≤ tb M j ∧ tb M j ≤ 57) ∨ (tb M j = 46 ∧ sp M j = false)) := by rw [hm]; exact hM.each
  have HD : Hid (sd M m = D ∧ sk M m = k0 ∧ sp M m = pt) := by rw [hm]; exact ⟨hM.digits, hM.before, hM.point⟩
  have HB : Hid (∀ j, M.getD j 0 = M.getD j 0 ∧ tb M j = ((M.getD j 0).toNat : Int)) := fun j => ⟨rfl, rfl⟩
  have HS : Hid (∀ j, sk M j ≤ j ∧ (sd M j).length ≤ j) := fun j => ⟨sk_len M j, sd_len M j⟩
  have HX2 : Hid ((k0 : Int) - 1 - a + ev (some (false, dE)) = x) := hx
  rw [hLn]
  rw [← hm] at hlen
  clear hm hM hT hLn hx
  have hdl1 : dl ≤ 2097152 := by omega
  have hdl0 : 0 < dl := by omega
  have HXV : Hid ((k0 : Int) - 1 - a + (vd : Int) = x) := by
    have h1 := HX2.out
    show (k0 : Int) - 1 - a + (vd : Int) = x
    rw [← h1, hvd]
    rfl
  clear hdl hvd hd0 hd1
  have hm0 : (0 : Int) < (m : Int) := by omega
  have hf0 := HE.out 0 (by omega)
  have hc0 := HC.out w (Below.refl _ _) 0 (by omega)
  obtain ⟨c, hc⟩ : ∃ c, c = tb M 0 := ⟨_, rfl⟩
  rw [← hc] at hf0 hc0
  clear hc
  rw [Nat.add_zero] at hc0
  have hbl : b < w.heap.size := World.block_lt_of_cell? _ _ hc0
  have hn45 : (c == 45) = false := by simp; omega
  clear hf0
  go_enter Tryd.func15, Tryd.ntmps15
  go_wp2
  go_loopw [5, 6, 7] (fun i v kk wr => ∃ j : Nat, j ≤ m ∧ i = .int .i64 ((j : Int)) ∧ kk = .int .i64 (sk M j : Int) ∧ PInv w false (sp M j) false v (sd M j) wr) (fun i _ _ _ => (m + 2 - (intOf i).toNat))
  case atStart => exact ⟨0, Nat.zero_le _, rfl, rfl, PInv.start w false⟩
  case round =>
    obtain ⟨j, hj, rfl, rfl, hr⟩ := hrel
    have hsz := hr.size
    obtain ⟨hsk, hsd⟩ := HS.out j
    by_cases hjm : j < m
    · have hcell := HC.out wr hr.below j hjm
      have hb := (HB.out j).2
      rcases HE.out j hjm with ⟨hy0, hy1⟩ | ⟨hdot, hsp⟩
      · have hsd2 := (sd_yes hy0 hy1).1
        have hsp2 := (sd_yes hy0 hy1).2
        cases hsp : sp M j
        · have hsk2 := sk_before hy0 hy1 hsp
          rw [hsp] at hr
          have HR : Hid (sd M (j + 1) = sd M j ++ [M.getD j 0] ∧ sp M (j + 1) = false ∧ sk M (j + 1) = sk M j + 1) := ⟨hsd2, hsp2.trans hsp, hsk2⟩
          have HBj : Hid (tb M j = ((M.getD j 0).toNat : Int)) := hb
          obtain ⟨c, hc⟩ : ∃ c, c = tb M j := ⟨_, rfl⟩
          have HCj : Hid (c = tb M j) := hc
          rw [← hc] at hcell hy0 hy1
          clear hc hsd2 hsp2 hsp hsk2 hb
          go_wp2_with (first | (go_at_call 34; refine (isDigit_yes _ (by assumption) (by assumption) _).mono ?_; rintro e wx ⟨rfl, hwx⟩; subst wx) | (at_builtin; refine wpList_pinv_byte bytesT rfl (.tmp 40) (.tmp 42) rfl _ (sd M j) rfl hr _ (M.getD j 0) (HCj.out.trans HBj.out) rfl (by omega) ?_; intro v2 w2 hP2; have hq := hP2.cells.2.2.2.1))
          go_roundw
          case rel => exact ⟨j + 1, by omega, by go_num, by rw [HR.out.2.2]; go_num, by rw [HR.out.1, HR.out.2.1]; exact hP2⟩
          case measure => simp [intOf]; omega
        · have hsk2 := sk_behind hy0 hy1 hsp
          rw [hsp] at hr
          have HR : Hid (sd M (j + 1) = sd M j ++ [M.getD j 0] ∧ sp M (j + 1) = true ∧ sk M (j + 1) = sk M j) := ⟨hsd2, hsp2.trans hsp, hsk2⟩
          have HBj : Hid (tb M j = ((M.getD j 0).toNat : Int)) := hb
          obtain ⟨c, hc⟩ : ∃ c, c = tb M j := ⟨_, rfl⟩
          have HCj : Hid (c = tb M j) := hc
          rw [← hc] at hcell hy0 hy1
          clear hc hsd2 hsp2 hsp hsk2 hb
          go_wp2_with (first | (go_at_call 34; refine (isDigit_yes _ (by assumption) (by assumption) _).mono ?_; rintro e wx ⟨rfl, hwx⟩; subst wx) | (at_builtin; refine wpList_pinv_byte bytesT rfl (.tmp 40) (.tmp 42) rfl _ (sd M j) rfl hr _ (M.getD j 0) (HCj.out.trans HBj.out) rfl (by omega) ?_; intro v2 w2 hP2; have hq := hP2.cells.2.2.2.1))
          go_roundw
          case rel => exact ⟨j + 1, by omega, by go_num, by rw [HR.out.2.2], by rw [HR.out.1, HR.out.2.1]; exact hP2⟩
          case measure => simp [intOf]; omega
      · rw [hsp] at hr
        have HR : Hid (sd M (j + 1) = sd M j ∧ sp M (j + 1) = true ∧ sk M (j + 1) = sk M j) := sd_no (by omega)
        rw [hdot] at hcell
        have hq := hr.cells.2.2.2.1
        have hfz := hr.free 3
        clear hdot hsp hb
        go_wp2_with (go_at_call 34; refine (isDigit_no _ (by omega) _).mono ?_; rintro e wx ⟨rfl, hwx⟩; subst wx)
        go_roundw
        case rel => exact ⟨j + 1, by omega, by go_num, by rw [HR.out.2.2], by rw [HR.out.1, HR.out.2.1]; exact hr.point⟩
        case measure => simp [intOf]; omega
    · obtain rfl : m = j := by omega
      rw [HD.out.1, HD.out.2.2] at hr
      rw [HD.out.2.1]
      clear hsk hsd hjm hj
      obtain ⟨g, cp, hv, hg, hcp, hcm, hseg⟩ := hr.form (show 0 < D.length by omega)
      unfold maxLen at hcm
      rw [hv]
      rw [hv] at hr
      clear hv
      have hDz : ((D.length : Int) == 0) = false := by rw [beq_eq_false_iff_ne]; omega
      have hx0 := HX.out wr hr.below 0 (by omega)
      have hx1 := HX.out wr hr.below 1 (by omega)
      rw [show tb (ex (some (false, dE))) 0 = 101 from rfl, show m + 0 + 0 = m from rfl] at hx0
      rw [show tb (ex (some (false, dE))) 1 = 43 from rfl, show m + 0 + 1 = m + 1 from rfl] at hx1
      have HSeg : Hid (∀ k, k < D.length → wr.cell? ⟨g, k, none⟩ = some (.int .u8 (tb D k))) := fun k hk => by
        have := hseg k hk
        rw [Nat.zero_add] at this
        exact this
      obtain ⟨q0, q1, q2, q3, q4⟩ := hr.cells
      obtain ⟨r0, r1, r2, r3, r4⟩ := hr.resCells
      have hfz := hr.free
      have hfr := hr.resFree
      have HSeg0 : Hid (Seg wr g 0 D) := hseg
      have hil : ((m : Int) + 1 + 1 == (m : Int) + 2 + (dl : Int)) = false := by rw [beq_eq_false_iff_ne]; omega
      clear hseg
      go_wp2_with (go_at_call 34; refine (isDigit_no _ (by omega) _).mono ?_; rintro e wx ⟨rfl, hwx⟩; subst wx)
      go_loop [5, 11] (fun i mg => ∃ n : Nat, (m + 0 + 2) ≤ n ∧ n ≤ (m + 0 + 2) + dl ∧ i = .int .i64 n ∧ mg = .int .u64 (val (dE.take (n - (m + 0 + 2))) : Nat)) (fun i _ => (m + 0 + 2) + dl - (intOf i).toNat)
      case atStart => exact ⟨(m + 0 + 2), Nat.le_refl _, by omega, by go_num, by rw [Nat.sub_self]; rfl⟩
      case round =>
        obtain ⟨n, hn1, hn2, rfl, rfl⟩ := hrel
        by_cases hlt : n < (m + 0 + 2) + dl
        · obtain ⟨hcn, hy0, hy1⟩ := HG.out n hn1 hlt wr hr.below
          obtain ⟨hv, hvle⟩ := HV.out n hn1 hlt
          obtain ⟨c1, hc1⟩ : ∃ c1, c1 = tb dE (n - (m + 0 + 2)) := ⟨_, rfl⟩
          obtain ⟨g0, hg0⟩ : ∃ g0, g0 = val (dE.take (n - (m + 0 + 2))) := ⟨_, rfl⟩
          obtain ⟨g1, hg1⟩ : ∃ g1, g1 = val (dE.take (n + 1 - (m + 0 + 2))) := ⟨_, rfl⟩
          rw [← hc1] at hcn hy0 hy1 hv
          rw [← hg0] at hv ⊢
          rw [← hg1] at hv hvle
          have HG1 : Hid (g1 = val (dE.take (n + 1 - (m + 0 + 2))) ∧ (g1 : Int) = 10 * (g0 : Int) + (c1 - 48)) := ⟨hg1, hv⟩
          have hle : 10 * (g0 : Int) + (c1 - 48) ≤ 9223372036854775808 := by omega
          clear hc1 hg0 hg1 hv hvle
          go_wp2_with (go_at_call 34; refine (isDigit_yes _ (by assumption) (by assumption) _).mono ?_; rintro e wx ⟨rfl, hwx⟩; subst wx)
          go_round
          case rel => exact ⟨n + 1, by omega, by omega, by go_num, by rw [← HG1.out.1, HG1.out.2]; go_num⟩
          case measure => simp [intOf]; omega
        · obtain rfl : n = (m + 0 + 2) + dl := by omega
          rw [HVN.out]
          have hvz : ((vd : Int) == 0) = false := by rw [beq_eq_false_iff_ne]; omega
          have hxb := HXV.out
          have hxb0 : -9223372036854775808 ≤ (k0 : Int) - 1 - a + (vd : Int) := by omega
          have hxb1 : (k0 : Int) - 1 - a + (vd : Int) ≤ 9223372036854775807 := by omega
          clear hxb
          go_wp2
          go_loop [14] (fun f => ∃ n : Nat, n ≤ a ∧ f = .int .i64 n) (fun f => a + 1 - (intOf f).toNat)
          case atStart => exact ⟨0, Nat.zero_le _, rfl⟩
          case round =>
            obtain ⟨n, hn, rfl⟩ := hrel
            have hnD : n < D.length := by omega
            have hcn := HSeg.out n hnD
            by_cases hna : n < a
            · rw [HLead.out n hna] at hcn
              go_wp2
              go_round
              case rel => exact ⟨n + 1, by omega, by go_num⟩
              case measure => simp [intOf]; omega
            · obtain rfl : a = n := by omega
              have hne : (tb D a == 48) = false := by
                have h1 := HMid.out 0 hpos
                rw [Nat.add_zero] at h1
                rw [h1]
                simpa using HHead.out.1
              obtain ⟨c2, hc2⟩ : ∃ c2, c2 = tb D a := ⟨_, rfl⟩
              rw [← hc2] at hcn hne
              clear hc2
              have haD : ((a : Int) == (D.length : Int)) = false := by simp; omega
              go_wp2
              go_loop [15] (fun t => ∃ n : Nat, a + ds.length ≤ n ∧ n ≤ D.length ∧ t = .int .i64 n) (fun t => (intOf t).toNat)
              case atStart => exact ⟨D.length, hlenD, Nat.le_refl _, rfl⟩
              case round =>
                obtain ⟨n, hn1, hn2, rfl⟩ := hrel
                obtain ⟨q, rfl⟩ : ∃ q, n = q + 1 := ⟨n - 1, by omega⟩
                have hcq := HSeg.out q (by omega)
                by_cases hqa : a + ds.length ≤ q
                · rw [HTail.out q hqa (by omega)] at hcq
                  go_wp2
                  go_round
                  case rel => exact ⟨q, by omega, by omega, by go_num⟩
                  case measure => simp [intOf]
                · have hne2 : (tb D q == 48) = false := by
                    have h1 := HMid.out (ds.length - 1) (by omega)
                    rw [show a + (ds.length - 1) = q from by omega] at h1
                    rw [h1]
                    simpa using HHead.out.2
                  obtain ⟨c3, hc3⟩ : ∃ c3, c3 = tb D q := ⟨_, rfl⟩
                  rw [← hc3] at hcq hne2
                  clear hc3
                  go_wp2
                  refine bodyPost_ret (v := .tuple #[.agg #[.bool false, .slice (some ⟨g, a, none⟩) (q + 1 - a) (cp - a), .int .i64 ((k0 : Int) - 1 - a + (vd : Int)), .bool pt, .bool true], .bool true]) (by simp [results, Tryd.results15, go_sem, r0, r1, r2, r3, r4]) rfl ?_
                  exact parsed_of hr.expo hg (seg_setCell HSeg0.out (by omega) _ _) HMid.out (by omega) (by omega) (by have := HXV.out; omega)

set_option maxRecDepth 100000 in
set_option maxHeartbeats 2000000 in
theorem parse_pq (M D ds dE : List UInt8) (k0 a : Nat) (pt : Bool) (x : Int) (b off cap : Nat) (w : World) (hT : Seg w b off (sg false ++ (M ++ ex (some (true, dE))))) (hM : Mant M D k0 pt) (hC : Core D ds a) (hwf : WF ds) (hlen : M.length ≤ 2097152)
    (hx : (k0 : Int) - 1 - a + ev (some (true, dE)) = x) (x0 : -9223372036854775808 ≤ x) (x1 : x ≤ 9223372036854775807) (hdD : ∀ c ∈ dE, isD c = true) (hd0 : 0 < dE.length) (hd1 : dE.length ≤ 2097152) (hv1 : 1 ≤ val dE) (hv2 : val dE ≤ 9223372036854775808) :
    Calls Tryd.prog 15 #[.slice (some ⟨b, off, none⟩) (sg false ++ (M ++ ex (some (true, dE)))).length cap] w fun e w' => Parsed w false ds x e w' := by
  obtain ⟨m, hm⟩ : ∃ m, m = M.length := ⟨_, rfl⟩
  obtain ⟨dl, hdl⟩ : ∃ dl, dl = dE.length := ⟨_, rfl⟩
  have hLn : (sg false ++ (M ++ ex (some (true, dE)))).length = m + 2 + dl := by simp [sg, ex, hm, hdl]; try omega
  have hD : D.length ≤ m := by rw [← hM.digits, hm]; exact sd_len M _
  have hK : k0 ≤ m := by rw [← hM.before, hm]; exact sk_len M _
  have hpos := hwf.pos
  have hlenD := hC.len
  have HMid : Hid (∀ j, j < ds.length → tb D (a + j) = tb ds j) := hC.mid
  have HLead : Hid (∀ j, j < a → tb D j = 48) := hC.lead
  have HTail : Hid (∀ j, a + ds.length ≤ j → j < D.length → tb D j = 48) := hC.tail
  have HHead : Hid (tb ds 0 ≠ 48 ∧ tb ds (ds.length - 1) ≠ 48) := ⟨hwf.head, hwf.last⟩
  have HC : Hid (∀ wr, Below w.heap.size w wr → ∀ j, j < m → wr.cell? ⟨b, off + j, none⟩ = some (.int .u8 (tb M j))) := fun wr hb j hj => by
    have := hT.later hb (j) (by rw [hLn]; omega)
    rw [this]
    congr 2
    show tb ([] ++ _) j = _
    rw [List.nil_append, tb_left _ _ _ (by omega)]
  have HX : Hid (∀ wr, Below w.heap.size w wr → ∀ i, i < dl + 2 → wr.cell? ⟨b, off + (m + 0 + i), none⟩ = some (.int .u8 (tb (ex (some (true, dE))) i))) := fun wr hb i hi => by
    have := hT.later hb (m + 0 + i) (by rw [hLn]; omega)
    rw [this]
    congr 2
    rw [show m + 0 + i = M.length + i from by simp [hm]]
    show tb ([] ++ _) _ = _; rw [List.nil_append, tb_right]
  have HG : Hid (∀ n, m + 0 + 2 ≤ n → n < m + 0 + 2 + dl → ∀ wr, Below w.heap.size w wr → wr.cell? ⟨b, off + n, none⟩ = some (.int .u8 (tb dE (n - (m + 0 + 2)))) ∧ 48 ≤ tb dE (n - (m + 0 + 2)) ∧ tb dE (n - (m + 0 + 2)) ≤ 57) := fun n h1 h2 wr hb => by
    have := HX.out wr hb (n - (m + 0)) (by omega)
    rw [show m + 0 + (n - (m + 0)) = n from by omega] at this
    have e : tb (ex (some (true, dE))) (n - (m + 0)) = tb dE (n - (m + 0 + 2)) := by
      rw [show n - (m + 0) = (n - (m + 0 + 2)) + 2 from by omega]
      unfold tb; simp [ex]
    rw [e] at this
    exact ⟨this, isD_tb hdD (by omega)⟩
  have HV : Hid (∀ n, m + 0 + 2 ≤ n → n < m + 0 + 2 + dl → (val (dE.take (n + 1 - (m + 0 + 2))) : Int) = 10 * (val (dE.take (n - (m + 0 + 2))) : Int) + (tb dE (n - (m + 0 + 2)) - 48) ∧ val (dE.take (n + 1 - (m + 0 + 2))) ≤ val dE) := fun n h1 h2 => by
    have hq : n - (m + 0 + 2) < dE.length := by omega
    have h3 := isD_tb hdD hq
    refine ⟨?_, val_take_le _ _⟩
    rw [show n + 1 - (m + 0 + 2) = n - (m + 0 + 2) + 1 from by omega, val_take_succ _ _ hq]
    rw [tb_eq _ _ hq] at h3 ⊢
    omega
  have HVN : Hid (val (dE.take (m + 0 + 2 + dl - (m + 0 + 2))) = val dE) := by
    rw [List.take_of_length_le (by omega)]; rfl
  have HV0 : Hid (∀ n, val (dE.take n) ≤ val dE) := fun n => val_take_le _ _
  obtain ⟨vd, hvd⟩ : ∃ vd, vd = val dE := ⟨_, rfl⟩
  rw [← hvd] at HVN HV0 HV hv1 hv2
  have HE : Hid (∀ j, j < m → (48 ≤ tb M j ∧ tb M j ≤ 57) ∨ (tb M j = 46 ∧ sp M j = false)) := by rw [hm]; exact hM.each
  have HD : Hid (sd M m = D ∧ sk M m = k0 ∧ sp M m = pt) := by rw [hm]; exact ⟨hM.digits, hM.before, hM.point⟩
  have HB : Hid (∀ j, M.getD j 0 = M.getD j 0 ∧ tb M j = ((M.getD j 0).toNat : Int)) := fun j => ⟨rfl, rfl⟩
  have HS : Hid (∀ j, sk M j ≤ j ∧ (sd M j).length ≤ j) := fun j => ⟨sk_len M j, sd_len M j⟩
  have HX2 : Hid ((k0 : Int) - 1 - a + ev (some (true, dE)) = x) := hx
  rw [hLn]
  rw [← hm] at hlen
  clear hm hM hT hLn hx
  have hdl1 : dl ≤ 2097152 := by omega
  have hdl0 : 0 < dl := by omega
  have HXV : Hid ((k0 : Int) - 1 - a - (vd : Int) = x) := by
    have h1 := HX2.out
    show (k0 : Int) - 1 - a - (vd : Int) = x
    rw [← h1, hvd]
    show (k0 : Int) - 1 - a - (val dE : Int) = (k0 : Int) - 1 - a + -(val dE : Int)
    omega
  clear hdl hvd hd0 hd1
  have hm0 : (0 : Int) < (m : Int) := by omega
  have hf0 := HE.out 0 (by omega)
  have hc0 := HC.out w (Below.refl _ _) 0 (by omega)
  obtain ⟨c, hc⟩ : ∃ c, c = tb M 0 := ⟨_, rfl⟩
  rw [← hc] at hf0 hc0
  clear hc
  rw [Nat.add_zero] at hc0
  have hbl : b < w.heap.size := World.block_lt_of_cell? _ _ hc0
  have hn45 : (c == 45) = false := by simp; omega
  clear hf0
  go_enter Tryd.func15, Tryd.ntmps15
  go_wp2
  go_loopw [5, 6, 7] (fun i v kk wr => ∃ j : Nat, j ≤ m ∧ i = .int .i64 ((j : Int)) ∧ kk = .int .i64 (sk M j : Int) ∧ PInv w false (sp M j) false v (sd M j) wr) (fun i _ _ _ => (m + 2 - (intOf i).toNat))
  case atStart => exact ⟨0, Nat.zero_le _, rfl, rfl, PInv.start w false⟩
  case round =>
    obtain ⟨j, hj, rfl, rfl, hr⟩ := hrel
    have hsz := hr.size
    obtain ⟨hsk, hsd⟩ := HS.out j
    by_cases hjm : j < m
    · have hcell := HC.out wr hr.below j hjm
      have hb := (HB.out j).2
      rcases HE.out j hjm with ⟨hy0, hy1⟩ | ⟨hdot, hsp⟩
      · have hsd2 := (sd_yes hy0 hy1).1
        have hsp2 := (sd_yes hy0 hy1).2
        cases hsp : sp M j
        · have hsk2 := sk_before hy0 hy1 hsp
          rw [hsp] at hr
          have HR : Hid (sd M (j + 1) = sd M j ++ [M.getD j 0] ∧ sp M (j + 1) = false ∧ sk M (j + 1) = sk M j + 1) := ⟨hsd2, hsp2.trans hsp, hsk2⟩
          have HBj : Hid (tb M j = ((M.getD j 0).toNat : Int)) := hb
          obtain ⟨c, hc⟩ : ∃ c, c = tb M j := ⟨_, rfl⟩
          have HCj : Hid (c = tb M j) := hc
          rw [← hc] at hcell hy0 hy1
          clear hc hsd2 hsp2 hsp hsk2 hb
          go_wp2_with (first | (go_at_call 34; refine (isDigit_yes _ (by assumption) (by assumption) _).mono ?_; rintro e wx ⟨rfl, hwx⟩; subst wx) | (at_builtin; refine wpList_pinv_byte bytesT rfl (.tmp 40) (.tmp 42) rfl _ (sd M j) rfl hr _ (M.getD j 0) (HCj.out.trans HBj.out) rfl (by omega) ?_; intro v2 w2 hP2; have hq := hP2.cells.2.2.2.1))
          go_roundw
          case rel => exact ⟨j + 1, by omega, by go_num, by rw [HR.out.2.2]; go_num, by rw [HR.out.1, HR.out.2.1]; exact hP2⟩
          case measure => simp [intOf]; omega
        · have hsk2 := sk_behind hy0 hy1 hsp
          rw [hsp] at hr
          have HR : Hid (sd M (j + 1) = sd M j ++ [M.getD j 0] ∧ sp M (j + 1) = true ∧ sk M (j + 1) = sk M j) := ⟨hsd2, hsp2.trans hsp, hsk2⟩
          have HBj : Hid (tb M j = ((M.getD j 0).toNat : Int)) := hb
          obtain ⟨c, hc⟩ : ∃ c, c = tb M j := ⟨_, rfl⟩
          have HCj : Hid (c = tb M j) := hc
          rw [← hc] at hcell hy0 hy1
          clear hc hsd2 hsp2 hsp hsk2 hb
          go_wp2_with (first | (go_at_call 34; refine (isDigit_yes _ (by assumption) (by assumption) _).mono ?_; rintro e wx ⟨rfl, hwx⟩; subst wx) | (at_builtin; refine wpList_pinv_byte bytesT rfl (.tmp 40) (.tmp 42) rfl _ (sd M j) rfl hr _ (M.getD j 0) (HCj.out.trans HBj.out) rfl (by omega) ?_; intro v2 w2 hP2; have hq := hP2.cells.2.2.2.1))
          go_roundw
          case rel => exact ⟨j + 1, by omega, by go_num, by rw [HR.out.2.2], by rw [HR.out.1, HR.out.2.1]; exact hP2⟩
          case measure => simp [intOf]; omega
      · rw [hsp] at hr
        have HR : Hid (sd M (j + 1) = sd M j ∧ sp M (j + 1) = true ∧ sk M (j + 1) = sk M j) := sd_no (by omega)
        rw [hdot] at hcell
        have hq := hr.cells.2.2.2.1
        have hfz := hr.free 3
        clear hdot hsp hb
        go_wp2_with (go_at_call 34; refine (isDigit_no _ (by omega) _).mono ?_; rintro e wx ⟨rfl, hwx⟩; subst wx)
        go_roundw
        case rel => exact ⟨j + 1, by omega, by go_num, by rw [HR.out.2.2], by rw [HR.out.1, HR.out.2.1]; exact hr.point⟩
        case measure => simp [intOf]; omega
    · obtain rfl : m = j := by omega
      rw [HD.out.1, HD.out.2.2] at hr
      rw [HD.out.2.1]
      clear hsk hsd hjm hj
      obtain ⟨g, cp, hv, hg, hcp, hcm, hseg⟩ := hr.form (show 0 < D.length by omega)
      unfold maxLen at hcm
      rw [hv]
      rw [hv] at hr
      clear hv
      have hDz : ((D.length : Int) == 0) = false := by rw [beq_eq_false_iff_ne]; omega
      have hx0 := HX.out wr hr.below 0 (by omega)
      have hx1 := HX.out wr hr.below 1 (by omega)
      rw [show tb (ex (some (true, dE))) 0 = 101 from rfl, show m + 0 + 0 = m from rfl] at hx0
      rw [show tb (ex (some (true, dE))) 1 = 45 from rfl, show m + 0 + 1 = m + 1 from rfl] at hx1
      have HSeg : Hid (∀ k, k < D.length → wr.cell? ⟨g, k, none⟩ = some (.int .u8 (tb D k))) := fun k hk => by
        have := hseg k hk
        rw [Nat.zero_add] at this
        exact this
      obtain ⟨q0, q1, q2, q3, q4⟩ := hr.cells
      obtain ⟨r0, r1, r2, r3, r4⟩ := hr.resCells
      have hfz := hr.free
      have hfr := hr.resFree
      have HSeg0 : Hid (Seg wr g 0 D) := hseg
      have hil : ((m : Int) + 1 + 1 == (m : Int) + 2 + (dl : Int)) = false := by rw [beq_eq_false_iff_ne]; omega
      clear hseg
      go_wp2_with (go_at_call 34; refine (isDigit_no _ (by omega) _).mono ?_; rintro e wx ⟨rfl, hwx⟩; subst wx)
      go_loop [5, 11] (fun i mg => ∃ n : Nat, (m + 0 + 2) ≤ n ∧ n ≤ (m + 0 + 2) + dl ∧ i = .int .i64 n ∧ mg = .int .u64 (val (dE.take (n - (m + 0 + 2))) : Nat)) (fun i _ => (m + 0 + 2) + dl - (intOf i).toNat)
      case atStart => exact ⟨(m + 0 + 2), Nat.le_refl _, by omega, by go_num, by rw [Nat.sub_self]; rfl⟩
      case round =>
        obtain ⟨n, hn1, hn2, rfl, rfl⟩ := hrel
        by_cases hlt : n < (m + 0 + 2) + dl
        · obtain ⟨hcn, hy0, hy1⟩ := HG.out n hn1 hlt wr hr.below
          obtain ⟨hv, hvle⟩ := HV.out n hn1 hlt
          obtain ⟨c1, hc1⟩ : ∃ c1, c1 = tb dE (n - (m + 0 + 2)) := ⟨_, rfl⟩
          obtain ⟨g0, hg0⟩ : ∃ g0, g0 = val (dE.take (n - (m + 0 + 2))) := ⟨_, rfl⟩
          obtain ⟨g1, hg1⟩ : ∃ g1, g1 = val (dE.take (n + 1 - (m + 0 + 2))) := ⟨_, rfl⟩
          rw [← hc1] at hcn hy0 hy1 hv
          rw [← hg0] at hv ⊢
          rw [← hg1] at hv hvle
          have HG1 : Hid (g1 = val (dE.take (n + 1 - (m + 0 + 2))) ∧ (g1 : Int) = 10 * (g0 : Int) + (c1 - 48)) := ⟨hg1, hv⟩
          have hle : 10 * (g0 : Int) + (c1 - 48) ≤ 9223372036854775808 := by omega
          clear hc1 hg0 hg1 hv hvle
          go_wp2_with (go_at_call 34; refine (isDigit_yes _ (by assumption) (by assumption) _).mono ?_; rintro e wx ⟨rfl, hwx⟩; subst wx)
          go_round
          case rel => exact ⟨n + 1, by omega, by omega, by go_num, by rw [← HG1.out.1, HG1.out.2]; go_num⟩
          case measure => simp [intOf]; omega
        · obtain rfl : n = (m + 0 + 2) + dl := by omega
          rw [HVN.out]
          have hvz : ((vd : Int) == 0) = false := by rw [beq_eq_false_iff_ne]; omega
          have hxb := HXV.out
          have hxb0 : -9223372036854775808 ≤ (k0 : Int) - 1 - a - (vd : Int) := by omega
          have hxb1 : (k0 : Int) - 1 - a - (vd : Int) ≤ 9223372036854775807 := by omega
          clear hxb
          go_wp2
          go_loop [14] (fun f => ∃ n : Nat, n ≤ a ∧ f = .int .i64 n) (fun f => a + 1 - (intOf f).toNat)
          case atStart => exact ⟨0, Nat.zero_le _, rfl⟩
          case round =>
            obtain ⟨n, hn, rfl⟩ := hrel
            have hnD : n < D.length := by omega
            have hcn := HSeg.out n hnD
            by_cases hna : n < a
            · rw [HLead.out n hna] at hcn
              go_wp2
              go_round
              case rel => exact ⟨n + 1, by omega, by go_num⟩
              case measure => simp [intOf]; omega
            · obtain rfl : a = n := by omega
              have hne : (tb D a == 48) = false := by
                have h1 := HMid.out 0 hpos
                rw [Nat.add_zero] at h1
                rw [h1]
                simpa using HHead.out.1
              obtain ⟨c2, hc2⟩ : ∃ c2, c2 = tb D a := ⟨_, rfl⟩
              rw [← hc2] at hcn hne
              clear hc2
              have haD : ((a : Int) == (D.length : Int)) = false := by simp; omega
              go_wp2
              go_loop [15] (fun t => ∃ n : Nat, a + ds.length ≤ n ∧ n ≤ D.length ∧ t = .int .i64 n) (fun t => (intOf t).toNat)
              case atStart => exact ⟨D.length, hlenD, Nat.le_refl _, rfl⟩
              case round =>
                obtain ⟨n, hn1, hn2, rfl⟩ := hrel
                obtain ⟨q, rfl⟩ : ∃ q, n = q + 1 := ⟨n - 1, by omega⟩
                have hcq := HSeg.out q (by omega)
                by_cases hqa : a + ds.length ≤ q
                · rw [HTail.out q hqa (by omega)] at hcq
                  go_wp2
                  go_round
                  case rel => exact ⟨q, by omega, by omega, by go_num⟩
                  case measure => simp [intOf]
                · have hne2 : (tb D q == 48) = false := by
                    have h1 := HMid.out (ds.length - 1) (by omega)
                    rw [show a + (ds.length - 1) = q from by omega] at h1
                    rw [h1]
                    simpa using HHead.out.2
                  obtain ⟨c3, hc3⟩ : ∃ c3, c3 = tb D q := ⟨_, rfl⟩
                  rw [← hc3] at hcq hne2
                  clear hc3
                  go_wp2
                  refine bodyPost_ret (v := .tuple #[.agg #[.bool false, .slice (some ⟨g, a, none⟩) (q + 1 - a) (cp - a), .int .i64 ((k0 : Int) - 1 - a + (-((vd : Int) - 1) - 1)), .bool pt, .bool true], .bool true]) (by simp [results, Tryd.results15, go_sem, r0, r1, r2, r3, r4]) rfl ?_
                  exact parsed_of hr.expo hg (seg_setCell HSeg0.out (by omega) _ _) HMid.out (by omega) (by omega) (by have := HXV.out; omega)

end Go.Proofs.Qxb6600072aDoor
