/-
  THE WALK of 'appendDecimal', the forms without an exponent; and of 'ZZappendDecimal'.
-/
import Derived.Test.Qxb6600072aDoorDecE
namespace Go.Proofs.Qxb6600072aDoor
open Go.RowKit

theorem written_small {w w' : World} {l ds : List UInt8} {neg : Bool} {exp : Int} {v' : Value} {m : List UInt8} (hwf : WF ds) (h0 : -6 ≤ exp) (h1 : exp < 0)
    (h : Own w v' m w') (e : m = l ++ shp neg [48] (some (zeros (-exp - 1).toNat ++ ds)) none) : Written w l ds neg exp (.returned v') w' :=
  ⟨v', _, _, _, rfl, form_small hwf h0 h1, h.as e⟩
theorem written_int {w w' : World} {l ds : List UInt8} {neg : Bool} {exp : Int} {v' : Value} {m : List UInt8} (hwf : WF ds) (h0 : 0 ≤ exp) (h1 : exp < 21) (h2 : (ds.length : Int) ≤ exp + 1)
    (h : Own w v' m w') (e : m = l ++ shp neg (ds ++ zeros (exp + 1 - ds.length).toNat) none none) : Written w l ds neg exp (.returned v') w' :=
  ⟨v', _, _, _, rfl, form_int hwf h0 h1 h2, h.as e⟩
theorem written_mid {w w' : World} {l ds : List UInt8} {neg : Bool} {exp : Int} {v' : Value} {m : List UInt8} (hwf : WF ds) (h0 : 0 ≤ exp) (h1 : exp < 21) (h2 : exp + 1 < (ds.length : Int))
    (h : Own w v' m w') (e : m = l ++ shp neg (ds.take (exp + 1).toNat) (some (ds.drop (exp + 1).toNat)) none) : Written w l ds neg exp (.returned v') w' :=
  ⟨v', _, _, _, rfl, form_mid hwf h0 h1 h2, h.as e⟩

set_option maxHeartbeats 1000000 in
theorem dec_small_p (v : Value) (l ds : List UInt8) (exp : Int) (bd : Nat) (w : World) (hB : Buf w v l w) (hwf : WF ds) (hd : Seg w bd 0 ds) (x0 : -6 ≤ exp) (x1 : exp < 0)
    (hl : l.length ≤ 1048576) (hn : ds.length ≤ 1048576) :
    Calls Tryd.prog 35 #[v, .bool false, .slice (some ⟨bd, 0, none⟩) ds.length ds.length, .int .i64 exp] w fun e w' => Written w l ds false exp e w' := by
  have hpos := hwf.pos
  go_enter Tryd.func35, Tryd.ntmps35
  go_wp2_with (first | (go_at_call 42; refine (plain_yes _ (by omega) (by omega) _).mono ?_; rintro e wx ⟨rfl, hwx⟩; subst wx) | (at_builtin; refine wpList_buf_string bytesT rfl (.tmp 49) _ rfl v l rfl hB ⟨#[48, 46]⟩ rfl (by decide) (by show _ + 2 ≤ _; first | omega | (simp; omega)) ?_; intro v1 w1 hO1))
  have hO1' : Own w v1 ((l ++ [(48 : UInt8), 46]) ++ zeros 0) w1 := hO1.as (by simp [zeros])
  clear hO1
  go_loopw [0, 54] (fun b i wr => ∃ k : Nat, (k : Int) ≤ -exp - 1 ∧ i = .int .i64 k ∧ Own w b ((l ++ [(48 : UInt8), 46]) ++ zeros k) wr) (fun _ i _ => (-exp - 1).toNat - (intOf i).toNat)
  case atStart => exact ⟨0, by omega, rfl, hO1'⟩
  case round =>
    rename_i bv iv
    obtain ⟨k, hk, rfl, hr⟩ := hrel
    by_cases hlt : (k : Int) < -exp - 1
    · go_wp2_with (at_builtin; refine wpList_buf_byte bytesT rfl (.tmp 56) (.tmp 57) rfl _ ((l ++ [(48 : UInt8), 46]) ++ zeros k) rfl hr.buf _ 48 rfl rfl (by simp [zeros_length]; omega) ?_; intro v2 w2 hO2)
      go_roundw
      case rel => exact ⟨k + 1, by omega, by go_num, hO2.as (by rw [zeros_succ]; simp)⟩
      case measure => simp [intOf]; omega
    · go_wp2_with (at_builtin; refine wpList_buf_slice bytesT rfl (.tmp 60) (.tmp 61) rfl _ ((l ++ [(48 : UInt8), 46]) ++ zeros k) rfl hr.buf ⟨bd, 0, none⟩ ds.length ds.length ds rfl rfl (by exact (hd.later hr.below).lies) hpos (by simp [zeros_length]; omega) ?_; intro v2 w2 hO2)
      go_ret
      have hkk : k = (-exp - 1).toNat := by omega
      refine written_small hwf x0 x1 hO2 ?_
      rw [hkk]
      simp [shp, sg, fr, ex]

set_option maxHeartbeats 1000000 in
theorem dec_int_p (v : Value) (l ds : List UInt8) (exp : Int) (bd : Nat) (w : World) (hB : Buf w v l w) (hwf : WF ds) (hd : Seg w bd 0 ds) (x0 : 0 ≤ exp) (x1 : exp < 21) (x2 : (ds.length : Int) ≤ exp + 1)
    (hl : l.length ≤ 1048576) (hn : ds.length ≤ 1048576) :
    Calls Tryd.prog 35 #[v, .bool false, .slice (some ⟨bd, 0, none⟩) ds.length ds.length, .int .i64 exp] w fun e w' => Written w l ds false exp e w' := by
  have hpos := hwf.pos
  go_enter Tryd.func35, Tryd.ntmps35
  go_wp2_with (first | (go_at_call 42; refine (plain_yes _ (by omega) (by omega) _).mono ?_; rintro e wx ⟨rfl, hwx⟩; subst wx) | (at_builtin; refine wpList_buf_slice bytesT rfl (.tmp 68) (.tmp 69) rfl v l rfl hB ⟨bd, 0, none⟩ ds.length ds.length ds rfl rfl (by exact hd.lies) hpos (by first | omega | (simp; omega)) ?_; intro v1 w1 hO1))
  have hO1' : Own w v1 ((l ++ ds) ++ zeros 0) w1 := hO1.as (by simp [zeros])
  clear hO1
  go_loopw [0, 75] (fun b i wr => ∃ k : Nat, (k : Int) ≤ exp + 1 - ds.length ∧ i = .int .i64 k ∧ Own w b ((l ++ ds) ++ zeros k) wr) (fun _ i _ => (exp + 1 - ds.length).toNat - (intOf i).toNat)
  case atStart => exact ⟨0, by omega, rfl, hO1'⟩
  case round =>
    rename_i bv iv
    obtain ⟨k, hk, rfl, hr⟩ := hrel
    by_cases hlt : (k : Int) < exp + 1 - ds.length
    · go_wp2_with (at_builtin; refine wpList_buf_byte bytesT rfl (.tmp 77) (.tmp 78) rfl _ ((l ++ ds) ++ zeros k) rfl hr.buf _ 48 rfl rfl (by simp [zeros_length]; omega) ?_; intro v2 w2 hO2)
      go_roundw
      case rel => exact ⟨k + 1, by omega, by go_num, hO2.as (by rw [zeros_succ]; simp)⟩
      case measure => simp [intOf]; omega
    · go_wp2
      go_ret
      have hkk : k = (exp + 1 - ds.length).toNat := by omega
      refine written_int hwf x0 x1 x2 hr ?_
      rw [hkk]
      simp [shp, sg, fr, ex]

set_option maxHeartbeats 1000000 in
theorem dec_mid_p (v : Value) (l ds : List UInt8) (m : Nat) (bd : Nat) (w : World) (hB : Buf w v l w) (hwf : WF ds) (hd : Seg w bd 0 ds) (x1 : m < 21) (x2 : m + 1 < ds.length)
    (hl : l.length ≤ 1048576) (hn : ds.length ≤ 1048576) :
    Calls Tryd.prog 35 #[v, .bool false, .slice (some ⟨bd, 0, none⟩) ds.length ds.length, .int .i64 (m : Int)] w fun e w' => Written w l ds false (m : Int) e w' := by
  have hpos := hwf.pos
  go_enter Tryd.func35, Tryd.ntmps35
  go_wp2_with (first | (go_at_call 42; refine (plain_yes _ (by omega) (by omega) _).mono ?_; rintro e wx ⟨rfl, hwx⟩; subst wx) | (at_builtin; refine wpList_buf_slice bytesT rfl (.tmp 82) (.tmp 86) rfl v l rfl hB ⟨bd, 0, none⟩ (m + 1) ds.length (ds.take (m + 1)) rfl (by rw [List.length_take]; omega) (by exact (hd.take (m + 1)).lies) (by rw [List.length_take]; omega) (by rw [List.length_take]; first | omega | (simp; omega)) ?_; intro v1 w1 hO1) | (at_builtin; refine wpList_buf_byte bytesT rfl (.tmp 88) (.tmp 89) rfl v1 (l ++ ds.take (m + 1)) rfl hO1.buf _ 46 rfl rfl (by first | omega | (simp; omega)) ?_; intro v2 w2 hO2) | (at_builtin; refine wpList_buf_slice bytesT rfl (.tmp 91) (.tmp 95) rfl v2 (l ++ ds.take (m + 1) ++ [(46 : UInt8)]) rfl hO2.buf ⟨bd, m + 1, none⟩ (ds.length - (m + 1)) (ds.length - (m + 1)) (ds.drop (m + 1)) rfl (by rw [List.length_drop]) (by have hq := (hd.later hO2.below).drop (m + 1); rw [Nat.zero_add] at hq; exact hq.lies) (by rw [List.length_drop]; omega) (by simp; omega) ?_; intro v3 w3 hO3))
  go_ret
  refine written_mid hwf (by omega) (by omega) (by omega) hO3 ?_
  have e : ((m : Int) + 1).toNat = m + 1 := by omega
  rw [e]
  simp [shp, sg, fr, ex]

set_option maxHeartbeats 1000000 in
theorem dec_small_m (v : Value) (l ds : List UInt8) (exp : Int) (bd : Nat) (w : World) (hB : Buf w v l w) (hwf : WF ds) (hd : Seg w bd 0 ds) (x0 : -6 ≤ exp) (x1 : exp < 0)
    (hl : l.length ≤ 1048576) (hn : ds.length ≤ 1048576) :
    Calls Tryd.prog 35 #[v, .bool true, .slice (some ⟨bd, 0, none⟩) ds.length ds.length, .int .i64 exp] w fun e w' => Written w l ds true exp e w' := by
  have hpos := hwf.pos
  go_enter Tryd.func35, Tryd.ntmps35
  go_wp2_with (first | (go_at_call 42; refine (plain_yes _ (by omega) (by omega) _).mono ?_; rintro e wx ⟨rfl, hwx⟩; subst wx) | (at_builtin; refine wpList_buf_byte bytesT rfl (.tmp 11) (.tmp 12) rfl v l rfl hB _ 45 rfl rfl (by first | omega | (simp; omega)) ?_; intro v0 w0 hO0) | (at_builtin; refine wpList_buf_string bytesT rfl (.tmp 49) _ rfl v0 (l ++ [(45 : UInt8)]) rfl hO0.buf ⟨#[48, 46]⟩ rfl (by decide) (by show _ + 2 ≤ _; first | omega | (simp; omega)) ?_; intro v1 w1 hO1))
  have hO1' : Own w v1 (((l ++ [(45 : UInt8)]) ++ [(48 : UInt8), 46]) ++ zeros 0) w1 := hO1.as (by simp [zeros])
  clear hO1
  go_loopw [0, 54] (fun b i wr => ∃ k : Nat, (k : Int) ≤ -exp - 1 ∧ i = .int .i64 k ∧ Own w b (((l ++ [(45 : UInt8)]) ++ [(48 : UInt8), 46]) ++ zeros k) wr) (fun _ i _ => (-exp - 1).toNat - (intOf i).toNat)
  case atStart => exact ⟨0, by omega, rfl, hO1'⟩
  case round =>
    rename_i bv iv
    obtain ⟨k, hk, rfl, hr⟩ := hrel
    by_cases hlt : (k : Int) < -exp - 1
    · go_wp2_with (at_builtin; refine wpList_buf_byte bytesT rfl (.tmp 56) (.tmp 57) rfl _ (((l ++ [(45 : UInt8)]) ++ [(48 : UInt8), 46]) ++ zeros k) rfl hr.buf _ 48 rfl rfl (by simp [zeros_length]; omega) ?_; intro v2 w2 hO2)
      go_roundw
      case rel => exact ⟨k + 1, by omega, by go_num, hO2.as (by rw [zeros_succ]; simp)⟩
      case measure => simp [intOf]; omega
    · go_wp2_with (at_builtin; refine wpList_buf_slice bytesT rfl (.tmp 60) (.tmp 61) rfl _ (((l ++ [(45 : UInt8)]) ++ [(48 : UInt8), 46]) ++ zeros k) rfl hr.buf ⟨bd, 0, none⟩ ds.length ds.length ds rfl rfl (by exact (hd.later hr.below).lies) hpos (by simp [zeros_length]; omega) ?_; intro v2 w2 hO2)
      go_ret
      have hkk : k = (-exp - 1).toNat := by omega
      refine written_small hwf x0 x1 hO2 ?_
      rw [hkk]
      simp [shp, sg, fr, ex]

set_option maxHeartbeats 1000000 in
theorem dec_int_m (v : Value) (l ds : List UInt8) (exp : Int) (bd : Nat) (w : World) (hB : Buf w v l w) (hwf : WF ds) (hd : Seg w bd 0 ds) (x0 : 0 ≤ exp) (x1 : exp < 21) (x2 : (ds.length : Int) ≤ exp + 1)
    (hl : l.length ≤ 1048576) (hn : ds.length ≤ 1048576) :
    Calls Tryd.prog 35 #[v, .bool true, .slice (some ⟨bd, 0, none⟩) ds.length ds.length, .int .i64 exp] w fun e w' => Written w l ds true exp e w' := by
  have hpos := hwf.pos
  go_enter Tryd.func35, Tryd.ntmps35
  go_wp2_with (first | (go_at_call 42; refine (plain_yes _ (by omega) (by omega) _).mono ?_; rintro e wx ⟨rfl, hwx⟩; subst wx) | (at_builtin; refine wpList_buf_byte bytesT rfl (.tmp 11) (.tmp 12) rfl v l rfl hB _ 45 rfl rfl (by first | omega | (simp; omega)) ?_; intro v0 w0 hO0) | (at_builtin; refine wpList_buf_slice bytesT rfl (.tmp 68) (.tmp 69) rfl v0 (l ++ [(45 : UInt8)]) rfl hO0.buf ⟨bd, 0, none⟩ ds.length ds.length ds rfl rfl (by exact (hd.later hO0.below).lies) hpos (by first | omega | (simp; omega)) ?_; intro v1 w1 hO1))
  have hO1' : Own w v1 (((l ++ [(45 : UInt8)]) ++ ds) ++ zeros 0) w1 := hO1.as (by simp [zeros])
  clear hO1
  go_loopw [0, 75] (fun b i wr => ∃ k : Nat, (k : Int) ≤ exp + 1 - ds.length ∧ i = .int .i64 k ∧ Own w b (((l ++ [(45 : UInt8)]) ++ ds) ++ zeros k) wr) (fun _ i _ => (exp + 1 - ds.length).toNat - (intOf i).toNat)
  case atStart => exact ⟨0, by omega, rfl, hO1'⟩
  case round =>
    rename_i bv iv
    obtain ⟨k, hk, rfl, hr⟩ := hrel
    by_cases hlt : (k : Int) < exp + 1 - ds.length
    · go_wp2_with (at_builtin; refine wpList_buf_byte bytesT rfl (.tmp 77) (.tmp 78) rfl _ (((l ++ [(45 : UInt8)]) ++ ds) ++ zeros k) rfl hr.buf _ 48 rfl rfl (by simp [zeros_length]; omega) ?_; intro v2 w2 hO2)
      go_roundw
      case rel => exact ⟨k + 1, by omega, by go_num, hO2.as (by rw [zeros_succ]; simp)⟩
      case measure => simp [intOf]; omega
    · go_wp2
      go_ret
      have hkk : k = (exp + 1 - ds.length).toNat := by omega
      refine written_int hwf x0 x1 x2 hr ?_
      rw [hkk]
      simp [shp, sg, fr, ex]

set_option maxHeartbeats 1000000 in
theorem dec_mid_m (v : Value) (l ds : List UInt8) (m : Nat) (bd : Nat) (w : World) (hB : Buf w v l w) (hwf : WF ds) (hd : Seg w bd 0 ds) (x1 : m < 21) (x2 : m + 1 < ds.length)
    (hl : l.length ≤ 1048576) (hn : ds.length ≤ 1048576) :
    Calls Tryd.prog 35 #[v, .bool true, .slice (some ⟨bd, 0, none⟩) ds.length ds.length, .int .i64 (m : Int)] w fun e w' => Written w l ds true (m : Int) e w' := by
  have hpos := hwf.pos
  go_enter Tryd.func35, Tryd.ntmps35
  go_wp2_with (first | (go_at_call 42; refine (plain_yes _ (by omega) (by omega) _).mono ?_; rintro e wx ⟨rfl, hwx⟩; subst wx) | (at_builtin; refine wpList_buf_byte bytesT rfl (.tmp 11) (.tmp 12) rfl v l rfl hB _ 45 rfl rfl (by first | omega | (simp; omega)) ?_; intro v0 w0 hO0) | (at_builtin; refine wpList_buf_slice bytesT rfl (.tmp 82) (.tmp 86) rfl v0 (l ++ [(45 : UInt8)]) rfl hO0.buf ⟨bd, 0, none⟩ (m + 1) ds.length (ds.take (m + 1)) rfl (by rw [List.length_take]; omega) (by exact ((hd.later hO0.below).take (m + 1)).lies) (by rw [List.length_take]; omega) (by rw [List.length_take]; first | omega | (simp; omega)) ?_; intro v1 w1 hO1) | (at_builtin; refine wpList_buf_byte bytesT rfl (.tmp 88) (.tmp 89) rfl v1 ((l ++ [(45 : UInt8)]) ++ ds.take (m + 1)) rfl hO1.buf _ 46 rfl rfl (by first | omega | (simp; omega)) ?_; intro v2 w2 hO2) | (at_builtin; refine wpList_buf_slice bytesT rfl (.tmp 91) (.tmp 95) rfl v2 ((l ++ [(45 : UInt8)]) ++ ds.take (m + 1) ++ [(46 : UInt8)]) rfl hO2.buf ⟨bd, m + 1, none⟩ (ds.length - (m + 1)) (ds.length - (m + 1)) (ds.drop (m + 1)) rfl (by rw [List.length_drop]) (by have hq := (hd.later hO2.below).drop (m + 1); rw [Nat.zero_add] at hq; exact hq.lies) (by rw [List.length_drop]; omega) (by simp; omega) ?_; intro v3 w3 hO3))
  go_ret
  refine written_mid hwf (by omega) (by omega) (by omega) hO3 ?_
  have e : ((m : Int) + 1).toNat = m + 1 := by omega
  rw [e]
  simp [shp, sg, fr, ex]

end Go.Proofs.Qxb6600072aDoor
