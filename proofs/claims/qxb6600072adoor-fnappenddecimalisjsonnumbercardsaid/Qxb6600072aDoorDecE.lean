/-
  THE WALK of 'appendDecimal', form by form, and of 'ZZappendDecimal'.
-/
import Derived.Test.Qxb6600072aDoorClone
import Derived.Test.Qxb6600072aDoorShelf
namespace Go.Proofs.Qxb6600072aDoor
open Go.RowKit

theorem Seg.drop {w : World} {b off : Nat} {l : List UInt8} (h : Seg w b off l) (k : Nat) : Seg w b (off + k) (l.drop k) := by
  intro j hj
  rw [List.length_drop] at hj
  have := h (k + j) (by omega)
  rw [Nat.add_assoc, this]
  unfold tb
  rw [List.getD_eq_getElem?_getD, List.getD_eq_getElem?_getD, List.getElem?_drop]

theorem Seg.take {w : World} {b off : Nat} {l : List UInt8} (h : Seg w b off l) (k : Nat) : Seg w b off (l.take k) := by
  intro j hj
  rw [List.length_take] at hj
  rw [h j (by omega), tb_take _ _ _ (by omega)]

/-- The table of powers that 'AppendInt' looks into. -/
def Tab (w : World) : Prop := Lib.TabBelow Tryd.prog w.heap.size w Tryd.powName .u64 Lib.pow10Tab

theorem Tab.later {W w : World} (h : Tab W) (hb : Below W.heap.size W w) : Lib.TabBelow Tryd.prog W.heap.size w Tryd.powName .u64 Lib.pow10Tab :=
  fun w' hw => h w' (hb.trans hw)

/-- What 'appendDecimal' leaves. -/
def Written (w : World) (l ds : List UInt8) (neg : Bool) (exp : Int) (e : Ending) (w' : World) : Prop :=
  ∃ v' I F E, e = .returned v' ∧ Form ds exp I F E ∧ Own w v' (l ++ shp neg I F E) w'

theorem Own.as {W w : World} {v : Value} {l m : List UInt8} (h : Own W v l w) (e : l = m) : Own W v m w := by rw [← e]; exact h

/-- What 'AppendInt' leaves, onto a buffer of the call's own. -/
theorem appendInt_own (W w : World) (v : Value) (l : List UInt8) (exp : Int) (h : Own W v l w) (x0 : -9223372036854775808 ≤ exp) (x1 : exp ≤ 9223372036854775807) (hl : l.length ≤ 4194304) (htab : Tab W) :
    Calls Tryd.prog 43 #[v, .int .i64 exp, .int .i64 10] w fun e w' => ∃ v', e = .returned v' ∧ Own W v' (l ++ Lib.itoa exp) w' := by
  refine (Tryd.appendInt W.heap.size l.length exp x0 x1 v (Lib.byteCells l) w h.2 h.1.size (by omega) (htab.later h.1)).mono ?_
  rintro e w' ⟨v', rfl, hown, hb, _⟩
  exact ⟨v', rfl, h.1.trans hb, by rw [List.length_append, byteCells_append]; exact hown⟩

theorem take1 {ds : List UInt8} (h : 0 < ds.length) : ds.take 1 = [ds[0]] := by
  cases ds with
  | nil => simp at h
  | cons a t => simp

theorem written_exp {w w' : World} {l ds : List UInt8} {neg : Bool} {exp : Int} {v' : Value} {m : List UInt8} (hwf : WF ds) (x0 : -9223372036854775808 ≤ exp) (x1 : exp ≤ 9223372036854775807) (hp : exp < -6 ∨ 21 ≤ exp)
    (h : Own w v' m w') (e : m = l ++ shp neg (ds.take 1) (if 1 < ds.length then some (ds.drop 1) else none) (some (decide (exp < 0), Lib.decDigits exp.natAbs))) : Written w l ds neg exp (.returned v') w' :=
  ⟨v', _, _, _, rfl, form_exp hwf x0 x1 hp, h.as e⟩

theorem itoa_neg {exp : Int} (h : exp < 0) : Lib.itoa exp = 45 :: Lib.decDigits exp.natAbs := by unfold Lib.itoa; rw [if_pos h]
theorem itoa_pos {exp : Int} (h : ¬ exp < 0) : Lib.itoa exp = Lib.decDigits exp.natAbs := by
  unfold Lib.itoa; rw [if_neg h]; congr 1; omega

set_option maxHeartbeats 1000000 in
theorem dec_exp_pbp (v : Value) (l ds : List UInt8) (exp : Int) (bd : Nat) (w : World) (hB : Buf w v l w) (hwf : WF ds) (hd : Seg w bd 0 ds) (x0 : -9223372036854775808 ≤ exp) (x1 : exp ≤ 9223372036854775807)
    (hl : l.length ≤ 1048576) (hn : ds.length ≤ 1048576) (htab : Tab w) (h1 : 1 < ds.length) (hp : 21 ≤ exp) :
    Calls Tryd.prog 35 #[v, .bool false, .slice (some ⟨bd, 0, none⟩) ds.length ds.length, .int .i64 exp] w fun e w' => Written w l ds false exp e w' := by
  have hpos := hwf.pos
  have HP : Hid (exp < -6 ∨ 21 ≤ exp) := by right; exact hp
  have HC : Hid (∀ wr, Below w.heap.size w wr → wr.cell? ⟨bd, 0, none⟩ = some (.int .u8 (ds[0].toNat : Int))) := fun wr hb => by
    have := hd.later hb 0 hpos
    rw [tb_eq _ _ hpos] at this
    exact this
  have h0' : (0 : Int) < (ds.length : Int) := by omega
  have hc0 := HC.out w (Below.refl _ _)
  go_enter Tryd.func35, Tryd.ntmps35
  go_wp2_with (first | (go_at_call 42; refine (plain_no _ HP.out _).mono ?_; rintro e wx ⟨rfl, hwx⟩; subst wx) | (at_builtin; refine wpList_buf_byte bytesT rfl (.tmp 20) (.tmp 24) rfl v l rfl hB _ (ds[0]'hpos) rfl rfl (by first | omega | (simp; omega)) ?_; intro v1 w1 hO1) | (at_builtin; refine wpList_buf_byte bytesT rfl (.tmp 28) (.tmp 29) rfl v1 (l ++ [ds[0]'hpos]) rfl hO1.buf _ 46 rfl rfl (by first | omega | (simp; omega)) ?_; intro v2 w2 hO2) | (at_builtin; refine wpList_buf_slice bytesT rfl (.tmp 31) (.tmp 33) rfl v2 ((l ++ [ds[0]'hpos]) ++ [(46 : UInt8)]) rfl hO2.buf ⟨bd, 1, none⟩ (ds.length - 1) (ds.length - 1) (ds.drop 1) rfl (by rw [List.length_drop]) (by exact ((hd.later hO2.below).drop 1).lies) (by rw [List.length_drop]; omega) (by rw [List.length_drop]; simp; omega) ?_; intro v3 w3 hO3) | (at_builtin; refine wpList_buf_byte bytesT rfl (.tmp 35) (.tmp 36) rfl v3 (((l ++ [ds[0]'hpos]) ++ [(46 : UInt8)]) ++ ds.drop 1) rfl hO3.buf _ 101 rfl rfl (by first | omega | (simp; omega)) ?_; intro v4 w4 hO4) | (at_builtin; refine wpList_buf_byte bytesT rfl (.tmp 40) (.tmp 41) rfl v4 ((((l ++ [ds[0]'hpos]) ++ [(46 : UInt8)]) ++ ds.drop 1) ++ [(101 : UInt8)]) rfl hO4.buf _ 43 rfl rfl (by first | omega | (simp; omega)) ?_; intro v5 w5 hO5) | (go_at_call 43; refine (appendInt_own w _ v5 (((((l ++ [ds[0]'hpos]) ++ [(46 : UInt8)]) ++ ds.drop 1) ++ [(101 : UInt8)]) ++ [(43 : UInt8)]) exp hO5 x0 x1 (by simp; omega) htab).mono ?_; rintro e w6 ⟨v6, rfl, hO6⟩))
  go_ret
  refine written_exp hwf x0 x1 HP.out hO6 ?_
  rw [if_pos h1, take1 hpos, itoa_pos (by omega)]
  have hx : decide (exp < 0) = false := by simp; omega
  rw [hx]
  simp [shp, sg, fr, ex]

set_option maxHeartbeats 1000000 in
theorem dec_exp_pbn (v : Value) (l ds : List UInt8) (exp : Int) (bd : Nat) (w : World) (hB : Buf w v l w) (hwf : WF ds) (hd : Seg w bd 0 ds) (x0 : -9223372036854775808 ≤ exp) (x1 : exp ≤ 9223372036854775807)
    (hl : l.length ≤ 1048576) (hn : ds.length ≤ 1048576) (htab : Tab w) (h1 : 1 < ds.length) (hp : exp < -6) :
    Calls Tryd.prog 35 #[v, .bool false, .slice (some ⟨bd, 0, none⟩) ds.length ds.length, .int .i64 exp] w fun e w' => Written w l ds false exp e w' := by
  have hpos := hwf.pos
  have HP : Hid (exp < -6 ∨ 21 ≤ exp) := by left; exact hp
  have HC : Hid (∀ wr, Below w.heap.size w wr → wr.cell? ⟨bd, 0, none⟩ = some (.int .u8 (ds[0].toNat : Int))) := fun wr hb => by
    have := hd.later hb 0 hpos
    rw [tb_eq _ _ hpos] at this
    exact this
  have h0' : (0 : Int) < (ds.length : Int) := by omega
  have hc0 := HC.out w (Below.refl _ _)
  go_enter Tryd.func35, Tryd.ntmps35
  go_wp2_with (first | (go_at_call 42; refine (plain_no _ HP.out _).mono ?_; rintro e wx ⟨rfl, hwx⟩; subst wx) | (at_builtin; refine wpList_buf_byte bytesT rfl (.tmp 20) (.tmp 24) rfl v l rfl hB _ (ds[0]'hpos) rfl rfl (by first | omega | (simp; omega)) ?_; intro v1 w1 hO1) | (at_builtin; refine wpList_buf_byte bytesT rfl (.tmp 28) (.tmp 29) rfl v1 (l ++ [ds[0]'hpos]) rfl hO1.buf _ 46 rfl rfl (by first | omega | (simp; omega)) ?_; intro v2 w2 hO2) | (at_builtin; refine wpList_buf_slice bytesT rfl (.tmp 31) (.tmp 33) rfl v2 ((l ++ [ds[0]'hpos]) ++ [(46 : UInt8)]) rfl hO2.buf ⟨bd, 1, none⟩ (ds.length - 1) (ds.length - 1) (ds.drop 1) rfl (by rw [List.length_drop]) (by exact ((hd.later hO2.below).drop 1).lies) (by rw [List.length_drop]; omega) (by rw [List.length_drop]; simp; omega) ?_; intro v3 w3 hO3) | (at_builtin; refine wpList_buf_byte bytesT rfl (.tmp 35) (.tmp 36) rfl v3 (((l ++ [ds[0]'hpos]) ++ [(46 : UInt8)]) ++ ds.drop 1) rfl hO3.buf _ 101 rfl rfl (by first | omega | (simp; omega)) ?_; intro v4 w4 hO4) | (go_at_call 43; refine (appendInt_own w _ v4 ((((l ++ [ds[0]'hpos]) ++ [(46 : UInt8)]) ++ ds.drop 1) ++ [(101 : UInt8)]) exp hO4 x0 x1 (by simp; omega) htab).mono ?_; rintro e w6 ⟨v6, rfl, hO6⟩))
  go_ret
  refine written_exp hwf x0 x1 HP.out hO6 ?_
  rw [if_pos h1, take1 hpos, itoa_neg (by omega)]
  have hx : decide (exp < 0) = true := by simp; omega
  rw [hx]
  simp [shp, sg, fr, ex]

set_option maxHeartbeats 1000000 in
theorem dec_exp_psp (v : Value) (l ds : List UInt8) (exp : Int) (bd : Nat) (w : World) (hB : Buf w v l w) (hwf : WF ds) (hd : Seg w bd 0 ds) (x0 : -9223372036854775808 ≤ exp) (x1 : exp ≤ 9223372036854775807)
    (hl : l.length ≤ 1048576) (hn : ds.length ≤ 1048576) (htab : Tab w) (h1 : ¬ 1 < ds.length) (hp : 21 ≤ exp) :
    Calls Tryd.prog 35 #[v, .bool false, .slice (some ⟨bd, 0, none⟩) ds.length ds.length, .int .i64 exp] w fun e w' => Written w l ds false exp e w' := by
  have hpos := hwf.pos
  have HP : Hid (exp < -6 ∨ 21 ≤ exp) := by right; exact hp
  have HC : Hid (∀ wr, Below w.heap.size w wr → wr.cell? ⟨bd, 0, none⟩ = some (.int .u8 (ds[0].toNat : Int))) := fun wr hb => by
    have := hd.later hb 0 hpos
    rw [tb_eq _ _ hpos] at this
    exact this
  have h0' : (0 : Int) < (ds.length : Int) := by omega
  have hc0 := HC.out w (Below.refl _ _)
  go_enter Tryd.func35, Tryd.ntmps35
  go_wp2_with (first | (go_at_call 42; refine (plain_no _ HP.out _).mono ?_; rintro e wx ⟨rfl, hwx⟩; subst wx) | (at_builtin; refine wpList_buf_byte bytesT rfl (.tmp 20) (.tmp 24) rfl v l rfl hB _ (ds[0]'hpos) rfl rfl (by first | omega | (simp; omega)) ?_; intro v1 w1 hO1) | (at_builtin; refine wpList_buf_byte bytesT rfl (.tmp 35) (.tmp 36) rfl v1 (l ++ [ds[0]'hpos]) rfl hO1.buf _ 101 rfl rfl (by first | omega | (simp; omega)) ?_; intro v4 w4 hO4) | (at_builtin; refine wpList_buf_byte bytesT rfl (.tmp 40) (.tmp 41) rfl v4 ((l ++ [ds[0]'hpos]) ++ [(101 : UInt8)]) rfl hO4.buf _ 43 rfl rfl (by first | omega | (simp; omega)) ?_; intro v5 w5 hO5) | (go_at_call 43; refine (appendInt_own w _ v5 (((l ++ [ds[0]'hpos]) ++ [(101 : UInt8)]) ++ [(43 : UInt8)]) exp hO5 x0 x1 (by simp; omega) htab).mono ?_; rintro e w6 ⟨v6, rfl, hO6⟩))
  go_ret
  refine written_exp hwf x0 x1 HP.out hO6 ?_
  rw [if_neg h1, take1 hpos, itoa_pos (by omega)]
  have hx : decide (exp < 0) = false := by simp; omega
  rw [hx]
  simp [shp, sg, fr, ex]

set_option maxHeartbeats 1000000 in
theorem dec_exp_psn (v : Value) (l ds : List UInt8) (exp : Int) (bd : Nat) (w : World) (hB : Buf w v l w) (hwf : WF ds) (hd : Seg w bd 0 ds) (x0 : -9223372036854775808 ≤ exp) (x1 : exp ≤ 9223372036854775807)
    (hl : l.length ≤ 1048576) (hn : ds.length ≤ 1048576) (htab : Tab w) (h1 : ¬ 1 < ds.length) (hp : exp < -6) :
    Calls Tryd.prog 35 #[v, .bool false, .slice (some ⟨bd, 0, none⟩) ds.length ds.length, .int .i64 exp] w fun e w' => Written w l ds false exp e w' := by
  have hpos := hwf.pos
  have HP : Hid (exp < -6 ∨ 21 ≤ exp) := by left; exact hp
  have HC : Hid (∀ wr, Below w.heap.size w wr → wr.cell? ⟨bd, 0, none⟩ = some (.int .u8 (ds[0].toNat : Int))) := fun wr hb => by
    have := hd.later hb 0 hpos
    rw [tb_eq _ _ hpos] at this
    exact this
  have h0' : (0 : Int) < (ds.length : Int) := by omega
  have hc0 := HC.out w (Below.refl _ _)
  go_enter Tryd.func35, Tryd.ntmps35
  go_wp2_with (first | (go_at_call 42; refine (plain_no _ HP.out _).mono ?_; rintro e wx ⟨rfl, hwx⟩; subst wx) | (at_builtin; refine wpList_buf_byte bytesT rfl (.tmp 20) (.tmp 24) rfl v l rfl hB _ (ds[0]'hpos) rfl rfl (by first | omega | (simp; omega)) ?_; intro v1 w1 hO1) | (at_builtin; refine wpList_buf_byte bytesT rfl (.tmp 35) (.tmp 36) rfl v1 (l ++ [ds[0]'hpos]) rfl hO1.buf _ 101 rfl rfl (by first | omega | (simp; omega)) ?_; intro v4 w4 hO4) | (go_at_call 43; refine (appendInt_own w _ v4 ((l ++ [ds[0]'hpos]) ++ [(101 : UInt8)]) exp hO4 x0 x1 (by simp; omega) htab).mono ?_; rintro e w6 ⟨v6, rfl, hO6⟩))
  go_ret
  refine written_exp hwf x0 x1 HP.out hO6 ?_
  rw [if_neg h1, take1 hpos, itoa_neg (by omega)]
  have hx : decide (exp < 0) = true := by simp; omega
  rw [hx]
  simp [shp, sg, fr, ex]

set_option maxHeartbeats 1000000 in
theorem dec_exp_mbp (v : Value) (l ds : List UInt8) (exp : Int) (bd : Nat) (w : World) (hB : Buf w v l w) (hwf : WF ds) (hd : Seg w bd 0 ds) (x0 : -9223372036854775808 ≤ exp) (x1 : exp ≤ 9223372036854775807)
    (hl : l.length ≤ 1048576) (hn : ds.length ≤ 1048576) (htab : Tab w) (h1 : 1 < ds.length) (hp : 21 ≤ exp) :
    Calls Tryd.prog 35 #[v, .bool true, .slice (some ⟨bd, 0, none⟩) ds.length ds.length, .int .i64 exp] w fun e w' => Written w l ds true exp e w' := by
  have hpos := hwf.pos
  have HP : Hid (exp < -6 ∨ 21 ≤ exp) := by right; exact hp
  have HC : Hid (∀ wr, Below w.heap.size w wr → wr.cell? ⟨bd, 0, none⟩ = some (.int .u8 (ds[0].toNat : Int))) := fun wr hb => by
    have := hd.later hb 0 hpos
    rw [tb_eq _ _ hpos] at this
    exact this
  have h0' : (0 : Int) < (ds.length : Int) := by omega
  go_enter Tryd.func35, Tryd.ntmps35
  go_wp2_with (first | (go_at_call 42; refine (plain_no _ HP.out _).mono ?_; rintro e wx ⟨rfl, hwx⟩; subst wx) | (at_builtin; refine wpList_buf_byte bytesT rfl (.tmp 11) (.tmp 12) rfl v l rfl hB _ 45 rfl rfl (by first | omega | (simp; omega)) ?_; intro v0 w0 hO0; have hc0 := HC.out w0 hO0.below) | (at_builtin; refine wpList_buf_byte bytesT rfl (.tmp 20) (.tmp 24) rfl v0 (l ++ [(45 : UInt8)]) rfl hO0.buf _ (ds[0]'hpos) rfl rfl (by first | omega | (simp; omega)) ?_; intro v1 w1 hO1) | (at_builtin; refine wpList_buf_byte bytesT rfl (.tmp 28) (.tmp 29) rfl v1 ((l ++ [(45 : UInt8)]) ++ [ds[0]'hpos]) rfl hO1.buf _ 46 rfl rfl (by first | omega | (simp; omega)) ?_; intro v2 w2 hO2) | (at_builtin; refine wpList_buf_slice bytesT rfl (.tmp 31) (.tmp 33) rfl v2 (((l ++ [(45 : UInt8)]) ++ [ds[0]'hpos]) ++ [(46 : UInt8)]) rfl hO2.buf ⟨bd, 1, none⟩ (ds.length - 1) (ds.length - 1) (ds.drop 1) rfl (by rw [List.length_drop]) (by exact ((hd.later hO2.below).drop 1).lies) (by rw [List.length_drop]; omega) (by rw [List.length_drop]; simp; omega) ?_; intro v3 w3 hO3) | (at_builtin; refine wpList_buf_byte bytesT rfl (.tmp 35) (.tmp 36) rfl v3 ((((l ++ [(45 : UInt8)]) ++ [ds[0]'hpos]) ++ [(46 : UInt8)]) ++ ds.drop 1) rfl hO3.buf _ 101 rfl rfl (by first | omega | (simp; omega)) ?_; intro v4 w4 hO4) | (at_builtin; refine wpList_buf_byte bytesT rfl (.tmp 40) (.tmp 41) rfl v4 (((((l ++ [(45 : UInt8)]) ++ [ds[0]'hpos]) ++ [(46 : UInt8)]) ++ ds.drop 1) ++ [(101 : UInt8)]) rfl hO4.buf _ 43 rfl rfl (by first | omega | (simp; omega)) ?_; intro v5 w5 hO5) | (go_at_call 43; refine (appendInt_own w _ v5 ((((((l ++ [(45 : UInt8)]) ++ [ds[0]'hpos]) ++ [(46 : UInt8)]) ++ ds.drop 1) ++ [(101 : UInt8)]) ++ [(43 : UInt8)]) exp hO5 x0 x1 (by simp; omega) htab).mono ?_; rintro e w6 ⟨v6, rfl, hO6⟩))
  go_ret
  refine written_exp hwf x0 x1 HP.out hO6 ?_
  rw [if_pos h1, take1 hpos, itoa_pos (by omega)]
  have hx : decide (exp < 0) = false := by simp; omega
  rw [hx]
  simp [shp, sg, fr, ex]

set_option maxHeartbeats 1000000 in
theorem dec_exp_mbn (v : Value) (l ds : List UInt8) (exp : Int) (bd : Nat) (w : World) (hB : Buf w v l w) (hwf : WF ds) (hd : Seg w bd 0 ds) (x0 : -9223372036854775808 ≤ exp) (x1 : exp ≤ 9223372036854775807)
    (hl : l.length ≤ 1048576) (hn : ds.length ≤ 1048576) (htab : Tab w) (h1 : 1 < ds.length) (hp : exp < -6) :
    Calls Tryd.prog 35 #[v, .bool true, .slice (some ⟨bd, 0, none⟩) ds.length ds.length, .int .i64 exp] w fun e w' => Written w l ds true exp e w' := by
  have hpos := hwf.pos
  have HP : Hid (exp < -6 ∨ 21 ≤ exp) := by left; exact hp
  have HC : Hid (∀ wr, Below w.heap.size w wr → wr.cell? ⟨bd, 0, none⟩ = some (.int .u8 (ds[0].toNat : Int))) := fun wr hb => by
    have := hd.later hb 0 hpos
    rw [tb_eq _ _ hpos] at this
    exact this
  have h0' : (0 : Int) < (ds.length : Int) := by omega
  go_enter Tryd.func35, Tryd.ntmps35
  go_wp2_with (first | (go_at_call 42; refine (plain_no _ HP.out _).mono ?_; rintro e wx ⟨rfl, hwx⟩; subst wx) | (at_builtin; refine wpList_buf_byte bytesT rfl (.tmp 11) (.tmp 12) rfl v l rfl hB _ 45 rfl rfl (by first | omega | (simp; omega)) ?_; intro v0 w0 hO0; have hc0 := HC.out w0 hO0.below) | (at_builtin; refine wpList_buf_byte bytesT rfl (.tmp 20) (.tmp 24) rfl v0 (l ++ [(45 : UInt8)]) rfl hO0.buf _ (ds[0]'hpos) rfl rfl (by first | omega | (simp; omega)) ?_; intro v1 w1 hO1) | (at_builtin; refine wpList_buf_byte bytesT rfl (.tmp 28) (.tmp 29) rfl v1 ((l ++ [(45 : UInt8)]) ++ [ds[0]'hpos]) rfl hO1.buf _ 46 rfl rfl (by first | omega | (simp; omega)) ?_; intro v2 w2 hO2) | (at_builtin; refine wpList_buf_slice bytesT rfl (.tmp 31) (.tmp 33) rfl v2 (((l ++ [(45 : UInt8)]) ++ [ds[0]'hpos]) ++ [(46 : UInt8)]) rfl hO2.buf ⟨bd, 1, none⟩ (ds.length - 1) (ds.length - 1) (ds.drop 1) rfl (by rw [List.length_drop]) (by exact ((hd.later hO2.below).drop 1).lies) (by rw [List.length_drop]; omega) (by rw [List.length_drop]; simp; omega) ?_; intro v3 w3 hO3) | (at_builtin; refine wpList_buf_byte bytesT rfl (.tmp 35) (.tmp 36) rfl v3 ((((l ++ [(45 : UInt8)]) ++ [ds[0]'hpos]) ++ [(46 : UInt8)]) ++ ds.drop 1) rfl hO3.buf _ 101 rfl rfl (by first | omega | (simp; omega)) ?_; intro v4 w4 hO4) | (go_at_call 43; refine (appendInt_own w _ v4 (((((l ++ [(45 : UInt8)]) ++ [ds[0]'hpos]) ++ [(46 : UInt8)]) ++ ds.drop 1) ++ [(101 : UInt8)]) exp hO4 x0 x1 (by simp; omega) htab).mono ?_; rintro e w6 ⟨v6, rfl, hO6⟩))
  go_ret
  refine written_exp hwf x0 x1 HP.out hO6 ?_
  rw [if_pos h1, take1 hpos, itoa_neg (by omega)]
  have hx : decide (exp < 0) = true := by simp; omega
  rw [hx]
  simp [shp, sg, fr, ex]

set_option maxHeartbeats 1000000 in
theorem dec_exp_msp (v : Value) (l ds : List UInt8) (exp : Int) (bd : Nat) (w : World) (hB : Buf w v l w) (hwf : WF ds) (hd : Seg w bd 0 ds) (x0 : -9223372036854775808 ≤ exp) (x1 : exp ≤ 9223372036854775807)
    (hl : l.length ≤ 1048576) (hn : ds.length ≤ 1048576) (htab : Tab w) (h1 : ¬ 1 < ds.length) (hp : 21 ≤ exp) :
    Calls Tryd.prog 35 #[v, .bool true, .slice (some ⟨bd, 0, none⟩) ds.length ds.length, .int .i64 exp] w fun e w' => Written w l ds true exp e w' := by
  have hpos := hwf.pos
  have HP : Hid (exp < -6 ∨ 21 ≤ exp) := by right; exact hp
  have HC : Hid (∀ wr, Below w.heap.size w wr → wr.cell? ⟨bd, 0, none⟩ = some (.int .u8 (ds[0].toNat : Int))) := fun wr hb => by
    have := hd.later hb 0 hpos
    rw [tb_eq _ _ hpos] at this
    exact this
  have h0' : (0 : Int) < (ds.length : Int) := by omega
  go_enter Tryd.func35, Tryd.ntmps35
  go_wp2_with (first | (go_at_call 42; refine (plain_no _ HP.out _).mono ?_; rintro e wx ⟨rfl, hwx⟩; subst wx) | (at_builtin; refine wpList_buf_byte bytesT rfl (.tmp 11) (.tmp 12) rfl v l rfl hB _ 45 rfl rfl (by first | omega | (simp; omega)) ?_; intro v0 w0 hO0; have hc0 := HC.out w0 hO0.below) | (at_builtin; refine wpList_buf_byte bytesT rfl (.tmp 20) (.tmp 24) rfl v0 (l ++ [(45 : UInt8)]) rfl hO0.buf _ (ds[0]'hpos) rfl rfl (by first | omega | (simp; omega)) ?_; intro v1 w1 hO1) | (at_builtin; refine wpList_buf_byte bytesT rfl (.tmp 35) (.tmp 36) rfl v1 ((l ++ [(45 : UInt8)]) ++ [ds[0]'hpos]) rfl hO1.buf _ 101 rfl rfl (by first | omega | (simp; omega)) ?_; intro v4 w4 hO4) | (at_builtin; refine wpList_buf_byte bytesT rfl (.tmp 40) (.tmp 41) rfl v4 (((l ++ [(45 : UInt8)]) ++ [ds[0]'hpos]) ++ [(101 : UInt8)]) rfl hO4.buf _ 43 rfl rfl (by first | omega | (simp; omega)) ?_; intro v5 w5 hO5) | (go_at_call 43; refine (appendInt_own w _ v5 ((((l ++ [(45 : UInt8)]) ++ [ds[0]'hpos]) ++ [(101 : UInt8)]) ++ [(43 : UInt8)]) exp hO5 x0 x1 (by simp; omega) htab).mono ?_; rintro e w6 ⟨v6, rfl, hO6⟩))
  go_ret
  refine written_exp hwf x0 x1 HP.out hO6 ?_
  rw [if_neg h1, take1 hpos, itoa_pos (by omega)]
  have hx : decide (exp < 0) = false := by simp; omega
  rw [hx]
  simp [shp, sg, fr, ex]

set_option maxHeartbeats 1000000 in
theorem dec_exp_msn (v : Value) (l ds : List UInt8) (exp : Int) (bd : Nat) (w : World) (hB : Buf w v l w) (hwf : WF ds) (hd : Seg w bd 0 ds) (x0 : -9223372036854775808 ≤ exp) (x1 : exp ≤ 9223372036854775807)
    (hl : l.length ≤ 1048576) (hn : ds.length ≤ 1048576) (htab : Tab w) (h1 : ¬ 1 < ds.length) (hp : exp < -6) :
    Calls Tryd.prog 35 #[v, .bool true, .slice (some ⟨bd, 0, none⟩) ds.length ds.length, .int .i64 exp] w fun e w' => Written w l ds true exp e w' := by
  have hpos := hwf.pos
  have HP : Hid (exp < -6 ∨ 21 ≤ exp) := by left; exact hp
  have HC : Hid (∀ wr, Below w.heap.size w wr → wr.cell? ⟨bd, 0, none⟩ = some (.int .u8 (ds[0].toNat : Int))) := fun wr hb => by
    have := hd.later hb 0 hpos
    rw [tb_eq _ _ hpos] at this
    exact this
  have h0' : (0 : Int) < (ds.length : Int) := by omega
  go_enter Tryd.func35, Tryd.ntmps35
  go_wp2_with (first | (go_at_call 42; refine (plain_no _ HP.out _).mono ?_; rintro e wx ⟨rfl, hwx⟩; subst wx) | (at_builtin; refine wpList_buf_byte bytesT rfl (.tmp 11) (.tmp 12) rfl v l rfl hB _ 45 rfl rfl (by first | omega | (simp; omega)) ?_; intro v0 w0 hO0; have hc0 := HC.out w0 hO0.below) | (at_builtin; refine wpList_buf_byte bytesT rfl (.tmp 20) (.tmp 24) rfl v0 (l ++ [(45 : UInt8)]) rfl hO0.buf _ (ds[0]'hpos) rfl rfl (by first | omega | (simp; omega)) ?_; intro v1 w1 hO1) | (at_builtin; refine wpList_buf_byte bytesT rfl (.tmp 35) (.tmp 36) rfl v1 ((l ++ [(45 : UInt8)]) ++ [ds[0]'hpos]) rfl hO1.buf _ 101 rfl rfl (by first | omega | (simp; omega)) ?_; intro v4 w4 hO4) | (go_at_call 43; refine (appendInt_own w _ v4 (((l ++ [(45 : UInt8)]) ++ [ds[0]'hpos]) ++ [(101 : UInt8)]) exp hO4 x0 x1 (by simp; omega) htab).mono ?_; rintro e w6 ⟨v6, rfl, hO6⟩))
  go_ret
  refine written_exp hwf x0 x1 HP.out hO6 ?_
  rw [if_neg h1, take1 hpos, itoa_neg (by omega)]
  have hx : decide (exp < 0) = true := by simp; omega
  rw [hx]
  simp [shp, sg, fr, ex]

end Go.Proofs.Qxb6600072aDoor
