/-
  WHAT THE READER OF THE MANTISSA GATHERS, byte by byte: plain lists. And where the parts of a text lie.
-/
import Derived.Test.Qxb6600072aDoorPlain
namespace Go.Proofs.Qxb6600072aDoor

/-- Is the byte at place j a digit? -/
def dAt (M : List UInt8) (j : Nat) : Bool := decide (48 ≤ tb M j) && decide (tb M j ≤ 57)

/-- The point has been passed. -/
def sp (M : List UInt8) : Nat → Bool
  | 0 => false
  | j + 1 => if dAt M j then sp M j else true
/-- The digits so far. -/
def sd (M : List UInt8) : Nat → List UInt8
  | 0 => []
  | j + 1 => if dAt M j then sd M j ++ [M.getD j 0] else sd M j
/-- How many of them stand before the point. -/
def sk (M : List UInt8) : Nat → Nat
  | 0 => 0
  | j + 1 => if dAt M j then (if sp M j then sk M j else sk M j + 1) else sk M j

theorem sd_len (M : List UInt8) : ∀ j, (sd M j).length ≤ j
  | 0 => by simp [sd]
  | j + 1 => by
    have := sd_len M j
    unfold sd
    split
    · simp; omega
    · omega
theorem sk_len (M : List UInt8) : ∀ j, sk M j ≤ j
  | 0 => by simp [sk]
  | j + 1 => by
    have := sk_len M j
    unfold sk
    split
    · split <;> omega
    · omega

theorem dAt_yes {M : List UInt8} {j : Nat} (h0 : 48 ≤ tb M j) (h1 : tb M j ≤ 57) : dAt M j = true := by simp [dAt, h0, h1]
theorem dAt_no {M : List UInt8} {j : Nat} (h : tb M j < 48) : dAt M j = false := by simp [dAt]; omega

theorem sd_yes {M : List UInt8} {j : Nat} (h0 : 48 ≤ tb M j) (h1 : tb M j ≤ 57) : sd M (j + 1) = sd M j ++ [M.getD j 0] ∧ sp M (j + 1) = sp M j := by
  simp [sd, sp, dAt_yes h0 h1]
theorem sk_before {M : List UInt8} {j : Nat} (h0 : 48 ≤ tb M j) (h1 : tb M j ≤ 57) (hp : sp M j = false) : sk M (j + 1) = sk M j + 1 := by
  simp [sk, dAt_yes h0 h1, hp]
theorem sk_behind {M : List UInt8} {j : Nat} (h0 : 48 ≤ tb M j) (h1 : tb M j ≤ 57) (hp : sp M j = true) : sk M (j + 1) = sk M j := by
  simp [sk, dAt_yes h0 h1, hp]
theorem sd_no {M : List UInt8} {j : Nat} (h : tb M j < 48) : sd M (j + 1) = sd M j ∧ sp M (j + 1) = true ∧ sk M (j + 1) = sk M j := by
  simp [sd, sp, sk, dAt_no h]

theorem getD_left (l m : List UInt8) (k : Nat) (h : k < l.length) : (l ++ m).getD k 0 = l.getD k 0 := by
  rw [List.getD_eq_getElem?_getD, List.getD_eq_getElem?_getD, List.getElem?_append_left h]
theorem getD_right (l m : List UInt8) (k : Nat) : (l ++ m).getD (l.length + k) 0 = m.getD k 0 := by
  rw [List.getD_eq_getElem?_getD, List.getD_eq_getElem?_getD, List.getElem?_append_right (by omega), Nat.add_sub_cancel_left]
theorem take_getD (l : List UInt8) (k : Nat) (h : k < l.length) : l.take (k + 1) = l.take k ++ [l.getD k 0] := by
  rw [List.take_succ_eq_append_getElem h, List.getD_eq_getElem?_getD, List.getElem?_eq_getElem h]; rfl

/-- Over the integral part. -/
theorem scan_int {I : List UInt8} (m : List UInt8) (hI : ∀ c ∈ I, isD c = true) : ∀ j, j ≤ I.length → sd (I ++ m) j = I.take j ∧ sp (I ++ m) j = false ∧ sk (I ++ m) j = j
  | 0, _ => by simp [sd, sp, sk]
  | j + 1, h => by
    obtain ⟨i1, i2, i3⟩ := scan_int m hI j (by omega)
    have hd := isD_tb hI (k := j) (by omega)
    rw [← tb_left I m j (by omega)] at hd
    obtain ⟨e1, e2⟩ := sd_yes hd.1 hd.2
    refine ⟨?_, by rw [e2, i2], by rw [sk_before hd.1 hd.2 i2, i3]⟩
    rw [e1, i1, getD_left I m j (by omega), take_getD I j (by omega)]

/-- Over the fraction. -/
theorem scan_frac {I f : List UInt8} (hI : ∀ c ∈ I, isD c = true) (hf : ∀ c ∈ f, isD c = true) : ∀ i, i ≤ f.length → sd (I ++ (46 :: f)) (I.length + 1 + i) = I ++ f.take i ∧ sp (I ++ (46 :: f)) (I.length + 1 + i) = true ∧ sk (I ++ (46 :: f)) (I.length + 1 + i) = I.length
  | 0, _ => by
    obtain ⟨i1, i2, i3⟩ := scan_int (46 :: f) hI I.length (Nat.le_refl _)
    have hp : tb (I ++ (46 :: f)) I.length < 48 := by
      have := tb_right I (46 :: f) 0
      rw [Nat.add_zero] at this
      rw [this]; exact (by decide : (46 : Int) < 48)
    obtain ⟨e1, e2, e3⟩ := sd_no hp
    refine ⟨?_, e2, by rw [Nat.add_zero, e3, i3]⟩
    rw [Nat.add_zero, e1, i1]; simp
  | i + 1, h => by
    obtain ⟨i1, i2, i3⟩ := scan_frac hI hf i (by omega)
    have hd := isD_tb hf (k := i) (by omega)
    have hq : tb (I ++ (46 :: f)) (I.length + 1 + i) = tb f i := by
      rw [Nat.add_assoc, tb_right]
      unfold tb
      rw [Nat.add_comm 1 i]; simp
    have hg : (I ++ (46 :: f)).getD (I.length + 1 + i) 0 = f.getD i 0 := by
      rw [Nat.add_assoc, getD_right, Nat.add_comm 1 i]; simp
    rw [← hq] at hd
    obtain ⟨e1, e2⟩ := sd_yes hd.1 hd.2
    refine ⟨?_, by rw [← Nat.add_assoc, e2, i2], by rw [← Nat.add_assoc, sk_behind hd.1 hd.2 i2, i3]⟩
    rw [← Nat.add_assoc, e1, i1, hg, take_getD f i (by omega), List.append_assoc]

/-- What is gathered over the whole mantissa; and what each of its bytes is. -/
structure Mant (M D : List UInt8) (k : Nat) (pt : Bool) : Prop where
  digits : sd M M.length = D
  before : sk M M.length = k
  point : sp M M.length = pt
  each : ∀ j, j < M.length → (48 ≤ tb M j ∧ tb M j ≤ 57) ∨ (tb M j = 46 ∧ sp M j = false)

theorem mant_of {I : List UInt8} {F : Option (List UInt8)} (hI : ∀ c ∈ I, isD c = true) (hF : ∀ f, F = some f → (∀ c ∈ f, isD c = true) ∧ 0 < f.length) : Mant (I ++ fr F) (I ++ F.getD []) I.length F.isSome := by
  cases F with
  | none =>
    obtain ⟨i1, i2, i3⟩ := scan_int (fr none) hI I.length (Nat.le_refl _)
    have hl : (I ++ fr none).length = I.length := by simp [fr]
    refine ⟨by rw [hl, i1]; simp, by rw [hl, i3], by rw [hl, i2]; rfl, fun j hj => ?_⟩
    rw [hl] at hj
    rw [tb_left _ _ _ hj]
    exact .inl (isD_tb hI hj)
  | some f =>
    obtain ⟨hf, _⟩ := hF f rfl
    obtain ⟨i1, i2, i3⟩ := scan_frac hI hf f.length (Nat.le_refl _)
    have hl : (I ++ fr (some f)).length = I.length + 1 + f.length := by simp [fr]; omega
    refine ⟨by rw [hl]; show sd (I ++ (46 :: f)) _ = _; rw [i1]; simp, by rw [hl]; exact i3, by rw [hl]; exact i2, fun j hj => ?_⟩
    rw [hl] at hj
    show (48 ≤ tb (I ++ (46 :: f)) j ∧ tb (I ++ (46 :: f)) j ≤ 57) ∨ (tb (I ++ (46 :: f)) j = 46 ∧ sp (I ++ (46 :: f)) j = false)
    by_cases h1 : j < I.length
    · rw [tb_left _ _ _ h1]
      exact .inl (isD_tb hI h1)
    · by_cases h2 : j = I.length
      · subst h2
        have e := tb_right I (46 :: f) 0
        rw [Nat.add_zero] at e
        exact .inr ⟨by rw [e]; rfl, (scan_int (46 :: f) hI _ (Nat.le_refl _)).2.1⟩
      · obtain ⟨i, rfl⟩ : ∃ i, j = I.length + (i + 1) := ⟨j - I.length - 1, by omega⟩
        rw [tb_right]
        have e : tb (46 :: f) (i + 1) = tb f i := by unfold tb; simp
        rw [e]
        exact .inl (isD_tb hf (by omega))

/-- Digits with zeros round them: where they begin and end. -/
structure Core (D ds : List UInt8) (a : Nat) : Prop where
  len : a + ds.length ≤ D.length
  lead : ∀ j, j < a → tb D j = 48
  mid : ∀ j, j < ds.length → tb D (a + j) = tb ds j
  tail : ∀ j, a + ds.length ≤ j → j < D.length → tb D j = 48

theorem core_of {D ds : List UInt8} {a b : Nat} (h : D = zeros a ++ (ds ++ zeros b)) : Core D ds a := by
  subst h
  refine ⟨by simp [zeros_length], fun j hj => ?_, fun j hj => ?_, fun j h1 h2 => ?_⟩
  · rw [tb_left _ _ _ (by rw [zeros_length]; exact hj), zeros_tb _ _ hj]
  · have := tb_right (zeros a) (ds ++ zeros b) j
    rw [zeros_length] at this
    rw [this, tb_left _ _ _ hj]
  · simp [zeros_length] at h2
    obtain ⟨i, rfl⟩ : ∃ i, j = a + (ds.length + i) := ⟨j - a - ds.length, by omega⟩
    have := tb_right (zeros a) (ds ++ zeros b) (ds.length + i)
    rw [zeros_length] at this
    rw [this, tb_right, zeros_tb _ _ (by omega)]

end Go.Proofs.Qxb6600072aDoor
