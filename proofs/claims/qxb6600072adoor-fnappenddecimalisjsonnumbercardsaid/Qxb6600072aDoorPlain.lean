/-
  THE PLAIN LAW of 'appendDecimal': lists of bytes, no Go text in sight. The text of a number: a sign, an integral part, a fraction, an exponent ('shp'); what is said of its parts for the digits ds and the exponent exp ('Form').
-/
import Derived.Lib.ItoaNum
import Derived.Lib.ItoaLen
namespace Go.Proofs.Qxb6600072aDoor

/-- The byte at place k, as a number. -/
def tb (T : List UInt8) (k : Nat) : Int := ((T.getD k 0).toNat : Int)

theorem tb_eq (T : List UInt8) (k : Nat) (h : k < T.length) : tb T k = (T[k].toNat : Int) := by
  unfold tb; rw [List.getD_eq_getElem?_getD, List.getElem?_eq_getElem h]; rfl
theorem tb_left (l m : List UInt8) (k : Nat) (h : k < l.length) : tb (l ++ m) k = tb l k := by
  unfold tb; rw [List.getD_eq_getElem?_getD, List.getD_eq_getElem?_getD, List.getElem?_append_left h]
theorem tb_right (l m : List UInt8) (k : Nat) : tb (l ++ m) (l.length + k) = tb m k := by
  unfold tb; rw [List.getD_eq_getElem?_getD, List.getD_eq_getElem?_getD, List.getElem?_append_right (by omega), Nat.add_sub_cancel_left]
theorem tb_nonneg (l : List UInt8) (k : Nat) : 0 ≤ tb l k ∧ tb l k ≤ 255 := by
  unfold tb; have := (l.getD k 0).toNat_lt; omega

def isD (c : UInt8) : Bool := decide (48 ≤ c.toNat) && decide (c.toNat ≤ 57)

theorem isD_tb {l : List UInt8} (h : ∀ c ∈ l, isD c = true) {k : Nat} (hk : k < l.length) : 48 ≤ tb l k ∧ tb l k ≤ 57 := by
  have := h l[k] (List.getElem_mem _)
  rw [tb_eq _ _ hk]
  simp [isD] at this
  omega

def zeros (k : Nat) : List UInt8 := List.replicate k 48
theorem zeros_length (k : Nat) : (zeros k).length = k := by simp [zeros]
theorem zeros_isD (k : Nat) : ∀ c ∈ zeros k, isD c = true := by
  intro c hc
  rw [(List.mem_replicate.1 hc).2]; decide
theorem zeros_tb (k j : Nat) (h : j < k) : tb (zeros k) j = 48 := by
  rw [tb_eq _ _ (by rw [zeros_length]; exact h)]; simp [zeros]
theorem zeros_succ (k : Nat) : zeros (k + 1) = zeros k ++ [48] := by
  unfold zeros; rw [List.replicate_succ']

def sg (neg : Bool) : List UInt8 := if neg then [45] else []
def fr : Option (List UInt8) → List UInt8
  | none => []
  | some f => 46 :: f
def ex : Option (Bool × List UInt8) → List UInt8
  | none => []
  | some (s, d) => 101 :: (if s then 45 else 43) :: d
def shp (neg : Bool) (I : List UInt8) (F : Option (List UInt8)) (E : Option (Bool × List UInt8)) : List UInt8 := sg neg ++ (I ++ (fr F ++ ex E))

/-- The number that a row of digits spells. -/
def val (l : List UInt8) : Nat := l.foldl (fun a c => 10 * a + (c.toNat - 48)) 0
theorem val_snoc (l : List UInt8) (c : UInt8) : val (l ++ [c]) = 10 * val l + (c.toNat - 48) := by simp [val]
theorem val_nil : val [] = 0 := rfl
theorem val_take_succ (l : List UInt8) (k : Nat) (h : k < l.length) : val (l.take (k + 1)) = 10 * val (l.take k) + (l[k].toNat - 48) := by
  rw [List.take_succ_eq_append_getElem h, val_snoc]
theorem val_take_le (l : List UInt8) (k : Nat) : val (l.take k) ≤ val l := by
  induction hn : l.length - k generalizing k with
  | zero => rw [List.take_of_length_le (by omega)]; exact Nat.le_refl _
  | succ n ih =>
    have h := ih (k + 1) (by omega)
    rw [val_take_succ l k (by omega)] at h
    omega

theorem ofNat_toNat (n : Nat) (h : n < 256) : (UInt8.ofNat n).toNat = n := by simp; omega

theorem decDigits_facts (u : Nat) : (∀ c ∈ Lib.decDigits u, isD c = true) ∧ val (Lib.decDigits u) = u ∧ 0 < (Lib.decDigits u).length ∧ (1 ≤ u → 49 ≤ tb (Lib.decDigits u) 0) := by
  induction u using Nat.strongRecOn with
  | ind u ih =>
    by_cases h : u < 10
    · rw [Lib.decDigits_one h]
      have e := ofNat_toNat (48 + u) (by omega)
      refine ⟨fun c hc => ?_, ?_, by simp, fun h1 => ?_⟩
      · simp at hc; subst hc; simp [isD]; omega
      · show 10 * 0 + ((UInt8.ofNat (48 + u)).toNat - 48) = u
        rw [e]; omega
      · show 49 ≤ ((UInt8.ofNat (48 + u)).toNat : Int)
        rw [e]; omega
    · have e := ofNat_toNat (48 + u % 10) (by omega)
      have hd : Lib.decDigits u = Lib.decDigits (u / 10) ++ [UInt8.ofNat (48 + u % 10)] := by
        rw [Lib.decDigits, dif_neg h]
      obtain ⟨i1, i2, i3, i4⟩ := ih (u / 10) (by omega)
      rw [hd]
      refine ⟨fun c hc => ?_, ?_, by simp, fun _ => ?_⟩
      · rcases List.mem_append.1 hc with hc | hc
        · exact i1 c hc
        · simp at hc; subst hc; simp [isD]; omega
      · rw [val_snoc, i2, e]; omega
      · rw [tb_left _ _ _ i3]; exact i4 (by omega)

/-- What the exponent stands for. -/
def ev : Option (Bool × List UInt8) → Int
  | none => 0
  | some (s, d) => if s then -(val d : Int) else (val d : Int)

/-- Not empty, decimal digits only, no zero at either end. -/
structure WF (ds : List UInt8) : Prop where
  dig : ∀ c ∈ ds, isD c = true
  pos : 0 < ds.length
  head : tb ds 0 ≠ 48
  last : tb ds (ds.length - 1) ≠ 48

/-- What is said of the parts of the text of ds and exp. -/
structure Form (ds : List UInt8) (exp : Int) (I : List UInt8) (F : Option (List UInt8)) (E : Option (Bool × List UInt8)) : Prop where
  intD : ∀ c ∈ I, isD c = true
  intPos : 0 < I.length
  intHead : I = [48] ∨ 49 ≤ tb I 0
  fracD : ∀ f, F = some f → (∀ c ∈ f, isD c = true) ∧ 0 < f.length
  expD : ∀ s d, E = some (s, d) → (∀ c ∈ d, isD c = true) ∧ 0 < d.length ∧ 49 ≤ tb d 0 ∧ 1 ≤ val d ∧ val d ≤ 9223372036854775808 ∧ (s = false → val d < 9223372036854775808)
  mant : ∃ a b, I ++ F.getD [] = zeros a ++ (ds ++ zeros b) ∧ (I.length : Int) - 1 - a + ev E = exp
  plainE : E.isSome = !(decide (-6 ≤ exp) && decide (exp < 21))
  bare : (E.isSome || F.isSome) = !(decide (0 ≤ exp) && (decide (exp < 21) && decide ((ds.length : Int) ≤ exp + 1)))
  lead : E.isSome = true → I.length = 1 ∧ 49 ≤ tb I 0
  zeroE : I = [48] → E = none ∧ F.isSome = true
  size : (fr F).length + I.length ≤ ds.length + 30
  expLen : ∀ s d, E = some (s, d) → d.length ≤ 20

theorem head49 {ds : List UInt8} (h : WF ds) : 49 ≤ tb ds 0 := by
  have := isD_tb h.dig h.pos
  have := h.head
  omega

theorem tb_take (ds : List UInt8) (n k : Nat) (h : k < n) : tb (ds.take n) k = tb ds k := by
  unfold tb
  rw [List.getD_eq_getElem?_getD, List.getD_eq_getElem?_getD, List.getElem?_take, if_pos h]

/-- THE EXPONENT FORM. -/
theorem form_exp {ds : List UInt8} {exp : Int} (h : WF ds) (h0 : -9223372036854775808 ≤ exp) (h1 : exp ≤ 9223372036854775807) (hp : exp < -6 ∨ 21 ≤ exp) :
    Form ds exp (ds.take 1) (if 1 < ds.length then some (ds.drop 1) else none) (some (decide (exp < 0), Lib.decDigits exp.natAbs)) := by
  have hpos := h.pos
  have hl : (ds.take 1).length = 1 := by simp; omega
  obtain ⟨d1, d2, d3, d4⟩ := decDigits_facts exp.natAbs
  have hh : 49 ≤ tb (ds.take 1) 0 := by rw [tb_take _ _ _ (by omega)]; exact head49 h
  refine ⟨fun c hc => h.dig c (List.mem_of_mem_take hc), by omega, .inr hh, ?_, ?_, ⟨0, 0, ?_, ?_⟩, ?_, ?_, fun _ => ⟨hl, hh⟩, ?_, ?_, ?_⟩
  · intro f hf
    by_cases h2 : 1 < ds.length
    · rw [if_pos h2] at hf
      cases hf
      exact ⟨fun c hc => h.dig c (List.mem_of_mem_drop hc), by simp; omega⟩
    · rw [if_neg h2] at hf; cases hf
  · intro s d hd
    simp only [Option.some.injEq, Prod.mk.injEq] at hd
    obtain ⟨rfl, rfl⟩ := hd
    refine ⟨d1, d3, d4 (by omega), by omega, by omega, fun hs => ?_⟩
    have : ¬ exp < 0 := by simpa using hs
    omega
  · by_cases h2 : 1 < ds.length
    · rw [if_pos h2]
      show ds.take 1 ++ ds.drop 1 = [] ++ (ds ++ [])
      rw [List.take_append_drop]; simp
    · rw [if_neg h2]
      show ds.take 1 ++ [] = [] ++ (ds ++ [])
      rw [List.take_of_length_le (by omega)]; simp
  · show ((ds.take 1).length : Int) - 1 - (0 : Nat) + (if decide (exp < 0) = true then -(val (Lib.decDigits exp.natAbs) : Int) else (val (Lib.decDigits exp.natAbs) : Int)) = exp
    rw [hl, d2]
    by_cases hn : exp < 0
    · rw [if_pos (by simpa using hn)]; omega
    · rw [if_neg (by simpa using hn)]; omega
  · have : (decide (-6 ≤ exp) && decide (exp < 21)) = false := by simp; omega
    rw [this]; rfl
  · have : (decide (0 ≤ exp) && (decide (exp < 21) && decide ((ds.length : Int) ≤ exp + 1))) = false := by simp; omega
    rw [this]; rfl
  · intro e
    rw [e] at hh
    exact absurd hh (by decide)
  · rw [hl]
    by_cases h2 : 1 < ds.length
    · rw [if_pos h2]; simp [fr]; omega
    · rw [if_neg h2]; simp [fr]
  · intro s d hd
    simp only [Option.some.injEq, Prod.mk.injEq] at hd
    obtain ⟨_, rfl⟩ := hd
    rw [Lib.decDigits_length]
    exact Lib.nDigits_le20 _ (by omega)

/-- BELOW ONE. -/
theorem form_small {ds : List UInt8} {exp : Int} (h : WF ds) (h0 : -6 ≤ exp) (h1 : exp < 0) :
    Form ds exp [48] (some (zeros (-exp - 1).toNat ++ ds)) none := by
  have hpos := h.pos
  refine ⟨fun c hc => by simp at hc; subst hc; decide, by simp, .inl rfl, ?_, fun s d hd => (by cases hd), ⟨(-exp).toNat, 0, ?_, ?_⟩, ?_, ?_, fun e => (by simp at e), fun _ => ⟨rfl, rfl⟩, ?_, fun s d hd => (by cases hd)⟩
  · intro f hf
    cases hf
    refine ⟨fun c hc => ?_, by simp; omega⟩
    rcases List.mem_append.1 hc with hc | hc
    · exact zeros_isD _ c hc
    · exact h.dig c hc
  · have e : (-exp).toNat = (-exp - 1).toNat + 1 := by omega
    rw [e]
    simp [zeros, List.replicate_succ]
  · simp [ev]; omega
  · have : (decide (-6 ≤ exp) && decide (exp < 21)) = true := by simp; omega
    rw [this]; rfl
  · have : (decide (0 ≤ exp) && (decide (exp < 21) && decide ((ds.length : Int) ≤ exp + 1))) = false := by simp; omega
    rw [this]; rfl
  · simp [fr, zeros_length]; omega

/-- AN INTEGER. -/
theorem form_int {ds : List UInt8} {exp : Int} (h : WF ds) (h0 : 0 ≤ exp) (h1 : exp < 21) (h2 : (ds.length : Int) ≤ exp + 1) :
    Form ds exp (ds ++ zeros (exp + 1 - ds.length).toNat) none none := by
  have hpos := h.pos
  have hh : 49 ≤ tb (ds ++ zeros (exp + 1 - ds.length).toNat) 0 := by rw [tb_left _ _ _ hpos]; exact head49 h
  refine ⟨?_, by simp; omega, .inr hh, fun f hf => (by cases hf), fun s d hd => (by cases hd), ⟨0, (exp + 1 - ds.length).toNat, by simp [zeros], ?_⟩, ?_, ?_, fun e => (by simp at e), ?_, ?_, fun s d hd => (by cases hd)⟩
  · intro c hc
    rcases List.mem_append.1 hc with hc | hc
    · exact h.dig c hc
    · exact zeros_isD _ c hc
  · simp [ev, zeros_length]; omega
  · have : (decide (-6 ≤ exp) && decide (exp < 21)) = true := by simp; omega
    rw [this]; rfl
  · have : (decide (0 ≤ exp) && (decide (exp < 21) && decide ((ds.length : Int) ≤ exp + 1))) = true := by simp; omega
    rw [this]; rfl
  · intro e
    rw [e] at hh
    exact absurd hh (by decide)
  · simp [fr, zeros_length]; omega

/-- A POINT INSIDE. -/
theorem form_mid {ds : List UInt8} {exp : Int} (h : WF ds) (h0 : 0 ≤ exp) (h1 : exp < 21) (h2 : exp + 1 < (ds.length : Int)) :
    Form ds exp (ds.take (exp + 1).toNat) (some (ds.drop (exp + 1).toNat)) none := by
  have hpos := h.pos
  have hl : (ds.take (exp + 1).toNat).length = (exp + 1).toNat := by simp; omega
  have hh : 49 ≤ tb (ds.take (exp + 1).toNat) 0 := by rw [tb_take _ _ _ (by omega)]; exact head49 h
  refine ⟨fun c hc => h.dig c (List.mem_of_mem_take hc), by omega, .inr hh, ?_, fun s d hd => (by cases hd), ⟨0, 0, by simp [zeros], ?_⟩, ?_, ?_, fun e => (by simp at e), ?_, ?_, fun s d hd => (by cases hd)⟩
  · intro f hf
    cases hf
    exact ⟨fun c hc => h.dig c (List.mem_of_mem_drop hc), by simp; omega⟩
  · rw [hl]; simp [ev]; omega
  · have : (decide (-6 ≤ exp) && decide (exp < 21)) = true := by simp; omega
    rw [this]; rfl
  · have : (decide (0 ≤ exp) && (decide (exp < 21) && decide ((ds.length : Int) ≤ exp + 1))) = false := by simp; omega
    rw [this]; rfl
  · intro e
    rw [e] at hh
    exact absurd hh (by decide)
  · rw [hl]; simp [fr]; omega

end Go.Proofs.Qxb6600072aDoor
