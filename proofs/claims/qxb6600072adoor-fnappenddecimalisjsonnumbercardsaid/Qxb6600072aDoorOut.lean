/-
  WHAT THE WALK OF 'FnAppendDecimalIsJSONNumber' IS TOLD OF THE TEXT.
-/
import Derived.Test.Qxb6600072aDoorJson
import Derived.Test.Qxb6600072aDoorLawRo
namespace Go.Proofs.Qxb6600072aDoor
open Go.RowKit

/-- Every byte of the text is one of these. -/
theorem Shape.kinds {t : Nat → Int} {neg zero pt ex : Bool} {s0 p1 p2 len : Nat} (h : Shape t neg zero pt ex s0 p1 p2 len) (k : Nat) (hk : k < len) :
    (48 ≤ t k ∧ t k ≤ 57) ∨ (pt = true ∧ t k = 46) ∨ (ex = true ∧ t k = 101) ∨ t k = 43 ∨ t k = 45 := by
  by_cases h0 : k < s0
  · have hn : neg = true := by
      cases hneg : neg
      · have := h.sign.2 hneg; omega
      · rfl
    obtain ⟨e1, e2⟩ := h.sign.1 hn
    obtain rfl : k = 0 := by omega
    exact .inr (.inr (.inr (.inr e2)))
  · by_cases h1 : k < p1
    · exact .inl (h.intD k (by omega) h1)
    · by_cases h2 : k < p2
      · have hp : pt = true := by
          cases hpt : pt
          · have := h.frac.2 hpt; omega
          · rfl
        by_cases e : k = p1
        · subst e
          exact .inr (.inl ⟨hp, (h.frac.1 hp).1⟩)
        · exact .inl (h.fracD k (by omega) h2)
      · have hx : ex = true := by
          cases hex : ex
          · have := h.exp.2 hex; omega
          · rfl
        obtain ⟨x1, x2, x3, x4⟩ := h.exp.1 hx
        by_cases e : k = p2
        · subst e
          exact .inr (.inr (.inl ⟨hx, x1⟩))
        · by_cases e' : k = p2 + 1
          · subst e'
            rcases x2 with x2 | x2
            · exact .inr (.inr (.inr (.inl x2)))
            · exact .inr (.inr (.inr (.inr x2)))
          · exact .inl (h.expD k (by omega) hk)

theorem Shape.noE {t : Nat → Int} {neg zero pt ex : Bool} {s0 p1 p2 len : Nat} (h : Shape t neg zero pt ex s0 p1 p2 len) (k : Nat) (hk : k < len) : t k ≠ 69 := by
  rcases h.kinds k hk with h | ⟨_, h⟩ | ⟨_, h⟩ | h | h <;> omega
theorem Shape.noe {t : Nat → Int} {neg zero pt : Bool} {s0 p1 p2 len : Nat} (h : Shape t neg zero pt false s0 p1 p2 len) (k : Nat) (hk : k < len) : t k ≠ 101 := by
  rcases h.kinds k hk with h | ⟨_, h⟩ | ⟨h, _⟩ | h | h
  · omega
  · omega
  · cases h
  · omega
  · omega
theorem Shape.noDot {t : Nat → Int} {neg zero ex : Bool} {s0 p1 p2 len : Nat} (h : Shape t neg zero false ex s0 p1 p2 len) (k : Nat) (hk : k < len) : t k ≠ 46 := by
  rcases h.kinds k hk with h | ⟨h, _⟩ | ⟨_, h⟩ | h | h
  · omega
  · cases h
  · omega
  · omega
  · omega
/-- Ahead of the exponent there is no 'e'. -/
theorem Shape.mant {t : Nat → Int} {neg zero pt : Bool} {s0 p1 p2 len : Nat} (h : Shape t neg zero pt true s0 p1 p2 len) (k : Nat) (hk : k < p2) : t k ≠ 101 ∧ t k ≠ 69 := by
  have hp := h.p2len
  refine ⟨?_, h.noE k (by omega)⟩
  by_cases h0 : k < s0
  · have hn : neg = true := by
      cases hneg : neg
      · have := h.sign.2 hneg; omega
      · rfl
    obtain ⟨e1, e2⟩ := h.sign.1 hn
    obtain rfl : k = 0 := by omega
    omega
  · by_cases h1 : k < p1
    · have := h.intD k (by omega) h1; omega
    · have hp : pt = true := by
        cases hpt : pt
        · have := h.frac.2 hpt; omega
        · rfl
      by_cases e : k = p1
      · subst e
        have := (h.frac.1 hp).1; omega
      · have := h.fracD k (by omega) hk; omega

/-- What the law's walk is told of the text. -/
structure Out (w : World) (g cp : Nat) (T : List UInt8) (neg zero pt ex : Bool) (s0 p1 p2 : Nat) : Prop where
  seg : Seg w g 0 T
  shape : Shape (tb T) neg zero pt ex s0 p1 p2 T.length
  json : Calls Tryd.prog 18 #[.slice (some ⟨g, 0, none⟩) T.length cp] w fun e w' => e = .returned (.bool true) ∧ w' = w
  lead : ex = true → p1 = s0 + 1 ∧ zero = false
  len : T.length ≤ 2097152
  cap : T.length ≤ cp

theorem out_of {w w' : World} {v : Value} {ds I : List UInt8} {F : Option (List UInt8)} {E : Option (Bool × List UInt8)} {exp : Int} {neg : Bool} (hf : Form ds exp I F E) (hO : Own w v ([] ++ shp neg I F E) w') (hn : ds.length ≤ 1048576) :
    ∃ g cp zero pt ex p1 p2 T, v = .slice (some ⟨g, 0, none⟩) T.length cp ∧ Out w' g cp T neg zero pt ex (if neg then 1 else 0) p1 p2 ∧ ex = !(decide (-6 ≤ exp) && decide (exp < 21)) ∧ (ex || pt) = !(decide (0 ≤ exp) && (decide (exp < 21) && decide ((ds.length : Int) ≤ exp + 1))) := by
  rw [List.nil_append] at hO
  have htp := shp_pos neg hf
  have htl := shp_len neg hf
  obtain ⟨g, cp, hv, _, hcp, _, hseg⟩ := hO.seg htp
  have hs : (sg neg).length = if neg then 1 else 0 := by cases neg <;> rfl
  have hS := shape_of neg hf
  refine ⟨g, cp, _, _, _, _, _, shp neg I F E, hv, ⟨hseg, by rw [← hs]; exact hS, json_any neg ds I F E exp g 0 cp w' hf hseg (by omega), fun he => ?_, by omega, hcp⟩, hf.plainE, hf.bare⟩
  obtain ⟨l1, l2⟩ := hf.lead he
  refine ⟨by rw [← hs, l1], ?_⟩
  rw [decide_eq_false_iff_not]
  intro e
  rw [e] at l2
  exact absurd l2 (by decide)

end Go.Proofs.Qxb6600072aDoor
