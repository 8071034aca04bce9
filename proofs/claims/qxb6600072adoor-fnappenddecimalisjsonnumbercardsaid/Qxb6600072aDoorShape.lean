/-
  WHERE THE PARTS OF A NUMBER's TEXT LIE, AND WHAT ITS BYTES ARE: plain lists, for the reader of JSON's grammar.
-/
import Derived.Test.Qxb6600072aDoorPlain
namespace Go.Proofs.Qxb6600072aDoor

/-- The numbers that tell a text: t: its bytes; s0: where the integral part begins; p1: where it ends; p2: where the fraction ends; len: the whole. -/
structure Shape (t : Nat → Int) (neg zero pt ex : Bool) (s0 p1 p2 len : Nat) : Prop where
  sign : (neg = true → s0 = 1 ∧ t 0 = 45) ∧ (neg = false → s0 = 0)
  int : s0 < p1 ∧ p1 ≤ len
  intD : ∀ k, s0 ≤ k → k < p1 → 48 ≤ t k ∧ t k ≤ 57
  intZ : (zero = true → p1 = s0 + 1 ∧ t s0 = 48) ∧ (zero = false → 49 ≤ t s0)
  frac : (pt = true → t p1 = 46 ∧ p1 + 1 < p2) ∧ (pt = false → p2 = p1)
  fracD : ∀ k, p1 + 1 ≤ k → k < p2 → 48 ≤ t k ∧ t k ≤ 57
  exp : (ex = true → t p2 = 101 ∧ (t (p2 + 1) = 43 ∨ t (p2 + 1) = 45) ∧ p2 + 2 < len ∧ 49 ≤ t (p2 + 2)) ∧ (ex = false → len = p2)
  expD : ∀ k, p2 + 2 ≤ k → k < len → 48 ≤ t k ∧ t k ≤ 57
  p2len : p2 ≤ len

theorem shape_of {ds I : List UInt8} {F : Option (List UInt8)} {E : Option (Bool × List UInt8)} {x : Int} (neg : Bool) (h : Form ds x I F E) :
    Shape (tb (shp neg I F E)) neg (decide (I = [48])) F.isSome E.isSome (sg neg).length ((sg neg).length + I.length) ((sg neg).length + I.length + (fr F).length) (shp neg I F E).length := by
  have hip := h.intPos
  have hlen : (shp neg I F E).length = (sg neg).length + I.length + (fr F).length + (ex E).length := by unfold shp; simp only [List.length_append]; omega
  have atI : ∀ k, k < I.length → tb (shp neg I F E) ((sg neg).length + k) = tb I k := fun k hk => by
    unfold shp; rw [tb_right, tb_left _ _ _ hk]
  have atF : ∀ k, k < (fr F).length → tb (shp neg I F E) ((sg neg).length + I.length + k) = tb (fr F) k := fun k hk => by
    unfold shp; rw [Nat.add_assoc, tb_right, tb_right, tb_left _ _ _ hk]
  have atE : ∀ k, tb (shp neg I F E) ((sg neg).length + I.length + (fr F).length + k) = tb (ex E) k := fun k => by
    unfold shp
    rw [show (sg neg).length + I.length + (fr F).length + k = (sg neg).length + (I.length + ((fr F).length + k)) by omega, tb_right, tb_right, tb_right]
  refine ⟨⟨fun e => ?_, fun e => ?_⟩, ⟨by omega, by omega⟩, fun k h1 h2 => ?_, ⟨fun e => ?_, fun e => ?_⟩, ⟨fun e => ?_, fun e => ?_⟩, fun k h1 h2 => ?_, ⟨fun e => ?_, fun e => ?_⟩, fun k h1 h2 => ?_, by omega⟩
  · subst e
    exact ⟨rfl, by unfold shp; rw [tb_left _ _ _ (by simp [sg])]; rfl⟩
  · subst e; rfl
  · obtain ⟨i, rfl⟩ : ∃ i, k = (sg neg).length + i := ⟨k - (sg neg).length, by omega⟩
    rw [atI i (by omega)]
    exact isD_tb h.intD (by omega)
  · have e' : I = [48] := by simpa using e
    refine ⟨by rw [e']; rfl, ?_⟩
    have := atI 0 hip
    rw [Nat.add_zero] at this
    rw [this, e']; rfl
  · have e' : ¬ I = [48] := by simpa using e
    have := atI 0 hip
    rw [Nat.add_zero] at this
    rw [this]
    exact h.intHead.resolve_left e'
  · obtain ⟨f, rfl⟩ := Option.isSome_iff_exists.1 e
    obtain ⟨_, hf⟩ := h.fracD f rfl
    have := atF 0 (by simp [fr])
    rw [Nat.add_zero] at this
    refine ⟨by rw [this]; rfl, by simp [fr]; omega⟩
  · have e' : F = none := by simpa using e
    subst e'; rfl
  · obtain ⟨i, rfl⟩ : ∃ i, k = (sg neg).length + I.length + i := ⟨k - ((sg neg).length + I.length), by omega⟩
    rw [atF i (by omega)]
    cases hF : F with
    | none => rw [hF] at h2; simp [fr] at h2; omega
    | some f =>
      obtain ⟨hd, _⟩ := h.fracD f hF
      obtain ⟨j, rfl⟩ : ∃ j, i = j + 1 := ⟨i - 1, by omega⟩
      rw [hF] at h2
      simp [fr] at h2
      have e : tb (fr (some f)) (j + 1) = tb f j := by unfold tb; simp [fr]
      rw [e]
      exact isD_tb hd (by omega)
  · obtain ⟨⟨s, d⟩, hE⟩ := Option.isSome_iff_exists.1 e
    obtain ⟨_, d2, d3, _⟩ := h.expD s d hE
    have a0 := atE 0
    have a1 := atE 1
    have a2 := atE 2
    rw [Nat.add_zero] at a0
    have l2 : (ex E).length = d.length + 2 := by rw [hE]; simp [ex]
    refine ⟨by rw [a0, hE]; rfl, ?_, by omega, ?_⟩
    · rw [a1, hE]
      cases s
      · exact .inl rfl
      · exact .inr rfl
    · rw [a2, hE]
      have e : tb (ex (some (s, d))) 2 = tb d 0 := by unfold tb; simp [ex]
      rw [e]; exact d3
  · have e' : E = none := by simpa using e
    subst e'
    rw [hlen]; simp [ex]
  · obtain ⟨i, rfl⟩ : ∃ i, k = (sg neg).length + I.length + (fr F).length + i := ⟨k - ((sg neg).length + I.length + (fr F).length), by omega⟩
    rw [atE i]
    cases hE : E with
    | none => rw [hlen, hE] at h2; simp [ex] at h2; omega
    | some p =>
      obtain ⟨s, d⟩ := p
      obtain ⟨d1, _⟩ := h.expD s d hE
      obtain ⟨j, rfl⟩ : ∃ j, i = j + 2 := ⟨i - 2, by omega⟩
      have l2 : (ex E).length = d.length + 2 := by rw [hE]; simp [ex]
      have e : tb (ex (some (s, d))) (j + 2) = tb d j := by unfold tb; simp [ex]
      rw [e]
      exact isD_tb d1 (by omega)

end Go.Proofs.Qxb6600072aDoor
