/-
  THE PLAIN LAW of 'FnApplyRemoveNeverGrants': sixteen bits, no Go text in sight.
-/
import Derived.WalkKit
import Derived.Laws.BitsAllLaws
namespace Go.Proofs.Qxb6001550a

theorem bits_and (x y : BitVec 16) : bits .and .u16 (x.toNat : Int) (y.toNat : Int) = ((x &&& y).toNat : Int) := by
  rw [u16_and_nat _ _ x.isLt y.isLt, BitVec.toNat_and]
theorem bits_or (x y : BitVec 16) : bits .or .u16 (x.toNat : Int) (y.toNat : Int) = ((x ||| y).toNat : Int) := by
  rw [u16_or_nat _ _ x.isLt y.isLt, BitVec.toNat_or]
theorem bits_andNot (x y : BitVec 16) : bits .andNot .u16 (x.toNat : Int) (y.toNat : Int) = ((x &&& ~~~y).toNat : Int) := by
  rw [u16_andNot_nat _ _ x.isLt y.isLt, BitVec.toNat_and, BitVec.toNat_not]

/-- What is taken away: p, and all of write where p touches it. -/
def tk (p : Int) : Int := if bits .and .u16 p 96 = 0 then p else bits .or .u16 p 96
/-- What is held behind removing p. -/
def rm (p held : Int) : Int := bits .andNot .u16 held (tk p)

def tkv (p : BitVec 16) : BitVec 16 := if p &&& 96#16 = 0#16 then p else p ||| 96#16

theorem zero_iff (x : BitVec 16) : ((x.toNat : Int) = 0) ↔ x = 0#16 := by
  constructor
  · intro h; apply BitVec.eq_of_toNat_eq; simp; omega
  · rintro rfl; rfl

theorem and96 (x : BitVec 16) : bits .and .u16 (x.toNat : Int) 96 = ((x &&& 96#16).toNat : Int) := bits_and x 96#16
theorem or96 (x : BitVec 16) : bits .or .u16 (x.toNat : Int) 96 = ((x ||| 96#16).toNat : Int) := bits_or x 96#16

theorem tk_eq (x : BitVec 16) : tk (x.toNat : Int) = ((tkv x).toNat : Int) := by
  unfold tk tkv
  rw [and96, or96]
  by_cases h : x &&& 96#16 = 0#16
  · rw [if_pos h, if_pos ((zero_iff _).2 h)]
  · rw [if_neg h, if_neg (fun e => h ((zero_iff _).1 e))]

theorem rm_eq (x y : BitVec 16) : rm (x.toNat : Int) (y.toNat : Int) = ((y &&& ~~~tkv x).toNat : Int) := by
  unfold rm; rw [tk_eq, bits_andNot]

theorem bv (p : Int) (h : (Lit.int .u16 p).wf = true) : ∃ x : BitVec 16, p = (x.toNat : Int) := by
  have hb : 0 ≤ p ∧ p ≤ 65535 := by simpa [Lit.wf, IntKind.min, IntKind.max, IntKind.bits, IntKind.signed] using h
  exact ⟨BitVec.ofNat 16 p.toNat, by simp; omega⟩

/-- All that the law asks of the number that is left. -/
structure Left16 (p held r : Int) : Prop where
  now : rm p held = r
  grants : bits .andNot .u16 r held = 0
  leaves : bits .and .u16 r p = 0
  write : bits .and .u16 p 96 = 0 ∨ bits .and .u16 r 96 = 0
  keeps : bits .and .u16 r (bits .andNot .u16 held (bits .or .u16 p 96)) = bits .andNot .u16 held (bits .or .u16 p 96)
  again : rm p r = r
  undo : rm p (bits .or .u16 held p) = r

theorem left16 (p held : Int) (hp : (Lit.int .u16 p).wf = true) (hh : (Lit.int .u16 held).wf = true) : ∃ r, Left16 p held r := by
  obtain ⟨x, rfl⟩ := bv p hp
  obtain ⟨y, rfl⟩ := bv held hh
  refine ⟨((y &&& ~~~tkv x).toNat : Int), rm_eq x y, ?_, ?_, ?_, ?_, ?_, ?_⟩
  · rw [bits_andNot, zero_iff]
    ext i hi; simp; cases y[i] <;> simp
  · rw [bits_and, zero_iff]
    unfold tkv; split
    · ext i hi; simp
    · ext i hi; simp; cases x[i] <;> simp
  · by_cases h : x &&& 96#16 = 0#16
    · left; rw [and96, zero_iff]; exact h
    · right; rw [and96, zero_iff]; unfold tkv; rw [if_neg h]
      ext i hi; simp
  · rw [or96, bits_andNot, bits_and]
    congr 1; apply congrArg
    unfold tkv; split
    · ext i hi; simp; cases x[i] <;> cases y[i] <;> simp
    · ext i hi; simp
  · rw [rm_eq]; congr 1; apply congrArg
    ext i hi; simp
  · rw [bits_or, rm_eq]; congr 1; apply congrArg
    unfold tkv; split
    · ext i hi; simp; cases x[i] <;> cases y[i] <;> simp
    · ext i hi; simp; cases x[i] <;> cases y[i] <;> simp

end Go.Proofs.Qxb6001550a
