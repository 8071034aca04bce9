/-
  THE PLAIN LAW of 'equalFold': lists of bytes, no Go text in sight.
-/
namespace Go.Proofs.Qxb6600105a

/-- The byte at place k, as a number. -/
def tb (T : List UInt8) (k : Nat) : Int := ((T.getD k 0).toNat : Int)

theorem tb_eq (T : List UInt8) (k : Nat) (h : k < T.length) : tb T k = (T[k].toNat : Int) := by
  unfold tb; rw [List.getD_eq_getElem?_getD, List.getElem?_eq_getElem h]; rfl
theorem tb_bd (T : List UInt8) (k : Nat) : 0 ≤ tb T k ∧ tb T k ≤ 255 := by
  unfold tb; have := (T.getD k 0).toNat_lt; omega

/-- The ASCII lowering of a byte. -/
def low (c : Int) : Int := if 65 ≤ c ∧ c ≤ 90 then c + 32 else c
theorem low_up {c : Int} (h0 : 65 ≤ c) (h1 : c ≤ 90) : low c = c + 32 := by unfold low; rw [if_pos ⟨h0, h1⟩]
theorem low_no {c : Int} (h : c < 65 ∨ 90 < c) : low c = c := by unfold low; rw [if_neg (by omega)]
theorem low_not {c : Int} : low c < 65 ∨ 90 < low c := by unfold low; split <;> omega
theorem low_bd {c : Int} (h0 : 0 ≤ c) (h1 : c ≤ 255) : 0 ≤ low c ∧ low c ≤ 255 := by unfold low; split <;> omega

/-- What equalFold says yes to: t begins with the lowering of bs. -/
def EF (bs t : List UInt8) : Prop := ∀ k, k < bs.length → low (tb bs k) = tb t k

/-- The lowering, as bytes. -/
def lowL (bs : List UInt8) : List UInt8 := bs.map fun b => UInt8.ofNat (low (b.toNat : Int)).toNat

theorem lowL_length (bs : List UInt8) : (lowL bs).length = bs.length := by simp [lowL]
theorem lowL_tb (bs : List UInt8) (k : Nat) (h : k < bs.length) : tb (lowL bs) k = low (tb bs k) := by
  rw [tb_eq _ _ (by rw [lowL_length]; exact h), tb_eq _ _ h]
  simp only [lowL, List.getElem_map]
  have hb := low_bd (c := (bs[k].toNat : Int)) (by omega) (by have := bs[k].toNat_lt; omega)
  have e : (UInt8.ofNat (low (bs[k].toNat : Int)).toNat).toNat = (low (bs[k].toNat : Int)).toNat := by simp; omega
  rw [e]; omega
theorem EF_low (bs : List UInt8) : EF bs (lowL bs) := fun k hk => (lowL_tb bs k hk).symm

/-- Two accepted texts agree on the first bytes. -/
theorem take_eq_of {n : Nat} {s t : List UInt8} (hs : n ≤ s.length) (ht : n ≤ t.length) (h : ∀ k, k < n → tb s k = tb t k) : s.take n = t.take n := by
  apply List.ext_getElem?
  intro i
  rw [List.getElem?_take, List.getElem?_take]
  split
  · rename_i hi
    have := h i hi
    rw [tb_eq _ _ (by omega), tb_eq _ _ (by omega)] at this
    rw [List.getElem?_eq_getElem (by omega), List.getElem?_eq_getElem (by omega)]
    congr 1
    exact UInt8.toNat_inj.1 (by omega)
  · rfl

theorem tb_of_take {n : Nat} {s t : List UInt8} (h : s.take n = t.take n) (k : Nat) (hk : k < n) : tb s k = tb t k := by
  have e := congrArg (fun l => l[k]?) h
  simp only [List.getElem?_take, if_pos hk] at e
  unfold tb
  rw [List.getD_eq_getElem?_getD, List.getD_eq_getElem?_getD, e]

theorem EF_agree {bs s t : List UInt8} (hs : bs.length ≤ s.length) (ht : bs.length ≤ t.length) (h1 : EF bs s) (h2 : EF bs t) : s.take bs.length = t.take bs.length :=
  take_eq_of hs ht fun k hk => (h1 k hk).symm.trans (h2 k hk)

theorem EF_same {bs s t : List UInt8} (h : s.take bs.length = t.take bs.length) : EF bs s ↔ EF bs t :=
  ⟨fun h1 k hk => (h1 k hk).trans (tb_of_take h k hk), fun h1 k hk => (h1 k hk).trans (tb_of_take h k hk).symm⟩

end Go.Proofs.Qxb6600105a
