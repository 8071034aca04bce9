/-
  WHAT THE ROWS' CONDITION ('laid') GIVES THE WALKS: the table of powers; and a world that meets it (the witness's).
-/
import Derived.Test.Qxb6600072aDoorRows
import Derived.Test.Qxb6600072aDoorLawRo
import Derived.ProofKit
import Derived.LaidMore
import Derived.OpenShut
import Derived.Stop.Joined
namespace Go.Proofs.Qxb6600072aDoor
open Go.ChangeShapes Go.WideShapes Go.ChangeAt Go.RowKit

theorem own : ownKnob Tryd.prog.godebug = none := by kernel_rfl
theorem laidOut : laidOutB Tryd.prog = true := by kernel_rfl

/-- What both rows list. -/
def laid3 : List (String × DataW Unit) := Rows.fnAppendDecimalReadsBackRow.laid
theorem laid3_eq : Rows.fnAppendDecimalIsJSONNumberRow.laid = laid3 := rfl

theorem powTab : (Rows.laid_internal_strconv_uint64pow10 : DataW Unit) = Lib.tabData .u64 Lib.pow10Tab := by kernel_rfl

theorem gPow : Tryd.prog.globalNamed Tryd.powName = some 0 := by kernel_rfl
theorem tPow : (Tryd.prog.globals[0]?).map (·.type) = some 75 := by kernel_rfl

/-- The table of powers, off the rows' condition. -/
theorem tabIs_of_laid {W : World} (h : laidMetH Tryd.prog laid3 W) : Lib.TabIs Tryd.prog W Tryd.powName .u64 Lib.pow10Tab := by
  rw [MakeChecks.laidMetH_plain _ _ _ (by kernel_rfl)] at h
  obtain ⟨ps, ⟨_, _, _, _, _, _, _, _, _, _, ⟨_, _, _, _, _, _, _, _, _, _, ⟨g, t, cs, f, p, q, hg, ht, hv, hd, _, _⟩, _⟩, _⟩, _, _⟩ := h
  obtain rfl := Option.some.inj (gPow.symm.trans hg)
  obtain rfl := Option.some.inj (tPow.symm.trans ht)
  rw [powTab] at hd
  refine (show W.var? Tryd.prog Tryd.powName = some cs from hv).trans ?_
  rw [← Lib.cells_of_tab Tryd.underlying75 Tryd.underlying47 (by kernel_rfl) (by kernel_rfl) hd]

theorem tab_of_laid {W : World} (h : laidMetH Tryd.prog laid3 W) : Tab W := by
  have ht := tabIs_of_laid h
  have hlt : 0 < W.heap.size := World.block_lt_of_cell? _ _ (ht.cell gPow 0 (by decide))
  exact fun w' hb => var?_below hb gPow hlt ht

/-- The bytes of a slice that came in. -/
theorem isBytes_of {H : Type} {enc : TypeId × Value → H} {W : World} {base : Nat} {sp : Nat → Bool} {held : Bool} {a : Option Addr} {len cap : Nat} {x : DataW H} {ps : List MemPlace}
    (h : DataW.Trod enc Tryd.prog W base sp held 22 (.slice a len cap) x ps) : ∃ l, IsBytes W a len cap l := by
  obtain ⟨fuel, hf⟩ := h
  rcases open_ints Tryd.underlying22 Tryd.underlying5 (by kernel_rfl) hf with ⟨hcs, _⟩ | ⟨y, l', c', zs, hcs, _, hl, hm, hz, _, hcell, hwz⟩
  · simp [Value.cells] at hcs
    obtain ⟨rfl, rfl, rfl⟩ := hcs
    exact ⟨[], .inl ⟨rfl, rfl, rfl, rfl⟩⟩
  · simp [Value.cells] at hcs
    obtain ⟨rfl, rfl, rfl⟩ := hcs
    have hlz : len ≤ zs.length := by rw [hz]; split <;> omega
    refine ⟨(zs.take len).map (fun z => UInt8.ofNat z.toNat), .inr ⟨y, rfl, by simp; omega, Nat.le_trans hl hm, fun j u hj => ?_⟩⟩
    rw [byteCells_get] at hj
    by_cases hjl : j < len
    · have hjz : j < zs.length := by omega
      have hw := hwz zs[j] (List.getElem_mem _)
      have hb : 0 ≤ zs[j] ∧ zs[j] ≤ 255 := by simpa [Lit.wf, IntKind.min, IntKind.max, IntKind.bits, IntKind.signed] using hw
      have hc := hcell j hjz
      rw [List.getElem?_map, List.getElem?_take, if_pos hjl, List.getElem?_eq_getElem hjz] at hj
      simp only [Option.map_some, Option.some.injEq] at hj
      rw [hc, ← hj, List.getD_eq_getElem?_getD, List.getElem?_eq_getElem hjz]
      have e : (UInt8.ofNat zs[j].toNat).toNat = zs[j].toNat := ofNat_toNat _ (by omega)
      rw [e]
      simp only [Option.getD_some]
      congr 2
      omega
    · rw [List.getElem?_eq_none (by simp; omega)] at hj
      cases hj

theorem door_met (os : Os) (args : Array Value) : laidMetH Tryd.prog laid3 ((World.doorLaid Tryd.prog 4000 os).forCall (fun _ _ => 0) ⟨#[], args, []⟩).memory :=
  laidMetH_of_parts3 (fuel := 8) (laidMet_of_run' 8 (by kernel_rfl) (by kernel_rfl)) (by kernel_rfl) (by kernel_rfl)

end Go.Proofs.Qxb6600072aDoor
