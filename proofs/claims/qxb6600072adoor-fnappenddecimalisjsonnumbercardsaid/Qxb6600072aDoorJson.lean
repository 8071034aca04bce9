/-
  'recB1JSONNumber' AT THE TEXT OF A NUMBER, all forms in one contract: it says yes.
-/
import Derived.Test.Qxb6600072aDoorJsonA
import Derived.Test.Qxb6600072aDoorJsonB
namespace Go.Proofs.Qxb6600072aDoor
open Go.RowKit

theorem json_any (neg : Bool) (ds I : List UInt8) (F : Option (List UInt8)) (E : Option (Bool × List UInt8)) (x : Int) (b off cap : Nat) (w : World) (hf : Form ds x I F E) (hT : Seg w b off (shp neg I F E)) (hl : (shp neg I F E).length ≤ 2097152) :
    Calls Tryd.prog 18 #[.slice (some ⟨b, off, none⟩) (shp neg I F E).length cap] w fun e w' => e = .returned (.bool true) ∧ w' = w := by
  have hS := shape_of neg hf
  have hz := hf.zeroE
  cases neg
  · by_cases h0 : I = [48]
    · obtain ⟨e1, e2⟩ := hz h0
      rw [show decide (I = [48]) = true from by simpa using h0, e2, show E.isSome = false from by rw [e1]; rfl] at hS
      exact json_pztn _ _ _ _ b off cap w hS hl hT
    · rw [show decide (I = [48]) = false from by simpa using h0] at hS
      cases hF : F.isSome <;> cases hE : E.isSome <;> rw [hF, hE] at hS
      · exact json_pnfn _ _ _ _ b off cap w hS hl hT
      · exact json_pnfy _ _ _ _ b off cap w hS hl hT
      · exact json_pntn _ _ _ _ b off cap w hS hl hT
      · exact json_pnty _ _ _ _ b off cap w hS hl hT
  · by_cases h0 : I = [48]
    · obtain ⟨e1, e2⟩ := hz h0
      rw [show decide (I = [48]) = true from by simpa using h0, e2, show E.isSome = false from by rw [e1]; rfl] at hS
      exact json_mztn _ _ _ _ b off cap w hS hl hT
    · rw [show decide (I = [48]) = false from by simpa using h0] at hS
      cases hF : F.isSome <;> cases hE : E.isSome <;> rw [hF, hE] at hS
      · exact json_mnfn _ _ _ _ b off cap w hS hl hT
      · exact json_mnfy _ _ _ _ b off cap w hS hl hT
      · exact json_mntn _ _ _ _ b off cap w hS hl hT
      · exact json_mnty _ _ _ _ b off cap w hS hl hT

end Go.Proofs.Qxb6600072aDoor
