/-
  'recB1Parse' AT THE TEXT OF A NUMBER, all forms in one contract: it reads back the sign, the digits, the exponent.
-/
import Derived.Test.Qxb6600072aDoorParseB
import Derived.Test.Qxb6600072aDoorParseC
namespace Go.Proofs.Qxb6600072aDoor
open Go.RowKit

theorem parse_any (neg : Bool) (ds I : List UInt8) (F : Option (List UInt8)) (E : Option (Bool × List UInt8)) (exp : Int) (b off cap : Nat) (w : World) (hwf : WF ds) (hf : Form ds exp I F E) (hT : Seg w b off (shp neg I F E))
    (hn : ds.length ≤ 1048576) (x0 : -9223372036854775808 ≤ exp) (x1 : exp ≤ 9223372036854775807) :
    Calls Tryd.prog 15 #[.slice (some ⟨b, off, none⟩) (shp neg I F E).length cap] w fun e w' => Parsed w neg ds exp e w' := by
  have hs : shp neg I F E = sg neg ++ ((I ++ fr F) ++ ex E) := by unfold shp; rw [List.append_assoc]
  have hM := mant_of hf.intD hf.fracD
  obtain ⟨a, b', hD, hx⟩ := hf.mant
  have hC := core_of hD
  have hl : (I ++ fr F).length ≤ 2097152 := by
    have := hf.size
    rw [List.length_append]; omega
  rw [hs] at hT ⊢
  cases hE : E with
  | none =>
    rw [hE] at hT hx
    cases neg
    · exact parse_pn _ _ _ [] _ a _ _ b off cap w hT hM hC hwf hl hx x0 x1
    · exact parse_mn _ _ _ [] _ a _ _ b off cap w hT hM hC hwf hl hx x0 x1
  | some sd =>
    obtain ⟨s, d⟩ := sd
    rw [hE] at hT hx
    obtain ⟨e1, e2, _, e4, e5, e6⟩ := hf.expD s d hE
    have e7 := hf.expLen s d hE
    cases s
    · have e8 := e6 rfl
      cases neg
      · exact parse_pp _ _ _ d _ a _ _ b off cap w hT hM hC hwf hl hx x0 x1 e1 e2 (by omega) e4 e8
      · exact parse_mp _ _ _ d _ a _ _ b off cap w hT hM hC hwf hl hx x0 x1 e1 e2 (by omega) e4 e8
    · cases neg
      · exact parse_pq _ _ _ d _ a _ _ b off cap w hT hM hC hwf hl hx x0 x1 e1 e2 (by omega) e4 e5
      · exact parse_mq _ _ _ d _ a _ _ b off cap w hT hM hC hwf hl hx x0 x1 e1 e2 (by omega) e4 e5

end Go.Proofs.Qxb6600072aDoor
