/-
  'strconv.AppendInt' AT BASE 10, laid at this dump off the guide's shelf.
-/
import Derived.Test.Qxb6600072aDoorRows
import Derived.Shelf.Strconv.AppendIntPublic10
import Derived.Shelf.Lay
namespace Go.Proofs
open Go.Shelf

/-- The name of the table of powers, as the row lists it. -/
def Tryd.powName : String := Qxb6600072aDoor.Rows.fnAppendDecimalReadsBackRow.named.headD ""

shelf_lay LaysM.n176 Nm 176 at Tryd as Tryd.laysAI
theorem Tryd.appendInt (B n : Nat) (i : Int) (h0 : -9223372036854775808 ≤ i) (h1 : i ≤ 9223372036854775807) (sv : Value) (xs : List Value) (w : World) (hown : w.ownsRow B 5 1 sv n xs) (hBw : B ≤ w.heap.size) (hlim : n + 21 ≤ 140737488355328)
    (htab : Lib.TabBelow Tryd.prog B w Tryd.powName .u64 Lib.pow10Tab) :
    Calls Tryd.prog 43 #[sv, .int .i64 i, .int .i64 10] w fun e w' => ∃ v', e = .returned v' ∧ w'.ownsRow B 5 1 v' (n + (Lib.itoa i).length) (xs ++ Lib.byteCells (Lib.itoa i)) ∧ RowKit.Below B w w' ∧ Lib.OthersKept 5 none w w' :=
  Any.strconv_AppendInt_10 Tryd.laysAI B n i h0 h1 sv xs w hown hBw hlim htab

end Go.Proofs
