/-
  NARROWER THAN 'FOR EVERY INPUT', by the rows' own cells (each row's printed sentence says how): FnAppendDecimalReadsBack: laid · FnAppendDecimalIsJSONNumber: laid · FnRoundDigitsNearestEven: laid · FnRoundDigitsIdempotent: laid · FnRoundDigitsMonotone: laid · FnFormatGShortestReadsBack: laid · FnFormatGPrecisionStable: laid · FnFormatGSharpOnlyPads: laid.
  DERIVED. THE GIVEN ROWS OF THIS SEAT. 8 by the template 'for every input the law returns true; each argument reads behind the call as it read before'; 0 by the template 'total and deterministic' (their statements: Qxb6600072aDoorTotals.lean).
  GIVEN WITH THE SEED: the statements are not yours to turn. If you find one false, say at which input.
  Laid BY PROGRAM, IN A SANDBOX (cutbox-rows.mjs): the forced cells as the released guide's own fill.sh prints them over the translation 5a653726c1aa1690… (all of the seat's roots in one cut). By AI agents, Wed Nov 11 2026. No macro, syntax, notation, axiom, sorry.
-/
import Derived.Test.Qxb6600072aDoorChecked
import GoSem.PinnedTables
import GoSem.Claim
import GoSem.ClaimJoined
import GoSem.ClaimMapViews
import Derived.JoinedTies
import Derived.KernelRfl
namespace Go.Proofs.Qxb6600072aDoor
/- THE CELL 'sum', in the pinned program and in every row, IS THE sha256 OF THE DUMP (.gsa) THAT Qxb6600072aDoorProg.lean LOADS. Nothing in Lean hashes anything: it is a label: what it is worth is what the hold of that sum in a sandbox is worth. -/
noncomputable def Tryd.pinned : Pinned := { name := "qxb6600072adoor", sum := "5a653726c1aa16900cffd491877ad42011cd411ea241841970bdd3b84d1c69d8", checked := Tryd.checked }
namespace Rows
def none {H : Type} : Left H := { results := [], args := [] }

/- WHAT THE LISTED PACKAGE-LEVEL VARIABLES READ AS WHEN THE CALL BEGINS. Each datum BY PROGRAM (the guide's laid-datum.mjs) off the statement by which the dump's own 'gosem.cut.vars' lays the variable. In a bare row this is a premise. The card (Qxb6600072aDoorCards.lean) ties it to the program's text. -/
def laid_math_bits_deBruijn32tab {H : Type} : DataW H := .agg [.lit (.int .u8 0), .lit (.int .u8 1), .lit (.int .u8 28), .lit (.int .u8 2), .lit (.int .u8 29), .lit (.int .u8 14), .lit (.int .u8 24), .lit (.int .u8 3), .lit (.int .u8 30), .lit (.int .u8 22), .lit (.int .u8 20), .lit (.int .u8 15), .lit (.int .u8 25), .lit (.int .u8 17), .lit (.int .u8 4), .lit (.int .u8 8), .lit (.int .u8 31), .lit (.int .u8 27), .lit (.int .u8 13), .lit (.int .u8 23), .lit (.int .u8 21), .lit (.int .u8 19), .lit (.int .u8 16), .lit (.int .u8 7), .lit (.int .u8 26), .lit (.int .u8 12), .lit (.int .u8 18), .lit (.int .u8 6), .lit (.int .u8 11), .lit (.int .u8 5), .lit (.int .u8 10), .lit (.int .u8 9)]
def laid_math_bits_deBruijn64tab {H : Type} : DataW H := .agg [.lit (.int .u8 0), .lit (.int .u8 1), .lit (.int .u8 56), .lit (.int .u8 2), .lit (.int .u8 57), .lit (.int .u8 49), .lit (.int .u8 28), .lit (.int .u8 3), .lit (.int .u8 61), .lit (.int .u8 58), .lit (.int .u8 42), .lit (.int .u8 50), .lit (.int .u8 38), .lit (.int .u8 29), .lit (.int .u8 17), .lit (.int .u8 4), .lit (.int .u8 62), .lit (.int .u8 47), .lit (.int .u8 59), .lit (.int .u8 36), .lit (.int .u8 45), .lit (.int .u8 43), .lit (.int .u8 51), .lit (.int .u8 22), .lit (.int .u8 53), .lit (.int .u8 39), .lit (.int .u8 33), .lit (.int .u8 30), .lit (.int .u8 24), .lit (.int .u8 18), .lit (.int .u8 12), .lit (.int .u8 5), .lit (.int .u8 63), .lit (.int .u8 55), .lit (.int .u8 48), .lit (.int .u8 27), .lit (.int .u8 60), .lit (.int .u8 41), .lit (.int .u8 37), .lit (.int .u8 16), .lit (.int .u8 46), .lit (.int .u8 35), .lit (.int .u8 44), .lit (.int .u8 21), .lit (.int .u8 52), .lit (.int .u8 32), .lit (.int .u8 23), .lit (.int .u8 11), .lit (.int .u8 54), .lit (.int .u8 26), .lit (.int .u8 40), .lit (.int .u8 15), .lit (.int .u8 34), .lit (.int .u8 20), .lit (.int .u8 31), .lit (.int .u8 10), .lit (.int .u8 25), .lit (.int .u8 14), .lit (.int .u8 19), .lit (.int .u8 9), .lit (.int .u8 13), .lit (.int .u8 8), .lit (.int .u8 7), .lit (.int .u8 6)]
def laid_internal_strconv_uint64pow10 {H : Type} : DataW H := .agg [.lit (.int .u64 1), .lit (.int .u64 10), .lit (.int .u64 100), .lit (.int .u64 1000), .lit (.int .u64 10000), .lit (.int .u64 100000), .lit (.int .u64 1000000), .lit (.int .u64 10000000), .lit (.int .u64 100000000), .lit (.int .u64 1000000000), .lit (.int .u64 10000000000), .lit (.int .u64 100000000000), .lit (.int .u64 1000000000000), .lit (.int .u64 10000000000000), .lit (.int .u64 100000000000000), .lit (.int .u64 1000000000000000), .lit (.int .u64 10000000000000000), .lit (.int .u64 100000000000000000), .lit (.int .u64 1000000000000000000), .lit (.int .u64 10000000000000000000)]
def laid_unicode_utf8_acceptRanges {H : Type} : DataW H := .agg [.agg [.lit (.int .u8 128), .lit (.int .u8 191)], .agg [.lit (.int .u8 160), .lit (.int .u8 191)], .agg [.lit (.int .u8 128), .lit (.int .u8 159)], .agg [.lit (.int .u8 144), .lit (.int .u8 191)], .agg [.lit (.int .u8 128), .lit (.int .u8 143)], .agg [.lit (.int .u8 0), .lit (.int .u8 0)], .agg [.lit (.int .u8 0), .lit (.int .u8 0)], .agg [.lit (.int .u8 0), .lit (.int .u8 0)], .agg [.lit (.int .u8 0), .lit (.int .u8 0)], .agg [.lit (.int .u8 0), .lit (.int .u8 0)], .agg [.lit (.int .u8 0), .lit (.int .u8 0)], .agg [.lit (.int .u8 0), .lit (.int .u8 0)], .agg [.lit (.int .u8 0), .lit (.int .u8 0)], .agg [.lit (.int .u8 0), .lit (.int .u8 0)], .agg [.lit (.int .u8 0), .lit (.int .u8 0)], .agg [.lit (.int .u8 0), .lit (.int .u8 0)]]
/-- One of Go's own tables, pinned by name: the form's constant. -/
def laid_unicode_utf8_first : DataW Unit := Go.Pinned.utf8First

/-- 'zzlaws_record_b1.FnAppendDecimalReadsBack': WHATEVER THE INPUT: true; the input reads as it did. -/
def fnAppendDecimalReadsBackSpec : ChangeSpec := { name := "fnAppendDecimalReadsBack", fn := fun _ => fun
  | [d1, d2, d3, d4] => { results := [.lit (.bool true)], args := [d1, d2, d3, d4] }
  | _ => none }
def fnAppendDecimalReadsBackRow : OpenClaim := { program := "qxb6600072adoor", sum := "5a653726c1aa16900cffd491877ad42011cd411ea241841970bdd3b84d1c69d8", func := "example.com/millrace/millrace/zzlaws_record_b1.FnAppendDecimalReadsBack", spec := "fnAppendDecimalReadsBack", named := ["internal/strconv.uint64pow10", "math/bits.deBruijn32tab", "math/bits.deBruijn64tab"], apart := false, laid := [("math/bits.deBruijn32tab", laid_math_bits_deBruijn32tab), ("math/bits.deBruijn64tab", laid_math_bits_deBruijn64tab), ("internal/strconv.uint64pow10", laid_internal_strconv_uint64pow10)] }
def FnAppendDecimalReadsBackSaid : Prop := fnAppendDecimalReadsBackRow.holds Tryd.pinned (OpenSpec.ofChange fnAppendDecimalReadsBackSpec)

/-- ITS FALSE NEIGHBOUR: 'it returns false'. Refute it at one input. -/
def fnAppendDecimalReadsBackWrong : ChangeSpec := { name := "fnAppendDecimalReadsBack", fn := fun _ => fun
  | [d1, d2, d3, d4] => { results := [.lit (.bool false)], args := [d1, d2, d3, d4] }
  | _ => none }
def FnAppendDecimalReadsBackWrongFalsely : Prop := fnAppendDecimalReadsBackRow.holds Tryd.pinned (OpenSpec.ofChange fnAppendDecimalReadsBackWrong)

/-- 'zzlaws_record_b1.FnAppendDecimalIsJSONNumber': WHATEVER THE INPUT: true; the input reads as it did. -/
def fnAppendDecimalIsJSONNumberSpec : ChangeSpec := { name := "fnAppendDecimalIsJSONNumber", fn := fun _ => fun
  | [d1, d2, d3] => { results := [.lit (.bool true)], args := [d1, d2, d3] }
  | _ => none }
def fnAppendDecimalIsJSONNumberRow : OpenClaim := { program := "qxb6600072adoor", sum := "5a653726c1aa16900cffd491877ad42011cd411ea241841970bdd3b84d1c69d8", func := "example.com/millrace/millrace/zzlaws_record_b1.FnAppendDecimalIsJSONNumber", spec := "fnAppendDecimalIsJSONNumber", named := ["internal/strconv.uint64pow10", "math/bits.deBruijn32tab", "math/bits.deBruijn64tab"], apart := false, laid := [("math/bits.deBruijn32tab", laid_math_bits_deBruijn32tab), ("math/bits.deBruijn64tab", laid_math_bits_deBruijn64tab), ("internal/strconv.uint64pow10", laid_internal_strconv_uint64pow10)] }
def FnAppendDecimalIsJSONNumberSaid : Prop := fnAppendDecimalIsJSONNumberRow.holds Tryd.pinned (OpenSpec.ofChange fnAppendDecimalIsJSONNumberSpec)

/-- ITS FALSE NEIGHBOUR: 'it returns false'. Refute it at one input. -/
def fnAppendDecimalIsJSONNumberWrong : ChangeSpec := { name := "fnAppendDecimalIsJSONNumber", fn := fun _ => fun
  | [d1, d2, d3] => { results := [.lit (.bool false)], args := [d1, d2, d3] }
  | _ => none }
def FnAppendDecimalIsJSONNumberWrongFalsely : Prop := fnAppendDecimalIsJSONNumberRow.holds Tryd.pinned (OpenSpec.ofChange fnAppendDecimalIsJSONNumberWrong)

/-- 'zzlaws_record_b1.FnRoundDigitsNearestEven': WHATEVER THE INPUT: true; the input reads as it did. -/
def fnRoundDigitsNearestEvenSpec : ChangeSpec := { name := "fnRoundDigitsNearestEven", fn := fun _ => fun
  | [d1, d2, d3] => { results := [.lit (.bool true)], args := [d1, d2, d3] }
  | _ => none }
def fnRoundDigitsNearestEvenRow : OpenClaim := { program := "qxb6600072adoor", sum := "5a653726c1aa16900cffd491877ad42011cd411ea241841970bdd3b84d1c69d8", func := "example.com/millrace/millrace/zzlaws_record_b1.FnRoundDigitsNearestEven", spec := "fnRoundDigitsNearestEven", named := ["unicode/utf8.first", "unicode/utf8.acceptRanges"], apart := false, laid := [("unicode/utf8.acceptRanges", laid_unicode_utf8_acceptRanges), ("unicode/utf8.first", laid_unicode_utf8_first)] }
def FnRoundDigitsNearestEvenSaid : Prop := fnRoundDigitsNearestEvenRow.holds Tryd.pinned (OpenSpec.ofChange fnRoundDigitsNearestEvenSpec)

/-- ITS FALSE NEIGHBOUR: 'it returns false'. Refute it at one input. -/
def fnRoundDigitsNearestEvenWrong : ChangeSpec := { name := "fnRoundDigitsNearestEven", fn := fun _ => fun
  | [d1, d2, d3] => { results := [.lit (.bool false)], args := [d1, d2, d3] }
  | _ => none }
def FnRoundDigitsNearestEvenWrongFalsely : Prop := fnRoundDigitsNearestEvenRow.holds Tryd.pinned (OpenSpec.ofChange fnRoundDigitsNearestEvenWrong)

/-- 'zzlaws_record_b1.FnRoundDigitsIdempotent': WHATEVER THE INPUT: true; the input reads as it did. -/
def fnRoundDigitsIdempotentSpec : ChangeSpec := { name := "fnRoundDigitsIdempotent", fn := fun _ => fun
  | [d1, d2, d3] => { results := [.lit (.bool true)], args := [d1, d2, d3] }
  | _ => none }
def fnRoundDigitsIdempotentRow : OpenClaim := { program := "qxb6600072adoor", sum := "5a653726c1aa16900cffd491877ad42011cd411ea241841970bdd3b84d1c69d8", func := "example.com/millrace/millrace/zzlaws_record_b1.FnRoundDigitsIdempotent", spec := "fnRoundDigitsIdempotent", named := ["unicode/utf8.first", "unicode/utf8.acceptRanges"], apart := false, laid := [("unicode/utf8.acceptRanges", laid_unicode_utf8_acceptRanges), ("unicode/utf8.first", laid_unicode_utf8_first)] }
def FnRoundDigitsIdempotentSaid : Prop := fnRoundDigitsIdempotentRow.holds Tryd.pinned (OpenSpec.ofChange fnRoundDigitsIdempotentSpec)

/-- ITS FALSE NEIGHBOUR: 'it returns false'. Refute it at one input. -/
def fnRoundDigitsIdempotentWrong : ChangeSpec := { name := "fnRoundDigitsIdempotent", fn := fun _ => fun
  | [d1, d2, d3] => { results := [.lit (.bool false)], args := [d1, d2, d3] }
  | _ => none }
def FnRoundDigitsIdempotentWrongFalsely : Prop := fnRoundDigitsIdempotentRow.holds Tryd.pinned (OpenSpec.ofChange fnRoundDigitsIdempotentWrong)

/-- 'zzlaws_record_b1.FnRoundDigitsMonotone': WHATEVER THE INPUT: true; the input reads as it did. -/
def fnRoundDigitsMonotoneSpec : ChangeSpec := { name := "fnRoundDigitsMonotone", fn := fun _ => fun
  | [d1, d2, d3, d4, d5] => { results := [.lit (.bool true)], args := [d1, d2, d3, d4, d5] }
  | _ => none }
def fnRoundDigitsMonotoneRow : OpenClaim := { program := "qxb6600072adoor", sum := "5a653726c1aa16900cffd491877ad42011cd411ea241841970bdd3b84d1c69d8", func := "example.com/millrace/millrace/zzlaws_record_b1.FnRoundDigitsMonotone", spec := "fnRoundDigitsMonotone", named := ["unicode/utf8.first", "unicode/utf8.acceptRanges"], apart := false, laid := [("unicode/utf8.acceptRanges", laid_unicode_utf8_acceptRanges), ("unicode/utf8.first", laid_unicode_utf8_first)] }
def FnRoundDigitsMonotoneSaid : Prop := fnRoundDigitsMonotoneRow.holds Tryd.pinned (OpenSpec.ofChange fnRoundDigitsMonotoneSpec)

/-- ITS FALSE NEIGHBOUR: 'it returns false'. Refute it at one input. -/
def fnRoundDigitsMonotoneWrong : ChangeSpec := { name := "fnRoundDigitsMonotone", fn := fun _ => fun
  | [d1, d2, d3, d4, d5] => { results := [.lit (.bool false)], args := [d1, d2, d3, d4, d5] }
  | _ => none }
def FnRoundDigitsMonotoneWrongFalsely : Prop := fnRoundDigitsMonotoneRow.holds Tryd.pinned (OpenSpec.ofChange fnRoundDigitsMonotoneWrong)

/-- 'zzlaws_record_b1.FnFormatGShortestReadsBack': WHATEVER THE INPUT: true; the input reads as it did. -/
def fnFormatGShortestReadsBackSpec : ChangeSpec := { name := "fnFormatGShortestReadsBack", fn := fun _ => fun
  | [d1, d2, d3] => { results := [.lit (.bool true)], args := [d1, d2, d3] }
  | _ => none }
def fnFormatGShortestReadsBackRow : OpenClaim := { program := "qxb6600072adoor", sum := "5a653726c1aa16900cffd491877ad42011cd411ea241841970bdd3b84d1c69d8", func := "example.com/millrace/millrace/zzlaws_record_b1.FnFormatGShortestReadsBack", spec := "fnFormatGShortestReadsBack", named := ["unicode/utf8.first", "unicode/utf8.acceptRanges", "internal/strconv.uint64pow10", "math/bits.deBruijn32tab", "math/bits.deBruijn64tab"], apart := false, laid := [("math/bits.deBruijn32tab", laid_math_bits_deBruijn32tab), ("math/bits.deBruijn64tab", laid_math_bits_deBruijn64tab), ("internal/strconv.uint64pow10", laid_internal_strconv_uint64pow10), ("unicode/utf8.acceptRanges", laid_unicode_utf8_acceptRanges), ("unicode/utf8.first", laid_unicode_utf8_first)] }
def FnFormatGShortestReadsBackSaid : Prop := fnFormatGShortestReadsBackRow.holds Tryd.pinned (OpenSpec.ofChange fnFormatGShortestReadsBackSpec)

/-- ITS FALSE NEIGHBOUR: 'it returns false'. Refute it at one input. -/
def fnFormatGShortestReadsBackWrong : ChangeSpec := { name := "fnFormatGShortestReadsBack", fn := fun _ => fun
  | [d1, d2, d3] => { results := [.lit (.bool false)], args := [d1, d2, d3] }
  | _ => none }
def FnFormatGShortestReadsBackWrongFalsely : Prop := fnFormatGShortestReadsBackRow.holds Tryd.pinned (OpenSpec.ofChange fnFormatGShortestReadsBackWrong)

/-- 'zzlaws_record_b1.FnFormatGPrecisionStable': WHATEVER THE INPUT: true; the input reads as it did. -/
def fnFormatGPrecisionStableSpec : ChangeSpec := { name := "fnFormatGPrecisionStable", fn := fun _ => fun
  | [d1, d2, d3, d4] => { results := [.lit (.bool true)], args := [d1, d2, d3, d4] }
  | _ => none }
def fnFormatGPrecisionStableRow : OpenClaim := { program := "qxb6600072adoor", sum := "5a653726c1aa16900cffd491877ad42011cd411ea241841970bdd3b84d1c69d8", func := "example.com/millrace/millrace/zzlaws_record_b1.FnFormatGPrecisionStable", spec := "fnFormatGPrecisionStable", named := ["unicode/utf8.first", "unicode/utf8.acceptRanges", "internal/strconv.uint64pow10", "math/bits.deBruijn32tab", "math/bits.deBruijn64tab"], apart := false, laid := [("math/bits.deBruijn32tab", laid_math_bits_deBruijn32tab), ("math/bits.deBruijn64tab", laid_math_bits_deBruijn64tab), ("internal/strconv.uint64pow10", laid_internal_strconv_uint64pow10), ("unicode/utf8.acceptRanges", laid_unicode_utf8_acceptRanges), ("unicode/utf8.first", laid_unicode_utf8_first)] }
def FnFormatGPrecisionStableSaid : Prop := fnFormatGPrecisionStableRow.holds Tryd.pinned (OpenSpec.ofChange fnFormatGPrecisionStableSpec)

/-- ITS FALSE NEIGHBOUR: 'it returns false'. Refute it at one input. -/
def fnFormatGPrecisionStableWrong : ChangeSpec := { name := "fnFormatGPrecisionStable", fn := fun _ => fun
  | [d1, d2, d3, d4] => { results := [.lit (.bool false)], args := [d1, d2, d3, d4] }
  | _ => none }
def FnFormatGPrecisionStableWrongFalsely : Prop := fnFormatGPrecisionStableRow.holds Tryd.pinned (OpenSpec.ofChange fnFormatGPrecisionStableWrong)

/-- 'zzlaws_record_b1.FnFormatGSharpOnlyPads': WHATEVER THE INPUT: true; the input reads as it did. -/
def fnFormatGSharpOnlyPadsSpec : ChangeSpec := { name := "fnFormatGSharpOnlyPads", fn := fun _ => fun
  | [d1, d2, d3, d4, d5] => { results := [.lit (.bool true)], args := [d1, d2, d3, d4, d5] }
  | _ => none }
def fnFormatGSharpOnlyPadsRow : OpenClaim := { program := "qxb6600072adoor", sum := "5a653726c1aa16900cffd491877ad42011cd411ea241841970bdd3b84d1c69d8", func := "example.com/millrace/millrace/zzlaws_record_b1.FnFormatGSharpOnlyPads", spec := "fnFormatGSharpOnlyPads", named := ["unicode/utf8.first", "unicode/utf8.acceptRanges", "internal/strconv.uint64pow10", "math/bits.deBruijn32tab", "math/bits.deBruijn64tab"], apart := false, laid := [("math/bits.deBruijn32tab", laid_math_bits_deBruijn32tab), ("math/bits.deBruijn64tab", laid_math_bits_deBruijn64tab), ("internal/strconv.uint64pow10", laid_internal_strconv_uint64pow10), ("unicode/utf8.acceptRanges", laid_unicode_utf8_acceptRanges), ("unicode/utf8.first", laid_unicode_utf8_first)] }
def FnFormatGSharpOnlyPadsSaid : Prop := fnFormatGSharpOnlyPadsRow.holds Tryd.pinned (OpenSpec.ofChange fnFormatGSharpOnlyPadsSpec)

/-- ITS FALSE NEIGHBOUR: 'it returns false'. Refute it at one input. -/
def fnFormatGSharpOnlyPadsWrong : ChangeSpec := { name := "fnFormatGSharpOnlyPads", fn := fun _ => fun
  | [d1, d2, d3, d4, d5] => { results := [.lit (.bool false)], args := [d1, d2, d3, d4, d5] }
  | _ => none }
def FnFormatGSharpOnlyPadsWrongFalsely : Prop := fnFormatGSharpOnlyPadsRow.holds Tryd.pinned (OpenSpec.ofChange fnFormatGSharpOnlyPadsWrong)

end Rows
end Go.Proofs.Qxb6600072aDoor
