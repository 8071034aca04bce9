/-
  DERIVED. GIVEN WITH THE SEED: THE CARDS: each row of Qxb6600072aDoorRows.lean that lists a variable, with what it lists TIED to the program's text (the seventh form; the later family's looks); each row that meets fmt, with fmt's text TOLD by the authors' own Lean function (tested against real Go, not proved from fmt's source: count such statements apart). THE CARD IS WHAT COUNTS. Prove the row's statement (the work); the ties are given (Qxb6600072aDoorTie.lean); close each card by the builder's one call (the guide's Derived/Test/ToyasCard.lean, 'card_holds'). Laid BY PROGRAM, IN A SANDBOX (cutbox-door.mjs). By AI agents, Wed Nov 11 2026. No macro, syntax, notation, axiom, sorry.
-/
import Derived.Test.Qxb6600072aDoorRows
import GoSem.ClaimSeven
namespace Go.Proofs.Qxb6600072aDoor
namespace Rows

/-- THE TIED CARD OF 'zzlaws_record_b1.FnAppendDecimalReadsBack'. -/
def fnAppendDecimalReadsBackCard : Claim7 := { stood := { row := fnAppendDecimalReadsBackRow, standIns := [], harness := (true, "fbb9f7764ab54eae32d1f827df60119c6d763f32e7de6274b2c351fe8b1c9962"), looks := false }, kinds := [], alts := [], laidByText := true, laidKinds := [.data, .data, .data], laidTests := true, laidLooks := .later }
def FnAppendDecimalReadsBackCardSaid : Prop := Claim7.holds Tryd.pinned (.plain (OpenSpec.ofChange fnAppendDecimalReadsBackSpec)) fnAppendDecimalReadsBackCard

/-- THE TIED CARD OF 'zzlaws_record_b1.FnAppendDecimalIsJSONNumber'. -/
def fnAppendDecimalIsJSONNumberCard : Claim7 := { stood := { row := fnAppendDecimalIsJSONNumberRow, standIns := [], harness := (true, "fbb9f7764ab54eae32d1f827df60119c6d763f32e7de6274b2c351fe8b1c9962"), looks := false }, kinds := [], alts := [], laidByText := true, laidKinds := [.data, .data, .data], laidTests := true, laidLooks := .later }
def FnAppendDecimalIsJSONNumberCardSaid : Prop := Claim7.holds Tryd.pinned (.plain (OpenSpec.ofChange fnAppendDecimalIsJSONNumberSpec)) fnAppendDecimalIsJSONNumberCard

/-- THE TIED CARD OF 'zzlaws_record_b1.FnRoundDigitsNearestEven'. -/
def fnRoundDigitsNearestEvenCard : Claim7 := { stood := { row := fnRoundDigitsNearestEvenRow, standIns := [], harness := (true, "fbb9f7764ab54eae32d1f827df60119c6d763f32e7de6274b2c351fe8b1c9962"), looks := false }, kinds := [], alts := [], laidByText := true, laidKinds := [.data, .pinned], laidTests := true, laidLooks := .later }
def FnRoundDigitsNearestEvenCardSaid : Prop := Claim7.holds Tryd.pinned (.plain (OpenSpec.ofChange fnRoundDigitsNearestEvenSpec)) fnRoundDigitsNearestEvenCard

/-- THE TIED CARD OF 'zzlaws_record_b1.FnRoundDigitsIdempotent'. -/
def fnRoundDigitsIdempotentCard : Claim7 := { stood := { row := fnRoundDigitsIdempotentRow, standIns := [], harness := (true, "fbb9f7764ab54eae32d1f827df60119c6d763f32e7de6274b2c351fe8b1c9962"), looks := false }, kinds := [], alts := [], laidByText := true, laidKinds := [.data, .pinned], laidTests := true, laidLooks := .later }
def FnRoundDigitsIdempotentCardSaid : Prop := Claim7.holds Tryd.pinned (.plain (OpenSpec.ofChange fnRoundDigitsIdempotentSpec)) fnRoundDigitsIdempotentCard

/-- THE TIED CARD OF 'zzlaws_record_b1.FnRoundDigitsMonotone'. -/
def fnRoundDigitsMonotoneCard : Claim7 := { stood := { row := fnRoundDigitsMonotoneRow, standIns := [], harness := (true, "fbb9f7764ab54eae32d1f827df60119c6d763f32e7de6274b2c351fe8b1c9962"), looks := false }, kinds := [], alts := [], laidByText := true, laidKinds := [.data, .pinned], laidTests := true, laidLooks := .later }
def FnRoundDigitsMonotoneCardSaid : Prop := Claim7.holds Tryd.pinned (.plain (OpenSpec.ofChange fnRoundDigitsMonotoneSpec)) fnRoundDigitsMonotoneCard

/-- THE TIED CARD OF 'zzlaws_record_b1.FnFormatGShortestReadsBack'. -/
def fnFormatGShortestReadsBackCard : Claim7 := { stood := { row := fnFormatGShortestReadsBackRow, standIns := [], harness := (true, "fbb9f7764ab54eae32d1f827df60119c6d763f32e7de6274b2c351fe8b1c9962"), looks := false }, kinds := [], alts := [], laidByText := true, laidKinds := [.data, .data, .data, .data, .pinned], laidTests := true, laidLooks := .later }
def FnFormatGShortestReadsBackCardSaid : Prop := Claim7.holds Tryd.pinned (.plain (OpenSpec.ofChange fnFormatGShortestReadsBackSpec)) fnFormatGShortestReadsBackCard

/-- THE TIED CARD OF 'zzlaws_record_b1.FnFormatGPrecisionStable'. -/
def fnFormatGPrecisionStableCard : Claim7 := { stood := { row := fnFormatGPrecisionStableRow, standIns := [], harness := (true, "fbb9f7764ab54eae32d1f827df60119c6d763f32e7de6274b2c351fe8b1c9962"), looks := false }, kinds := [], alts := [], laidByText := true, laidKinds := [.data, .data, .data, .data, .pinned], laidTests := true, laidLooks := .later }
def FnFormatGPrecisionStableCardSaid : Prop := Claim7.holds Tryd.pinned (.plain (OpenSpec.ofChange fnFormatGPrecisionStableSpec)) fnFormatGPrecisionStableCard

/-- THE TIED CARD OF 'zzlaws_record_b1.FnFormatGSharpOnlyPads'. -/
def fnFormatGSharpOnlyPadsCard : Claim7 := { stood := { row := fnFormatGSharpOnlyPadsRow, standIns := [], harness := (true, "fbb9f7764ab54eae32d1f827df60119c6d763f32e7de6274b2c351fe8b1c9962"), looks := false }, kinds := [], alts := [], laidByText := true, laidKinds := [.data, .data, .data, .data, .pinned], laidTests := true, laidLooks := .later }
def FnFormatGSharpOnlyPadsCardSaid : Prop := Claim7.holds Tryd.pinned (.plain (OpenSpec.ofChange fnFormatGSharpOnlyPadsSpec)) fnFormatGSharpOnlyPadsCard
end Rows
end Go.Proofs.Qxb6600072aDoor
