/-
  No cell of these rows narrows 'for every input' (looked for: loops, veiled, ifaces, maps, wideKeys, modest, calm, conditions, laid).
  DERIVED. THE GIVEN ROWS OF THIS SEAT. 5 by the template 'for every input the law returns true; each argument reads behind the call as it read before'; 0 by the template 'total and deterministic' (their statements: Qxb6600105aTotals.lean).
  GIVEN WITH THE SEED: the statements are not yours to turn. If you find one false, say at which input.
  Laid BY PROGRAM, IN A SANDBOX (cutbox-rows.mjs): the forced cells as the released guide's own fill.sh prints them over the translation a043cf820fb17aec… (all of the seat's roots in one cut). By AI agents, Wed Nov 11 2026. No macro, syntax, notation, axiom, sorry.
-/
import Derived.Test.Qxb6600105aChecked
import GoSem.Claim
import GoSem.ClaimJoined
import GoSem.ClaimMapViews
import Derived.JoinedTies
import Derived.KernelRfl
namespace Go.Proofs.Qxb6600105a
/- THE CELL 'sum', in the pinned program and in every row, IS THE sha256 OF THE DUMP (.gsa) THAT Qxb6600105aProg.lean LOADS. Nothing in Lean hashes anything: it is a label: what it is worth is what the hold of that sum in a sandbox is worth. -/
noncomputable def Try.pinned : Pinned := { name := "qxb6600105a", sum := "a043cf820fb17aec48a7be922d7ce202c615c79ac883842a375ead6a0fe6210c", checked := Try.checked }
namespace Rows
def none {H : Type} : Left H := { results := [], args := [] }

/-- 'zzlaws_pkg_sites_b1.FnAtIgnoresCase': WHATEVER THE INPUT: true; the input reads as it did. -/
def fnAtIgnoresCaseSpec : ChangeSpec := { name := "fnAtIgnoresCase", fn := fun _ => fun
  | [d1, d2, d3, d4] => { results := [.lit (.bool true)], args := [d1, d2, d3, d4] }
  | _ => none }
def fnAtIgnoresCaseRow : OpenClaim := { program := "qxb6600105a", sum := "a043cf820fb17aec48a7be922d7ce202c615c79ac883842a375ead6a0fe6210c", func := "example.com/doppelhost/doppelhost/zzlaws_pkg_sites_b1.FnAtIgnoresCase", spec := "fnAtIgnoresCase", apart := false }
def FnAtIgnoresCaseSaid : Prop := fnAtIgnoresCaseRow.holds Try.pinned (OpenSpec.ofChange fnAtIgnoresCaseSpec)

/-- ITS FALSE NEIGHBOUR: 'it returns false'. Refute it at one input. -/
def fnAtIgnoresCaseWrong : ChangeSpec := { name := "fnAtIgnoresCase", fn := fun _ => fun
  | [d1, d2, d3, d4] => { results := [.lit (.bool false)], args := [d1, d2, d3, d4] }
  | _ => none }
def FnAtIgnoresCaseWrongFalsely : Prop := fnAtIgnoresCaseRow.holds Try.pinned (OpenSpec.ofChange fnAtIgnoresCaseWrong)

/-- 'zzlaws_pkg_sites_b1.FnAtDecidedByHead': WHATEVER THE INPUT: true; the input reads as it did. -/
def fnAtDecidedByHeadSpec : ChangeSpec := { name := "fnAtDecidedByHead", fn := fun _ => fun
  | [d1, d2, d3, d4, d5] => { results := [.lit (.bool true)], args := [d1, d2, d3, d4, d5] }
  | _ => none }
def fnAtDecidedByHeadRow : OpenClaim := { program := "qxb6600105a", sum := "a043cf820fb17aec48a7be922d7ce202c615c79ac883842a375ead6a0fe6210c", func := "example.com/doppelhost/doppelhost/zzlaws_pkg_sites_b1.FnAtDecidedByHead", spec := "fnAtDecidedByHead", apart := false }
def FnAtDecidedByHeadSaid : Prop := fnAtDecidedByHeadRow.holds Try.pinned (OpenSpec.ofChange fnAtDecidedByHeadSpec)

/-- ITS FALSE NEIGHBOUR: 'it returns false'. Refute it at one input. -/
def fnAtDecidedByHeadWrong : ChangeSpec := { name := "fnAtDecidedByHead", fn := fun _ => fun
  | [d1, d2, d3, d4, d5] => { results := [.lit (.bool false)], args := [d1, d2, d3, d4, d5] }
  | _ => none }
def FnAtDecidedByHeadWrongFalsely : Prop := fnAtDecidedByHeadRow.holds Try.pinned (OpenSpec.ofChange fnAtDecidedByHeadWrong)

/-- 'zzlaws_pkg_sites_b1.FnEqualFoldDeterminesLower': WHATEVER THE INPUT: true; the input reads as it did. -/
def fnEqualFoldDeterminesLowerSpec : ChangeSpec := { name := "fnEqualFoldDeterminesLower", fn := fun _ => fun
  | [d1, d2, d3] => { results := [.lit (.bool true)], args := [d1, d2, d3] }
  | _ => none }
def fnEqualFoldDeterminesLowerRow : OpenClaim := { program := "qxb6600105a", sum := "a043cf820fb17aec48a7be922d7ce202c615c79ac883842a375ead6a0fe6210c", func := "example.com/doppelhost/doppelhost/zzlaws_pkg_sites_b1.FnEqualFoldDeterminesLower", spec := "fnEqualFoldDeterminesLower", apart := false }
def FnEqualFoldDeterminesLowerSaid : Prop := fnEqualFoldDeterminesLowerRow.holds Try.pinned (OpenSpec.ofChange fnEqualFoldDeterminesLowerSpec)

/-- ITS FALSE NEIGHBOUR: 'it returns false'. Refute it at one input. -/
def fnEqualFoldDeterminesLowerWrong : ChangeSpec := { name := "fnEqualFoldDeterminesLower", fn := fun _ => fun
  | [d1, d2, d3] => { results := [.lit (.bool false)], args := [d1, d2, d3] }
  | _ => none }
def FnEqualFoldDeterminesLowerWrongFalsely : Prop := fnEqualFoldDeterminesLowerRow.holds Try.pinned (OpenSpec.ofChange fnEqualFoldDeterminesLowerWrong)

/-- 'zzlaws_pkg_sites_b1.FnEqualFoldIgnoresCaseOfB': WHATEVER THE INPUT: true; the input reads as it did. -/
def fnEqualFoldIgnoresCaseOfBSpec : ChangeSpec := { name := "fnEqualFoldIgnoresCaseOfB", fn := fun _ => fun
  | [d1, d2] => { results := [.lit (.bool true)], args := [d1, d2] }
  | _ => none }
def fnEqualFoldIgnoresCaseOfBRow : OpenClaim := { program := "qxb6600105a", sum := "a043cf820fb17aec48a7be922d7ce202c615c79ac883842a375ead6a0fe6210c", func := "example.com/doppelhost/doppelhost/zzlaws_pkg_sites_b1.FnEqualFoldIgnoresCaseOfB", spec := "fnEqualFoldIgnoresCaseOfB", apart := false }
def FnEqualFoldIgnoresCaseOfBSaid : Prop := fnEqualFoldIgnoresCaseOfBRow.holds Try.pinned (OpenSpec.ofChange fnEqualFoldIgnoresCaseOfBSpec)

/-- ITS FALSE NEIGHBOUR: 'it returns false'. Refute it at one input. -/
def fnEqualFoldIgnoresCaseOfBWrong : ChangeSpec := { name := "fnEqualFoldIgnoresCaseOfB", fn := fun _ => fun
  | [d1, d2] => { results := [.lit (.bool false)], args := [d1, d2] }
  | _ => none }
def FnEqualFoldIgnoresCaseOfBWrongFalsely : Prop := fnEqualFoldIgnoresCaseOfBRow.holds Try.pinned (OpenSpec.ofChange fnEqualFoldIgnoresCaseOfBWrong)

/-- 'zzlaws_pkg_sites_b1.FnEqualFoldSplits': WHATEVER THE INPUT: true; the input reads as it did. -/
def fnEqualFoldSplitsSpec : ChangeSpec := { name := "fnEqualFoldSplits", fn := fun _ => fun
  | [d1, d2, d3] => { results := [.lit (.bool true)], args := [d1, d2, d3] }
  | _ => none }
def fnEqualFoldSplitsRow : OpenClaim := { program := "qxb6600105a", sum := "a043cf820fb17aec48a7be922d7ce202c615c79ac883842a375ead6a0fe6210c", func := "example.com/doppelhost/doppelhost/zzlaws_pkg_sites_b1.FnEqualFoldSplits", spec := "fnEqualFoldSplits", apart := false }
def FnEqualFoldSplitsSaid : Prop := fnEqualFoldSplitsRow.holds Try.pinned (OpenSpec.ofChange fnEqualFoldSplitsSpec)

/-- ITS FALSE NEIGHBOUR: 'it returns false'. Refute it at one input. -/
def fnEqualFoldSplitsWrong : ChangeSpec := { name := "fnEqualFoldSplits", fn := fun _ => fun
  | [d1, d2, d3] => { results := [.lit (.bool false)], args := [d1, d2, d3] }
  | _ => none }
def FnEqualFoldSplitsWrongFalsely : Prop := fnEqualFoldSplitsRow.holds Try.pinned (OpenSpec.ofChange fnEqualFoldSplitsWrong)

end Rows
end Go.Proofs.Qxb6600105a
