/-
  No cell of these rows narrows 'for every input' (looked for: loops, veiled, ifaces, maps, wideKeys, modest, calm, conditions, laid).
  DERIVED. THE GIVEN ROWS OF THIS SEAT. 8 by the template 'for every input the law returns true; each argument reads behind the call as it read before'; 0 by the template 'total and deterministic' (their statements: Qxb6001352aTotals.lean).
  GIVEN WITH THE SEED: the statements are not yours to turn. If you find one false, say at which input.
  Laid BY PROGRAM, IN A SANDBOX (cutbox-rows.mjs): the forced cells as the released guide's own fill.sh prints them over the translation 83736eb4eb93625b… (all of the seat's roots in one cut). By AI agents, Wed Nov 11 2026. No macro, syntax, notation, axiom, sorry.
-/
import Derived.Test.Qxb6001352aChecked
import GoSem.Claim
import GoSem.ClaimJoined
import GoSem.ClaimMapViews
import Derived.JoinedTies
import Derived.KernelRfl
namespace Go.Proofs.Qxb6001352a
/- THE CELL 'sum', in the pinned program and in every row, IS THE sha256 OF THE DUMP (.gsa) THAT Qxb6001352aProg.lean LOADS. Nothing in Lean hashes anything: it is a label: what it is worth is what the hold of that sum in a sandbox is worth. -/
noncomputable def Try.pinned : Pinned := { name := "qxb6001352a", sum := "83736eb4eb93625b317d0ab5092697604fbff7a0427931f80ec736ec7ac64f0e", checked := Try.checked }
namespace Rows
def none {H : Type} : Left H := { results := [], args := [] }

/-- 'zzlaws_internal_batch_b1.FnParsePathInvertsEscapedJoin': WHATEVER THE INPUT: true; the input reads as it did. -/
def fnParsePathInvertsEscapedJoinSpec : ChangeSpec := { name := "fnParsePathInvertsEscapedJoin", fn := fun _ => fun
  | [d] => { results := [.lit (.bool true)], args := [d] }
  | _ => none }
def fnParsePathInvertsEscapedJoinRow : OpenClaim := { program := "qxb6001352a", sum := "83736eb4eb93625b317d0ab5092697604fbff7a0427931f80ec736ec7ac64f0e", func := "example.com/rackwright/rackwright/zzlaws_internal_batch_b1.FnParsePathInvertsEscapedJoin", spec := "fnParsePathInvertsEscapedJoin", inPlace := ["internal/abi.NoEscape"], apart := false }
def FnParsePathInvertsEscapedJoinSaid : Prop := fnParsePathInvertsEscapedJoinRow.holds Try.pinned (OpenSpec.ofChange fnParsePathInvertsEscapedJoinSpec)

/-- ITS FALSE NEIGHBOUR: 'it returns false'. Refute it at one input. -/
def fnParsePathInvertsEscapedJoinWrong : ChangeSpec := { name := "fnParsePathInvertsEscapedJoin", fn := fun _ => fun
  | [d] => { results := [.lit (.bool false)], args := [d] }
  | _ => none }
def FnParsePathInvertsEscapedJoinWrongFalsely : Prop := fnParsePathInvertsEscapedJoinRow.holds Try.pinned (OpenSpec.ofChange fnParsePathInvertsEscapedJoinWrong)

/-- 'zzlaws_internal_batch_b1.FnParsePathSplitsAtUnescapedPeriod': WHATEVER THE INPUT: true; the input reads as it did. -/
def fnParsePathSplitsAtUnescapedPeriodSpec : ChangeSpec := { name := "fnParsePathSplitsAtUnescapedPeriod", fn := fun _ => fun
  | [d1, d2] => { results := [.lit (.bool true)], args := [d1, d2] }
  | _ => none }
def fnParsePathSplitsAtUnescapedPeriodRow : OpenClaim := { program := "qxb6001352a", sum := "83736eb4eb93625b317d0ab5092697604fbff7a0427931f80ec736ec7ac64f0e", func := "example.com/rackwright/rackwright/zzlaws_internal_batch_b1.FnParsePathSplitsAtUnescapedPeriod", spec := "fnParsePathSplitsAtUnescapedPeriod", inPlace := ["internal/abi.NoEscape"], apart := false }
def FnParsePathSplitsAtUnescapedPeriodSaid : Prop := fnParsePathSplitsAtUnescapedPeriodRow.holds Try.pinned (OpenSpec.ofChange fnParsePathSplitsAtUnescapedPeriodSpec)

/-- ITS FALSE NEIGHBOUR: 'it returns false'. Refute it at one input. -/
def fnParsePathSplitsAtUnescapedPeriodWrong : ChangeSpec := { name := "fnParsePathSplitsAtUnescapedPeriod", fn := fun _ => fun
  | [d1, d2] => { results := [.lit (.bool false)], args := [d1, d2] }
  | _ => none }
def FnParsePathSplitsAtUnescapedPeriodWrongFalsely : Prop := fnParsePathSplitsAtUnescapedPeriodRow.holds Try.pinned (OpenSpec.ofChange fnParsePathSplitsAtUnescapedPeriodWrong)

/-- 'zzlaws_internal_batch_b1.FnParsePathKeysFitInPath': WHATEVER THE INPUT: true; the input reads as it did. -/
def fnParsePathKeysFitInPathSpec : ChangeSpec := { name := "fnParsePathKeysFitInPath", fn := fun _ => fun
  | [d] => { results := [.lit (.bool true)], args := [d] }
  | _ => none }
def fnParsePathKeysFitInPathRow : OpenClaim := { program := "qxb6001352a", sum := "83736eb4eb93625b317d0ab5092697604fbff7a0427931f80ec736ec7ac64f0e", func := "example.com/rackwright/rackwright/zzlaws_internal_batch_b1.FnParsePathKeysFitInPath", spec := "fnParsePathKeysFitInPath", inPlace := ["internal/abi.NoEscape"], apart := false }
def FnParsePathKeysFitInPathSaid : Prop := fnParsePathKeysFitInPathRow.holds Try.pinned (OpenSpec.ofChange fnParsePathKeysFitInPathSpec)

/-- ITS FALSE NEIGHBOUR: 'it returns false'. Refute it at one input. -/
def fnParsePathKeysFitInPathWrong : ChangeSpec := { name := "fnParsePathKeysFitInPath", fn := fun _ => fun
  | [d] => { results := [.lit (.bool false)], args := [d] }
  | _ => none }
def FnParsePathKeysFitInPathWrongFalsely : Prop := fnParsePathKeysFitInPathRow.holds Try.pinned (OpenSpec.ofChange fnParsePathKeysFitInPathWrong)

/-- 'zzlaws_internal_batch_b1.FnWipesBelowUnionOfLists': WHATEVER THE INPUT: true; the input reads as it did. -/
def fnWipesBelowUnionOfListsSpec : ChangeSpec := { name := "fnWipesBelowUnionOfLists", fn := fun _ => fun
  | [d1, d2, d3] => { results := [.lit (.bool true)], args := [d1, d2, d3] }
  | _ => none }
def fnWipesBelowUnionOfListsRow : OpenClaim := { program := "qxb6001352a", sum := "83736eb4eb93625b317d0ab5092697604fbff7a0427931f80ec736ec7ac64f0e", func := "example.com/rackwright/rackwright/zzlaws_internal_batch_b1.FnWipesBelowUnionOfLists", spec := "fnWipesBelowUnionOfLists", apart := false }
def FnWipesBelowUnionOfListsSaid : Prop := fnWipesBelowUnionOfListsRow.holds Try.pinned (OpenSpec.ofChange fnWipesBelowUnionOfListsSpec)

/-- ITS FALSE NEIGHBOUR: 'it returns false'. Refute it at one input. -/
def fnWipesBelowUnionOfListsWrong : ChangeSpec := { name := "fnWipesBelowUnionOfLists", fn := fun _ => fun
  | [d1, d2, d3] => { results := [.lit (.bool false)], args := [d1, d2, d3] }
  | _ => none }
def FnWipesBelowUnionOfListsWrongFalsely : Prop := fnWipesBelowUnionOfListsRow.holds Try.pinned (OpenSpec.ofChange fnWipesBelowUnionOfListsWrong)

/-- 'zzlaws_internal_batch_b1.FnWipesBelowShorterPathAndOwnPrefixes': WHATEVER THE INPUT: true; the input reads as it did. -/
def fnWipesBelowShorterPathAndOwnPrefixesSpec : ChangeSpec := { name := "fnWipesBelowShorterPathAndOwnPrefixes", fn := fun _ => fun
  | [d1, d2, d3] => { results := [.lit (.bool true)], args := [d1, d2, d3] }
  | _ => none }
def fnWipesBelowShorterPathAndOwnPrefixesRow : OpenClaim := { program := "qxb6001352a", sum := "83736eb4eb93625b317d0ab5092697604fbff7a0427931f80ec736ec7ac64f0e", func := "example.com/rackwright/rackwright/zzlaws_internal_batch_b1.FnWipesBelowShorterPathAndOwnPrefixes", spec := "fnWipesBelowShorterPathAndOwnPrefixes", apart := false }
def FnWipesBelowShorterPathAndOwnPrefixesSaid : Prop := fnWipesBelowShorterPathAndOwnPrefixesRow.holds Try.pinned (OpenSpec.ofChange fnWipesBelowShorterPathAndOwnPrefixesSpec)

/-- ITS FALSE NEIGHBOUR: 'it returns false'. Refute it at one input. -/
def fnWipesBelowShorterPathAndOwnPrefixesWrong : ChangeSpec := { name := "fnWipesBelowShorterPathAndOwnPrefixes", fn := fun _ => fun
  | [d1, d2, d3] => { results := [.lit (.bool false)], args := [d1, d2, d3] }
  | _ => none }
def FnWipesBelowShorterPathAndOwnPrefixesWrongFalsely : Prop := fnWipesBelowShorterPathAndOwnPrefixesRow.holds Try.pinned (OpenSpec.ofChange fnWipesBelowShorterPathAndOwnPrefixesWrong)

/-- 'zzlaws_internal_batch_b1.FnSelectsExcludeNarrows': WHATEVER THE INPUT: true; the input reads as it did. -/
def fnSelectsExcludeNarrowsSpec : ChangeSpec := { name := "fnSelectsExcludeNarrows", fn := fun _ => fun
  | [d1, d2, d3, d4, d5, d6, d7, d8] => { results := [.lit (.bool true)], args := [d1, d2, d3, d4, d5, d6, d7, d8] }
  | _ => none }
def fnSelectsExcludeNarrowsRow : OpenClaim := { program := "qxb6001352a", sum := "83736eb4eb93625b317d0ab5092697604fbff7a0427931f80ec736ec7ac64f0e", func := "example.com/rackwright/rackwright/zzlaws_internal_batch_b1.FnSelectsExcludeNarrows", spec := "fnSelectsExcludeNarrows", apart := false }
def FnSelectsExcludeNarrowsSaid : Prop := fnSelectsExcludeNarrowsRow.holds Try.pinned (OpenSpec.ofChange fnSelectsExcludeNarrowsSpec)

/-- ITS FALSE NEIGHBOUR: 'it returns false'. Refute it at one input. -/
def fnSelectsExcludeNarrowsWrong : ChangeSpec := { name := "fnSelectsExcludeNarrows", fn := fun _ => fun
  | [d1, d2, d3, d4, d5, d6, d7, d8] => { results := [.lit (.bool false)], args := [d1, d2, d3, d4, d5, d6, d7, d8] }
  | _ => none }
def FnSelectsExcludeNarrowsWrongFalsely : Prop := fnSelectsExcludeNarrowsRow.holds Try.pinned (OpenSpec.ofChange fnSelectsExcludeNarrowsWrong)

/-- 'zzlaws_internal_batch_b1.FnSelectsIncludeWidens': WHATEVER THE INPUT: true; the input reads as it did. -/
def fnSelectsIncludeWidensSpec : ChangeSpec := { name := "fnSelectsIncludeWidens", fn := fun _ => fun
  | [d1, d2, d3, d4, d5, d6, d7, d8] => { results := [.lit (.bool true)], args := [d1, d2, d3, d4, d5, d6, d7, d8] }
  | _ => none }
def fnSelectsIncludeWidensRow : OpenClaim := { program := "qxb6001352a", sum := "83736eb4eb93625b317d0ab5092697604fbff7a0427931f80ec736ec7ac64f0e", func := "example.com/rackwright/rackwright/zzlaws_internal_batch_b1.FnSelectsIncludeWidens", spec := "fnSelectsIncludeWidens", apart := false }
def FnSelectsIncludeWidensSaid : Prop := fnSelectsIncludeWidensRow.holds Try.pinned (OpenSpec.ofChange fnSelectsIncludeWidensSpec)

/-- ITS FALSE NEIGHBOUR: 'it returns false'. Refute it at one input. -/
def fnSelectsIncludeWidensWrong : ChangeSpec := { name := "fnSelectsIncludeWidens", fn := fun _ => fun
  | [d1, d2, d3, d4, d5, d6, d7, d8] => { results := [.lit (.bool false)], args := [d1, d2, d3, d4, d5, d6, d7, d8] }
  | _ => none }
def FnSelectsIncludeWidensWrongFalsely : Prop := fnSelectsIncludeWidensRow.holds Try.pinned (OpenSpec.ofChange fnSelectsIncludeWidensWrong)

/-- 'zzlaws_internal_batch_b1.FnSelectsUnnamedBarclamp': WHATEVER THE INPUT: true; the input reads as it did. -/
def fnSelectsUnnamedBarclampSpec : ChangeSpec := { name := "fnSelectsUnnamedBarclamp", fn := fun _ => fun
  | [d1, d2, d3, d4, d5, d6] => { results := [.lit (.bool true)], args := [d1, d2, d3, d4, d5, d6] }
  | _ => none }
def fnSelectsUnnamedBarclampRow : OpenClaim := { program := "qxb6001352a", sum := "83736eb4eb93625b317d0ab5092697604fbff7a0427931f80ec736ec7ac64f0e", func := "example.com/rackwright/rackwright/zzlaws_internal_batch_b1.FnSelectsUnnamedBarclamp", spec := "fnSelectsUnnamedBarclamp", apart := false }
def FnSelectsUnnamedBarclampSaid : Prop := fnSelectsUnnamedBarclampRow.holds Try.pinned (OpenSpec.ofChange fnSelectsUnnamedBarclampSpec)

/-- ITS FALSE NEIGHBOUR: 'it returns false'. Refute it at one input. -/
def fnSelectsUnnamedBarclampWrong : ChangeSpec := { name := "fnSelectsUnnamedBarclamp", fn := fun _ => fun
  | [d1, d2, d3, d4, d5, d6] => { results := [.lit (.bool false)], args := [d1, d2, d3, d4, d5, d6] }
  | _ => none }
def FnSelectsUnnamedBarclampWrongFalsely : Prop := fnSelectsUnnamedBarclampRow.holds Try.pinned (OpenSpec.ofChange fnSelectsUnnamedBarclampWrong)

end Rows
end Go.Proofs.Qxb6001352a
