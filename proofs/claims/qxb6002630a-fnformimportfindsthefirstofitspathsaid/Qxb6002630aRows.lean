/-
  No cell of these rows narrows 'for every input' (looked for: loops, veiled, ifaces, maps, wideKeys, modest, calm, conditions, laid).
  DERIVED. THE GIVEN ROWS OF THIS SEAT. 3 by the template 'for every input the law returns true; each argument reads behind the call as it read before'; 0 by the template 'total and deterministic' (their statements: Qxb6002630aTotals.lean).
  GIVEN WITH THE SEED: the statements are not yours to turn. If you find one false, say at which input.
  Laid BY PROGRAM, IN A SANDBOX (cutbox-rows.mjs): the forced cells as the released guide's own fill.sh prints them over the translation 39f564f4d1bfb07b… (all of the seat's roots in one cut). By AI agents, Wed Nov 11 2026. No macro, syntax, notation, axiom, sorry.
-/
import Derived.Test.Qxb6002630aChecked
import GoSem.Claim
import GoSem.ClaimJoined
import GoSem.ClaimMapViews
import Derived.JoinedTies
import Derived.KernelRfl
namespace Go.Proofs.Qxb6002630a
/- THE CELL 'sum', in the pinned program and in every row, IS THE sha256 OF THE DUMP (.gsa) THAT Qxb6002630aProg.lean LOADS. Nothing in Lean hashes anything: it is a label: what it is worth is what the hold of that sum in a sandbox is worth. -/
noncomputable def Try.pinned : Pinned := { name := "qxb6002630a", sum := "39f564f4d1bfb07bd36b67e2d4613c0b52b26a93c578e4b257889ac5323a8e96", checked := Try.checked }
namespace Rows
def none {H : Type} : Left H := { results := [], args := [] }

/-- 'zzlaws_pkg_shipment_g1.FnBuildStringTellsBuildsApart': WHATEVER THE INPUT: true; the input reads as it did. -/
def fnBuildStringTellsBuildsApartSpec : ChangeSpec := { name := "fnBuildStringTellsBuildsApart", fn := fun _ => fun
  | [d1, d2, d3, d4, d5, d6] => { results := [.lit (.bool true)], args := [d1, d2, d3, d4, d5, d6] }
  | _ => none }
def fnBuildStringTellsBuildsApartRow : OpenClaim := { program := "qxb6002630a", sum := "39f564f4d1bfb07bd36b67e2d4613c0b52b26a93c578e4b257889ac5323a8e96", func := "example.com/shroudpack/shroudpack/zzlaws_pkg_shipment_g1.FnBuildStringTellsBuildsApart", spec := "fnBuildStringTellsBuildsApart", apart := false }
def FnBuildStringTellsBuildsApartSaid : Prop := fnBuildStringTellsBuildsApartRow.holds Try.pinned (OpenSpec.ofChange fnBuildStringTellsBuildsApartSpec)

/-- ITS FALSE NEIGHBOUR: 'it returns false'. Refute it at one input. -/
def fnBuildStringTellsBuildsApartWrong : ChangeSpec := { name := "fnBuildStringTellsBuildsApart", fn := fun _ => fun
  | [d1, d2, d3, d4, d5, d6] => { results := [.lit (.bool false)], args := [d1, d2, d3, d4, d5, d6] }
  | _ => none }
def FnBuildStringTellsBuildsApartWrongFalsely : Prop := fnBuildStringTellsBuildsApartRow.holds Try.pinned (OpenSpec.ofChange fnBuildStringTellsBuildsApartWrong)

/-- 'zzlaws_pkg_shipment_g1.FnFormImportFindsTheFirstOfItsPath': WHATEVER THE INPUT: true; the input reads as it did. -/
def fnFormImportFindsTheFirstOfItsPathSpec : ChangeSpec := { name := "fnFormImportFindsTheFirstOfItsPath", fn := fun _ => fun
  | [d1, d2] => { results := [.lit (.bool true)], args := [d1, d2] }
  | _ => none }
def fnFormImportFindsTheFirstOfItsPathRow : OpenClaim := { program := "qxb6002630a", sum := "39f564f4d1bfb07bd36b67e2d4613c0b52b26a93c578e4b257889ac5323a8e96", func := "example.com/shroudpack/shroudpack/zzlaws_pkg_shipment_g1.FnFormImportFindsTheFirstOfItsPath", spec := "fnFormImportFindsTheFirstOfItsPath", apart := false }
def FnFormImportFindsTheFirstOfItsPathSaid : Prop := fnFormImportFindsTheFirstOfItsPathRow.holds Try.pinned (OpenSpec.ofChange fnFormImportFindsTheFirstOfItsPathSpec)

/-- ITS FALSE NEIGHBOUR: 'it returns false'. Refute it at one input. -/
def fnFormImportFindsTheFirstOfItsPathWrong : ChangeSpec := { name := "fnFormImportFindsTheFirstOfItsPath", fn := fun _ => fun
  | [d1, d2] => { results := [.lit (.bool false)], args := [d1, d2] }
  | _ => none }
def FnFormImportFindsTheFirstOfItsPathWrongFalsely : Prop := fnFormImportFindsTheFirstOfItsPathRow.holds Try.pinned (OpenSpec.ofChange fnFormImportFindsTheFirstOfItsPathWrong)

/-- 'zzlaws_pkg_shipment_g1.FnModuleFieldReadsBackExactlyWithoutAt': WHATEVER THE INPUT: true; the input reads as it did. -/
def fnModuleFieldReadsBackExactlyWithoutAtSpec : ChangeSpec := { name := "fnModuleFieldReadsBackExactlyWithoutAt", fn := fun _ => fun
  | [d1, d2, d3] => { results := [.lit (.bool true)], args := [d1, d2, d3] }
  | _ => none }
def fnModuleFieldReadsBackExactlyWithoutAtRow : OpenClaim := { program := "qxb6002630a", sum := "39f564f4d1bfb07bd36b67e2d4613c0b52b26a93c578e4b257889ac5323a8e96", func := "example.com/shroudpack/shroudpack/zzlaws_pkg_shipment_g1.FnModuleFieldReadsBackExactlyWithoutAt", spec := "fnModuleFieldReadsBackExactlyWithoutAt", inPlace := ["internal/bytealg.IndexByteString", "internal/bytealg.IndexString"], named := ["internal/bytealg.MaxLen"], apart := false }
def FnModuleFieldReadsBackExactlyWithoutAtSaid : Prop := fnModuleFieldReadsBackExactlyWithoutAtRow.holds Try.pinned (OpenSpec.ofChange fnModuleFieldReadsBackExactlyWithoutAtSpec)

/-- ITS FALSE NEIGHBOUR: 'it returns false'. Refute it at one input. -/
def fnModuleFieldReadsBackExactlyWithoutAtWrong : ChangeSpec := { name := "fnModuleFieldReadsBackExactlyWithoutAt", fn := fun _ => fun
  | [d1, d2, d3] => { results := [.lit (.bool false)], args := [d1, d2, d3] }
  | _ => none }
def FnModuleFieldReadsBackExactlyWithoutAtWrongFalsely : Prop := fnModuleFieldReadsBackExactlyWithoutAtRow.holds Try.pinned (OpenSpec.ofChange fnModuleFieldReadsBackExactlyWithoutAtWrong)

end Rows
end Go.Proofs.Qxb6002630a
