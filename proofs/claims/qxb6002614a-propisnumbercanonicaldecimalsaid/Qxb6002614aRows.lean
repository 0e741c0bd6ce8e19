/-
  No cell of these rows narrows 'for every input' (looked for: loops, veiled, ifaces, maps, wideKeys, modest, calm, conditions, laid).
  DERIVED. THE GIVEN ROWS OF THIS SEAT. 1 by the template 'for every input the law returns true; each argument reads behind the call as it read before'; 0 by the template 'total and deterministic' (their statements: Qxb6002614aTotals.lean).
  GIVEN WITH THE SEED: the statements are not yours to turn. If you find one false, say at which input.
  Laid BY PROGRAM, IN A SANDBOX (cutbox-rows.mjs): the forced cells as the released guide's own fill.sh prints them over the translation 24a02d250ed3c230… (all of the seat's roots in one cut). By AI agents, Wed Nov 11 2026. No macro, syntax, notation, axiom, sorry.
-/
import Derived.Test.Qxb6002614aChecked
import GoSem.Claim
import GoSem.ClaimJoined
import GoSem.ClaimMapViews
import Derived.JoinedTies
import Derived.KernelRfl
namespace Go.Proofs.Qxb6002614a
/- THE CELL 'sum', in the pinned program and in every row, IS THE sha256 OF THE DUMP (.gsa) THAT Qxb6002614aProg.lean LOADS. Nothing in Lean hashes anything: it is a label: what it is worth is what the hold of that sum in a sandbox is worth. -/
noncomputable def Try.pinned : Pinned := { name := "qxb6002614a", sum := "24a02d250ed3c230550eb97ef13b63045aeb48d66e21c63eabfac7ec90421ccf", checked := Try.checked }
namespace Rows
def none {H : Type} : Left H := { results := [], args := [] }

/-- 'zzlaws_pkg_publish_c1.PropIsNumberCanonicalDecimal': WHATEVER THE INPUT: true; the input reads as it did. -/
def propIsNumberCanonicalDecimalSpec : ChangeSpec := { name := "propIsNumberCanonicalDecimal", fn := fun _ => fun
  | [d] => { results := [.lit (.bool true)], args := [d] }
  | _ => none }
def propIsNumberCanonicalDecimalRow : OpenClaim := { program := "qxb6002614a", sum := "24a02d250ed3c230550eb97ef13b63045aeb48d66e21c63eabfac7ec90421ccf", func := "example.com/shroudpack/shroudpack/zzlaws_pkg_publish_c1.PropIsNumberCanonicalDecimal", spec := "propIsNumberCanonicalDecimal", unfollowed := true, recurses := true, apart := false }
def PropIsNumberCanonicalDecimalSaid : Prop := propIsNumberCanonicalDecimalRow.holds Try.pinned (OpenSpec.ofChange propIsNumberCanonicalDecimalSpec)

/-- ITS FALSE NEIGHBOUR: 'it returns false'. Refute it at one input. -/
def propIsNumberCanonicalDecimalWrong : ChangeSpec := { name := "propIsNumberCanonicalDecimal", fn := fun _ => fun
  | [d] => { results := [.lit (.bool false)], args := [d] }
  | _ => none }
def PropIsNumberCanonicalDecimalWrongFalsely : Prop := propIsNumberCanonicalDecimalRow.holds Try.pinned (OpenSpec.ofChange propIsNumberCanonicalDecimalWrong)

end Rows
end Go.Proofs.Qxb6002614a
