/-
  No cell of these rows narrows 'for every input' (looked for: loops, veiled, ifaces, maps, wideKeys, modest, calm, conditions, laid).
  DERIVED. THE GIVEN ROWS OF THIS SEAT. 2 by the template 'for every input the law returns true; each argument reads behind the call as it read before'; 0 by the template 'total and deterministic' (their statements: Qxb6612989aTotals.lean).
  GIVEN WITH THE SEED: the statements are not yours to turn. If you find one false, say at which input.
  Laid BY PROGRAM, IN A SANDBOX (cutbox-rows.mjs): the forced cells as the released guide's own fill.sh prints them over the translation 332955e38b5abeee… (all of the seat's roots in one cut). By AI agents, Wed Nov 11 2026. No macro, syntax, notation, axiom, sorry.
-/
import Derived.Test.Qxb6612989aChecked
import GoSem.Claim
import GoSem.ClaimJoined
import GoSem.ClaimMapViews
import Derived.JoinedTies
import Derived.KernelRfl
namespace Go.Proofs.Qxb6612989a
/- THE CELL 'sum', in the pinned program and in every row, IS THE sha256 OF THE DUMP (.gsa) THAT Qxb6612989aProg.lean LOADS. Nothing in Lean hashes anything: it is a label: what it is worth is what the hold of that sum in a sandbox is worth. -/
noncomputable def Try.pinned : Pinned := { name := "qxb6612989a", sum := "332955e38b5abeeef97fb6ddb61c18794265a52524757b49f9f2447494119dd3", checked := Try.checked }
namespace Rows
def none {H : Type} : Left H := { results := [], args := [] }

/-- 'zzlaws_internal_lease_b1.FnUnexpiredKeepsExactlyTheLiveGrants': WHATEVER THE INPUT: true; the input reads as it did. -/
def fnUnexpiredKeepsExactlyTheLiveGrantsSpec : ChangeSpec := { name := "fnUnexpiredKeepsExactlyTheLiveGrants", fn := fun _ => fun
  | [d1, d2, d3] => { results := [.lit (.bool true)], args := [d1, d2, d3] }
  | _ => none }
def fnUnexpiredKeepsExactlyTheLiveGrantsRow : OpenClaim := { program := "qxb6612989a", sum := "332955e38b5abeeef97fb6ddb61c18794265a52524757b49f9f2447494119dd3", func := "example.com/tenure/tenure/zzlaws_internal_lease_b1.FnUnexpiredKeepsExactlyTheLiveGrants", spec := "fnUnexpiredKeepsExactlyTheLiveGrants", apart := false }
def FnUnexpiredKeepsExactlyTheLiveGrantsSaid : Prop := fnUnexpiredKeepsExactlyTheLiveGrantsRow.holds Try.pinned (OpenSpec.ofChange fnUnexpiredKeepsExactlyTheLiveGrantsSpec)

/-- ITS FALSE NEIGHBOUR: 'it returns false'. Refute it at one input. -/
def fnUnexpiredKeepsExactlyTheLiveGrantsWrong : ChangeSpec := { name := "fnUnexpiredKeepsExactlyTheLiveGrants", fn := fun _ => fun
  | [d1, d2, d3] => { results := [.lit (.bool false)], args := [d1, d2, d3] }
  | _ => none }
def FnUnexpiredKeepsExactlyTheLiveGrantsWrongFalsely : Prop := fnUnexpiredKeepsExactlyTheLiveGrantsRow.holds Try.pinned (OpenSpec.ofChange fnUnexpiredKeepsExactlyTheLiveGrantsWrong)

/-- 'zzlaws_internal_lease_b1.FnUnexpiredInTwoStepsAsAtTheLater': WHATEVER THE INPUT: true; the input reads as it did. -/
def fnUnexpiredInTwoStepsAsAtTheLaterSpec : ChangeSpec := { name := "fnUnexpiredInTwoStepsAsAtTheLater", fn := fun _ => fun
  | [d1, d2, d3, d4] => { results := [.lit (.bool true)], args := [d1, d2, d3, d4] }
  | _ => none }
def fnUnexpiredInTwoStepsAsAtTheLaterRow : OpenClaim := { program := "qxb6612989a", sum := "332955e38b5abeeef97fb6ddb61c18794265a52524757b49f9f2447494119dd3", func := "example.com/tenure/tenure/zzlaws_internal_lease_b1.FnUnexpiredInTwoStepsAsAtTheLater", spec := "fnUnexpiredInTwoStepsAsAtTheLater", apart := false }
def FnUnexpiredInTwoStepsAsAtTheLaterSaid : Prop := fnUnexpiredInTwoStepsAsAtTheLaterRow.holds Try.pinned (OpenSpec.ofChange fnUnexpiredInTwoStepsAsAtTheLaterSpec)

/-- ITS FALSE NEIGHBOUR: 'it returns false'. Refute it at one input. -/
def fnUnexpiredInTwoStepsAsAtTheLaterWrong : ChangeSpec := { name := "fnUnexpiredInTwoStepsAsAtTheLater", fn := fun _ => fun
  | [d1, d2, d3, d4] => { results := [.lit (.bool false)], args := [d1, d2, d3, d4] }
  | _ => none }
def FnUnexpiredInTwoStepsAsAtTheLaterWrongFalsely : Prop := fnUnexpiredInTwoStepsAsAtTheLaterRow.holds Try.pinned (OpenSpec.ofChange fnUnexpiredInTwoStepsAsAtTheLaterWrong)

end Rows
end Go.Proofs.Qxb6612989a
