/-
  No cell of these rows narrows 'for every input' (looked for: loops, veiled, ifaces, maps, wideKeys, modest, calm, conditions, laid).
  DERIVED. THE GIVEN ROWS OF THIS SEAT. 1 by the template 'for every input the law returns true; each argument reads behind the call as it read before'; 0 by the template 'total and deterministic' (their statements: Qxb6613126aTotals.lean).
  GIVEN WITH THE SEED: the statements are not yours to turn. If you find one false, say at which input.
  Laid BY PROGRAM, IN A SANDBOX (cutbox-rows.mjs): the forced cells as the released guide's own fill.sh prints them over the translation f23c1aee47b55a6a… (all of the seat's roots in one cut). By AI agents, Wed Nov 11 2026. No macro, syntax, notation, axiom, sorry.
-/
import Derived.Test.Qxb6613126aChecked
import GoSem.Claim
import GoSem.ClaimJoined
import GoSem.ClaimMapViews
import Derived.JoinedTies
import Derived.KernelRfl
namespace Go.Proofs.Qxb6613126a
/- THE CELL 'sum', in the pinned program and in every row, IS THE sha256 OF THE DUMP (.gsa) THAT Qxb6613126aProg.lean LOADS. Nothing in Lean hashes anything: it is a label: what it is worth is what the hold of that sum in a sandbox is worth. -/
noncomputable def Try.pinned : Pinned := { name := "qxb6613126a", sum := "f23c1aee47b55a6add9fd7d95756c4ce85351723ed1f1d4f75b01588001e22a6", checked := Try.checked }
namespace Rows
def none {H : Type} : Left H := { results := [], args := [] }

/-- 'zzlaws_internal_jsonpath_b1.FnMemberAliasKeyNamesAsItsTarget': WHATEVER THE INPUT: true; the input reads as it did. -/
def fnMemberAliasKeyNamesAsItsTargetSpec : ChangeSpec := { name := "fnMemberAliasKeyNamesAsItsTarget", fn := fun _ => fun
  | [d1, d2, d3, d4] => { results := [.lit (.bool true)], args := [d1, d2, d3, d4] }
  | _ => none }
def fnMemberAliasKeyNamesAsItsTargetRow : OpenClaim := { program := "qxb6613126a", sum := "f23c1aee47b55a6add9fd7d95756c4ce85351723ed1f1d4f75b01588001e22a6", func := "example.com/wary-rules/wary-rules/zzlaws_internal_jsonpath_b1.FnMemberAliasKeyNamesAsItsTarget", spec := "fnMemberAliasKeyNamesAsItsTarget", apart := false }
def FnMemberAliasKeyNamesAsItsTargetSaid : Prop := fnMemberAliasKeyNamesAsItsTargetRow.holds Try.pinned (OpenSpec.ofChange fnMemberAliasKeyNamesAsItsTargetSpec)

/-- ITS FALSE NEIGHBOUR: 'it returns false'. Refute it at one input. -/
def fnMemberAliasKeyNamesAsItsTargetWrong : ChangeSpec := { name := "fnMemberAliasKeyNamesAsItsTarget", fn := fun _ => fun
  | [d1, d2, d3, d4] => { results := [.lit (.bool false)], args := [d1, d2, d3, d4] }
  | _ => none }
def FnMemberAliasKeyNamesAsItsTargetWrongFalsely : Prop := fnMemberAliasKeyNamesAsItsTargetRow.holds Try.pinned (OpenSpec.ofChange fnMemberAliasKeyNamesAsItsTargetWrong)

end Rows
end Go.Proofs.Qxb6613126a
