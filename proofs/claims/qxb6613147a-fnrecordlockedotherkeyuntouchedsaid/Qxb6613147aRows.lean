/-
  No cell of these rows narrows 'for every input' (looked for: loops, veiled, ifaces, maps, wideKeys, modest, calm, conditions, laid).
  DERIVED. THE GIVEN ROWS OF THIS SEAT. 3 by the template 'for every input the law returns true; each argument reads behind the call as it read before'; 0 by the template 'total and deterministic' (their statements: Qxb6613147aTotals.lean).
  GIVEN WITH THE SEED: the statements are not yours to turn. If you find one false, say at which input.
  Laid BY PROGRAM, IN A SANDBOX (cutbox-rows.mjs): the forced cells as the released guide's own fill.sh prints them over the translation 71e00bf52e3c2175… (all of the seat's roots in one cut). By AI agents, Wed Nov 11 2026. No macro, syntax, notation, axiom, sorry.
-/
import Derived.Test.Qxb6613147aChecked
import GoSem.Claim
import GoSem.ClaimJoined
import GoSem.ClaimMapViews
import Derived.JoinedTies
import Derived.KernelRfl
namespace Go.Proofs.Qxb6613147a
/- THE CELL 'sum', in the pinned program and in every row, IS THE sha256 OF THE DUMP (.gsa) THAT Qxb6613147aProg.lean LOADS. Nothing in Lean hashes anything: it is a label: what it is worth is what the hold of that sum in a sandbox is worth. -/
noncomputable def Try.pinned : Pinned := { name := "qxb6613147a", sum := "71e00bf52e3c21751cc393be29a066bb7b36bc71afb5bd9df85627fd28c14a72", checked := Try.checked }
namespace Rows
def none {H : Type} : Left H := { results := [], args := [] }

/-- 'zzlaws_root_b1.FnRecordLockedLapseIsFinal': WHATEVER THE INPUT: true; the input reads as it did. -/
def fnRecordLockedLapseIsFinalSpec : ChangeSpec := { name := "fnRecordLockedLapseIsFinal", fn := fun _ => fun
  | [d1, d2, d3, d4, d5] => { results := [.lit (.bool true)], args := [d1, d2, d3, d4, d5] }
  | _ => none }
def fnRecordLockedLapseIsFinalRow : OpenClaim := { program := "qxb6613147a", sum := "71e00bf52e3c21751cc393be29a066bb7b36bc71afb5bd9df85627fd28c14a72", func := "example.com/libonce/libonce/zzlaws_root_b1.FnRecordLockedLapseIsFinal", spec := "fnRecordLockedLapseIsFinal", apart := false }
def FnRecordLockedLapseIsFinalSaid : Prop := fnRecordLockedLapseIsFinalRow.holds Try.pinned (OpenSpec.ofChange fnRecordLockedLapseIsFinalSpec)

/-- ITS FALSE NEIGHBOUR: 'it returns false'. Refute it at one input. -/
def fnRecordLockedLapseIsFinalWrong : ChangeSpec := { name := "fnRecordLockedLapseIsFinal", fn := fun _ => fun
  | [d1, d2, d3, d4, d5] => { results := [.lit (.bool false)], args := [d1, d2, d3, d4, d5] }
  | _ => none }
def FnRecordLockedLapseIsFinalWrongFalsely : Prop := fnRecordLockedLapseIsFinalRow.holds Try.pinned (OpenSpec.ofChange fnRecordLockedLapseIsFinalWrong)

/-- 'zzlaws_root_b1.FnRecordLockedOtherKeyUntouched': WHATEVER THE INPUT: true; the input reads as it did. -/
def fnRecordLockedOtherKeyUntouchedSpec : ChangeSpec := { name := "fnRecordLockedOtherKeyUntouched", fn := fun _ => fun
  | [d1, d2, d3, d4, d5, d6] => { results := [.lit (.bool true)], args := [d1, d2, d3, d4, d5, d6] }
  | _ => none }
def fnRecordLockedOtherKeyUntouchedRow : OpenClaim := { program := "qxb6613147a", sum := "71e00bf52e3c21751cc393be29a066bb7b36bc71afb5bd9df85627fd28c14a72", func := "example.com/libonce/libonce/zzlaws_root_b1.FnRecordLockedOtherKeyUntouched", spec := "fnRecordLockedOtherKeyUntouched", apart := false }
def FnRecordLockedOtherKeyUntouchedSaid : Prop := fnRecordLockedOtherKeyUntouchedRow.holds Try.pinned (OpenSpec.ofChange fnRecordLockedOtherKeyUntouchedSpec)

/-- ITS FALSE NEIGHBOUR: 'it returns false'. Refute it at one input. -/
def fnRecordLockedOtherKeyUntouchedWrong : ChangeSpec := { name := "fnRecordLockedOtherKeyUntouched", fn := fun _ => fun
  | [d1, d2, d3, d4, d5, d6] => { results := [.lit (.bool false)], args := [d1, d2, d3, d4, d5, d6] }
  | _ => none }
def FnRecordLockedOtherKeyUntouchedWrongFalsely : Prop := fnRecordLockedOtherKeyUntouchedRow.holds Try.pinned (OpenSpec.ofChange fnRecordLockedOtherKeyUntouchedWrong)

/-- 'zzlaws_root_b1.FnOperationFromContextRoundTrip': WHATEVER THE INPUT: true; the input reads as it did. -/
def fnOperationFromContextRoundTripSpec : ChangeSpec := { name := "fnOperationFromContextRoundTrip", fn := fun _ => fun
  | [d] => { results := [.lit (.bool true)], args := [d] }
  | _ => none }
def fnOperationFromContextRoundTripRow : OpenClaim := { program := "qxb6613147a", sum := "71e00bf52e3c21751cc393be29a066bb7b36bc71afb5bd9df85627fd28c14a72", func := "example.com/libonce/libonce/zzlaws_root_b1.FnOperationFromContextRoundTrip", spec := "fnOperationFromContextRoundTrip", inPlace := ["internal/reflectlite.TypeOf"], unfollowed := true, recurses := true, apart := false }
def FnOperationFromContextRoundTripSaid : Prop := fnOperationFromContextRoundTripRow.holds Try.pinned (OpenSpec.ofChange fnOperationFromContextRoundTripSpec)

/-- ITS FALSE NEIGHBOUR: 'it returns false'. Refute it at one input. -/
def fnOperationFromContextRoundTripWrong : ChangeSpec := { name := "fnOperationFromContextRoundTrip", fn := fun _ => fun
  | [d] => { results := [.lit (.bool false)], args := [d] }
  | _ => none }
def FnOperationFromContextRoundTripWrongFalsely : Prop := fnOperationFromContextRoundTripRow.holds Try.pinned (OpenSpec.ofChange fnOperationFromContextRoundTripWrong)

end Rows
end Go.Proofs.Qxb6613147a
