/-
  No cell of these rows narrows 'for every input' (looked for: loops, veiled, ifaces, maps, wideKeys, modest, calm, conditions, laid).
  DERIVED. THE GIVEN ROWS OF THIS SEAT. 4 by the template 'for every input the law returns true; each argument reads behind the call as it read before'; 0 by the template 'total and deterministic' (their statements: Qxb6001702aModsTotals.lean).
  GIVEN WITH THE SEED: the statements are not yours to turn. If you find one false, say at which input.
  Laid BY PROGRAM, IN A SANDBOX (cutbox-rows.mjs): the forced cells as the released guide's own fill.sh prints them over the translation 5dc6cd0c1dc9784b… (all of the seat's roots in one cut). By AI agents, Wed Nov 11 2026. No macro, syntax, notation, axiom, sorry.
-/
import Derived.Test.Qxb6001702aModsChecked
import GoSem.Claim
import GoSem.ClaimJoined
import GoSem.ClaimMapViews
import Derived.JoinedTies
import Derived.KernelRfl
namespace Go.Proofs.Qxb6001702aMods
/- THE CELL 'sum', in the pinned program and in every row, IS THE sha256 OF THE DUMP (.gsa) THAT Qxb6001702aModsProg.lean LOADS. Nothing in Lean hashes anything: it is a label: what it is worth is what the hold of that sum in a sandbox is worth. -/
noncomputable def Trym.pinned : Pinned := { name := "qxb6001702amods", sum := "5dc6cd0c1dc9784b8b1357100b19b0f44e9a83612ca6c8ac6c9c7ee771381a22", checked := Trym.checked }
namespace Rows
def none {H : Type} : Left H := { results := [], args := [] }

/-- 'zzlaws_pkg_api_v1alpha1_b1.FnQueueStringRoundTripHostPort': WHATEVER THE INPUT: true; the input reads as it did. -/
def fnQueueStringRoundTripHostPortSpec : ChangeSpec := { name := "fnQueueStringRoundTripHostPort", fn := fun _ => fun
  | [d1, d2, d3] => { results := [.lit (.bool true)], args := [d1, d2, d3] }
  | _ => none }
def fnQueueStringRoundTripHostPortRow : OpenClaim := { program := "qxb6001702amods", sum := "5dc6cd0c1dc9784b8b1357100b19b0f44e9a83612ca6c8ac6c9c7ee771381a22", func := "example.com/loadwarden/loadwarden/zzlaws_pkg_api_v1alpha1_b1.FnQueueStringRoundTripHostPort", spec := "fnQueueStringRoundTripHostPort", make := .lifted ["publicsums"], apart := false }
def FnQueueStringRoundTripHostPortSaid : Prop := fnQueueStringRoundTripHostPortRow.holds Trym.pinned (OpenSpec.ofChange fnQueueStringRoundTripHostPortSpec)

/-- ITS FALSE NEIGHBOUR: 'it returns false'. Refute it at one input. -/
def fnQueueStringRoundTripHostPortWrong : ChangeSpec := { name := "fnQueueStringRoundTripHostPort", fn := fun _ => fun
  | [d1, d2, d3] => { results := [.lit (.bool false)], args := [d1, d2, d3] }
  | _ => none }
def FnQueueStringRoundTripHostPortWrongFalsely : Prop := fnQueueStringRoundTripHostPortRow.holds Trym.pinned (OpenSpec.ofChange fnQueueStringRoundTripHostPortWrong)

/-- 'zzlaws_pkg_api_v1alpha1_b1.FnQueueStringSeparatesNames': WHATEVER THE INPUT: true; the input reads as it did. -/
def fnQueueStringSeparatesNamesSpec : ChangeSpec := { name := "fnQueueStringSeparatesNames", fn := fun _ => fun
  | [d1, d2, d3, d4, d5] => { results := [.lit (.bool true)], args := [d1, d2, d3, d4, d5] }
  | _ => none }
def fnQueueStringSeparatesNamesRow : OpenClaim := { program := "qxb6001702amods", sum := "5dc6cd0c1dc9784b8b1357100b19b0f44e9a83612ca6c8ac6c9c7ee771381a22", func := "example.com/loadwarden/loadwarden/zzlaws_pkg_api_v1alpha1_b1.FnQueueStringSeparatesNames", spec := "fnQueueStringSeparatesNames", make := .lifted ["publicsums"], apart := false }
def FnQueueStringSeparatesNamesSaid : Prop := fnQueueStringSeparatesNamesRow.holds Trym.pinned (OpenSpec.ofChange fnQueueStringSeparatesNamesSpec)

/-- ITS FALSE NEIGHBOUR: 'it returns false'. Refute it at one input. -/
def fnQueueStringSeparatesNamesWrong : ChangeSpec := { name := "fnQueueStringSeparatesNames", fn := fun _ => fun
  | [d1, d2, d3, d4, d5] => { results := [.lit (.bool false)], args := [d1, d2, d3, d4, d5] }
  | _ => none }
def FnQueueStringSeparatesNamesWrongFalsely : Prop := fnQueueStringSeparatesNamesRow.holds Trym.pinned (OpenSpec.ofChange fnQueueStringSeparatesNamesWrong)

/-- 'zzlaws_pkg_api_v1alpha1_b1.FnThresholdDeepCopyIntoCopiesWithoutSharing': WHATEVER THE INPUT: true; the input reads as it did. -/
def fnThresholdDeepCopyIntoCopiesWithoutSharingSpec : ChangeSpec := { name := "fnThresholdDeepCopyIntoCopiesWithoutSharing", fn := fun _ => fun
  | [d1, d2, d3, d4, d5, d6, d7, d8, d9, d10, d11] => { results := [.lit (.bool true)], args := [d1, d2, d3, d4, d5, d6, d7, d8, d9, d10, d11] }
  | _ => none }
def fnThresholdDeepCopyIntoCopiesWithoutSharingRow : OpenClaim := { program := "qxb6001702amods", sum := "5dc6cd0c1dc9784b8b1357100b19b0f44e9a83612ca6c8ac6c9c7ee771381a22", func := "example.com/loadwarden/loadwarden/zzlaws_pkg_api_v1alpha1_b1.FnThresholdDeepCopyIntoCopiesWithoutSharing", spec := "fnThresholdDeepCopyIntoCopiesWithoutSharing", make := .lifted ["publicsums"], apart := false }
def FnThresholdDeepCopyIntoCopiesWithoutSharingSaid : Prop := fnThresholdDeepCopyIntoCopiesWithoutSharingRow.holds Trym.pinned (OpenSpec.ofChange fnThresholdDeepCopyIntoCopiesWithoutSharingSpec)

/-- ITS FALSE NEIGHBOUR: 'it returns false'. Refute it at one input. -/
def fnThresholdDeepCopyIntoCopiesWithoutSharingWrong : ChangeSpec := { name := "fnThresholdDeepCopyIntoCopiesWithoutSharing", fn := fun _ => fun
  | [d1, d2, d3, d4, d5, d6, d7, d8, d9, d10, d11] => { results := [.lit (.bool false)], args := [d1, d2, d3, d4, d5, d6, d7, d8, d9, d10, d11] }
  | _ => none }
def FnThresholdDeepCopyIntoCopiesWithoutSharingWrongFalsely : Prop := fnThresholdDeepCopyIntoCopiesWithoutSharingRow.holds Trym.pinned (OpenSpec.ofChange fnThresholdDeepCopyIntoCopiesWithoutSharingWrong)

/-- 'zzlaws_pkg_api_v1alpha1_b1.FnThresholdDeepCopyIntoSelfUnshares': WHATEVER THE INPUT: true; the input reads as it did. -/
def fnThresholdDeepCopyIntoSelfUnsharesSpec : ChangeSpec := { name := "fnThresholdDeepCopyIntoSelfUnshares", fn := fun _ => fun
  | [d1, d2, d3, d4, d5, d6, d7] => { results := [.lit (.bool true)], args := [d1, d2, d3, d4, d5, d6, d7] }
  | _ => none }
def fnThresholdDeepCopyIntoSelfUnsharesRow : OpenClaim := { program := "qxb6001702amods", sum := "5dc6cd0c1dc9784b8b1357100b19b0f44e9a83612ca6c8ac6c9c7ee771381a22", func := "example.com/loadwarden/loadwarden/zzlaws_pkg_api_v1alpha1_b1.FnThresholdDeepCopyIntoSelfUnshares", spec := "fnThresholdDeepCopyIntoSelfUnshares", make := .lifted ["publicsums"], apart := false }
def FnThresholdDeepCopyIntoSelfUnsharesSaid : Prop := fnThresholdDeepCopyIntoSelfUnsharesRow.holds Trym.pinned (OpenSpec.ofChange fnThresholdDeepCopyIntoSelfUnsharesSpec)

/-- ITS FALSE NEIGHBOUR: 'it returns false'. Refute it at one input. -/
def fnThresholdDeepCopyIntoSelfUnsharesWrong : ChangeSpec := { name := "fnThresholdDeepCopyIntoSelfUnshares", fn := fun _ => fun
  | [d1, d2, d3, d4, d5, d6, d7] => { results := [.lit (.bool false)], args := [d1, d2, d3, d4, d5, d6, d7] }
  | _ => none }
def FnThresholdDeepCopyIntoSelfUnsharesWrongFalsely : Prop := fnThresholdDeepCopyIntoSelfUnsharesRow.holds Trym.pinned (OpenSpec.ofChange fnThresholdDeepCopyIntoSelfUnsharesWrong)

end Rows
end Go.Proofs.Qxb6001702aMods
