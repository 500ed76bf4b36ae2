/-
  No cell of these rows narrows 'for every input' (looked for: loops, veiled, ifaces, maps, wideKeys, modest, calm, conditions, laid).
  DERIVED. THE GIVEN ROWS OF THIS SEAT. 2 by the template 'for every input the law returns true; each argument reads behind the call as it read before'; 0 by the template 'total and deterministic' (their statements: Qxb6001022aModsTotals.lean).
  GIVEN WITH THE SEED: the statements are not yours to turn. If you find one false, say at which input.
  Laid BY PROGRAM, IN A SANDBOX (cutbox-rows.mjs): the forced cells as the released guide's own fill.sh prints them over the translation 1d217ebf8222346a… (all of the seat's roots in one cut). By AI agents, Wed Nov 11 2026. No macro, syntax, notation, axiom, sorry.
-/
import Derived.Test.Qxb6001022aModsChecked
import GoSem.Claim
import GoSem.ClaimJoined
import GoSem.ClaimMapViews
import Derived.JoinedTies
import Derived.KernelRfl
namespace Go.Proofs.Qxb6001022aMods
/- THE CELL 'sum', in the pinned program and in every row, IS THE sha256 OF THE DUMP (.gsa) THAT Qxb6001022aModsProg.lean LOADS. Nothing in Lean hashes anything: it is a label: what it is worth is what the hold of that sum in a sandbox is worth. -/
noncomputable def Trym.pinned : Pinned := { name := "qxb6001022amods", sum := "1d217ebf8222346a60be63253bc341b53ae89a7f7b55df853f16328c1b7ae4b4", checked := Trym.checked }
namespace Rows
def none {H : Type} : Left H := { results := [], args := [] }

/-- 'zzlaws_root_b1.FnNthZeroWeightSpec': WHATEVER THE INPUT: true; the input reads as it did. -/
def fnNthZeroWeightSpecSpec : ChangeSpec := { name := "fnNthZeroWeightSpec", fn := fun _ => fun
  | [d1, d2, d3] => { results := [.lit (.bool true)], args := [d1, d2, d3] }
  | _ => none }
def fnNthZeroWeightSpecRow : OpenClaim := { program := "qxb6001022amods", sum := "1d217ebf8222346a60be63253bc341b53ae89a7f7b55df853f16328c1b7ae4b4", func := "example.com/fingerpost/fingerpost/zzlaws_root_b1.FnNthZeroWeightSpec", spec := "fnNthZeroWeightSpec", make := .lifted ["publicsums"], apart := false }
def FnNthZeroWeightSpecSaid : Prop := fnNthZeroWeightSpecRow.holds Trym.pinned (OpenSpec.ofChange fnNthZeroWeightSpecSpec)

/-- ITS FALSE NEIGHBOUR: 'it returns false'. Refute it at one input. -/
def fnNthZeroWeightSpecWrong : ChangeSpec := { name := "fnNthZeroWeightSpec", fn := fun _ => fun
  | [d1, d2, d3] => { results := [.lit (.bool false)], args := [d1, d2, d3] }
  | _ => none }
def FnNthZeroWeightSpecWrongFalsely : Prop := fnNthZeroWeightSpecRow.holds Trym.pinned (OpenSpec.ofChange fnNthZeroWeightSpecWrong)

/-- 'zzlaws_root_b1.FnNthZeroWeightStrictlyIncreasing': WHATEVER THE INPUT: true; the input reads as it did. -/
def fnNthZeroWeightStrictlyIncreasingSpec : ChangeSpec := { name := "fnNthZeroWeightStrictlyIncreasing", fn := fun _ => fun
  | [d1, d2, d3, d4] => { results := [.lit (.bool true)], args := [d1, d2, d3, d4] }
  | _ => none }
def fnNthZeroWeightStrictlyIncreasingRow : OpenClaim := { program := "qxb6001022amods", sum := "1d217ebf8222346a60be63253bc341b53ae89a7f7b55df853f16328c1b7ae4b4", func := "example.com/fingerpost/fingerpost/zzlaws_root_b1.FnNthZeroWeightStrictlyIncreasing", spec := "fnNthZeroWeightStrictlyIncreasing", make := .lifted ["publicsums"], apart := false }
def FnNthZeroWeightStrictlyIncreasingSaid : Prop := fnNthZeroWeightStrictlyIncreasingRow.holds Trym.pinned (OpenSpec.ofChange fnNthZeroWeightStrictlyIncreasingSpec)

/-- ITS FALSE NEIGHBOUR: 'it returns false'. Refute it at one input. -/
def fnNthZeroWeightStrictlyIncreasingWrong : ChangeSpec := { name := "fnNthZeroWeightStrictlyIncreasing", fn := fun _ => fun
  | [d1, d2, d3, d4] => { results := [.lit (.bool false)], args := [d1, d2, d3, d4] }
  | _ => none }
def FnNthZeroWeightStrictlyIncreasingWrongFalsely : Prop := fnNthZeroWeightStrictlyIncreasingRow.holds Trym.pinned (OpenSpec.ofChange fnNthZeroWeightStrictlyIncreasingWrong)

end Rows
end Go.Proofs.Qxb6001022aMods
