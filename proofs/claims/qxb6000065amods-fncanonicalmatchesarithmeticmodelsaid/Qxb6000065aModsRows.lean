/-
  No cell of these rows narrows 'for every input' (looked for: loops, veiled, ifaces, maps, wideKeys, modest, calm, conditions, laid).
  DERIVED. THE GIVEN ROWS OF THIS SEAT. 3 by the template 'for every input the law returns true; each argument reads behind the call as it read before'; 0 by the template 'total and deterministic' (their statements: Qxb6000065aModsTotals.lean).
  GIVEN WITH THE SEED: the statements are not yours to turn. If you find one false, say at which input.
  Laid BY PROGRAM, IN A SANDBOX (cutbox-rows.mjs): the forced cells as the released guide's own fill.sh prints them over the translation 1fdd4e624ef21a49… (all of the seat's roots in one cut). By AI agents, Wed Nov 11 2026. No macro, syntax, notation, axiom, sorry.
-/
import Derived.Test.Qxb6000065aModsChecked
import GoSem.Claim
import GoSem.ClaimJoined
import GoSem.ClaimMapViews
import Derived.JoinedTies
import Derived.KernelRfl
namespace Go.Proofs.Qxb6000065aMods
/- THE CELL 'sum', in the pinned program and in every row, IS THE sha256 OF THE DUMP (.gsa) THAT Qxb6000065aModsProg.lean LOADS. Nothing in Lean hashes anything: it is a label: what it is worth is what the hold of that sum in a sandbox is worth. -/
noncomputable def Trym.pinned : Pinned := { name := "qxb6000065amods", sum := "1fdd4e624ef21a4995b91c9fc8890d4be2a367b1fe1ac39e3d156444bad63d11", checked := Trym.checked }
namespace Rows
def none {H : Type} : Left H := { results := [], args := [] }

/-- 'zzlaws_pkg_vrf_b1.FnCanonicalMatchesArithmeticModel': WHATEVER THE INPUT: true; the input reads as it did. -/
def fnCanonicalMatchesArithmeticModelSpec : ChangeSpec := { name := "fnCanonicalMatchesArithmeticModel", fn := fun _ => fun
  | [d] => { results := [.lit (.bool true)], args := [d] }
  | _ => none }
def fnCanonicalMatchesArithmeticModelRow : OpenClaim := { program := "qxb6000065amods", sum := "1fdd4e624ef21a4995b91c9fc8890d4be2a367b1fe1ac39e3d156444bad63d11", func := "example.com/clepsydra/clepsydra/zzlaws_pkg_vrf_b1.FnCanonicalMatchesArithmeticModel", spec := "fnCanonicalMatchesArithmeticModel", make := .lifted ["publicsums"], apart := false }
def FnCanonicalMatchesArithmeticModelSaid : Prop := fnCanonicalMatchesArithmeticModelRow.holds Trym.pinned (OpenSpec.ofChange fnCanonicalMatchesArithmeticModelSpec)

/-- ITS FALSE NEIGHBOUR: 'it returns false'. Refute it at one input. -/
def fnCanonicalMatchesArithmeticModelWrong : ChangeSpec := { name := "fnCanonicalMatchesArithmeticModel", fn := fun _ => fun
  | [d] => { results := [.lit (.bool false)], args := [d] }
  | _ => none }
def FnCanonicalMatchesArithmeticModelWrongFalsely : Prop := fnCanonicalMatchesArithmeticModelRow.holds Trym.pinned (OpenSpec.ofChange fnCanonicalMatchesArithmeticModelWrong)

/-- 'zzlaws_pkg_vrf_b1.FnCanonicalReadsOnlyFirst32': WHATEVER THE INPUT: true; the input reads as it did. -/
def fnCanonicalReadsOnlyFirst32Spec : ChangeSpec := { name := "fnCanonicalReadsOnlyFirst32", fn := fun _ => fun
  | [d] => { results := [.lit (.bool true)], args := [d] }
  | _ => none }
def fnCanonicalReadsOnlyFirst32Row : OpenClaim := { program := "qxb6000065amods", sum := "1fdd4e624ef21a4995b91c9fc8890d4be2a367b1fe1ac39e3d156444bad63d11", func := "example.com/clepsydra/clepsydra/zzlaws_pkg_vrf_b1.FnCanonicalReadsOnlyFirst32", spec := "fnCanonicalReadsOnlyFirst32", make := .lifted ["publicsums"], apart := false }
def FnCanonicalReadsOnlyFirst32Said : Prop := fnCanonicalReadsOnlyFirst32Row.holds Trym.pinned (OpenSpec.ofChange fnCanonicalReadsOnlyFirst32Spec)

/-- ITS FALSE NEIGHBOUR: 'it returns false'. Refute it at one input. -/
def fnCanonicalReadsOnlyFirst32Wrong : ChangeSpec := { name := "fnCanonicalReadsOnlyFirst32", fn := fun _ => fun
  | [d] => { results := [.lit (.bool false)], args := [d] }
  | _ => none }
def FnCanonicalReadsOnlyFirst32WrongFalsely : Prop := fnCanonicalReadsOnlyFirst32Row.holds Trym.pinned (OpenSpec.ofChange fnCanonicalReadsOnlyFirst32Wrong)

/-- 'zzlaws_pkg_vrf_b1.FnCanonicalSignBitOnlyRefusesMore': WHATEVER THE INPUT: true; the input reads as it did. -/
def fnCanonicalSignBitOnlyRefusesMoreSpec : ChangeSpec := { name := "fnCanonicalSignBitOnlyRefusesMore", fn := fun _ => fun
  | [d] => { results := [.lit (.bool true)], args := [d] }
  | _ => none }
def fnCanonicalSignBitOnlyRefusesMoreRow : OpenClaim := { program := "qxb6000065amods", sum := "1fdd4e624ef21a4995b91c9fc8890d4be2a367b1fe1ac39e3d156444bad63d11", func := "example.com/clepsydra/clepsydra/zzlaws_pkg_vrf_b1.FnCanonicalSignBitOnlyRefusesMore", spec := "fnCanonicalSignBitOnlyRefusesMore", make := .lifted ["publicsums"], apart := false }
def FnCanonicalSignBitOnlyRefusesMoreSaid : Prop := fnCanonicalSignBitOnlyRefusesMoreRow.holds Trym.pinned (OpenSpec.ofChange fnCanonicalSignBitOnlyRefusesMoreSpec)

/-- ITS FALSE NEIGHBOUR: 'it returns false'. Refute it at one input. -/
def fnCanonicalSignBitOnlyRefusesMoreWrong : ChangeSpec := { name := "fnCanonicalSignBitOnlyRefusesMore", fn := fun _ => fun
  | [d] => { results := [.lit (.bool false)], args := [d] }
  | _ => none }
def FnCanonicalSignBitOnlyRefusesMoreWrongFalsely : Prop := fnCanonicalSignBitOnlyRefusesMoreRow.holds Trym.pinned (OpenSpec.ofChange fnCanonicalSignBitOnlyRefusesMoreWrong)

end Rows
end Go.Proofs.Qxb6000065aMods
