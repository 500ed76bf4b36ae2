/-
  No cell of these rows narrows 'for every input' (looked for: loops, veiled, ifaces, maps, wideKeys, modest, calm, conditions, laid).
  DERIVED. THE GIVEN ROWS OF THIS SEAT. 4 by the template 'for every input the law returns true; each argument reads behind the call as it read before'; 0 by the template 'total and deterministic' (their statements: Qxb6001376aModsTotals.lean).
  GIVEN WITH THE SEED: the statements are not yours to turn. If you find one false, say at which input.
  Laid BY PROGRAM, IN A SANDBOX (cutbox-rows.mjs): the forced cells as the released guide's own fill.sh prints them over the translation e308972e8c894147… (all of the seat's roots in one cut). By AI agents, Wed Nov 11 2026. No macro, syntax, notation, axiom, sorry.
-/
import Derived.Test.Qxb6001376aModsChecked
import GoSem.Claim
import GoSem.ClaimJoined
import GoSem.ClaimMapViews
import Derived.JoinedTies
import Derived.KernelRfl
namespace Go.Proofs.Qxb6001376aMods
/- THE CELL 'sum', in the pinned program and in every row, IS THE sha256 OF THE DUMP (.gsa) THAT Qxb6001376aModsProg.lean LOADS. Nothing in Lean hashes anything: it is a label: what it is worth is what the hold of that sum in a sandbox is worth. -/
noncomputable def Trym.pinned : Pinned := { name := "qxb6001376amods", sum := "e308972e8c89414794c3a0afdc80fb5e0d40cab8a58469a4b374450074b00af8", checked := Trym.checked }
namespace Rows
def none {H : Type} : Left H := { results := [], args := [] }

/-- 'zzlaws_rpc_b1.FnScanNumberMatchesAutomaton': WHATEVER THE INPUT: true; the input reads as it did. -/
def fnScanNumberMatchesAutomatonSpec : ChangeSpec := { name := "fnScanNumberMatchesAutomaton", fn := fun _ => fun
  | [d1, d2] => { results := [.lit (.bool true)], args := [d1, d2] }
  | _ => none }
def fnScanNumberMatchesAutomatonRow : OpenClaim := { program := "qxb6001376amods", sum := "e308972e8c89414794c3a0afdc80fb5e0d40cab8a58469a4b374450074b00af8", func := "example.com/markline/markline/zzlaws_rpc_b1.FnScanNumberMatchesAutomaton", spec := "fnScanNumberMatchesAutomaton", make := .lifted ["publicsums"], apart := false }
def FnScanNumberMatchesAutomatonSaid : Prop := fnScanNumberMatchesAutomatonRow.holds Trym.pinned (OpenSpec.ofChange fnScanNumberMatchesAutomatonSpec)

/-- ITS FALSE NEIGHBOUR: 'it returns false'. Refute it at one input. -/
def fnScanNumberMatchesAutomatonWrong : ChangeSpec := { name := "fnScanNumberMatchesAutomaton", fn := fun _ => fun
  | [d1, d2] => { results := [.lit (.bool false)], args := [d1, d2] }
  | _ => none }
def FnScanNumberMatchesAutomatonWrongFalsely : Prop := fnScanNumberMatchesAutomatonRow.holds Trym.pinned (OpenSpec.ofChange fnScanNumberMatchesAutomatonWrong)

/-- 'zzlaws_rpc_b1.FnScanNumberShiftAndTruncate': WHATEVER THE INPUT: true; the input reads as it did. -/
def fnScanNumberShiftAndTruncateSpec : ChangeSpec := { name := "fnScanNumberShiftAndTruncate", fn := fun _ => fun
  | [d1, d2] => { results := [.lit (.bool true)], args := [d1, d2] }
  | _ => none }
def fnScanNumberShiftAndTruncateRow : OpenClaim := { program := "qxb6001376amods", sum := "e308972e8c89414794c3a0afdc80fb5e0d40cab8a58469a4b374450074b00af8", func := "example.com/markline/markline/zzlaws_rpc_b1.FnScanNumberShiftAndTruncate", spec := "fnScanNumberShiftAndTruncate", make := .lifted ["publicsums"], apart := false }
def FnScanNumberShiftAndTruncateSaid : Prop := fnScanNumberShiftAndTruncateRow.holds Trym.pinned (OpenSpec.ofChange fnScanNumberShiftAndTruncateSpec)

/-- ITS FALSE NEIGHBOUR: 'it returns false'. Refute it at one input. -/
def fnScanNumberShiftAndTruncateWrong : ChangeSpec := { name := "fnScanNumberShiftAndTruncate", fn := fun _ => fun
  | [d1, d2] => { results := [.lit (.bool false)], args := [d1, d2] }
  | _ => none }
def FnScanNumberShiftAndTruncateWrongFalsely : Prop := fnScanNumberShiftAndTruncateRow.holds Trym.pinned (OpenSpec.ofChange fnScanNumberShiftAndTruncateWrong)

/-- 'zzlaws_rpc_b1.FnNextMemberWhitespaceInsensitive': WHATEVER THE INPUT: true; the input reads as it did. -/
def fnNextMemberWhitespaceInsensitiveSpec : ChangeSpec := { name := "fnNextMemberWhitespaceInsensitive", fn := fun _ => fun
  | [d1, d2, d3] => { results := [.lit (.bool true)], args := [d1, d2, d3] }
  | _ => none }
def fnNextMemberWhitespaceInsensitiveRow : OpenClaim := { program := "qxb6001376amods", sum := "e308972e8c89414794c3a0afdc80fb5e0d40cab8a58469a4b374450074b00af8", func := "example.com/markline/markline/zzlaws_rpc_b1.FnNextMemberWhitespaceInsensitive", spec := "fnNextMemberWhitespaceInsensitive", make := .lifted ["publicsums"], apart := false }
def FnNextMemberWhitespaceInsensitiveSaid : Prop := fnNextMemberWhitespaceInsensitiveRow.holds Trym.pinned (OpenSpec.ofChange fnNextMemberWhitespaceInsensitiveSpec)

/-- ITS FALSE NEIGHBOUR: 'it returns false'. Refute it at one input. -/
def fnNextMemberWhitespaceInsensitiveWrong : ChangeSpec := { name := "fnNextMemberWhitespaceInsensitive", fn := fun _ => fun
  | [d1, d2, d3] => { results := [.lit (.bool false)], args := [d1, d2, d3] }
  | _ => none }
def FnNextMemberWhitespaceInsensitiveWrongFalsely : Prop := fnNextMemberWhitespaceInsensitiveRow.holds Trym.pinned (OpenSpec.ofChange fnNextMemberWhitespaceInsensitiveWrong)

/-- 'zzlaws_rpc_b1.FnRequestMemberCaseSensitive': WHATEVER THE INPUT: true; the input reads as it did. -/
def fnRequestMemberCaseSensitiveSpec : ChangeSpec := { name := "fnRequestMemberCaseSensitive", fn := fun _ => fun
  | [d] => { results := [.lit (.bool true)], args := [d] }
  | _ => none }
def fnRequestMemberCaseSensitiveRow : OpenClaim := { program := "qxb6001376amods", sum := "e308972e8c89414794c3a0afdc80fb5e0d40cab8a58469a4b374450074b00af8", func := "example.com/markline/markline/zzlaws_rpc_b1.FnRequestMemberCaseSensitive", spec := "fnRequestMemberCaseSensitive", make := .lifted ["publicsums"], apart := false }
def FnRequestMemberCaseSensitiveSaid : Prop := fnRequestMemberCaseSensitiveRow.holds Trym.pinned (OpenSpec.ofChange fnRequestMemberCaseSensitiveSpec)

/-- ITS FALSE NEIGHBOUR: 'it returns false'. Refute it at one input. -/
def fnRequestMemberCaseSensitiveWrong : ChangeSpec := { name := "fnRequestMemberCaseSensitive", fn := fun _ => fun
  | [d] => { results := [.lit (.bool false)], args := [d] }
  | _ => none }
def FnRequestMemberCaseSensitiveWrongFalsely : Prop := fnRequestMemberCaseSensitiveRow.holds Trym.pinned (OpenSpec.ofChange fnRequestMemberCaseSensitiveWrong)

end Rows
end Go.Proofs.Qxb6001376aMods
