/-
  No cell of these rows narrows 'for every input' (looked for: loops, veiled, ifaces, maps, wideKeys, modest, calm, conditions, laid).
  DERIVED. THE GIVEN ROWS OF THIS SEAT. 2 by the template 'for every input the law returns true; each argument reads behind the call as it read before'; 0 by the template 'total and deterministic' (their statements: Qxb6603551aModsTotals.lean).
  GIVEN WITH THE SEED: the statements are not yours to turn. If you find one false, say at which input.
  Laid BY PROGRAM, IN A SANDBOX (cutbox-rows.mjs): the forced cells as the released guide's own fill.sh prints them over the translation 6d1531d77b4d5104… (all of the seat's roots in one cut). By AI agents, Wed Nov 11 2026. No macro, syntax, notation, axiom, sorry.
-/
import Derived.Test.Qxb6603551aModsChecked
import GoSem.Claim
import GoSem.ClaimJoined
import GoSem.ClaimMapViews
import Derived.JoinedTies
import Derived.KernelRfl
namespace Go.Proofs.Qxb6603551aMods
/- THE CELL 'sum', in the pinned program and in every row, IS THE sha256 OF THE DUMP (.gsa) THAT Qxb6603551aModsProg.lean LOADS. Nothing in Lean hashes anything: it is a label: what it is worth is what the hold of that sum in a sandbox is worth. -/
noncomputable def Trym.pinned : Pinned := { name := "qxb6603551amods", sum := "6d1531d77b4d51044e7def766af0b07c310a16ca2d69448ad7b0978b3520e0dc", checked := Trym.checked }
namespace Rows
def none {H : Type} : Left H := { results := [], args := [] }

/-- 'zzlaws_root_b1.FnScanNumberIsLongestJSONNumberPrefix': WHATEVER THE INPUT: true; the input reads as it did. -/
def fnScanNumberIsLongestJSONNumberPrefixSpec : ChangeSpec := { name := "fnScanNumberIsLongestJSONNumberPrefix", fn := fun _ => fun
  | [d] => { results := [.lit (.bool true)], args := [d] }
  | _ => none }
def fnScanNumberIsLongestJSONNumberPrefixRow : OpenClaim := { program := "qxb6603551amods", sum := "6d1531d77b4d51044e7def766af0b07c310a16ca2d69448ad7b0978b3520e0dc", func := "example.com/protoshape/protoshape/zzlaws_root_b1.FnScanNumberIsLongestJSONNumberPrefix", spec := "fnScanNumberIsLongestJSONNumberPrefix", make := .lifted ["publicsums"], apart := false }
def FnScanNumberIsLongestJSONNumberPrefixSaid : Prop := fnScanNumberIsLongestJSONNumberPrefixRow.holds Trym.pinned (OpenSpec.ofChange fnScanNumberIsLongestJSONNumberPrefixSpec)

/-- ITS FALSE NEIGHBOUR: 'it returns false'. Refute it at one input. -/
def fnScanNumberIsLongestJSONNumberPrefixWrong : ChangeSpec := { name := "fnScanNumberIsLongestJSONNumberPrefix", fn := fun _ => fun
  | [d] => { results := [.lit (.bool false)], args := [d] }
  | _ => none }
def FnScanNumberIsLongestJSONNumberPrefixWrongFalsely : Prop := fnScanNumberIsLongestJSONNumberPrefixRow.holds Trym.pinned (OpenSpec.ofChange fnScanNumberIsLongestJSONNumberPrefixWrong)

/-- 'zzlaws_root_b1.FnScanNumberStopsAtDelimiter': WHATEVER THE INPUT: true; the input reads as it did. -/
def fnScanNumberStopsAtDelimiterSpec : ChangeSpec := { name := "fnScanNumberStopsAtDelimiter", fn := fun _ => fun
  | [d1, d2] => { results := [.lit (.bool true)], args := [d1, d2] }
  | _ => none }
def fnScanNumberStopsAtDelimiterRow : OpenClaim := { program := "qxb6603551amods", sum := "6d1531d77b4d51044e7def766af0b07c310a16ca2d69448ad7b0978b3520e0dc", func := "example.com/protoshape/protoshape/zzlaws_root_b1.FnScanNumberStopsAtDelimiter", spec := "fnScanNumberStopsAtDelimiter", make := .lifted ["publicsums"], apart := false }
def FnScanNumberStopsAtDelimiterSaid : Prop := fnScanNumberStopsAtDelimiterRow.holds Trym.pinned (OpenSpec.ofChange fnScanNumberStopsAtDelimiterSpec)

/-- ITS FALSE NEIGHBOUR: 'it returns false'. Refute it at one input. -/
def fnScanNumberStopsAtDelimiterWrong : ChangeSpec := { name := "fnScanNumberStopsAtDelimiter", fn := fun _ => fun
  | [d1, d2] => { results := [.lit (.bool false)], args := [d1, d2] }
  | _ => none }
def FnScanNumberStopsAtDelimiterWrongFalsely : Prop := fnScanNumberStopsAtDelimiterRow.holds Trym.pinned (OpenSpec.ofChange fnScanNumberStopsAtDelimiterWrong)

end Rows
end Go.Proofs.Qxb6603551aMods
