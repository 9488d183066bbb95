/-
  No cell of these rows narrows 'for every input' (looked for: loops, veiled, ifaces, maps, wideKeys, modest, calm, conditions, laid).
  DERIVED. THE GIVEN ROWS OF THIS SEAT. 2 by the template 'for every input the law returns true; each argument reads behind the call as it read before'; 0 by the template 'total and deterministic' (their statements: Qxb6603190aModsTotals.lean).
  GIVEN WITH THE SEED: the statements are not yours to turn. If you find one false, say at which input.
  Laid BY PROGRAM, IN A SANDBOX (cutbox-rows.mjs): the forced cells as the released guide's own fill.sh prints them over the translation 489e9cfd182e100f… (all of the seat's roots in one cut). By AI agents, Wed Nov 11 2026. No macro, syntax, notation, axiom, sorry.
-/
import Derived.Test.Qxb6603190aModsChecked
import GoSem.Claim
import GoSem.ClaimJoined
import GoSem.ClaimMapViews
import Derived.JoinedTies
import Derived.KernelRfl
namespace Go.Proofs.Qxb6603190aMods
/- THE CELL 'sum', in the pinned program and in every row, IS THE sha256 OF THE DUMP (.gsa) THAT Qxb6603190aModsProg.lean LOADS. Nothing in Lean hashes anything: it is a label: what it is worth is what the hold of that sum in a sandbox is worth. -/
noncomputable def Trym.pinned : Pinned := { name := "qxb6603190amods", sum := "489e9cfd182e100f41e898df034455359b04d9bf1a1c3aebe1bc5d6306117818", checked := Trym.checked }
namespace Rows
def none {H : Type} : Left H := { results := [], args := [] }

/-- 'zzlaws_internal_validators_b1.FnDependentDocPartsAreSentences': WHATEVER THE INPUT: true; the input reads as it did. -/
def fnDependentDocPartsAreSentencesSpec : ChangeSpec := { name := "fnDependentDocPartsAreSentences", fn := fun _ => fun
  | [d1, d2, d3, d4] => { results := [.lit (.bool true)], args := [d1, d2, d3, d4] }
  | _ => none }
def fnDependentDocPartsAreSentencesRow : OpenClaim := { program := "qxb6603190amods", sum := "489e9cfd182e100f41e898df034455359b04d9bf1a1c3aebe1bc5d6306117818", func := "example.com/tagwright/tagwright/zzlaws_internal_validators_b1.FnDependentDocPartsAreSentences", spec := "fnDependentDocPartsAreSentences", make := .lifted ["publicsums"], apart := false }
def FnDependentDocPartsAreSentencesSaid : Prop := fnDependentDocPartsAreSentencesRow.holds Trym.pinned (OpenSpec.ofChange fnDependentDocPartsAreSentencesSpec)

/-- ITS FALSE NEIGHBOUR: 'it returns false'. Refute it at one input. -/
def fnDependentDocPartsAreSentencesWrong : ChangeSpec := { name := "fnDependentDocPartsAreSentences", fn := fun _ => fun
  | [d1, d2, d3, d4] => { results := [.lit (.bool false)], args := [d1, d2, d3, d4] }
  | _ => none }
def FnDependentDocPartsAreSentencesWrongFalsely : Prop := fnDependentDocPartsAreSentencesRow.holds Trym.pinned (OpenSpec.ofChange fnDependentDocPartsAreSentencesWrong)

/-- 'zzlaws_internal_validators_b1.FnOptionTestDocPartsAreSentences': WHATEVER THE INPUT: true; the input reads as it did. -/
def fnOptionTestDocPartsAreSentencesSpec : ChangeSpec := { name := "fnOptionTestDocPartsAreSentences", fn := fun _ => fun
  | [d1, d2, d3] => { results := [.lit (.bool true)], args := [d1, d2, d3] }
  | _ => none }
def fnOptionTestDocPartsAreSentencesRow : OpenClaim := { program := "qxb6603190amods", sum := "489e9cfd182e100f41e898df034455359b04d9bf1a1c3aebe1bc5d6306117818", func := "example.com/tagwright/tagwright/zzlaws_internal_validators_b1.FnOptionTestDocPartsAreSentences", spec := "fnOptionTestDocPartsAreSentences", make := .lifted ["publicsums"], apart := false }
def FnOptionTestDocPartsAreSentencesSaid : Prop := fnOptionTestDocPartsAreSentencesRow.holds Trym.pinned (OpenSpec.ofChange fnOptionTestDocPartsAreSentencesSpec)

/-- ITS FALSE NEIGHBOUR: 'it returns false'. Refute it at one input. -/
def fnOptionTestDocPartsAreSentencesWrong : ChangeSpec := { name := "fnOptionTestDocPartsAreSentences", fn := fun _ => fun
  | [d1, d2, d3] => { results := [.lit (.bool false)], args := [d1, d2, d3] }
  | _ => none }
def FnOptionTestDocPartsAreSentencesWrongFalsely : Prop := fnOptionTestDocPartsAreSentencesRow.holds Trym.pinned (OpenSpec.ofChange fnOptionTestDocPartsAreSentencesWrong)

end Rows
end Go.Proofs.Qxb6603190aMods
