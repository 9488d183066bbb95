/-
  No cell of these rows narrows 'for every input' (looked for: loops, veiled, ifaces, maps, wideKeys, modest, calm, conditions, laid).
  DERIVED. THE GIVEN ROWS OF THIS SEAT. 3 by the template 'for every input the law returns true; each argument reads behind the call as it read before'; 0 by the template 'total and deterministic' (their statements: Qxb6603458aModsTotals.lean).
  GIVEN WITH THE SEED: the statements are not yours to turn. If you find one false, say at which input.
  Laid BY PROGRAM, IN A SANDBOX (cutbox-rows.mjs): the forced cells as the released guide's own fill.sh prints them over the translation 72fb834cb5699764… (all of the seat's roots in one cut). By AI agents, Wed Nov 11 2026. No macro, syntax, notation, axiom, sorry.
-/
import Derived.Test.Qxb6603458aModsChecked
import GoSem.Claim
import GoSem.ClaimJoined
import GoSem.ClaimMapViews
import Derived.JoinedTies
import Derived.KernelRfl
namespace Go.Proofs.Qxb6603458aMods
/- THE CELL 'sum', in the pinned program and in every row, IS THE sha256 OF THE DUMP (.gsa) THAT Qxb6603458aModsProg.lean LOADS. Nothing in Lean hashes anything: it is a label: what it is worth is what the hold of that sum in a sandbox is worth. -/
noncomputable def Trym.pinned : Pinned := { name := "qxb6603458amods", sum := "72fb834cb5699764e3ed5819b73c93b3a969fdd01f3fdcd25e938bab5938a877", checked := Trym.checked }
namespace Rows
def none {H : Type} : Left H := { results := [], args := [] }

/-- 'zzlaws_sqlstore_b1.FnPlaceOfSpec': WHATEVER THE INPUT: true; the input reads as it did. -/
def fnPlaceOfSpecSpec : ChangeSpec := { name := "fnPlaceOfSpec", fn := fun _ => fun
  | [d1, d2, d3, d4, d5, d6, d7, d8, d9] => { results := [.lit (.bool true)], args := [d1, d2, d3, d4, d5, d6, d7, d8, d9] }
  | _ => none }
def fnPlaceOfSpecRow : OpenClaim := { program := "qxb6603458amods", sum := "72fb834cb5699764e3ed5819b73c93b3a969fdd01f3fdcd25e938bab5938a877", func := "example.com/hold1/hold1/zzlaws_sqlstore_b1.FnPlaceOfSpec", spec := "fnPlaceOfSpec", make := .lifted ["publicsums"], apart := false }
def FnPlaceOfSpecSaid : Prop := fnPlaceOfSpecRow.holds Trym.pinned (OpenSpec.ofChange fnPlaceOfSpecSpec)

/-- ITS FALSE NEIGHBOUR: 'it returns false'. Refute it at one input. -/
def fnPlaceOfSpecWrong : ChangeSpec := { name := "fnPlaceOfSpec", fn := fun _ => fun
  | [d1, d2, d3, d4, d5, d6, d7, d8, d9] => { results := [.lit (.bool false)], args := [d1, d2, d3, d4, d5, d6, d7, d8, d9] }
  | _ => none }
def FnPlaceOfSpecWrongFalsely : Prop := fnPlaceOfSpecRow.holds Trym.pinned (OpenSpec.ofChange fnPlaceOfSpecWrong)

/-- 'zzlaws_sqlstore_b1.FnPlaceOfMorePlacesKeepFree': WHATEVER THE INPUT: true; the input reads as it did. -/
def fnPlaceOfMorePlacesKeepFreeSpec : ChangeSpec := { name := "fnPlaceOfMorePlacesKeepFree", fn := fun _ => fun
  | [d1, d2, d3, d4, d5, d6, d7, d8, d9, d10] => { results := [.lit (.bool true)], args := [d1, d2, d3, d4, d5, d6, d7, d8, d9, d10] }
  | _ => none }
def fnPlaceOfMorePlacesKeepFreeRow : OpenClaim := { program := "qxb6603458amods", sum := "72fb834cb5699764e3ed5819b73c93b3a969fdd01f3fdcd25e938bab5938a877", func := "example.com/hold1/hold1/zzlaws_sqlstore_b1.FnPlaceOfMorePlacesKeepFree", spec := "fnPlaceOfMorePlacesKeepFree", make := .lifted ["publicsums"], apart := false }
def FnPlaceOfMorePlacesKeepFreeSaid : Prop := fnPlaceOfMorePlacesKeepFreeRow.holds Trym.pinned (OpenSpec.ofChange fnPlaceOfMorePlacesKeepFreeSpec)

/-- ITS FALSE NEIGHBOUR: 'it returns false'. Refute it at one input. -/
def fnPlaceOfMorePlacesKeepFreeWrong : ChangeSpec := { name := "fnPlaceOfMorePlacesKeepFree", fn := fun _ => fun
  | [d1, d2, d3, d4, d5, d6, d7, d8, d9, d10] => { results := [.lit (.bool false)], args := [d1, d2, d3, d4, d5, d6, d7, d8, d9, d10] }
  | _ => none }
def FnPlaceOfMorePlacesKeepFreeWrongFalsely : Prop := fnPlaceOfMorePlacesKeepFreeRow.holds Trym.pinned (OpenSpec.ofChange fnPlaceOfMorePlacesKeepFreeWrong)

/-- 'zzlaws_sqlstore_b1.FnFoundOfPlaceOfNotOtherUnlessFull': WHATEVER THE INPUT: true; the input reads as it did. -/
def fnFoundOfPlaceOfNotOtherUnlessFullSpec : ChangeSpec := { name := "fnFoundOfPlaceOfNotOtherUnlessFull", fn := fun _ => fun
  | [d1, d2, d3, d4, d5, d6, d7, d8, d9] => { results := [.lit (.bool true)], args := [d1, d2, d3, d4, d5, d6, d7, d8, d9] }
  | _ => none }
def fnFoundOfPlaceOfNotOtherUnlessFullRow : OpenClaim := { program := "qxb6603458amods", sum := "72fb834cb5699764e3ed5819b73c93b3a969fdd01f3fdcd25e938bab5938a877", func := "example.com/hold1/hold1/zzlaws_sqlstore_b1.FnFoundOfPlaceOfNotOtherUnlessFull", spec := "fnFoundOfPlaceOfNotOtherUnlessFull", make := .lifted ["publicsums"], apart := false }
def FnFoundOfPlaceOfNotOtherUnlessFullSaid : Prop := fnFoundOfPlaceOfNotOtherUnlessFullRow.holds Trym.pinned (OpenSpec.ofChange fnFoundOfPlaceOfNotOtherUnlessFullSpec)

/-- ITS FALSE NEIGHBOUR: 'it returns false'. Refute it at one input. -/
def fnFoundOfPlaceOfNotOtherUnlessFullWrong : ChangeSpec := { name := "fnFoundOfPlaceOfNotOtherUnlessFull", fn := fun _ => fun
  | [d1, d2, d3, d4, d5, d6, d7, d8, d9] => { results := [.lit (.bool false)], args := [d1, d2, d3, d4, d5, d6, d7, d8, d9] }
  | _ => none }
def FnFoundOfPlaceOfNotOtherUnlessFullWrongFalsely : Prop := fnFoundOfPlaceOfNotOtherUnlessFullRow.holds Trym.pinned (OpenSpec.ofChange fnFoundOfPlaceOfNotOtherUnlessFullWrong)

end Rows
end Go.Proofs.Qxb6603458aMods
