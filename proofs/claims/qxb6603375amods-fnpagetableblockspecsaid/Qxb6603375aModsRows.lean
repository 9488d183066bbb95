/-
  No cell of these rows narrows 'for every input' (looked for: loops, veiled, ifaces, maps, wideKeys, modest, calm, conditions, laid).
  DERIVED. THE GIVEN ROWS OF THIS SEAT. 3 by the template 'for every input the law returns true; each argument reads behind the call as it read before'; 0 by the template 'total and deterministic' (their statements: Qxb6603375aModsTotals.lean).
  GIVEN WITH THE SEED: the statements are not yours to turn. If you find one false, say at which input.
  Laid BY PROGRAM, IN A SANDBOX (cutbox-rows.mjs): the forced cells as the released guide's own fill.sh prints them over the translation 4efe4e2ee02f1796… (all of the seat's roots in one cut). By AI agents, Wed Nov 11 2026. No macro, syntax, notation, axiom, sorry.
-/
import Derived.Test.Qxb6603375aModsChecked
import GoSem.Claim
import GoSem.ClaimJoined
import GoSem.ClaimMapViews
import Derived.JoinedTies
import Derived.KernelRfl
namespace Go.Proofs.Qxb6603375aMods
/- THE CELL 'sum', in the pinned program and in every row, IS THE sha256 OF THE DUMP (.gsa) THAT Qxb6603375aModsProg.lean LOADS. Nothing in Lean hashes anything: it is a label: what it is worth is what the hold of that sum in a sandbox is worth. -/
noncomputable def Trym.pinned : Pinned := { name := "qxb6603375amods", sum := "4efe4e2ee02f17961845fff6f32ee93b2aa4210e61bf50b1acff97d551ddf4ba", checked := Trym.checked }
namespace Rows
def none {H : Type} : Left H := { results := [], args := [] }

/-- 'zzlaws_root_b1.FnExclusiveSpec': WHATEVER THE INPUT: true; the input reads as it did. -/
def fnExclusiveSpecSpec : ChangeSpec := { name := "fnExclusiveSpec", fn := fun _ => fun
  | [d1, d2, d3, d4, d5, d6, d7, d8, d9, d10] => { results := [.lit (.bool true)], args := [d1, d2, d3, d4, d5, d6, d7, d8, d9, d10] }
  | _ => none }
def fnExclusiveSpecRow : OpenClaim := { program := "qxb6603375amods", sum := "4efe4e2ee02f17961845fff6f32ee93b2aa4210e61bf50b1acff97d551ddf4ba", func := "example.com/rowform/rowform/zzlaws_root_b1.FnExclusiveSpec", spec := "fnExclusiveSpec", make := .lifted ["publicsums"], apart := false }
def FnExclusiveSpecSaid : Prop := fnExclusiveSpecRow.holds Trym.pinned (OpenSpec.ofChange fnExclusiveSpecSpec)

/-- ITS FALSE NEIGHBOUR: 'it returns false'. Refute it at one input. -/
def fnExclusiveSpecWrong : ChangeSpec := { name := "fnExclusiveSpec", fn := fun _ => fun
  | [d1, d2, d3, d4, d5, d6, d7, d8, d9, d10] => { results := [.lit (.bool false)], args := [d1, d2, d3, d4, d5, d6, d7, d8, d9, d10] }
  | _ => none }
def FnExclusiveSpecWrongFalsely : Prop := fnExclusiveSpecRow.holds Trym.pinned (OpenSpec.ofChange fnExclusiveSpecWrong)

/-- 'zzlaws_root_b1.FnExclusiveSplit': WHATEVER THE INPUT: true; the input reads as it did. -/
def fnExclusiveSplitSpec : ChangeSpec := { name := "fnExclusiveSplit", fn := fun _ => fun
  | [d1, d2, d3, d4, d5, d6, d7, d8, d9, d10, d11] => { results := [.lit (.bool true)], args := [d1, d2, d3, d4, d5, d6, d7, d8, d9, d10, d11] }
  | _ => none }
def fnExclusiveSplitRow : OpenClaim := { program := "qxb6603375amods", sum := "4efe4e2ee02f17961845fff6f32ee93b2aa4210e61bf50b1acff97d551ddf4ba", func := "example.com/rowform/rowform/zzlaws_root_b1.FnExclusiveSplit", spec := "fnExclusiveSplit", make := .lifted ["publicsums"], apart := false }
def FnExclusiveSplitSaid : Prop := fnExclusiveSplitRow.holds Trym.pinned (OpenSpec.ofChange fnExclusiveSplitSpec)

/-- ITS FALSE NEIGHBOUR: 'it returns false'. Refute it at one input. -/
def fnExclusiveSplitWrong : ChangeSpec := { name := "fnExclusiveSplit", fn := fun _ => fun
  | [d1, d2, d3, d4, d5, d6, d7, d8, d9, d10, d11] => { results := [.lit (.bool false)], args := [d1, d2, d3, d4, d5, d6, d7, d8, d9, d10, d11] }
  | _ => none }
def FnExclusiveSplitWrongFalsely : Prop := fnExclusiveSplitRow.holds Trym.pinned (OpenSpec.ofChange fnExclusiveSplitWrong)

/-- 'zzlaws_root_b1.FnPageTableBlockSpec': WHATEVER THE INPUT: true; the input reads as it did. -/
def fnPageTableBlockSpecSpec : ChangeSpec := { name := "fnPageTableBlockSpec", fn := fun _ => fun
  | [d1, d2, d3] => { results := [.lit (.bool true)], args := [d1, d2, d3] }
  | _ => none }
def fnPageTableBlockSpecRow : OpenClaim := { program := "qxb6603375amods", sum := "4efe4e2ee02f17961845fff6f32ee93b2aa4210e61bf50b1acff97d551ddf4ba", func := "example.com/rowform/rowform/zzlaws_root_b1.FnPageTableBlockSpec", spec := "fnPageTableBlockSpec", make := .lifted ["publicsums"], apart := false }
def FnPageTableBlockSpecSaid : Prop := fnPageTableBlockSpecRow.holds Trym.pinned (OpenSpec.ofChange fnPageTableBlockSpecSpec)

/-- ITS FALSE NEIGHBOUR: 'it returns false'. Refute it at one input. -/
def fnPageTableBlockSpecWrong : ChangeSpec := { name := "fnPageTableBlockSpec", fn := fun _ => fun
  | [d1, d2, d3] => { results := [.lit (.bool false)], args := [d1, d2, d3] }
  | _ => none }
def FnPageTableBlockSpecWrongFalsely : Prop := fnPageTableBlockSpecRow.holds Trym.pinned (OpenSpec.ofChange fnPageTableBlockSpecWrong)

end Rows
end Go.Proofs.Qxb6603375aMods
