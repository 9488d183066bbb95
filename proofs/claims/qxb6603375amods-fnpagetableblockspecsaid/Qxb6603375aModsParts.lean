import Derived.Test.Qxb6603375aModsRows
import Derived.WalkKit
import Derived.ProofKit
import Derived.WalkSpells
import Derived.Maps.OwnSet
import Derived.LaidEqlPtr
import Derived.Lib.Builder
import Derived.OpenShut
namespace Go.Proofs.Qxb6603375aMods
open Go.RowKit Go.Maps

/-! ### a pointer to a block's head; the map of such pointers -/
def ptrV (o : Option Nat) : Value := .pointer (o.map fun b => ⟨b, 0, none⟩)
def ptrD (o : Option Nat) : DataW Unit := match o with
  | none => .nil
  | some b => .lit (.int .u64 (b : Int))
def ptrElem : Value → Option (DataW Unit × List MemPlace)
  | .pointer none => some (.nil, [])
  | .pointer (some ⟨b, 0, none⟩) => some (.lit (.int .u64 (b : Int)), [])
  | _ => none

theorem ptrElem_mk (o : Option Nat) : ptrElem (ptrV o) = some (ptrD o, []) := by
  cases o <;> rfl

theorem ptrElem_inv {v : Value} {o : Option Nat} {ps : List MemPlace} (h : ptrElem v = some (ptrD o, ps)) : v = ptrV o := by
  unfold ptrElem at h
  split at h
  · cases o with
    | none => rfl
    | some b => simp [ptrD] at h
  · rename_i b0
    cases o with
    | none => simp [ptrD] at h
    | some b =>
      simp [ptrD] at h
      obtain ⟨h, _⟩ := h
      have : b0 = b := by omega
      subst this
      rfl
  · cases h

theorem law38 : Keyed Trym.prog 38 := int_keyed Trym.underlying38
theorem zero49 (w : World) : (zeroValue 49).run Trym.prog w = .ok (ptrV none) w := by kernel_rfl

/-- Block M of w is a map that holds, at each key x, the pointer 'f x' (none: nothing, or nil). -/
def MapIs (w : World) (M n : Nat) (f : Int → Option Nat) : Prop :=
  ∃ D, w.ownsMap Trym.prog 38 ptrElem M n D ∧ ∀ x, (Lit.int .u64 x).wf = true → D.atKey (.int .u64 x) .nil = ptrD (f x)

theorem MapIs.look {w : World} {M n : Nat} {f : Int → Option Nat} (h : MapIs w M n f) {x : Int} (hx : (Lit.int .u64 x).wf = true) :
    (Instr.lookup 69 (.map (some M)) (.int .u64 x) false).run Trym.prog w = .ok (ptrV (f x)) w := by
  obtain ⟨D, ho, hf⟩ := h
  obtain ⟨v, ps, hrun, hv⟩ := ho.lookup law38 Trym.underlying69 (zero49 w) (ptrElem_mk none) (keyOf_int_mk Trym.underlying38 hx)
  have e := hf x hx
  rw [show (ptrD none : DataW Unit) = .nil from rfl, e] at hv
  rw [hrun, ptrElem_inv hv]

def putF (f : Int → Option Nat) (x : Int) (b : Nat) : Int → Option Nat := fun y => if y = x then some b else f y

theorem MapIs.upd {w : World} {M n : Nat} {f : Int → Option Nat} (h : MapIs w M n f) (hn : n < maxLen) {x : Int} (hx : (Lit.int .u64 x).wf = true) (b : Nat) :
    ∃ w', (Instr.mapUpdate 69 (.map (some M)) (.int .u64 x) (.pointer (some ⟨b, 0, none⟩))).run Trym.prog w = .ok () w' ∧ MapIs w' M (n + 1) (putF f x b) ∧ w.mapTurned w' M := by
  obtain ⟨D, ho, hf⟩ := h
  obtain ⟨w', hrun, ho', hg⟩ := ho.store law38 Trym.underlying69 hn (keyOf_int_mk Trym.underlying38 hx) (ptrElem_mk (some b))
  refine ⟨w', hrun, ⟨_, ho', fun y hy => ?_⟩, hg⟩
  unfold putF
  by_cases e : y = x
  · subst e
    rw [if_pos rfl]
    exact atKey_put_same ho.isMap (law38.key (keyOf_int_mk Trym.underlying38 hx)) _ _
  · rw [if_neg e, atKey_put_other (by simpa using e)]
    exact hf y hy

theorem MapIs.kept {w w' : World} {M n : Nat} {f : Int → Option Nat} (h : MapIs w M n f) (hb : w'.heap[M]? = w.heap[M]?) : MapIs w' M n f := by
  obtain ⟨D, ⟨es, clock, h1, h2⟩, hf⟩ := h
  exact ⟨D, ⟨es, clock, hb.trans h1, h2⟩, hf⟩

theorem MapIs.isMap {w : World} {M n : Nat} {f : Int → Option Nat} (h : MapIs w M n f) : ∃ es clock, w.heap[M]? = some (.map es clock) := by
  obtain ⟨D, ⟨es, clock, h1, _⟩, _⟩ := h
  exact ⟨es, clock, h1⟩

theorem MapIs.made (w : World) : MapIs (w.alloc (.map #[] 0)) w.heap.size 0 (fun _ => none) :=
  ⟨_, World.ownsMap_made w Trym.prog 38 ptrElem, fun _ _ => rfl⟩

theorem MapIs.mono {w : World} {M n n' : Nat} {f : Int → Option Nat} (h : MapIs w M n f) (hn : n ≤ n') : MapIs w M n' f := by
  obtain ⟨D, ho, hf⟩ := h
  exact ⟨D, ho.mono hn, hf⟩

/-! ### rows -/
/-- Two rows of different element types lie in different blocks. -/
theorem own_ne {w : World} {b1 b2 e1 e2 s1 s2 n1 n2 : Nat} {v1 v2 : Value} {xs1 xs2 : List Value} (h1 : w.ownsRow b1 e1 s1 v1 n1 xs1) (h2 : w.ownsRow b2 e2 s2 v2 n2 xs2) (hne : e1 ≠ e2) : v1.ownBlock = none ∨ v1.ownBlock ≠ v2.ownBlock := by
  rcases h1.2 with ⟨rfl, _⟩ | ⟨g, cap, cur, rfl, _, hg, _⟩
  · exact .inl rfl
  · refine .inr fun e => ?_
    rcases h2.2 with ⟨rfl, _⟩ | ⟨g2, cap2, cur2, rfl, _, hg2, _⟩
    · simp [Value.ownBlock] at e
    · simp [Value.ownBlock] at e
      subst e
      rw [hg] at hg2
      simp at hg2
      exact hne hg2.2

/-- A block that is no row of that element type is not that row's. -/
theorem block_ne {w : World} {b e s n k : Nat} {v : Value} {xs : List Value} {o : Obj} (h : w.ownsRow b e s v n xs) (hk : w.heap[k]? = some o) (hne : ∀ cur, o ≠ .cells cur e (0, 0)) : some k ≠ v.ownBlock := by
  rcases h.2 with ⟨rfl, _⟩ | ⟨g, cap, cur, rfl, _, hg, _⟩
  · simp [Value.ownBlock]
  · intro e1
    simp [Value.ownBlock] at e1
    subst e1
    rw [hk] at hg
    exact hne cur (by simpa using hg)

/-! ### what has turned -/
/-- w' is w with new blocks, and with writes to the blocks that 'may' names alone. -/
structure But (w w' : World) (may : Nat → Prop) : Prop where
  os : w'.os = w.os
  tape : w'.tape = w.tape
  output : w'.output = w.output
  size : w.heap.size ≤ w'.heap.size
  block : ∀ k, k < w.heap.size → ¬ may k → w'.heap[k]? = w.heap[k]?

theorem But.refl (w : World) (may : Nat → Prop) : But w w may := ⟨rfl, rfl, rfl, Nat.le_refl _, fun _ _ _ => rfl⟩
theorem But.trans {a b c : World} {may may' : Nat → Prop} (h : But a b may) (k : But b c may') (hm : ∀ i, i < a.heap.size → may' i → may i) : But a c may :=
  ⟨k.os.trans h.os, k.tape.trans h.tape, k.output.trans h.output, Nat.le_trans h.size k.size, fun i hi hn => (k.block i (Nat.lt_of_lt_of_le hi h.size) (fun e => hn (hm i hi e))).trans (h.block i hi hn)⟩
theorem But.mono {a b : World} {may may' : Nat → Prop} (h : But a b may) (hm : ∀ i, i < a.heap.size → may i → may' i) : But a b may' :=
  ⟨h.os, h.tape, h.output, h.size, fun i hi hn => h.block i hi (fun e => hn (hm i hi e))⟩
theorem But.grown {w w' : World} {row : Option Nat} (h : w.grownBy w' row) : But w w' (fun k => some k = row) :=
  ⟨h.os, h.tape, h.output, h.size, h.block⟩
theorem But.below {w w' : World} {may : Nat → Prop} (h : But w w' may) {B : Nat} (hB : B ≤ w.heap.size) (hm : ∀ k, may k → B ≤ k) : Below B w w' :=
  ⟨h.os, h.tape, h.output, h.size, fun k hk => h.block k (by omega) (fun e => by have := hm k e; omega)⟩
theorem But.alloc (w : World) (o : Obj) (may : Nat → Prop) : But w (w.alloc o) may :=
  ⟨rfl, rfl, rfl, by simp, fun k hk _ => Below.heap_alloc w o k hk⟩
theorem But.setCell (w : World) (a : Addr) (u : Value) : But w (w.setCell a u) (fun k => k = a.block) :=
  ⟨rfl, rfl, rfl, by simp, fun k _ hk => heap_setCell_other w a k u hk⟩
theorem But.turned {w w' : World} {b : Nat} (h : w.mapTurned w' b) : But w w' (fun k => k = b) :=
  (But.grown h.grown).mono (fun _ _ e => by simpa using e)

/-! ### a new page block -/
def PB : Array Value := Array.replicate 256 (.pointer none)
set_option maxRecDepth 100000 in
theorem zero74 (w : World) : (zeroValue 74).run Trym.prog w = .ok (.agg PB) w := by kernel_rfl
theorem run_alloc74 (w : World) : (Instr.alloc 74 true (.tuple #[])).run Trym.prog w = .ok (.pointer (some ⟨w.heap.size, 0, none⟩)) (w.alloc (.cells PB 74)) := by
  simp [Instr.alloc, zero74, newVar, Value.cells, newRow]
theorem wpList_alloc74 (w : World) {ops : Array Oper} {rest : List Oper} {o : Oper} {a : Act} {Q : Exit → Act → World → Prop} (hg : o.guard = none) (hop : o.op = Op.alloc 74)
    (hK : wpList Trym.prog ops Q rest (a.put o.dst (.pointer (some ⟨w.heap.size, 0, none⟩))) (w.alloc (.cells PB 74))) : wpList Trym.prog ops Q (o :: rest) a w := by
  refine wpList_plain hg fun K' hK' => ?_
  unfold Oper.wp
  simp [execOp, hop, run_alloc74, Result.andThen]
  exact hK' _ _ hK

/-- 'm[k] = p' at the operation. -/
theorem wpList_upd (w : World) {ops : Array Oper} {rest : List Oper} {o : Oper} {a : Act} {Q : Exit → Act → World → Prop} (hg : o.guard = none) (m x v : Operand) (hop : o.op = Op.mapUpdate 69 m x v)
    (M n : Nat) (f : Int → Option Nat) (k : Int) (b : Nat) (hm : a.eval m = .map (some M)) (hx : a.eval x = .int .u64 k) (hv : a.eval v = .pointer (some ⟨b, 0, none⟩)) (hM : MapIs w M n f) (hn : n < maxLen) (hk : (Lit.int .u64 k).wf = true)
    (hK : ∀ w', MapIs w' M (n + 1) (putF f k b) → w.mapTurned w' M → wpList Trym.prog ops Q rest (a.put o.dst undef) w') : wpList Trym.prog ops Q (o :: rest) a w := by
  refine wpList_plain hg fun K' hK' => ?_
  obtain ⟨w', hrun, h1, h2⟩ := hM.upd hn hk b
  unfold Oper.wp
  simp [execOp, hop, hm, hx, hv, hrun, Result.andThen]
  exact hK' _ _ (hK w' h1 h2)

theorem MapIs.alloc {w : World} {M n : Nat} {f : Int → Option Nat} (h : MapIs w M n f) (o : Obj) : MapIs (w.alloc o) M n f := by
  obtain ⟨D, ho, hf⟩ := h
  exact ⟨D, ho.alloc o, hf⟩

theorem MapIs.lt {w : World} {M n : Nat} {f : Int → Option Nat} (h : MapIs w M n f) : M < w.heap.size := by
  obtain ⟨es, clock, h1⟩ := h.isMap
  exact (Array.getElem?_eq_some_iff.1 h1).1

/-- The key of a page: as both the law and the table reckon it. -/
def keyId (id : Int) : Int := IntKind.u64.wrap (id.tdiv 256)
theorem wf_key (id : Int) : (Lit.int .u64 (IntKind.u64.wrap (id.tdiv 256))).wf = true := wf_wrap _ _

/-- The table at block T: its map at block M holds f; its last block is the map's. -/
structure Tab (w : World) (T M n : Nat) (f : Int → Option Nat) (last : Option Nat) (t : Int) : Prop where
  row : w.heap[T]? = some (.cells #[.map (some M), ptrV last, .int .u64 t] 71 (0, 0))
  map : MapIs w M n f
  ok : ∀ b, last = some b → f t = some b

theorem Tab.ne {w : World} {T M n : Nat} {f : Int → Option Nat} {last : Option Nat} {t : Int} (h : Tab w T M n f last t) : M ≠ T := by
  obtain ⟨es, clock, h1⟩ := h.map.isMap
  intro e
  subst e
  have := h.row
  rw [h1] at this
  cases this

theorem Tab.kept {w w' : World} {T M n : Nat} {f : Int → Option Nat} {last : Option Nat} {t : Int} (h : Tab w T M n f last t) (hT : w'.heap[T]? = w.heap[T]?) (hM : w'.heap[M]? = w.heap[M]?) : Tab w' T M n f last t :=
  ⟨hT.trans h.row, h.map.kept hM, h.ok⟩

/-- The two stores of 'block'. -/
theorem tab_stored {w : World} {T : Nat} {m p t : Value} (h : w.heap[T]? = some (.cells #[m, p, t] 71 (0, 0))) (p' t' : Value) :
    ((w.setCell ⟨T, 1, none⟩ p').setCell ⟨T, 2, none⟩ t').heap[T]? = some (.cells #[m, p', t'] 71 (0, 0)) := by
  have h1 := heap_setCell_same w T 1 _ 71 p' h
  have h2 := heap_setCell_same _ T 2 _ 71 t' h1
  rw [h2]
  simp

end Go.Proofs.Qxb6603375aMods
