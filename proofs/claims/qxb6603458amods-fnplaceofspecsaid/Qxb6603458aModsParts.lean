import Derived.Test.Qxb6603458aModsRows
import Derived.WalkKit
import Derived.ProofKit
import Derived.WalkSpells
import Derived.Maps.OwnSet
import Derived.Maps.RangeWalk
namespace Go.Proofs.Qxb6603458aMods
open Go.RowKit Go.Maps

theorem tuck {p : Prop} (h : p) : Hid p := h

/-! ### what has turned -/
/-- w' is w with new blocks, and with writes to the blocks that 'may' names alone. -/
structure But (w w' : World) (may : Nat → Prop) : Prop where
  os : w'.os = w.os
  tape : w'.tape = w.tape
  output : w'.output = w.output
  size : w.heap.size ≤ w'.heap.size
  block : ∀ k, k < w.heap.size → ¬ may k → w'.heap[k]? = w.heap[k]?

theorem But.refl (w : World) (may : Nat → Prop) : But w w may := ⟨rfl, rfl, rfl, Nat.le_refl _, fun _ _ _ => rfl⟩
theorem But.trans {a b c : World} {may may' : Nat → Prop} (h : But a b may) (k : But b c may') (hm : ∀ i, i < a.heap.size → may' i → may i) : But a c may :=
  ⟨k.os.trans h.os, k.tape.trans h.tape, k.output.trans h.output, Nat.le_trans h.size k.size, fun i hi hn => (k.block i (Nat.lt_of_lt_of_le hi h.size) (fun e => hn (hm i hi e))).trans (h.block i hi hn)⟩
theorem But.mono {a b : World} {may may' : Nat → Prop} (h : But a b may) (hm : ∀ i, i < a.heap.size → may i → may' i) : But a b may' :=
  ⟨h.os, h.tape, h.output, h.size, fun i hi hn => h.block i hi (fun e => hn (hm i hi e))⟩
theorem But.grown {w w' : World} {row : Option Nat} (h : w.grownBy w' row) : But w w' (fun k => some k = row) :=
  ⟨h.os, h.tape, h.output, h.size, h.block⟩
theorem But.below {w w' : World} {may : Nat → Prop} (h : But w w' may) {B : Nat} (hB : B ≤ w.heap.size) (hm : ∀ k, may k → B ≤ k) : Below B w w' :=
  ⟨h.os, h.tape, h.output, h.size, fun k hk => h.block k (by omega) (fun e => by have := hm k e; omega)⟩
theorem But.alloc (w : World) (o : Obj) (may : Nat → Prop) : But w (w.alloc o) may :=
  ⟨rfl, rfl, rfl, by simp, fun k hk _ => Below.heap_alloc w o k hk⟩
theorem But.setCell (w : World) (a : Addr) (u : Value) : But w (w.setCell a u) (fun k => k = a.block) :=
  ⟨rfl, rfl, rfl, by simp, fun k _ hk => heap_setCell_other w a k u hk⟩
theorem But.turned {w w' : World} {b : Nat} (h : w.mapTurned w' b) : But w w' (fun k => k = b) :=
  (But.grown h.grown).mono (fun _ _ e => by simpa using e)
theorem But.cell {w w' : World} {may : Nat → Prop} (h : But w w' may) {a : Addr} {v : Value} (hc : w.cell? a = some v) (hm : ¬ may a.block) : w'.cell? a = some v := by
  rw [World.cell?_of_block (w := w) (h.block _ (World.block_lt_of_cell? _ _ hc) hm)]
  exact hc
/-- Nothing that was there has turned. -/
theorem But.none {w w' : World} {may : Nat → Prop} (h : But w w' may) (hm : ∀ k, k < w.heap.size → ¬ may k) : But w w' (fun _ => False) :=
  h.mono (fun i hi e => hm i hi e)

/-! ### a holder; the map of holders -/
/-- A holder: its place, its owner, its takes. -/
def holdV (h : Int × ByteArray × Int) : Value := .agg #[.int .i64 h.1, .string h.2.1, .int .i64 h.2.2]
def holdD (h : Int × ByteArray × Int) : DataW Unit := .agg [.lit (.int .i64 h.1), .lit (.string h.2.1.data.toList), .lit (.int .i64 h.2.2)]
def zeroH : Int × ByteArray × Int := (0, ⟨#[]⟩, 0)
def holdElem : Value → Option (DataW Unit × List MemPlace)
  | .agg ⟨[.int .i64 p, .string s, .int .i64 t]⟩ => some (holdD (p, s, t), [])
  | _ => none

theorem holdElem_mk (h : Int × ByteArray × Int) : holdElem (holdV h) = some (holdD h, []) := rfl

theorem holdElem_shape {v : Value} {y : DataW Unit × List MemPlace} (h : holdElem v = some y) : ∃ c, v = holdV c ∧ y = (holdD c, []) := by
  unfold holdElem at h
  split at h
  · rename_i p s t
    refine ⟨(p, s, t), rfl, ?_⟩
    cases h
    rfl
  · cases h

theorem holdD_inj {a b : Int × ByteArray × Int} (h : holdD a = holdD b) : a = b := by
  obtain ⟨p, s, t⟩ := a
  obtain ⟨p', s', t'⟩ := b
  unfold holdD at h
  simp at h
  obtain ⟨h1, h2, h3⟩ := h
  obtain ⟨⟨s⟩⟩ := s
  obtain ⟨⟨s'⟩⟩ := s'
  simp at h2
  subst h1; subst h3; subst h2
  rfl

theorem law3 : Keyed Trym.prog 3 := int_keyed Trym.underlying3
theorem zero47 (w : World) : (zeroValue 47).run Trym.prog w = .ok (holdV zeroH) w := by kernel_rfl

/-- The datum of a map that holds just what f says. -/
def Reads (D : DataW Unit) (f : Int → Option (Int × ByteArray × Int)) : Prop :=
  ∀ x, (Lit.int .i64 x).wf = true → has D (.int .i64 x) = (f x).isSome ∧ ∀ h, f x = some h → ∀ zd, D.atKey (.int .i64 x) zd = holdD h

/-- Block M of w is a map that holds, at each key x, 'f x'. -/
def MapIs (w : World) (M n : Nat) (f : Int → Option (Int × ByteArray × Int)) : Prop :=
  ∃ D, w.ownsMap Trym.prog 3 holdElem M n D ∧ Reads D f

theorem MapIs.look {w : World} {M n : Nat} {f : Int → Option (Int × ByteArray × Int)} (h : MapIs w M n f) {x : Int} (hx : (Lit.int .i64 x).wf = true) :
    (Instr.lookup 39 (.map (some M)) (.int .i64 x) true).run Trym.prog w = .ok (.tuple #[holdV ((f x).getD zeroH), .bool (f x).isSome]) w := by
  obtain ⟨D, ho, hf⟩ := h
  obtain ⟨v, ps, hrun, hv⟩ := ho.look_ok law3 Trym.underlying39 (zero47 w) (holdElem_mk zeroH) (keyOf_int_mk Trym.underlying3 hx)
  obtain ⟨h1, h2⟩ := hf x hx
  obtain ⟨c, rfl, hc⟩ := holdElem_shape hv
  rw [hrun, h1]
  have e : c = (f x).getD zeroH := by
    cases hfx : f x with
    | none =>
      rw [hfx] at h1
      rw [atKey_of_not_has h1] at hc
      simp at hc
      exact (holdD_inj hc.1).symm
    | some h =>
      rw [h2 h hfx] at hc
      simp at hc
      exact (holdD_inj hc.1).symm
  rw [e]

theorem look_nil39 (w : World) {x : Int} (hx : (Lit.int .i64 x).wf = true) :
    (Instr.lookup 39 (.map none) (.int .i64 x) true).run Trym.prog w = .ok (.tuple #[holdV zeroH, .bool false]) w := by
  have := look_nil (w := w) true law3 Trym.underlying39 (zero47 w) (keyOf_int_mk Trym.underlying3 hx)
  simpa using this

def putF (f : Int → Option (Int × ByteArray × Int)) (x : Int) (h : Int × ByteArray × Int) : Int → Option (Int × ByteArray × Int) := fun y => if y = x then some h else f y

theorem MapIs.upd {w : World} {M n : Nat} {f : Int → Option (Int × ByteArray × Int)} (h : MapIs w M n f) (hn : n < maxLen) {x : Int} (hx : (Lit.int .i64 x).wf = true) (c : Int × ByteArray × Int) :
    ∃ w', (Instr.mapUpdate 39 (.map (some M)) (.int .i64 x) (holdV c)).run Trym.prog w = .ok () w' ∧ MapIs w' M (n + 1) (putF f x c) ∧ w.mapTurned w' M := by
  obtain ⟨D, ho, hf⟩ := h
  obtain ⟨w', hrun, ho', hg⟩ := ho.store law3 Trym.underlying39 hn (keyOf_int_mk Trym.underlying3 hx) (holdElem_mk c)
  refine ⟨w', hrun, ⟨_, ho', fun y hy => ?_⟩, hg⟩
  unfold putF
  by_cases e : y = x
  · subst e
    rw [if_pos rfl]
    refine ⟨has_put_same ho.isMap (law3.key (keyOf_int_mk Trym.underlying3 hx)) _, fun h hh zd => ?_⟩
    cases hh
    exact atKey_put_same ho.isMap (law3.key (keyOf_int_mk Trym.underlying3 hx)) _ _
  · rw [if_neg e, has_put_other (by simpa using e)]
    refine ⟨(hf y hy).1, fun h hh zd => ?_⟩
    rw [atKey_put_other (by simpa using e)]
    exact (hf y hy).2 h hh zd

theorem MapIs.kept {w w' : World} {M n : Nat} {f : Int → Option (Int × ByteArray × Int)} (h : MapIs w M n f) (hb : w'.heap[M]? = w.heap[M]?) : MapIs w' M n f := by
  obtain ⟨D, ⟨es, clock, h1, h2⟩, hf⟩ := h
  exact ⟨D, ⟨es, clock, hb.trans h1, h2⟩, hf⟩

theorem MapIs.lt {w : World} {M n : Nat} {f : Int → Option (Int × ByteArray × Int)} (h : MapIs w M n f) : M < w.heap.size := by
  obtain ⟨D, ho, _⟩ := h
  exact ho.lt

theorem MapIs.alloc {w : World} {M n : Nat} {f : Int → Option (Int × ByteArray × Int)} (h : MapIs w M n f) (o : Obj) : MapIs (w.alloc o) M n f := by
  obtain ⟨D, ho, hf⟩ := h
  exact ⟨D, ho.alloc o, hf⟩

theorem MapIs.made (w : World) : MapIs (w.alloc (.map #[] 0)) w.heap.size 0 (fun _ => none) :=
  ⟨_, World.ownsMap_made w Trym.prog 3 holdElem, fun x _ => ⟨rfl, fun h hh => by cases hh⟩⟩

/-- The map of places, nil or not. -/
def Places (w : World) (mo : Option Nat) (n : Nat) (f : Int → Option (Int × ByteArray × Int)) : Prop :=
  (mo = none ∧ ∀ x, f x = none) ∨ ∃ M, mo = some M ∧ MapIs w M n f

/-- The name's row, nil or not. -/
def RowIs (w : World) (hasRow : Bool) (owner : ByteArray) (p : Option Addr) : Prop :=
  (hasRow = false ∧ p = none) ∨ (hasRow = true ∧ ∃ b x t, p = some ⟨b, 0, none⟩ ∧ w.heap[b]? = some (.cells #[.int .i64 x, .string owner, .int .i64 t] 47 (0, 0)))

theorem Places.later {w w' : World} {mo : Option Nat} {n : Nat} {f : Int → Option (Int × ByteArray × Int)} (h : Places w mo n f) (hb : But w w' (fun _ => False)) : Places w' mo n f := by
  rcases h with h | ⟨M, h, hM⟩
  · exact .inl h
  · exact .inr ⟨M, h, hM.kept (hb.block M hM.lt (fun e => e))⟩

theorem RowIs.later {w w' : World} {b : Bool} {o : ByteArray} {p : Option Addr} (h : RowIs w b o p) (hb : But w w' (fun _ => False)) : RowIs w' b o p := by
  rcases h with h | ⟨h1, k, x, t, h2, h3⟩
  · exact .inl h
  · exact .inr ⟨h1, k, x, t, h2, (hb.block k (Array.getElem?_eq_some_iff.1 h3).1 (fun e => e)).trans h3⟩

end Go.Proofs.Qxb6603458aMods
