import Derived.Test.Qxb6603551aModsRows
import Derived.Test.Qxb6603551aModsPlain
import Derived.WalkKit
import Derived.ProofKit
import Derived.WalkSpells
namespace Go.Proofs.Qxb6603551aMods
open Go.RowKit

theorem tuck {p : Prop} (h : p) : Hid p := h

/-! ### what has turned -/
/-- w' is w with new blocks, and with writes to the blocks that 'may' names alone. -/
structure But (w w' : World) (may : Nat → Prop) : Prop where
  os : w'.os = w.os
  tape : w'.tape = w.tape
  output : w'.output = w.output
  size : w.heap.size ≤ w'.heap.size
  block : ∀ k, k < w.heap.size → ¬ may k → w'.heap[k]? = w.heap[k]?

theorem But.refl (w : World) (may : Nat → Prop) : But w w may := ⟨rfl, rfl, rfl, Nat.le_refl _, fun _ _ _ => rfl⟩
theorem But.trans {a b c : World} {may may' : Nat → Prop} (h : But a b may) (k : But b c may') (hm : ∀ i, i < a.heap.size → may' i → may i) : But a c may :=
  ⟨k.os.trans h.os, k.tape.trans h.tape, k.output.trans h.output, Nat.le_trans h.size k.size, fun i hi hn => (k.block i (Nat.lt_of_lt_of_le hi h.size) (fun e => hn (hm i hi e))).trans (h.block i hi hn)⟩
theorem But.mono {a b : World} {may may' : Nat → Prop} (h : But a b may) (hm : ∀ i, i < a.heap.size → may i → may' i) : But a b may' :=
  ⟨h.os, h.tape, h.output, h.size, fun i hi hn => h.block i hi (fun e => hn (hm i hi e))⟩
theorem But.grown {w w' : World} {row : Option Nat} (h : w.grownBy w' row) : But w w' (fun k => some k = row) :=
  ⟨h.os, h.tape, h.output, h.size, h.block⟩
theorem But.below {w w' : World} {may : Nat → Prop} (h : But w w' may) {B : Nat} (hB : B ≤ w.heap.size) (hm : ∀ k, may k → B ≤ k) : Below B w w' :=
  ⟨h.os, h.tape, h.output, h.size, fun k hk => h.block k (by omega) (fun e => by have := hm k e; omega)⟩
theorem But.alloc (w : World) (o : Obj) (may : Nat → Prop) : But w (w.alloc o) may :=
  ⟨rfl, rfl, rfl, by simp, fun k hk _ => Below.heap_alloc w o k hk⟩
theorem But.setCell (w : World) (a : Addr) (u : Value) : But w (w.setCell a u) (fun k => k = a.block) :=
  ⟨rfl, rfl, rfl, by simp, fun k _ hk => heap_setCell_other w a k u hk⟩
theorem But.turned {w w' : World} {b : Nat} (h : w.mapTurned w' b) : But w w' (fun k => k = b) :=
  (But.grown h.grown).mono (fun _ _ e => by simpa using e)
theorem But.cell {w w' : World} {may : Nat → Prop} (h : But w w' may) {a : Addr} {v : Value} (hc : w.cell? a = some v) (hm : ¬ may a.block) : w'.cell? a = some v := by
  rw [World.cell?_of_block (w := w) (h.block _ (World.block_lt_of_cell? _ _ hc) hm)]
  exact hc
/-- Nothing that was there has turned. -/
theorem But.none {w w' : World} {may : Nat → Prop} (h : But w w' may) (hm : ∀ k, k < w.heap.size → ¬ may k) : But w w' (fun _ => False) :=
  h.mono (fun i hi e => hm i hi e)

/-- A slice of bytes that came in, nil or not. -/
def RowIn (w : World) (a : Option Addr) (n c : Nat) (V : Nat → Value) : Prop :=
  (a = none ∧ n = 0 ∧ c = 0) ∨ ∃ x, a = some x ∧ ∀ i, i < n → w.cell? (x.add i) = some (V i)

/-- A slice of one-cell elements that the call owns, nil or not. -/
def RowOwn (w : World) (a : Option Addr) (n c : Nat) (V : Nat → Value) : Prop :=
  (a = none ∧ n = 0 ∧ c = 0) ∨ ∃ g, a = some ⟨g, 0, none⟩ ∧ ∀ i, i < n → w.cell? ⟨g, i, none⟩ = some (V i)

theorem RowIn.later {w w' : World} {a : Option Addr} {n c : Nat} {V : Nat → Value} (h : RowIn w a n c V) (hb : But w w' (fun _ => False)) : RowIn w' a n c V := by
  rcases h with h | ⟨g, h, hc⟩
  · exact .inl h
  · exact .inr ⟨g, h, fun i hi => hb.cell (hc i hi) (fun e => e)⟩
theorem RowOwn.later {w w' : World} {a : Option Addr} {n c : Nat} {V : Nat → Value} (h : RowOwn w a n c V) (hb : But w w' (fun _ => False)) : RowOwn w' a n c V := by
  rcases h with h | ⟨g, h, hc⟩
  · exact .inl h
  · exact .inr ⟨g, h, fun i hi => hb.cell (hc i hi) (fun e => e)⟩

/-- A row that the call has just made. -/
theorem made_row {w : World} {base e size n g : Nat} {xs : List Value} (h : w.ownsRow base e size (.slice (some ⟨g, 0, none⟩) n n) n xs) : ∃ cur, w.heap[g]? = some (.cells cur e (0, 0)) ∧ cur.size = n * size := by
  rcases h.2 with ⟨h', _⟩ | ⟨g', cap, cur, h', _, hg, _, _, hs, _⟩
  · simp at h'
  · simp only [Value.slice.injEq, Option.some.injEq, Addr.mk.injEq, and_true, true_and] at h'
    obtain ⟨rfl, rfl⟩ := h'
    exact ⟨cur, hg, hs⟩

theorem cell_row {w : World} {g j : Nat} {cur : Array Value} {e : TypeId} {v : Value} (h : w.heap[g]? = some (.cells cur e (0, 0))) (hj : cur[j]? = some v) : w.cell? ⟨g, j, none⟩ = some v := by
  rw [cell_of_row w g j cur e (0, 0) h, hj]

/-- One round of a clone: the row behind the store. -/
theorem round_row {wr : World} {g k n e : Nat} {cur : Array Value} {V : Nat → Value} (hg : wr.heap[g]? = some (.cells cur e (0, 0))) (hs : cur.size = n) (hk : k < n) (hc : ∀ i, i < k → cur[i]? = some (V i)) :
    ∃ cur', (wr.setCell ⟨g, k, none⟩ (V k)).heap[g]? = some (.cells cur' e (0, 0)) ∧ cur'.size = n ∧ ∀ i, i < k + 1 → cur'[i]? = some (V i) := by
  refine ⟨_, heap_setCell_same wr g k cur e (V k) hg, by simpa using hs, fun i hi => ?_⟩
  rw [Array.getElem?_setIfInBounds]
  by_cases h : k = i
  · subst h; rw [if_pos rfl, if_pos (by omega)]
  · rw [if_neg h]; exact hc i (by omega)

theorem q22 (w : World) (a : Option Addr) (n c n' c' : Nat) : (binOp .eql 22 (.slice a n c) (.slice none n' c')).run Trym.prog w = .ok (.bool a.isNone) w := Lib.run_eql_slice_nil w _ _ a n c n' c' Trym.underlying22
theorem info5 : (Trym.prog.info? 5).map (fun i => (i.zero, i.size, i.bytes)) = some (some (.int .u8 0), 1, 1) := by kernel_rfl

/-! ### zzClone -/
theorem clone6_nil (w : World) : Calls Trym.prog 6 #[.slice none 0 0] w fun e w' => e = .returned (.slice none 0 0) ∧ w' = w := by
  have q := q22
  go_enter Trym.func6, Trym.ntmps6
  go_wp2
  go_ret
  exact ⟨rfl, rfl⟩

set_option maxHeartbeats 400000 in
theorem clone6_some (x : Addr) (n c : Nat) (zs : Nat → Int) (hn : n ≤ 1048576) (w : World) (hc : ∀ i, i < n → w.cell? (x.add i) = some (Value.int .u8 (zs i))) :
    Calls Trym.prog 6 #[.slice (some x) n c] w fun e w' => e = .returned (.slice (some ⟨w.heap.size, 0, none⟩) n n) ∧ But w w' (fun _ => False) ∧ ∀ i, i < n → w'.cell? ⟨w.heap.size, i, none⟩ = some (Value.int .u8 (zs i)) := by
  have q := q22
  obtain ⟨i0, hi, hz0, hz1, hz2⟩ := info_parts info5
  go_enter Trym.func6, Trym.ntmps6
  go_wp2_with (first
      | (at_make; refine wpList_make_full _ rfl _ _ 22 rfl w.heap.size 5 i0 (.int .u8 0) 1 Trym.underlying22 hi hz0 hz1 _ _ _ _ n rfl rfl rfl rfl (by rw [hz2]; omega) (by unfold maxLen; omega) (Nat.le_refl _) ?_; intro w1 hown hgrow)
      | go_in)
  go_loopw [4] (fun i wr => ∃ k : Nat, k ≤ n ∧ i = .int .i64 k ∧ But w wr (fun _ => False) ∧ ∃ cur, wr.heap[w.heap.size]? = some (.cells cur 5 (0, 0)) ∧ cur.size = n ∧ ∀ i, i < k → cur[i]? = some (Value.int .u8 (zs i)))
      (fun i _ => n - (intOf i).toNat)
  case atStart =>
    obtain ⟨cur, h1, h2⟩ := made_row hown
    exact ⟨0, Nat.zero_le _, rfl, (But.grown hgrow).mono (fun i _ h => by simp at h), cur, h1, by simpa using h2, fun i hi => absurd hi (Nat.not_lt_zero _)⟩
  case round =>
    obtain ⟨k, hk, rfl, hb, cur, hg, hs, hcur⟩ := hrel
    by_cases hlt : k < n
    · have hck : wr.cell? (x.add k) = some (Value.int .u8 (zs k)) := hb.cell (hc k hlt) (fun h => h)
      obtain ⟨old, hold⟩ : ∃ old, wr.cell? ⟨w.heap.size, k, none⟩ = some old := ⟨_, cell_row hg (Array.getElem?_eq_getElem (by omega))⟩
      have hff : wr.frozen? ⟨w.heap.size, k, none⟩ = false := frozen_of_row wr _ k _ _ hg
      have HR := tuck (round_row (V := fun i => Value.int .u8 (zs i)) hg hs hlt hcur)
      have HB := tuck hb
      clear hc hcur hs hg hb hown hgrow
      go_wp2
      go_roundw
      case rel => exact ⟨k + 1, by omega, by go_num, HB.out.trans (But.setCell _ _ _) (fun i hi e => by simp only at e; omega), HR.out⟩
      case measure => simp [intOf]; omega
    · obtain rfl : k = n := by omega
      have HR := tuck hcur
      have HG := tuck hg
      have HB := tuck hb
      clear hc hcur hs hg hb hown hgrow
      go_wp2
      go_ret
      exact ⟨rfl, HB.out, fun i hi => cell_row HG.out (HR.out i hi)⟩

theorem clone6 (a : Option Addr) (n c : Nat) (zs : Nat → Int) (hn : n ≤ 1048576) (w : World) (h : RowIn w a n c (fun i => Value.int .u8 (zs i))) :
    Calls Trym.prog 6 #[.slice a n c] w fun e w' => ∃ a' c', e = .returned (.slice a' n c') ∧ RowOwn w' a' n c' (fun i => Value.int .u8 (zs i)) ∧ But w w' (fun _ => False) := by
  rcases h with ⟨rfl, rfl, rfl⟩ | ⟨x, rfl, hc⟩
  · refine (clone6_nil w).mono ?_
    rintro e w' ⟨rfl, rfl⟩
    exact ⟨none, 0, rfl, .inl ⟨rfl, rfl, rfl⟩, But.refl _ _⟩
  · refine (clone6_some x n c zs hn w hc).mono ?_
    rintro e w' ⟨rfl, hb, hcells⟩
    exact ⟨_, n, rfl, .inr ⟨_, rfl, hcells⟩, hb⟩


/-! ### the lengths -/
theorem bytes5 (a0 : Option Addr) (n0 c0 : Nat) (h0 : n0 ≤ maxLen) (w : World) :
    Calls Trym.prog 5 #[.slice a0 n0 c0] w fun e w' => w' = w ∧ (e = .returned (.bool false) ∨ e = .returned (.bool true)) := by
  unfold maxLen at h0
  go_enter Trym.func5, Trym.ntmps5
  go_wp2
  all_goals (go_ret; first | exact ⟨rfl, Or.inl rfl⟩ | exact ⟨rfl, Or.inr rfl⟩)

theorem bytes9 (a0 : Option Addr) (n0 c0 : Nat) (a1 : Option Addr) (n1 c1 : Nat) (h0 : n0 ≤ maxLen) (h1 : n1 ≤ maxLen) (w : World) :
    Calls Trym.prog 9 #[.slice a0 n0 c0, .slice a1 n1 c1] w fun e w' => w' = w ∧ (e = .returned (.bool false) ∨ e = .returned (.bool true)) := by
  unfold maxLen at h0 h1
  go_enter Trym.func9, Trym.ntmps9
  go_wp2
  all_goals (go_ret; first | exact ⟨rfl, Or.inl rfl⟩ | exact ⟨rfl, Or.inr rfl⟩)

/-! ### the digits -/
theorem dig12 (c : Int) (w : World) : Calls Trym.prog 12 #[.int .u8 c] w fun e w' => e = .returned (.bool (dg c)) ∧ w' = w := by
  by_cases h0 : 48 ≤ c
  · by_cases h1 : c ≤ 57
    · have HD := tuck (dg_true.2 ⟨h0, h1⟩)
      go_enter Trym.func12, Trym.ntmps12
      go_wp2
      go_ret
      exact ⟨by rw [HD.out]; rfl, rfl⟩
    · have HD := tuck (dg_false.2 (fun h => h1 h.2))
      have hd : decide (c ≤ 57) = false := by simpa using h1
      go_enter Trym.func12, Trym.ntmps12
      go_wp2
      go_ret
      exact ⟨by rw [HD.out]; rfl, rfl⟩
  · have HD := tuck (dg_false.2 (fun h => h0 h.1))
    have hd : decide (48 ≤ c) = false := by simpa using h0
    go_enter Trym.func12, Trym.ntmps12
    go_wp2
    go_ret
    exact ⟨by rw [HD.out]; rfl, rfl⟩

theorem dig14 (c : Int) (w : World) : Calls Trym.prog 14 #[.int .u8 c] w fun e w' => e = .returned (.bool (dg c)) ∧ w' = w := by
  by_cases h0 : 48 ≤ c
  · by_cases h1 : c ≤ 57
    · have HD := tuck (dg_true.2 ⟨h0, h1⟩)
      go_enter Trym.func14, Trym.ntmps14
      go_wp2
      go_ret
      exact ⟨by rw [HD.out]; rfl, rfl⟩
    · have HD := tuck (dg_false.2 (fun h => h1 h.2))
      have hd : decide (c ≤ 57) = false := by simpa using h1
      go_enter Trym.func14, Trym.ntmps14
      go_wp2
      go_ret
      exact ⟨by rw [HD.out]; rfl, rfl⟩
  · have HD := tuck (dg_false.2 (fun h => h0 h.1))
    have hd : decide (48 ≤ c) = false := by simpa using h0
    go_enter Trym.func14, Trym.ntmps14
    go_wp2
    go_ret
    exact ⟨by rw [HD.out]; rfl, rfl⟩

/-! ### skipDigits -/
set_option maxHeartbeats 400000 in
theorem skip13 (b off n c i : Nat) (z : Nat → Int) (hn : n ≤ 2097152) (hi : i ≤ n) (w : World) (hc : ∀ j, j < n → w.cell? ⟨b, off + j, none⟩ = some (.int .u8 (z j))) :
    Calls Trym.prog 13 #[.slice (some ⟨b, off, none⟩) n c, .int .i64 (i : Int)] w fun e w' => e = .returned (.int .i64 (sk z n i : Nat)) ∧ w' = w := by
  have HC := tuck hc
  clear hc
  go_enter Trym.func13, Trym.ntmps13
  go_wp2
  go_loop [1] (fun t => ∃ k : Nat, k ≤ n ∧ t = .int .i64 k ∧ sk z n i = sk z n k) (fun t => n - (intOf t).toNat)
  case atStart => exact ⟨i, hi, rfl, rfl⟩
  case round =>
    obtain ⟨k, hk, rfl, he⟩ := hrel
    have HE := tuck he
    clear he
    by_cases hlt : k < n
    · have hck := HC.out k hlt
      cases hd : dg (z k)
      · have HD := tuck hd
        go_wp2_with (go_at_call 14; refine (dig14 _ _).mono ?_; rintro e w' ⟨rfl, rfl⟩)
        go_ret
        exact ⟨by rw [HE.out, sk_no hlt HD.out]; rfl, rfl⟩
      · have HD := tuck hd
        go_wp2_with (go_at_call 14; refine (dig14 _ _).mono ?_; rintro e w' ⟨rfl, rfl⟩)
        go_round
        case rel => exact ⟨k + 1, by omega, by go_num, by rw [HE.out, sk_yes hlt HD.out]⟩
        case measure => simp [intOf]; omega
    · obtain rfl : k = n := by omega
      go_wp2
      go_ret
      exact ⟨by rw [HE.out, sk_end (Nat.le_refl _)]; rfl, rfl⟩

/-- The same, at whatever spelling of the place. -/
theorem skip13t (b off n c i : Nat) (t : Int) (ht : t = (i : Int)) (z : Nat → Int) (hn : n ≤ 2097152) (hi : i ≤ n) (w : World) (hc : ∀ j, j < n → w.cell? ⟨b, off + j, none⟩ = some (.int .u8 (z j))) :
    Calls Trym.prog 13 #[.slice (some ⟨b, off, none⟩) n c, .int .i64 t] w fun e w' => e = .returned (.int .i64 (sk z n i : Nat)) ∧ w' = w := by
  subst ht
  exact skip13 b off n c i z hn hi w hc

end Go.Proofs.Qxb6603551aMods
