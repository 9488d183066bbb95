import Derived.Test.Qxb6603458aModsClones
import Derived.RegionTactic
namespace Go.Proofs.Qxb6603458aMods
open Go.RowKit Go.Maps

/-! ### what the map holds -/
/-- The last of the first n keys that is x. -/
def lastAt (ks : Nat → Int) : Nat → Int → Option Nat
  | 0, _ => none
  | k + 1, x => if ks k = x then some k else lastAt ks k x

/-- What a map filled from the first n rows holds. -/
def held (ks : Nat → Int) (os : Nat → ByteArray) (ts : Nat → Int) (n : Nat) (x : Int) : Option (Int × ByteArray × Int) :=
  (lastAt ks n x).map fun j => (ks j, os j, ts j)

theorem held_succ (ks : Nat → Int) (os : Nat → ByteArray) (ts : Nat → Int) (k : Nat) : held ks os ts (k + 1) = putF (held ks os ts k) (ks k) (ks k, os k, ts k) := by
  funext y
  unfold held putF
  by_cases h : y = ks k
  · subst h
    simp [lastAt]
  · rw [if_neg h]
    show Option.map _ (if ks k = y then some k else lastAt ks k y) = _
    rw [if_neg (fun e => h e.symm)]

theorem n22 (w : World) (a : Option Addr) (n c n' c' : Nat) : (binOp .neq 22 (.slice a n c) (.slice none n' c')).run Trym.prog w = .ok (.bool !a.isNone) w := run_neq_slice_nil_any w _ _ a n c n' c' Trym.underlying22

/-- The start of the loop: two blocks for the result, the row's own where there is one, the map. -/
structure Start (w W0 : World) (M : Nat) (p : Option Addr) (b : Bool) (owner : ByteArray) : Prop where
  h0 : W0.heap[w.heap.size]? = some (.cells #[.pointer none, .map none] 41 (0, 0))
  h1 : W0.heap[w.heap.size + 1]? = some (.cells #[.pointer p, .map (some M)] 41 (0, 0))
  hM : MapIs W0 M 0 (fun _ => none)
  hMlt : w.heap.size + 1 < M
  row : RowIs W0 b owner p
  rowM : ∀ a, p = some a → a.block ≠ M
  but : But w W0 (fun _ => False)

theorem start_t (w : World) (i1 : Int) (s2 : ByteArray) (i3 : Int) : Start w ((((w.alloc (.cells #[.pointer none, .map none] 41)).alloc (.cells #[.pointer (some ⟨w.heap.size + 1 + 1, 0, none⟩), .map (some (w.heap.size + 1 + 1 + 1))] 41)).alloc (.cells #[.int .i64 i1, .string s2, .int .i64 i3] 47)).alloc (.map #[] 0))
    (w.heap.size + 1 + 1 + 1) (some ⟨w.heap.size + 1 + 1, 0, none⟩) true s2 := by
  refine ⟨?_, ?_, ?_, by omega, .inr ⟨rfl, _, i1, i3, rfl, ?_⟩, fun a e => (by cases e; simp), ?_⟩
  · rw [Below.heap_alloc _ _ _ (by simp; omega), Below.heap_alloc _ _ _ (by simp; omega), Below.heap_alloc _ _ _ (by simp)]
    exact (MapKept.heap_alloc w _).1
  · rw [Below.heap_alloc _ _ _ (by simp), Below.heap_alloc _ _ _ (by simp)]
    simpa using (MapKept.heap_alloc (w.alloc (.cells #[.pointer none, .map none] 41)) (.cells #[.pointer (some ⟨w.heap.size + 1 + 1, 0, none⟩), .map (some (w.heap.size + 1 + 1 + 1))] 41)).1
  · have := MapIs.made (((w.alloc (.cells #[.pointer none, .map none] 41)).alloc (.cells #[.pointer (some ⟨w.heap.size + 1 + 1, 0, none⟩), .map (some (w.heap.size + 1 + 1 + 1))] 41)).alloc (.cells #[.int .i64 i1, .string s2, .int .i64 i3] 47))
    simpa using this
  · rw [Below.heap_alloc _ _ _ (by simp)]
    simpa using (MapKept.heap_alloc ((w.alloc (.cells #[.pointer none, .map none] 41)).alloc (.cells #[.pointer (some ⟨w.heap.size + 1 + 1, 0, none⟩), .map (some (w.heap.size + 1 + 1 + 1))] 41)) (.cells #[.int .i64 i1, .string s2, .int .i64 i3] 47)).1
  · exact (((But.alloc w _ _).trans (But.alloc _ _ (fun _ => False)) (fun _ _ h => h)).trans (But.alloc _ _ (fun _ => False)) (fun _ _ h => h)).trans (But.alloc _ _ (fun _ => False)) (fun _ _ h => h)

theorem start_f (w : World) (s2 : ByteArray) : Start w (((w.alloc (.cells #[.pointer none, .map none] 41)).alloc (.cells #[.pointer none, .map (some (w.heap.size + 1 + 1))] 41)).alloc (.map #[] 0))
    (w.heap.size + 1 + 1) none false s2 := by
  refine ⟨?_, ?_, ?_, by omega, .inl ⟨rfl, rfl⟩, fun a e => (by cases e), ?_⟩
  · rw [Below.heap_alloc _ _ _ (by simp; omega), Below.heap_alloc _ _ _ (by simp)]
    exact (MapKept.heap_alloc w _).1
  · rw [Below.heap_alloc _ _ _ (by simp)]
    simpa using (MapKept.heap_alloc (w.alloc (.cells #[.pointer none, .map none] 41)) (.cells #[.pointer none, .map (some (w.heap.size + 1 + 1))] 41)).1
  · have := MapIs.made ((w.alloc (.cells #[.pointer none, .map none] 41)).alloc (.cells #[.pointer none, .map (some (w.heap.size + 1 + 1))] 41))
    simpa using this
  · exact ((But.alloc w _ _).trans (But.alloc _ _ (fun _ => False)) (fun _ _ h => h)).trans (But.alloc _ _ (fun _ => False)) (fun _ _ h => h)

theorem two_stored {w : World} {g e : Nat} {a b : Value} (h : w.heap[g]? = some (.cells #[a, b] e (0, 0))) (p q : Value) :
    ((w.setCell ⟨g, 0, none⟩ p).setCell ⟨g, 1, none⟩ q).cell? ⟨g, 0, none⟩ = some p ∧ ((w.setCell ⟨g, 0, none⟩ p).setCell ⟨g, 1, none⟩ q).cell? ⟨g, 1, none⟩ = some q := by
  have h1 := heap_setCell_same _ g 1 _ e q (heap_setCell_same w g 0 _ e p h)
  exact ⟨cell_row h1 (by simp), cell_row h1 (by simp)⟩

/-- The end: the result's block is written. -/
theorem hold_end {w W0 wr : World} {M n : Nat} {p : Option Addr} {b : Bool} {o : ByteArray} {f : Int → Option (Int × ByteArray × Int)} (h : Start w W0 M p b o) (hM : MapIs wr M n f) (hb : But W0 wr (fun j => j = M)) :
    RowIs ((wr.setCell ⟨w.heap.size, 0, none⟩ (.pointer p)).setCell ⟨w.heap.size, 1, none⟩ (.map (some M))) b o p ∧
    Places ((wr.setCell ⟨w.heap.size, 0, none⟩ (.pointer p)).setCell ⟨w.heap.size, 1, none⟩ (.map (some M))) (some M) n f ∧
    But w ((wr.setCell ⟨w.heap.size, 0, none⟩ (.pointer p)).setCell ⟨w.heap.size, 1, none⟩ (.map (some M))) (fun _ => False) := by
  have hlt := h.hMlt
  have hb2 : But wr ((wr.setCell ⟨w.heap.size, 0, none⟩ (.pointer p)).setCell ⟨w.heap.size, 1, none⟩ (.map (some M))) (fun j => j = w.heap.size) :=
    (But.setCell wr _ _).trans (But.setCell _ _ _) (fun i _ e => e)
  refine ⟨?_, .inr ⟨M, rfl, hM.kept (hb2.block M hM.lt (by omega))⟩, (h.but.trans hb (fun i hi e => by omega)).trans hb2 (fun i hi e => by omega)⟩
  rcases h.row with h1 | ⟨h1, k, x, t, h2, h3⟩
  · exact .inl h1
  · have hk : k < W0.heap.size := (Array.getElem?_eq_some_iff.1 h3).1
    have hkM : k ≠ M := h.rowM _ h2
    have hk0 : k ≠ w.heap.size := fun e => by
      have := h.h0
      rw [← e, h3] at this
      simp at this
    refine .inr ⟨h1, k, x, t, h2, ?_⟩
    rw [hb2.block k (Nat.lt_of_lt_of_le hk hb.size) hk0, hb.block k hk hkM]
    exact h3

set_option maxHeartbeats 1000000 in
theorem hold_some_t (i1 : Int) (s2 : ByteArray) (i3 : Int) (g4 n c4 : Nat) (ks : Nat → Int) (a5 : Option Addr) (c5 : Nat) (os : Nat → ByteArray) (a6 : Option Addr) (c6 : Nat) (ts : Nat → Int) (w : World) (hn : n ≤ 131072)
    (hk : ∀ i, i < n → w.cell? ⟨g4, i, none⟩ = some (.int .i64 (ks i))) (hwk : ∀ i, i < n → (Lit.int .i64 (ks i)).wf = true) (ho : RowOwn w a5 n c5 (fun i => .string (os i))) (ht : RowOwn w a6 n c6 (fun i => .int .i64 (ts i))) :
    Calls Trym.prog 18 #[.bool true, .int .i64 i1, .string s2, .int .i64 i3, .slice (some ⟨g4, 0, none⟩) n c4, .slice a5 n c5, .slice a6 n c6] w fun e w' => ∃ p mo, e = .returned (.agg #[.pointer p, .map mo]) ∧ RowIs w' true s2 p ∧ Places w' mo n (held ks os ts n) ∧ But w w' (fun _ => False) := by
  have hnn := n22
  have hmm := @run_makeMap Trym.prog
  have HS := tuck (start_t w i1 s2 i3)
  have HK := tuck hk
  have HW := tuck hwk
  have HO := tuck ho
  have HT := tuck ht
  clear hk hwk ho ht
  go_enter Trym.func18, Trym.ntmps18
  go_wp2
  generalize ((((w.alloc (Obj.cells #[Value.pointer none, Value.map none] 41)).alloc (Obj.cells #[Value.pointer (some ⟨w.heap.size + 1 + 1, 0, none⟩), Value.map (some (w.heap.size + 1 + 1 + 1))] 41)).alloc (Obj.cells #[Value.int .i64 i1, Value.string s2, Value.int .i64 i3] 47)).alloc (Obj.map #[] 0)) = W0 at HS ⊢
  clear hnn hmm
  go_loopw [16] (fun i wr => ∃ k : Nat, k ≤ n ∧ i = .int .i64 k ∧ MapIs wr (w.heap.size + 1 + 1 + 1) k (held ks os ts k) ∧ But W0 wr (fun j => j = w.heap.size + 1 + 1 + 1)) (fun i _ => n - (intOf i).toNat)
  case atStart => exact ⟨0, Nat.zero_le _, rfl, HS.out.hM, But.refl _ _⟩
  case round =>
    obtain ⟨k, hk, rfl, hM, hb⟩ := hrel
    have hbw : But w wr (fun _ => False) := HS.out.but.trans hb (fun i hi e => by omega)
    have e1 : wr.heap[w.heap.size + 1]? = some (.cells #[.pointer (some ⟨w.heap.size + 1 + 1, 0, none⟩), .map (some (w.heap.size + 1 + 1 + 1))] 41 (0, 0)) := (hb.block _ (Array.getElem?_eq_some_iff.1 HS.out.h1).1 (by omega)).trans HS.out.h1
    have c1 : wr.cell? ⟨w.heap.size + 1, 1, none⟩ = some (.map (some (w.heap.size + 1 + 1 + 1))) := cell_row e1 (by simp)
    by_cases hlt : k < n
    · rcases HO.out with ⟨_, h0, _⟩ | ⟨g5, hg5, ho⟩
      · omega
      rcases HT.out with ⟨_, h0, _⟩ | ⟨g6, hg6, ht⟩
      · omega
      subst hg5
      subst hg6
      have k4 := hbw.cell (HK.out k hlt) (fun e => e)
      have k5 := hbw.cell (ho k hlt) (fun e => e)
      have k6 := hbw.cell (ht k hlt) (fun e => e)
      obtain ⟨w1, hrun, hM1, ht1⟩ := MapIs.upd (w := wr.drew) (hM.kept rfl) (by unfold maxLen; omega) (HW.out k hlt) (ks k, os k, ts k)
      have hrun' : (Instr.mapUpdate 39 (.map (some (w.heap.size + 1 + 1 + 1))) (.int .i64 (ks k)) (.agg #[.int .i64 (ks k), .string (os k), .int .i64 (ts k)])).run Trym.prog wr.drew = .ok () w1 := hrun
      have H1 := tuck (held_succ ks os ts k ▸ hM1)
      have H2 := tuck (But.turned ht1)
      have HB := tuck hb
      clear hrun hM1 ht1 hM hb hbw ho ht e1
      go_wp2
      go_region
      go_wp2
      go_roundw
      case rel => exact ⟨k + 1, by omega, by go_num, H1.out, HB.out.trans ⟨H2.out.os, H2.out.tape, H2.out.output, H2.out.size, H2.out.block⟩ (fun i _ e => e)⟩
      case measure => simp [intOf]; omega
    · obtain rfl : k = n := by omega
      have e0 : wr.heap[w.heap.size]? = some (.cells #[.pointer none, .map none] 41 (0, 0)) := (hb.block _ (Array.getElem?_eq_some_iff.1 HS.out.h0).1 (by omega)).trans HS.out.h0
      have c0 : wr.cell? ⟨w.heap.size + 1, 0, none⟩ = some (.pointer (some ⟨w.heap.size + 1 + 1, 0, none⟩)) := cell_row e1 (by simp)
      have d0 : wr.cell? ⟨w.heap.size, 0, none⟩ = some (.pointer none) := cell_row e0 (by simp)
      have d1 : wr.cell? ⟨w.heap.size, 1, none⟩ = some (.map none) := cell_row e0 (by simp)
      have f0 : wr.frozen? ⟨w.heap.size, 0, none⟩ = false := frozen_of_row wr _ 0 _ _ e0
      have f1 : wr.frozen? ⟨w.heap.size, 1, none⟩ = false := frozen_of_row wr _ 1 _ _ e0
      have HF := tuck (hold_end HS.out hM hb)
      have H2 := tuck (two_stored e0 (.pointer (some ⟨w.heap.size + 1 + 1, 0, none⟩)) (.map (some (w.heap.size + 1 + 1 + 1))))
      clear e0 e1 hM hb hbw
      go_wp2
      have q0 := H2.out.1
      have q1 := H2.out.2
      refine bodyPost_ret (v := .agg #[.pointer (some ⟨w.heap.size + 1 + 1, 0, none⟩), .map (some (w.heap.size + 1 + 1 + 1))]) (by simp [results, Trym.results18, go_sem, q0, q1]) rfl ⟨_, _, rfl, HF.out⟩

set_option maxHeartbeats 1000000 in
theorem hold_some_f (i1 : Int) (s2 : ByteArray) (i3 : Int) (g4 n c4 : Nat) (ks : Nat → Int) (a5 : Option Addr) (c5 : Nat) (os : Nat → ByteArray) (a6 : Option Addr) (c6 : Nat) (ts : Nat → Int) (w : World) (hn : n ≤ 131072)
    (hk : ∀ i, i < n → w.cell? ⟨g4, i, none⟩ = some (.int .i64 (ks i))) (hwk : ∀ i, i < n → (Lit.int .i64 (ks i)).wf = true) (ho : RowOwn w a5 n c5 (fun i => .string (os i))) (ht : RowOwn w a6 n c6 (fun i => .int .i64 (ts i))) :
    Calls Trym.prog 18 #[.bool false, .int .i64 i1, .string s2, .int .i64 i3, .slice (some ⟨g4, 0, none⟩) n c4, .slice a5 n c5, .slice a6 n c6] w fun e w' => ∃ p mo, e = .returned (.agg #[.pointer p, .map mo]) ∧ RowIs w' false s2 p ∧ Places w' mo n (held ks os ts n) ∧ But w w' (fun _ => False) := by
  have hnn := n22
  have hmm := @run_makeMap Trym.prog
  have HS := tuck (start_f w s2)
  have HK := tuck hk
  have HW := tuck hwk
  have HO := tuck ho
  have HT := tuck ht
  clear hk hwk ho ht
  go_enter Trym.func18, Trym.ntmps18
  go_wp2
  generalize (((w.alloc (Obj.cells #[Value.pointer none, Value.map none] 41)).alloc (Obj.cells #[Value.pointer none, Value.map (some (w.heap.size + 1 + 1))] 41)).alloc (Obj.map #[] 0)) = W0 at HS ⊢
  clear hnn hmm
  go_loopw [16] (fun i wr => ∃ k : Nat, k ≤ n ∧ i = .int .i64 k ∧ MapIs wr (w.heap.size + 1 + 1) k (held ks os ts k) ∧ But W0 wr (fun j => j = w.heap.size + 1 + 1)) (fun i _ => n - (intOf i).toNat)
  case atStart => exact ⟨0, Nat.zero_le _, rfl, HS.out.hM, But.refl _ _⟩
  case round =>
    obtain ⟨k, hk, rfl, hM, hb⟩ := hrel
    have hbw : But w wr (fun _ => False) := HS.out.but.trans hb (fun i hi e => by omega)
    have e1 : wr.heap[w.heap.size + 1]? = some (.cells #[.pointer none, .map (some (w.heap.size + 1 + 1))] 41 (0, 0)) := (hb.block _ (Array.getElem?_eq_some_iff.1 HS.out.h1).1 (by omega)).trans HS.out.h1
    have c1 : wr.cell? ⟨w.heap.size + 1, 1, none⟩ = some (.map (some (w.heap.size + 1 + 1))) := cell_row e1 (by simp)
    by_cases hlt : k < n
    · rcases HO.out with ⟨_, h0, _⟩ | ⟨g5, hg5, ho⟩
      · omega
      rcases HT.out with ⟨_, h0, _⟩ | ⟨g6, hg6, ht⟩
      · omega
      subst hg5
      subst hg6
      have k4 := hbw.cell (HK.out k hlt) (fun e => e)
      have k5 := hbw.cell (ho k hlt) (fun e => e)
      have k6 := hbw.cell (ht k hlt) (fun e => e)
      obtain ⟨w1, hrun, hM1, ht1⟩ := MapIs.upd (w := wr.drew) (hM.kept rfl) (by unfold maxLen; omega) (HW.out k hlt) (ks k, os k, ts k)
      have hrun' : (Instr.mapUpdate 39 (.map (some (w.heap.size + 1 + 1))) (.int .i64 (ks k)) (.agg #[.int .i64 (ks k), .string (os k), .int .i64 (ts k)])).run Trym.prog wr.drew = .ok () w1 := hrun
      have H1 := tuck (held_succ ks os ts k ▸ hM1)
      have H2 := tuck (But.turned ht1)
      have HB := tuck hb
      clear hrun hM1 ht1 hM hb hbw ho ht e1
      go_wp2
      go_region
      go_wp2
      go_roundw
      case rel => exact ⟨k + 1, by omega, by go_num, H1.out, HB.out.trans ⟨H2.out.os, H2.out.tape, H2.out.output, H2.out.size, H2.out.block⟩ (fun i _ e => e)⟩
      case measure => simp [intOf]; omega
    · obtain rfl : k = n := by omega
      have e0 : wr.heap[w.heap.size]? = some (.cells #[.pointer none, .map none] 41 (0, 0)) := (hb.block _ (Array.getElem?_eq_some_iff.1 HS.out.h0).1 (by omega)).trans HS.out.h0
      have c0 : wr.cell? ⟨w.heap.size + 1, 0, none⟩ = some (.pointer none) := cell_row e1 (by simp)
      have d0 : wr.cell? ⟨w.heap.size, 0, none⟩ = some (.pointer none) := cell_row e0 (by simp)
      have d1 : wr.cell? ⟨w.heap.size, 1, none⟩ = some (.map none) := cell_row e0 (by simp)
      have f0 : wr.frozen? ⟨w.heap.size, 0, none⟩ = false := frozen_of_row wr _ 0 _ _ e0
      have f1 : wr.frozen? ⟨w.heap.size, 1, none⟩ = false := frozen_of_row wr _ 1 _ _ e0
      have HF := tuck (hold_end HS.out hM hb)
      have H2 := tuck (two_stored e0 (.pointer none) (.map (some (w.heap.size + 1 + 1))))
      clear e0 e1 hM hb hbw
      go_wp2
      have q0 := H2.out.1
      have q1 := H2.out.2
      refine bodyPost_ret (v := .agg #[.pointer none, .map (some (w.heap.size + 1 + 1))]) (by simp [results, Trym.results18, go_sem, q0, q1]) rfl ⟨_, _, rfl, HF.out⟩


set_option maxHeartbeats 400000 in
theorem hold_nil_t (i1 : Int) (s2 : ByteArray) (i3 : Int) (a5 : Option Addr) (c5 : Nat) (a6 : Option Addr) (c6 : Nat) (w : World) :
    Calls Trym.prog 18 #[.bool true, .int .i64 i1, .string s2, .int .i64 i3, .slice none 0 0, .slice a5 0 c5, .slice a6 0 c6] w fun e w' => ∃ p, e = .returned (.agg #[.pointer p, .map none]) ∧ RowIs w' true s2 p ∧ But w w' (fun _ => False) := by
  have hnn := n22
  have hb1 : ∀ o1 o2 o3 : Obj, But w (((w.alloc o1).alloc o2).alloc o3) (fun _ => False) := fun o1 o2 o3 => ((But.alloc w _ _).trans (But.alloc _ _ (fun _ => False)) (fun _ _ h => h)).trans (But.alloc _ _ (fun _ => False)) (fun _ _ h => h)
  have HB := tuck hb1
  clear hb1
  go_enter Trym.func18, Trym.ntmps18
  go_wp2
  refine wp_loop_rounds 1 ?_
  rw [rounds_succ]
  go_wp2
  refine bodyPost_ret (v := .agg #[.pointer (some ⟨w.heap.size + 1 + 1, 0, none⟩), .map none]) (by simp [results, Trym.results18, go_sem]) rfl ⟨_, rfl, .inr ⟨rfl, _, i1, i3, rfl, ?_⟩, HB.out _ _ _⟩
  simpa using (MapKept.heap_alloc ((w.alloc (.cells #[.pointer (some ⟨w.heap.size + 1 + 1, 0, none⟩), .map none] 41)).alloc (.cells #[.pointer (some ⟨w.heap.size + 1 + 1, 0, none⟩), .map none] 41)) (.cells #[.int .i64 i1, .string s2, .int .i64 i3] 47)).1

set_option maxHeartbeats 400000 in
theorem hold_nil_f (i1 : Int) (s2 : ByteArray) (i3 : Int) (a5 : Option Addr) (c5 : Nat) (a6 : Option Addr) (c6 : Nat) (w : World) :
    Calls Trym.prog 18 #[.bool false, .int .i64 i1, .string s2, .int .i64 i3, .slice none 0 0, .slice a5 0 c5, .slice a6 0 c6] w fun e w' => ∃ p, e = .returned (.agg #[.pointer p, .map none]) ∧ RowIs w' false s2 p ∧ But w w' (fun _ => False) := by
  have hnn := n22
  have hb1 : ∀ o1 o2 : Obj, But w ((w.alloc o1).alloc o2) (fun _ => False) := fun o1 o2 => (But.alloc w _ _).trans (But.alloc _ _ (fun _ => False)) (fun _ _ h => h)
  have HB := tuck hb1
  clear hb1
  go_enter Trym.func18, Trym.ntmps18
  go_wp2
  refine wp_loop_rounds 1 ?_
  rw [rounds_succ]
  go_wp2
  exact bodyPost_ret (v := .agg #[.pointer none, .map none]) (by simp [results, Trym.results18, go_sem]) rfl ⟨none, rfl, .inl ⟨rfl, rfl⟩, HB.out _ _⟩

/-- zzHoldingB1: the row and the map of places. -/
theorem hold_any (b0 : Bool) (i1 : Int) (s2 : ByteArray) (i3 : Int) (a4 : Option Addr) (n c4 : Nat) (ks : Nat → Int) (a5 : Option Addr) (c5 : Nat) (os : Nat → ByteArray) (a6 : Option Addr) (c6 : Nat) (ts : Nat → Int) (w : World) (hn : n ≤ 131072)
    (hk : RowOwn w a4 n c4 (fun i => .int .i64 (ks i))) (hwk : ∀ i, i < n → (Lit.int .i64 (ks i)).wf = true) (ho : RowOwn w a5 n c5 (fun i => .string (os i))) (ht : RowOwn w a6 n c6 (fun i => .int .i64 (ts i))) :
    Calls Trym.prog 18 #[.bool b0, .int .i64 i1, .string s2, .int .i64 i3, .slice a4 n c4, .slice a5 n c5, .slice a6 n c6] w fun e w' => ∃ p mo, e = .returned (.agg #[.pointer p, .map mo]) ∧ RowIs w' b0 s2 p ∧ Places w' mo n (held ks os ts n) ∧ But w w' (fun _ => False) := by
  rcases hk with ⟨rfl, rfl, rfl⟩ | ⟨g4, rfl, hk⟩
  · cases b0
    · refine (hold_nil_f i1 s2 i3 a5 c5 a6 c6 w).mono ?_
      rintro e w' ⟨p, rfl, h1, h2⟩
      exact ⟨p, none, rfl, h1, .inl ⟨rfl, fun x => rfl⟩, h2⟩
    · refine (hold_nil_t i1 s2 i3 a5 c5 a6 c6 w).mono ?_
      rintro e w' ⟨p, rfl, h1, h2⟩
      exact ⟨p, none, rfl, h1, .inl ⟨rfl, fun x => rfl⟩, h2⟩
  · cases b0
    · exact hold_some_f i1 s2 i3 g4 n c4 ks a5 c5 os a6 c6 ts w hn hk hwk ho ht
    · exact hold_some_t i1 s2 i3 g4 n c4 ks a5 c5 os a6 c6 ts w hn hk hwk ho ht

end Go.Proofs.Qxb6603458aMods
