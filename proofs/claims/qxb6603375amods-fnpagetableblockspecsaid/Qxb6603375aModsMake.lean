import Derived.Test.Qxb6603375aModsClones
import Derived.RegionTactic
namespace Go.Proofs.Qxb6603375aMods
open Go.RowKit Go.Maps

/-- What the table holds behind the first k keys, when their blocks begin at S + 1. -/
def fill (zs : Nat → Int) (S : Nat) : Nat → Int → Option Nat
  | 0 => fun _ => none
  | k + 1 => putF (fill zs S k) (zs k) (S + 1 + k)

theorem fill_none {zs : Nat → Int} {S : Nat} {x : Int} : ∀ {n : Nat}, (∀ j, j < n → zs j ≠ x) → fill zs S n x = none
  | 0, _ => rfl
  | n + 1, h => by
    show putF _ _ _ x = none
    unfold putF
    rw [if_neg (fun e => h n (by omega) e.symm)]
    exact fill_none fun j hj => h j (by omega)

theorem fill_last {zs : Nat → Int} {S i : Nat} : ∀ {n : Nat}, i < n → (∀ j, i < j → j < n → zs j ≠ zs i) → fill zs S n (zs i) = some (S + 1 + i)
  | 0, h, _ => absurd h (Nat.not_lt_zero _)
  | n + 1, h, hl => by
    show putF _ _ _ (zs i) = _
    unfold putF
    by_cases e : i = n
    · subst e; rw [if_pos rfl]
    · rw [if_neg (fun e' => hl n (by omega) (by omega) e'.symm)]
      exact fill_last (by omega) fun j hj hj' => hl j hj (by omega)

theorem fill_block {zs : Nat → Int} {S : Nat} {x : Int} {b : Nat} : ∀ {n : Nat}, fill zs S n x = some b → ∃ i, i < n ∧ b = S + 1 + i
  | 0, h => by cases h
  | n + 1, h => by
    have h' : putF (fill zs S n) (zs n) (S + 1 + n) x = some b := h
    unfold putF at h'
    split at h'
    · cases h'; exact ⟨n, by omega, rfl⟩
    · obtain ⟨i, hi, e⟩ := fill_block h'
      exact ⟨i, by omega, e⟩

/-- What the call leaves. -/
structure Made (w w' : World) (zs : Nat → Int) (n : Nat) (t : Int) (k : Nat) : Prop where
  tab : Tab w' (w.heap.size + 1) w.heap.size k (fill zs (w.heap.size + 2) k) none t
  row : ∃ cur, w'.heap[w.heap.size + 2]? = some (.cells cur 49 (0, 0)) ∧ cur.size = n ∧ ∀ i, i < k → cur[i]? = some (.pointer (some ⟨w.heap.size + 2 + 1 + i, 0, none⟩))
  blocks : ∀ i, i < k → w'.heap[w.heap.size + 2 + 1 + i]? = some (.cells PB 74 (0, 0))
  size : w'.heap.size = w.heap.size + 2 + 1 + k
  but : But w w' (fun _ => False)

theorem made_start (w : World) (zs : Nat → Int) (n : Nat) (t : Int) (C : Array Value) (hC : C.size = n) :
    Made w (((w.alloc (.map #[] 0)).alloc (.cells #[.map (some w.heap.size), .pointer none, .int .u64 t] 71)).alloc (.cells C 49)) zs n t 0 := by
  have e0 : (((w.alloc (.map #[] 0)).alloc (.cells #[.map (some w.heap.size), .pointer none, .int .u64 t] 71)).alloc (.cells C 49)).heap[w.heap.size]? = some (.map #[] 0) := by
    rw [Below.heap_alloc _ _ _ (by simp; omega), Below.heap_alloc _ _ _ (by simp)]
    exact (MapKept.heap_alloc w _).1
  have e1 : (((w.alloc (.map #[] 0)).alloc (.cells #[.map (some w.heap.size), .pointer none, .int .u64 t] 71)).alloc (.cells C 49)).heap[w.heap.size + 1]? = some (.cells #[.map (some w.heap.size), .pointer none, .int .u64 t] 71 (0, 0)) := by
    rw [Below.heap_alloc _ _ _ (by simp)]
    have := (MapKept.heap_alloc (w.alloc (.map #[] 0)) (.cells #[.map (some w.heap.size), .pointer none, .int .u64 t] 71)).1
    simpa using this
  have e2 : (((w.alloc (.map #[] 0)).alloc (.cells #[.map (some w.heap.size), .pointer none, .int .u64 t] 71)).alloc (.cells C 49)).heap[w.heap.size + 2]? = some (.cells C 49 (0, 0)) := by
    have := (MapKept.heap_alloc ((w.alloc (.map #[] 0)).alloc (.cells #[.map (some w.heap.size), .pointer none, .int .u64 t] 71)) (.cells C 49)).1
    simpa using this
  refine ⟨⟨e1, (MapIs.made w).kept (e0.trans (MapKept.heap_alloc w _).1.symm), fun b hb => by cases hb⟩, ⟨C, e2, hC, fun i hi => absurd hi (Nat.not_lt_zero _)⟩, fun i hi => absurd hi (Nat.not_lt_zero _), by simp, ?_⟩
  exact ((But.alloc w _ _).trans (But.alloc _ _ (fun _ => False)) (fun _ _ h => h)).trans (But.alloc _ _ (fun _ => False)) (fun _ _ h => h)

/-- One round: a new block, the map's entry, the row's cell. -/
theorem made_step {w wr w1 : World} {zs : Nat → Int} {n k : Nat} {t : Int} (h : Made w wr zs n t k) (hk : k < n) (hM : MapIs w1 w.heap.size (k + 1) (putF (fill zs (w.heap.size + 2) k) (zs k) wr.heap.size)) (ht : (wr.alloc (.cells PB 74)).drew.mapTurned w1 w.heap.size) :
    Made w (w1.setCell ⟨w.heap.size + 2, k, none⟩ (.pointer (some ⟨wr.heap.size, 0, none⟩))) zs n t (k + 1) := by
  have hb1 := But.turned ht
  have hsz := h.size
  have es : w1.heap.size = wr.heap.size + 1 := by
    obtain ⟨_, _, _, _, _, rfl⟩ := ht
    simp [ChangeMaps.setBlock]
  have old : ∀ j, j < wr.heap.size → j ≠ w.heap.size → w1.heap[j]? = wr.heap[j]? := fun j hj hne => by
    rw [hb1.block j (by simp; omega) hne]
    exact Below.heap_alloc wr _ j hj
  obtain ⟨cur, hcur, hcs, hcc⟩ := h.row
  have e2 : w1.heap[w.heap.size + 2]? = some (.cells cur 49 (0, 0)) := (old _ (by omega) (by omega)).trans hcur
  refine ⟨⟨?_, ?_, fun b hb => by cases hb⟩, ?_, ?_, ?_, ?_⟩
  · rw [heap_setCell_other _ _ _ _ (by simp), old _ (by omega) (by omega)]
    exact h.tab.row
  · have e : fill zs (w.heap.size + 2) (k + 1) = putF (fill zs (w.heap.size + 2) k) (zs k) wr.heap.size := by rw [hsz]; rfl
    rw [e]
    exact hM.kept (heap_setCell_other _ _ _ _ (by simp))
  · have e : wr.heap.size = w.heap.size + 2 + 1 + k := hsz
    rw [e]
    exact round_row (V := fun i => .pointer (some ⟨w.heap.size + 2 + 1 + i, 0, none⟩)) e2 hcs hk hcc
  · intro i hi
    rw [heap_setCell_other _ _ _ _ (by simp; omega)]
    by_cases e : i = k
    · subst e
      rw [← hsz, hb1.block _ (by simp) (by omega)]
      exact (MapKept.heap_alloc wr _).1
    · rw [old _ (by omega) (by omega)]
      exact h.blocks i (by omega)
  · simp; omega
  · have h1 : But w w1 (fun _ => False) := (h.but.trans (But.alloc wr (.cells PB 74) (fun _ => False)) (fun _ _ h => h)).trans (⟨hb1.os, hb1.tape, hb1.output, hb1.size, hb1.block⟩ : But (wr.alloc (.cells PB 74)) w1 (fun k => k = w.heap.size)) (fun i hi e => by omega)
    exact h1.trans (But.setCell _ _ _) (fun i hi e => by simp only at e; omega)

theorem make44 (n : Nat) (hn : n ≤ 100000) (W : World) : (Instr.makeSlice 44 (.int .i64 (n : Int)) (.int .i64 (n : Int))).run Trym.prog W = .ok (.slice (some ⟨W.heap.size, 0, none⟩) n n) (W.alloc (.cells (madeCells #[.pointer none] n) 49)) := by
  obtain ⟨i0, hi, hz0, hz1, hz2⟩ := info_parts info49
  have := run_make (P := Trym.prog) W 44 49 i0 (.pointer none) Trym.underlying44 hi hz0 .i64 .i64 n n (by omega) (Int.le_refl _) (by rw [hz2]; omega) (by omega)
  rw [hz1] at this
  simpa [Value.cells] using this

set_option maxHeartbeats 800000 in
theorem table_row (g n c : Nat) (zs : Nat → Int) (t : Int) (hn : n ≤ 100000) (w : World) (hc : ∀ i, i < n → w.cell? ⟨g, i, none⟩ = some (.int .u64 (zs i))) (hw : ∀ i, i < n → (Lit.int .u64 (zs i)).wf = true) :
    Calls Trym.prog 20 #[.slice (some ⟨g, 0, none⟩) n c, .int .u64 t] w fun e w' => e = .returned (.tuple #[.pointer (some ⟨w.heap.size + 1, 0, none⟩), .slice (some ⟨w.heap.size + 2, 0, none⟩) n n]) ∧ Made w w' zs n t n := by
  have hmm := @run_makeMap Trym.prog
  have hmk := make44 n hn
  have HS : Hid _ := made_start w zs n t (madeCells #[.pointer none] n) (size_madeCells _ _)
  go_enter Trym.func20, Trym.ntmps20
  go_wp2
  go_loopw [8] (fun i wr => ∃ k : Nat, k ≤ n ∧ i = .int .i64 k ∧ Made w wr zs n t k) (fun i _ => n - (intOf i).toNat)
  case atStart => exact ⟨0, Nat.zero_le _, rfl, HS.out⟩
  case round =>
    obtain ⟨k, hk, rfl, hm⟩ := hrel
    have HM : Hid (Made w wr zs n t k) := hm
    by_cases hlt : k < n
    · have hck : wr.cell? ⟨g, k, none⟩ = some (.int .u64 (zs k)) := by
        rw [World.cell?_of_block (w := w) (hm.but.block _ (World.block_lt_of_cell? _ _ (hc k hlt)) (fun h => h))]
        exact hc k hlt
      have hgl : g < wr.heap.size := Nat.lt_of_lt_of_le (World.block_lt_of_cell? _ _ (hc k hlt)) hm.but.size
      have hT := hm.tab.row
      have hTl : w.heap.size + 1 < wr.heap.size := by have := hm.size; omega
      have c0 : wr.cell? ⟨w.heap.size + 1, 0, none⟩ = some (.map (some w.heap.size)) := by simp [World.cell?, hT]
      obtain ⟨w1, hrun, hM1, ht1⟩ := MapIs.upd (w := (wr.alloc (.cells PB 74)).drew) (hm.tab.map.alloc _) (by unfold maxLen; omega) (hw k hlt) wr.heap.size
      have hstep := made_step hm hlt hM1 ht1
      have H1 : Hid _ := hstep
      have HF : Hid (∃ cur, w1.heap[w.heap.size + 2]? = some (.cells cur 49 (0, 0)) ∧ k < cur.size) := by
        obtain ⟨cur, h1, h2, _⟩ := hm.row
        have hb1 := But.turned ht1
        have := hm.size
        refine ⟨cur, ?_, by omega⟩
        rw [hb1.block _ (by simp; omega) (by omega)]
        exact (Below.heap_alloc wr _ _ (by omega)).trans h1
      obtain ⟨cur, hr1, hr2⟩ := HF.out
      have hff : w1.frozen? ⟨w.heap.size + 2, k, none⟩ = false := frozen_of_row w1 _ k _ _ hr1
      obtain ⟨old, hold⟩ : ∃ old, w1.cell? ⟨w.heap.size + 2, k, none⟩ = some old := ⟨_, cell_row hr1 (Array.getElem?_eq_getElem hr2)⟩
      have hlti : (k : Int) < (n : Int) := by omega
      clear hstep hT hc hw hM1 ht1 hr1 hr2 HF hm hmk hmm HS
      go_wp2_with (with_reducible refine wpList_alloc74 _ rfl rfl ?_)
      go_region
      have hff' : w1.frozen? ⟨w.heap.size + 1 + 1, k, none⟩ = false := hff
      have hold' : w1.cell? ⟨w.heap.size + 1 + 1, k, none⟩ = some old := hold
      clear hff hold c0 hck hrun
      go_wp2
      go_roundw
      case rel => exact ⟨k + 1, by omega, by go_num, H1.out⟩
      case measure => simp [intOf]; omega
    · obtain rfl : k = n := by omega
      clear hm hc hw hmk hmm HS
      go_wp2
      go_ret2
      exact ⟨rfl, HM.out⟩

theorem table_nil (t : Int) (zs : Nat → Int) (w : World) :
    Calls Trym.prog 20 #[.slice none 0 0, .int .u64 t] w fun e w' => e = .returned (.tuple #[.pointer (some ⟨w.heap.size + 1, 0, none⟩), .slice (some ⟨w.heap.size + 2, 0, none⟩) 0 0]) ∧ Made w w' zs 0 t 0 := by
  have hmm := @run_makeMap Trym.prog
  have hmk : ∀ W : World, (Instr.makeSlice 44 (.int .i64 0) (.int .i64 0)).run Trym.prog W = .ok (.slice (some ⟨W.heap.size, 0, none⟩) 0 0) (W.alloc (.cells (madeCells #[.pointer none] 0) 49)) := fun W => make44 0 (by omega) W
  have HS : Hid _ := made_start w zs 0 t (madeCells #[.pointer none] 0) (size_madeCells _ _)
  go_enter Trym.func20, Trym.ntmps20
  go_wp2
  refine wp_loop_rounds 1 ?_
  rw [rounds_succ]
  go_wp2
  go_ret2
  exact ⟨rfl, HS.out⟩

end Go.Proofs.Qxb6603375aMods
