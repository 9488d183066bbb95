import Derived.Test.Qxb6603375aModsParts
namespace Go.Proofs.Qxb6603375aMods
open Go.RowKit Go.Maps

theorem info38 : (Trym.prog.info? 38).map (fun i => (i.zero, i.size, i.bytes)) = some (some (.int .u64 0), 1, 8) := by kernel_rfl
theorem info48 : (Trym.prog.info? 48).map (fun i => (i.zero, i.size, i.bytes)) = some (some (.agg #[.int .u64 0, .bool false]), 2, 16) := by kernel_rfl
theorem info49 : (Trym.prog.info? 49).map (fun i => (i.zero, i.size, i.bytes)) = some (some (.pointer none), 1, 8) := by kernel_rfl

/-- A row that the call has just made: n elements of 'size' cells. -/
theorem made_row {w : World} {base e size n g : Nat} {xs : List Value} (h : w.ownsRow base e size (.slice (some ⟨g, 0, none⟩) n n) n xs) : ∃ cur, w.heap[g]? = some (.cells cur e (0, 0)) ∧ cur.size = n * size := by
  rcases h.2 with ⟨h', _⟩ | ⟨g', cap, cur, h', _, hg, _, _, hs, _⟩
  · simp at h'
  · simp only [Value.slice.injEq, Option.some.injEq, Addr.mk.injEq, and_true, true_and] at h'
    obtain ⟨rfl, rfl⟩ := h'
    exact ⟨cur, hg, hs⟩

theorem q37 (w : World) (a : Option Addr) (n c n' c' : Nat) : (binOp .eql 37 (.slice a n c) (.slice none n' c')).run Trym.prog w = .ok (.bool a.isNone) w := Lib.run_eql_slice_nil w _ _ a n c n' c' Trym.underlying37
theorem q39 (w : World) (a : Option Addr) (n c n' c' : Nat) : (binOp .eql 39 (.slice a n c) (.slice none n' c')).run Trym.prog w = .ok (.bool a.isNone) w := Lib.run_eql_slice_nil w _ _ a n c n' c' Trym.underlying39

theorem cell_row {w : World} {g j : Nat} {cur : Array Value} {e : TypeId} {v : Value} (h : w.heap[g]? = some (.cells cur e (0, 0))) (hj : cur[j]? = some v) : w.cell? ⟨g, j, none⟩ = some v := by
  rw [cell_of_row w g j cur e (0, 0) h, hj]

/-! ### cloneUint64s -/
theorem clone_nil (w : World) : Calls Trym.prog 18 #[.slice none 0 0] w fun e w' => e = .returned (.slice none 0 0) ∧ w' = w := by
  have q := q37
  go_enter Trym.func18, Trym.ntmps18
  go_wp2
  go_ret
  exact ⟨rfl, rfl⟩

/-- One round of a clone: the row behind the store. -/
theorem round_row {wr : World} {g k n e : Nat} {cur : Array Value} {V : Nat → Value} (hg : wr.heap[g]? = some (.cells cur e (0, 0))) (hs : cur.size = n) (hk : k < n) (hc : ∀ i, i < k → cur[i]? = some (V i)) :
    ∃ cur', (wr.setCell ⟨g, k, none⟩ (V k)).heap[g]? = some (.cells cur' e (0, 0)) ∧ cur'.size = n ∧ ∀ i, i < k + 1 → cur'[i]? = some (V i) := by
  refine ⟨_, heap_setCell_same wr g k cur e (V k) hg, by simpa using hs, fun i hi => ?_⟩
  rw [Array.getElem?_setIfInBounds]
  by_cases h : k = i
  · subst h; rw [if_pos rfl, if_pos (by omega)]
  · rw [if_neg h]; exact hc i (by omega)

set_option maxHeartbeats 400000 in
theorem clone_some (x : Addr) (n c : Nat) (zs : Nat → Int) (hn : n ≤ 100000) (w : World) (hc : ∀ i, i < n → w.cell? (x.add i) = some (.int .u64 (zs i))) :
    Calls Trym.prog 18 #[.slice (some x) n c] w fun e w' => e = .returned (.slice (some ⟨w.heap.size, 0, none⟩) n n) ∧ But w w' (fun _ => False) ∧ w.heap.size < w'.heap.size ∧ ∀ i, i < n → w'.cell? ⟨w.heap.size, i, none⟩ = some (.int .u64 (zs i)) := by
  have q := q37
  obtain ⟨i0, hi, hz0, hz1, hz2⟩ := info_parts info38
  go_enter Trym.func18, Trym.ntmps18
  go_wp2_with (first
      | (at_make; refine wpList_make_full _ rfl _ _ 37 rfl w.heap.size 38 i0 (.int .u64 0) 1 Trym.underlying37 hi hz0 hz1 _ _ _ _ n rfl rfl rfl rfl (by rw [hz2]; omega) (by unfold maxLen; omega) (Nat.le_refl _) ?_; intro w1 hown hgrow)
      | go_in)
  go_loopw [4] (fun i wr => ∃ k : Nat, k ≤ n ∧ i = .int .i64 k ∧ But w wr (fun _ => False) ∧ ∃ cur, wr.heap[w.heap.size]? = some (.cells cur 38 (0, 0)) ∧ cur.size = n ∧ ∀ i, i < k → cur[i]? = some (.int .u64 (zs i)))
      (fun i _ => n - (intOf i).toNat)
  case atStart =>
    obtain ⟨cur, h1, h2⟩ := made_row hown
    exact ⟨0, Nat.zero_le _, rfl, (But.grown hgrow).mono (fun i _ h => by simp at h), cur, h1, by simpa using h2, fun i hi => absurd hi (Nat.not_lt_zero _)⟩
  case round =>
    obtain ⟨k, hk, rfl, hb, cur, hg, hs, hcur⟩ := hrel
    by_cases hlt : k < n
    · have hck : wr.cell? (x.add k) = some (.int .u64 (zs k)) := by
        rw [World.cell?_of_block (w := w) (hb.block _ (World.block_lt_of_cell? _ _ (hc k hlt)) (fun h => h))]
        exact hc k hlt
      obtain ⟨old, hold⟩ : ∃ old, wr.cell? ⟨w.heap.size, k, none⟩ = some old := ⟨_, cell_row hg (Array.getElem?_eq_getElem (by omega))⟩
      have hff : wr.frozen? ⟨w.heap.size, k, none⟩ = false := frozen_of_row wr _ k _ _ hg
      have Hr := round_row (V := fun i => .int .u64 (zs i)) hg hs hlt hcur
      have HR : Hid _ := Hr
      have HB : Hid (But w wr fun _ => False) := hb
      clear Hr hc hcur hs hg hb hown hgrow
      go_wp2
      go_roundw
      case rel => exact ⟨k + 1, by omega, by go_num, HB.out.trans (But.setCell _ _ _) (fun i hi e => by simp only at e; omega), HR.out⟩
      case measure => simp [intOf]; omega
    · obtain rfl : k = n := by omega
      have HR : Hid _ := hcur
      have HG : Hid _ := hg
      have HB : Hid (But w wr fun _ => False) := hb
      clear hc hcur hs hg hb hown hgrow
      go_wp2
      go_ret
      exact ⟨rfl, HB.out, (Array.getElem?_eq_some_iff.1 HG.out).1, fun i hi => cell_row HG.out (HR.out i hi)⟩

/-! ### cloneCalls -/
theorem ccalls_nil (w : World) : Calls Trym.prog 19 #[.slice none 0 0] w fun e w' => e = .returned (.slice none 0 0) ∧ w' = w := by
  have q := q39
  go_enter Trym.func19, Trym.ntmps19
  go_wp2
  go_ret
  exact ⟨rfl, rfl⟩

theorem round_pair {wr : World} {g k n e : Nat} {cur : Array Value} {V0 V1 : Nat → Value} (hg : wr.heap[g]? = some (.cells cur e (0, 0))) (hs : cur.size = n * 2) (hk : k < n) (hc : ∀ i, i < k → cur[i * 2]? = some (V0 i) ∧ cur[i * 2 + 1]? = some (V1 i)) :
    ∃ cur', ((wr.setCell ⟨g, k * 2, none⟩ (V0 k)).setCell ⟨g, k * 2 + 1, none⟩ (V1 k)).heap[g]? = some (.cells cur' e (0, 0)) ∧ cur'.size = n * 2 ∧ ∀ i, i < k + 1 → cur'[i * 2]? = some (V0 i) ∧ cur'[i * 2 + 1]? = some (V1 i) := by
  refine ⟨_, heap_setCell_same _ g (k * 2 + 1) _ e (V1 k) (heap_setCell_same wr g (k * 2) cur e (V0 k) hg), by simpa using hs, fun i hi => ?_⟩
  simp only [Array.getElem?_setIfInBounds, Array.size_setIfInBounds]
  by_cases h : k = i
  · subst h
    refine ⟨?_, ?_⟩
    · rw [if_neg (by omega), if_pos rfl, if_pos (by omega)]
    · rw [if_pos rfl, if_pos (by omega)]
  · have := hc i (by omega)
    rw [if_neg (by omega), if_neg (by omega), if_neg (by omega), if_neg (by omega)]
    exact this

set_option maxHeartbeats 400000 in
theorem ccalls_row (b off n c : Nat) (ids : Nat → Int) (adds : Nat → Bool) (hn : n ≤ 100000) (w : World) (hc : ∀ i, i < n → w.cell? ⟨b, off + i * 2, none⟩ = some (.int .u64 (ids i)) ∧ w.cell? ⟨b, off + i * 2 + 1, none⟩ = some (.bool (adds i))) :
    Calls Trym.prog 19 #[.slice (some ⟨b, off, none⟩) n c] w fun e w' => e = .returned (.slice (some ⟨w.heap.size, 0, none⟩) n n) ∧ But w w' (fun _ => False) ∧ w.heap.size < w'.heap.size ∧ ∀ i, i < n → w'.cell? ⟨w.heap.size, i * 2, none⟩ = some (.int .u64 (ids i)) ∧ w'.cell? ⟨w.heap.size, i * 2 + 1, none⟩ = some (.bool (adds i)) := by
  have q := q39
  obtain ⟨i0, hi, hz0, hz1, hz2⟩ := info_parts info48
  go_enter Trym.func19, Trym.ntmps19
  go_wp2_with (first
      | (at_make; refine wpList_make_full _ rfl _ _ 39 rfl w.heap.size 48 i0 (.agg #[.int .u64 0, .bool false]) 2 Trym.underlying39 hi hz0 hz1 _ _ _ _ n rfl rfl rfl rfl (by rw [hz2]; omega) (by unfold maxLen; omega) (Nat.le_refl _) ?_; intro w1 hown hgrow)
      | go_in)
  go_loopw [4] (fun i wr => ∃ k : Nat, k ≤ n ∧ i = .int .i64 k ∧ But w wr (fun _ => False) ∧ ∃ cur, wr.heap[w.heap.size]? = some (.cells cur 48 (0, 0)) ∧ cur.size = n * 2 ∧ ∀ i, i < k → cur[i * 2]? = some (.int .u64 (ids i)) ∧ cur[i * 2 + 1]? = some (.bool (adds i)))
      (fun i _ => n - (intOf i).toNat)
  case atStart =>
    obtain ⟨cur, h1, h2⟩ := made_row hown
    exact ⟨0, Nat.zero_le _, rfl, (But.grown hgrow).mono (fun i _ h => by simp at h), cur, h1, h2, fun i hi => absurd hi (Nat.not_lt_zero _)⟩
  case round =>
    obtain ⟨k, hk, rfl, hb, cur, hg, hs, hcur⟩ := hrel
    by_cases hlt : k < n
    · have hck : wr.cell? ⟨b, off + k * 2, none⟩ = some (.int .u64 (ids k)) := by
        rw [World.cell?_of_block (w := w) (hb.block _ (World.block_lt_of_cell? _ _ (hc k hlt).1) (fun h => h))]
        exact (hc k hlt).1
      have hck1 : wr.cell? ⟨b, off + k * 2 + 1, none⟩ = some (.bool (adds k)) := by
        rw [World.cell?_of_block (w := w) (hb.block _ (World.block_lt_of_cell? _ _ (hc k hlt).2) (fun h => h))]
        exact (hc k hlt).2
      have hff : wr.frozen? ⟨w.heap.size, k * 2, none⟩ = false := frozen_of_row wr _ _ _ _ hg
      have hff1 : wr.frozen? ⟨w.heap.size, k * 2 + 1, none⟩ = false := frozen_of_row wr _ _ _ _ hg
      obtain ⟨old, hold⟩ : ∃ old, wr.cell? ⟨w.heap.size, k * 2, none⟩ = some old := ⟨_, cell_row hg (Array.getElem?_eq_getElem (by omega))⟩
      obtain ⟨old1, hold1⟩ : ∃ old, wr.cell? ⟨w.heap.size, k * 2 + 1, none⟩ = some old := ⟨_, cell_row hg (Array.getElem?_eq_getElem (by omega))⟩
      have Hr := round_pair (V0 := fun i => .int .u64 (ids i)) (V1 := fun i => .bool (adds i)) hg hs hlt hcur
      have HR : Hid _ := Hr
      have HB : Hid (But w wr fun _ => False) := hb
      clear Hr hc hcur hs hg hb hown hgrow
      go_wp2
      go_roundw
      case rel => exact ⟨k + 1, by omega, by go_num, (HB.out.trans (But.setCell _ _ _) (fun i hi e => by simp only at e; omega)).trans (But.setCell _ _ _) (fun i hi e => by simp only at e; omega), HR.out⟩
      case measure => simp [intOf]; omega
    · obtain rfl : k = n := by omega
      have HR : Hid _ := hcur
      have HG : Hid _ := hg
      have HB : Hid (But w wr fun _ => False) := hb
      clear hc hcur hs hg hb hown hgrow
      go_wp2
      go_ret
      exact ⟨rfl, HB.out, (Array.getElem?_eq_some_iff.1 HG.out).1, fun i hi => ⟨cell_row HG.out (HR.out i hi).1, cell_row HG.out (HR.out i hi).2⟩⟩

theorem ccalls_zero (x : Addr) (c : Nat) (w : World) :
    Calls Trym.prog 19 #[.slice (some x) 0 c] w fun e w' => e = .returned (.slice (some ⟨w.heap.size, 0, none⟩) 0 0) ∧ But w w' (fun _ => False) ∧ w.heap.size < w'.heap.size := by
  have q := q39
  obtain ⟨i0, hi, hz0, hz1, hz2⟩ := info_parts info48
  go_enter Trym.func19, Trym.ntmps19
  go_wp2_with (first
      | (at_make; refine wpList_make_full _ rfl _ _ 39 rfl w.heap.size 48 i0 (.agg #[.int .u64 0, .bool false]) 2 Trym.underlying39 hi hz0 hz1 _ _ _ _ 0 rfl rfl rfl rfl (by rw [hz2]; omega) (by unfold maxLen; omega) (Nat.le_refl _) ?_; intro w1 hown hgrow)
      | go_in)
  refine wp_loop_rounds 1 ?_
  rw [rounds_succ]
  go_wp2
  go_ret
  obtain ⟨cur, h1, h2⟩ := made_row hown
  exact ⟨rfl, (But.grown hgrow).mono (fun i _ h => by simp at h), (Array.getElem?_eq_some_iff.1 h1).1⟩

theorem ccalls_some (x : Addr) (n c : Nat) (ids : Nat → Int) (adds : Nat → Bool) (hn : n ≤ 100000) (w : World) (hc : ∀ i, i < n → w.cell? (x.add (i * 2)) = some (.int .u64 (ids i)) ∧ w.cell? (x.add (i * 2 + 1)) = some (.bool (adds i))) :
    Calls Trym.prog 19 #[.slice (some x) n c] w fun e w' => e = .returned (.slice (some ⟨w.heap.size, 0, none⟩) n n) ∧ But w w' (fun _ => False) ∧ w.heap.size < w'.heap.size ∧ ∀ i, i < n → w'.cell? ⟨w.heap.size, i * 2, none⟩ = some (.int .u64 (ids i)) ∧ w'.cell? ⟨w.heap.size, i * 2 + 1, none⟩ = some (.bool (adds i)) := by
  by_cases h0 : n = 0
  · subst h0
    refine (ccalls_zero x c w).mono ?_
    rintro e w' ⟨h1, h2, h3⟩
    exact ⟨h1, h2, h3, fun i hi => absurd hi (Nat.not_lt_zero _)⟩
  · obtain ⟨b, off, spot⟩ := x
    have hspot : spot = none := by simpa [Addr.add] using World.cell?_spot (hc 0 (by omega)).1
    subst hspot
    refine ccalls_row b off n c ids adds hn w fun i hi => ?_
    have := hc i hi
    rw [Addr.add_lit, Addr.add_lit] at this
    exact this

end Go.Proofs.Qxb6603375aMods
