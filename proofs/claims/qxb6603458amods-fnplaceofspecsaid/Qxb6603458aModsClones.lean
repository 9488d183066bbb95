import Derived.Test.Qxb6603458aModsSizes
namespace Go.Proofs.Qxb6603458aMods
open Go.RowKit Go.Maps

theorem info3 : (Trym.prog.info? 3).map (fun i => (i.zero, i.size, i.bytes)) = some (some (.int .i64 0), 1, 8) := by kernel_rfl
theorem info9 : (Trym.prog.info? 9).map (fun i => (i.zero, i.size, i.bytes)) = some (some (.string ⟨#[]⟩), 1, 16) := by kernel_rfl
theorem info2 : (Trym.prog.info? 2).map (fun i => (i.zero, i.size, i.bytes)) = some (some (.int .i64 0), 1, 8) := by kernel_rfl
theorem info4 : (Trym.prog.info? 4).map (fun i => (i.zero, i.size, i.bytes)) = some (some (.bool false), 1, 1) := by kernel_rfl

/-- A slice of one-cell elements that the call owns, nil or not. -/
def RowOwn (w : World) (a : Option Addr) (n c : Nat) (V : Nat → Value) : Prop :=
  (a = none ∧ n = 0 ∧ c = 0) ∨ ∃ g, a = some ⟨g, 0, none⟩ ∧ ∀ i, i < n → w.cell? ⟨g, i, none⟩ = some (V i)

theorem RowIn.later {w w' : World} {a : Option Addr} {n c : Nat} {V : Nat → Value} (h : RowIn w a n c V) (hb : But w w' (fun _ => False)) : RowIn w' a n c V := by
  rcases h with h | ⟨g, h, hc⟩
  · exact .inl h
  · exact .inr ⟨g, h, fun i hi => hb.cell (hc i hi) (fun e => e)⟩
theorem RowOwn.later {w w' : World} {a : Option Addr} {n c : Nat} {V : Nat → Value} (h : RowOwn w a n c V) (hb : But w w' (fun _ => False)) : RowOwn w' a n c V := by
  rcases h with h | ⟨g, h, hc⟩
  · exact .inl h
  · exact .inr ⟨g, h, fun i hi => hb.cell (hc i hi) (fun e => e)⟩

/-- A row that the call has just made. -/
theorem made_row {w : World} {base e size n g : Nat} {xs : List Value} (h : w.ownsRow base e size (.slice (some ⟨g, 0, none⟩) n n) n xs) : ∃ cur, w.heap[g]? = some (.cells cur e (0, 0)) ∧ cur.size = n * size := by
  rcases h.2 with ⟨h', _⟩ | ⟨g', cap, cur, h', _, hg, _, _, hs, _⟩
  · simp at h'
  · simp only [Value.slice.injEq, Option.some.injEq, Addr.mk.injEq, and_true, true_and] at h'
    obtain ⟨rfl, rfl⟩ := h'
    exact ⟨cur, hg, hs⟩

theorem cell_row {w : World} {g j : Nat} {cur : Array Value} {e : TypeId} {v : Value} (h : w.heap[g]? = some (.cells cur e (0, 0))) (hj : cur[j]? = some v) : w.cell? ⟨g, j, none⟩ = some v := by
  rw [cell_of_row w g j cur e (0, 0) h, hj]

/-- One round of a clone: the row behind the store. -/
theorem round_row {wr : World} {g k n e : Nat} {cur : Array Value} {V : Nat → Value} (hg : wr.heap[g]? = some (.cells cur e (0, 0))) (hs : cur.size = n) (hk : k < n) (hc : ∀ i, i < k → cur[i]? = some (V i)) :
    ∃ cur', (wr.setCell ⟨g, k, none⟩ (V k)).heap[g]? = some (.cells cur' e (0, 0)) ∧ cur'.size = n ∧ ∀ i, i < k + 1 → cur'[i]? = some (V i) := by
  refine ⟨_, heap_setCell_same wr g k cur e (V k) hg, by simpa using hs, fun i hi => ?_⟩
  rw [Array.getElem?_setIfInBounds]
  by_cases h : k = i
  · subst h; rw [if_pos rfl, if_pos (by omega)]
  · rw [if_neg h]; exact hc i (by omega)

theorem q22 (w : World) (a : Option Addr) (n c n' c' : Nat) : (binOp .eql 22 (.slice a n c) (.slice none n' c')).run Trym.prog w = .ok (.bool a.isNone) w := Lib.run_eql_slice_nil w _ _ a n c n' c' Trym.underlying22
theorem q23 (w : World) (a : Option Addr) (n c n' c' : Nat) : (binOp .eql 23 (.slice a n c) (.slice none n' c')).run Trym.prog w = .ok (.bool a.isNone) w := Lib.run_eql_slice_nil w _ _ a n c n' c' Trym.underlying23
theorem q24 (w : World) (a : Option Addr) (n c n' c' : Nat) : (binOp .eql 24 (.slice a n c) (.slice none n' c')).run Trym.prog w = .ok (.bool a.isNone) w := Lib.run_eql_slice_nil w _ _ a n c n' c' Trym.underlying24

/-! ### function 8 -/
theorem clone8_nil (w : World) : Calls Trym.prog 8 #[.slice none 0 0] w fun e w' => e = .returned (.slice none 0 0) ∧ w' = w := by
  have q := q22
  go_enter Trym.func8, Trym.ntmps8
  go_wp2
  go_ret
  exact ⟨rfl, rfl⟩

set_option maxHeartbeats 400000 in
theorem clone8_some (x : Addr) (n c : Nat) (zs : Nat → Int) (hn : n ≤ 131072) (w : World) (hc : ∀ i, i < n → w.cell? (x.add i) = some (Value.int .i64 (zs i))) :
    Calls Trym.prog 8 #[.slice (some x) n c] w fun e w' => e = .returned (.slice (some ⟨w.heap.size, 0, none⟩) n n) ∧ But w w' (fun _ => False) ∧ ∀ i, i < n → w'.cell? ⟨w.heap.size, i, none⟩ = some (Value.int .i64 (zs i)) := by
  have q := q22
  obtain ⟨i0, hi, hz0, hz1, hz2⟩ := info_parts info3
  go_enter Trym.func8, Trym.ntmps8
  go_wp2_with (first
      | (at_make; refine wpList_make_full _ rfl _ _ 22 rfl w.heap.size 3 i0 (.int .i64 0) 1 Trym.underlying22 hi hz0 hz1 _ _ _ _ n rfl rfl rfl rfl (by rw [hz2]; omega) (by unfold maxLen; omega) (Nat.le_refl _) ?_; intro w1 hown hgrow)
      | go_in)
  go_loopw [4] (fun i wr => ∃ k : Nat, k ≤ n ∧ i = .int .i64 k ∧ But w wr (fun _ => False) ∧ ∃ cur, wr.heap[w.heap.size]? = some (.cells cur 3 (0, 0)) ∧ cur.size = n ∧ ∀ i, i < k → cur[i]? = some (Value.int .i64 (zs i)))
      (fun i _ => n - (intOf i).toNat)
  case atStart =>
    obtain ⟨cur, h1, h2⟩ := made_row hown
    exact ⟨0, Nat.zero_le _, rfl, (But.grown hgrow).mono (fun i _ h => by simp at h), cur, h1, by simpa using h2, fun i hi => absurd hi (Nat.not_lt_zero _)⟩
  case round =>
    obtain ⟨k, hk, rfl, hb, cur, hg, hs, hcur⟩ := hrel
    by_cases hlt : k < n
    · have hck : wr.cell? (x.add k) = some (Value.int .i64 (zs k)) := hb.cell (hc k hlt) (fun h => h)
      obtain ⟨old, hold⟩ : ∃ old, wr.cell? ⟨w.heap.size, k, none⟩ = some old := ⟨_, cell_row hg (Array.getElem?_eq_getElem (by omega))⟩
      have hff : wr.frozen? ⟨w.heap.size, k, none⟩ = false := frozen_of_row wr _ k _ _ hg
      have HR := tuck (round_row (V := fun i => Value.int .i64 (zs i)) hg hs hlt hcur)
      have HB := tuck hb
      clear hc hcur hs hg hb hown hgrow
      go_wp2
      go_roundw
      case rel => exact ⟨k + 1, by omega, by go_num, HB.out.trans (But.setCell _ _ _) (fun i hi e => by simp only at e; omega), HR.out⟩
      case measure => simp [intOf]; omega
    · obtain rfl : k = n := by omega
      have HR := tuck hcur
      have HG := tuck hg
      have HB := tuck hb
      clear hc hcur hs hg hb hown hgrow
      go_wp2
      go_ret
      exact ⟨rfl, HB.out, fun i hi => cell_row HG.out (HR.out i hi)⟩

theorem clone8 (a : Option Addr) (n c : Nat) (zs : Nat → Int) (hn : n ≤ 131072) (w : World) (h : RowIn w a n c (fun i => Value.int .i64 (zs i))) :
    Calls Trym.prog 8 #[.slice a n c] w fun e w' => ∃ a' c', e = .returned (.slice a' n c') ∧ RowOwn w' a' n c' (fun i => Value.int .i64 (zs i)) ∧ But w w' (fun _ => False) := by
  rcases h with ⟨rfl, rfl, rfl⟩ | ⟨x, rfl, hc⟩
  · refine (clone8_nil w).mono ?_
    rintro e w' ⟨rfl, rfl⟩
    exact ⟨none, 0, rfl, .inl ⟨rfl, rfl, rfl⟩, But.refl _ _⟩
  · refine (clone8_some x n c zs hn w hc).mono ?_
    rintro e w' ⟨rfl, hb, hcells⟩
    exact ⟨_, n, rfl, .inr ⟨_, rfl, hcells⟩, hb⟩

/-! ### function 9 -/
theorem clone9_nil (w : World) : Calls Trym.prog 9 #[.slice none 0 0] w fun e w' => e = .returned (.slice none 0 0) ∧ w' = w := by
  have q := q23
  go_enter Trym.func9, Trym.ntmps9
  go_wp2
  go_ret
  exact ⟨rfl, rfl⟩

set_option maxHeartbeats 400000 in
theorem clone9_some (x : Addr) (n c : Nat) (zs : Nat → ByteArray) (hn : n ≤ 131072) (w : World) (hc : ∀ i, i < n → w.cell? (x.add i) = some (Value.string (zs i))) :
    Calls Trym.prog 9 #[.slice (some x) n c] w fun e w' => e = .returned (.slice (some ⟨w.heap.size, 0, none⟩) n n) ∧ But w w' (fun _ => False) ∧ ∀ i, i < n → w'.cell? ⟨w.heap.size, i, none⟩ = some (Value.string (zs i)) := by
  have q := q23
  obtain ⟨i0, hi, hz0, hz1, hz2⟩ := info_parts info9
  go_enter Trym.func9, Trym.ntmps9
  go_wp2_with (first
      | (at_make; refine wpList_make_full _ rfl _ _ 23 rfl w.heap.size 9 i0 (.string ⟨#[]⟩) 1 Trym.underlying23 hi hz0 hz1 _ _ _ _ n rfl rfl rfl rfl (by rw [hz2]; omega) (by unfold maxLen; omega) (Nat.le_refl _) ?_; intro w1 hown hgrow)
      | go_in)
  go_loopw [4] (fun i wr => ∃ k : Nat, k ≤ n ∧ i = .int .i64 k ∧ But w wr (fun _ => False) ∧ ∃ cur, wr.heap[w.heap.size]? = some (.cells cur 9 (0, 0)) ∧ cur.size = n ∧ ∀ i, i < k → cur[i]? = some (Value.string (zs i)))
      (fun i _ => n - (intOf i).toNat)
  case atStart =>
    obtain ⟨cur, h1, h2⟩ := made_row hown
    exact ⟨0, Nat.zero_le _, rfl, (But.grown hgrow).mono (fun i _ h => by simp at h), cur, h1, by simpa using h2, fun i hi => absurd hi (Nat.not_lt_zero _)⟩
  case round =>
    obtain ⟨k, hk, rfl, hb, cur, hg, hs, hcur⟩ := hrel
    by_cases hlt : k < n
    · have hck : wr.cell? (x.add k) = some (Value.string (zs k)) := hb.cell (hc k hlt) (fun h => h)
      obtain ⟨old, hold⟩ : ∃ old, wr.cell? ⟨w.heap.size, k, none⟩ = some old := ⟨_, cell_row hg (Array.getElem?_eq_getElem (by omega))⟩
      have hff : wr.frozen? ⟨w.heap.size, k, none⟩ = false := frozen_of_row wr _ k _ _ hg
      have HR := tuck (round_row (V := fun i => Value.string (zs i)) hg hs hlt hcur)
      have HB := tuck hb
      clear hc hcur hs hg hb hown hgrow
      go_wp2
      go_roundw
      case rel => exact ⟨k + 1, by omega, by go_num, HB.out.trans (But.setCell _ _ _) (fun i hi e => by simp only at e; omega), HR.out⟩
      case measure => simp [intOf]; omega
    · obtain rfl : k = n := by omega
      have HR := tuck hcur
      have HG := tuck hg
      have HB := tuck hb
      clear hc hcur hs hg hb hown hgrow
      go_wp2
      go_ret
      exact ⟨rfl, HB.out, fun i hi => cell_row HG.out (HR.out i hi)⟩

theorem clone9 (a : Option Addr) (n c : Nat) (zs : Nat → ByteArray) (hn : n ≤ 131072) (w : World) (h : RowIn w a n c (fun i => Value.string (zs i))) :
    Calls Trym.prog 9 #[.slice a n c] w fun e w' => ∃ a' c', e = .returned (.slice a' n c') ∧ RowOwn w' a' n c' (fun i => Value.string (zs i)) ∧ But w w' (fun _ => False) := by
  rcases h with ⟨rfl, rfl, rfl⟩ | ⟨x, rfl, hc⟩
  · refine (clone9_nil w).mono ?_
    rintro e w' ⟨rfl, rfl⟩
    exact ⟨none, 0, rfl, .inl ⟨rfl, rfl, rfl⟩, But.refl _ _⟩
  · refine (clone9_some x n c zs hn w hc).mono ?_
    rintro e w' ⟨rfl, hb, hcells⟩
    exact ⟨_, n, rfl, .inr ⟨_, rfl, hcells⟩, hb⟩

/-! ### function 10 -/
theorem clone10_nil (w : World) : Calls Trym.prog 10 #[.slice none 0 0] w fun e w' => e = .returned (.slice none 0 0) ∧ w' = w := by
  have q := q24
  go_enter Trym.func10, Trym.ntmps10
  go_wp2
  go_ret
  exact ⟨rfl, rfl⟩

set_option maxHeartbeats 400000 in
theorem clone10_some (x : Addr) (n c : Nat) (zs : Nat → Int) (hn : n ≤ 131072) (w : World) (hc : ∀ i, i < n → w.cell? (x.add i) = some (Value.int .i64 (zs i))) :
    Calls Trym.prog 10 #[.slice (some x) n c] w fun e w' => e = .returned (.slice (some ⟨w.heap.size, 0, none⟩) n n) ∧ But w w' (fun _ => False) ∧ ∀ i, i < n → w'.cell? ⟨w.heap.size, i, none⟩ = some (Value.int .i64 (zs i)) := by
  have q := q24
  obtain ⟨i0, hi, hz0, hz1, hz2⟩ := info_parts info2
  go_enter Trym.func10, Trym.ntmps10
  go_wp2_with (first
      | (at_make; refine wpList_make_full _ rfl _ _ 24 rfl w.heap.size 2 i0 (.int .i64 0) 1 Trym.underlying24 hi hz0 hz1 _ _ _ _ n rfl rfl rfl rfl (by rw [hz2]; omega) (by unfold maxLen; omega) (Nat.le_refl _) ?_; intro w1 hown hgrow)
      | go_in)
  go_loopw [4] (fun i wr => ∃ k : Nat, k ≤ n ∧ i = .int .i64 k ∧ But w wr (fun _ => False) ∧ ∃ cur, wr.heap[w.heap.size]? = some (.cells cur 2 (0, 0)) ∧ cur.size = n ∧ ∀ i, i < k → cur[i]? = some (Value.int .i64 (zs i)))
      (fun i _ => n - (intOf i).toNat)
  case atStart =>
    obtain ⟨cur, h1, h2⟩ := made_row hown
    exact ⟨0, Nat.zero_le _, rfl, (But.grown hgrow).mono (fun i _ h => by simp at h), cur, h1, by simpa using h2, fun i hi => absurd hi (Nat.not_lt_zero _)⟩
  case round =>
    obtain ⟨k, hk, rfl, hb, cur, hg, hs, hcur⟩ := hrel
    by_cases hlt : k < n
    · have hck : wr.cell? (x.add k) = some (Value.int .i64 (zs k)) := hb.cell (hc k hlt) (fun h => h)
      obtain ⟨old, hold⟩ : ∃ old, wr.cell? ⟨w.heap.size, k, none⟩ = some old := ⟨_, cell_row hg (Array.getElem?_eq_getElem (by omega))⟩
      have hff : wr.frozen? ⟨w.heap.size, k, none⟩ = false := frozen_of_row wr _ k _ _ hg
      have HR := tuck (round_row (V := fun i => Value.int .i64 (zs i)) hg hs hlt hcur)
      have HB := tuck hb
      clear hc hcur hs hg hb hown hgrow
      go_wp2
      go_roundw
      case rel => exact ⟨k + 1, by omega, by go_num, HB.out.trans (But.setCell _ _ _) (fun i hi e => by simp only at e; omega), HR.out⟩
      case measure => simp [intOf]; omega
    · obtain rfl : k = n := by omega
      have HR := tuck hcur
      have HG := tuck hg
      have HB := tuck hb
      clear hc hcur hs hg hb hown hgrow
      go_wp2
      go_ret
      exact ⟨rfl, HB.out, fun i hi => cell_row HG.out (HR.out i hi)⟩

theorem clone10 (a : Option Addr) (n c : Nat) (zs : Nat → Int) (hn : n ≤ 131072) (w : World) (h : RowIn w a n c (fun i => Value.int .i64 (zs i))) :
    Calls Trym.prog 10 #[.slice a n c] w fun e w' => ∃ a' c', e = .returned (.slice a' n c') ∧ RowOwn w' a' n c' (fun i => Value.int .i64 (zs i)) ∧ But w w' (fun _ => False) := by
  rcases h with ⟨rfl, rfl, rfl⟩ | ⟨x, rfl, hc⟩
  · refine (clone10_nil w).mono ?_
    rintro e w' ⟨rfl, rfl⟩
    exact ⟨none, 0, rfl, .inl ⟨rfl, rfl, rfl⟩, But.refl _ _⟩
  · refine (clone10_some x n c zs hn w hc).mono ?_
    rintro e w' ⟨rfl, hb, hcells⟩
    exact ⟨_, n, rfl, .inr ⟨_, rfl, hcells⟩, hb⟩

end Go.Proofs.Qxb6603458aMods
