import Derived.Test.Qxb6603375aModsParts
namespace Go.Proofs.Qxb6603375aMods
open Go.RowKit Go.Maps

/-! ### (*pageTable).block -/
set_option maxHeartbeats 400000 in
/-- The table holds the key: its block comes back, and is the last one from now on. -/
theorem block_hit (T M n : Nat) (f : Int → Option Nat) (id : Int) (add : Bool) (b : Nat) (w : World) (h : Tab w T M n f (some b) (IntKind.u64.wrap (id.tdiv 256))) :
    Calls Trym.prog 27 #[.pointer (some ⟨T, 0, none⟩), .int .u64 id, .bool add] w fun e w' => e = .returned (.pointer (some ⟨b, 0, none⟩)) ∧ w' = w := by
  have hT := h.row
  have c1 : w.cell? ⟨T, 1, none⟩ = some (.pointer (some ⟨b, 0, none⟩)) := by simp [World.cell?, hT, ptrV]
  have c2 : w.cell? ⟨T, 2, none⟩ = some (.int .u64 (IntKind.u64.wrap (id.tdiv 256))) := by simp [World.cell?, hT]
  clear hT h
  go_enter Trym.func27, Trym.ntmps27
  go_wp2
  go_ret
  exact ⟨rfl, rfl⟩

set_option maxHeartbeats 400000 in
theorem block_found (T M n : Nat) (f : Int → Option Nat) (last : Option Nat) (t id : Int) (add : Bool) (b : Nat) (w : World) (h : Tab w T M n f last t)
    (hf : f (IntKind.u64.wrap (id.tdiv 256)) = some b) (hne : last = none ∨ (t == IntKind.u64.wrap (id.tdiv 256)) = false) :
    Calls Trym.prog 27 #[.pointer (some ⟨T, 0, none⟩), .int .u64 id, .bool add] w fun e w' => e = .returned (.pointer (some ⟨b, 0, none⟩)) ∧ w' = (w.setCell ⟨T, 1, none⟩ (.pointer (some ⟨b, 0, none⟩))).setCell ⟨T, 2, none⟩ (.int .u64 (IntKind.u64.wrap (id.tdiv 256))) := by
  have hT := h.row
  have c0 : w.cell? ⟨T, 0, none⟩ = some (.map (some M)) := by simp [World.cell?, hT]
  have c2 : w.cell? ⟨T, 2, none⟩ = some (.int .u64 t) := by simp [World.cell?, hT]
  have f1 : w.frozen? ⟨T, 1, none⟩ = false := frozen_of_row w T 1 _ 71 hT
  have f2 : w.frozen? ⟨T, 2, none⟩ = false := frozen_of_row w T 2 _ 71 hT
  have hl := h.map.look (wf_key id)
  rw [hf] at hl
  have hl' : (Instr.lookup 69 (.map (some M)) (.int .u64 (IntKind.u64.wrap (id.tdiv 256))) false).run Trym.prog w = .ok (.pointer (some ⟨b, 0, none⟩)) w := hl
  clear hl hf
  rcases last with _ | bl
  · have c1 : w.cell? ⟨T, 1, none⟩ = some (.pointer none) := by simp [World.cell?, hT, ptrV]
    clear hT h hne
    go_enter Trym.func27, Trym.ntmps27
    go_wp2
    go_ret
    exact ⟨rfl, rfl⟩
  · have c1 : w.cell? ⟨T, 1, none⟩ = some (.pointer (some ⟨bl, 0, none⟩)) := by simp [World.cell?, hT, ptrV]
    have hq : (t == IntKind.u64.wrap (id.tdiv 256)) = false := by simpa using hne
    clear hT h hne
    go_enter Trym.func27, Trym.ntmps27
    go_wp2
    go_ret
    exact ⟨rfl, rfl⟩

set_option maxHeartbeats 400000 in
theorem block_none (T M n : Nat) (f : Int → Option Nat) (last : Option Nat) (t id : Int) (w : World) (h : Tab w T M n f last t)
    (hf : f (IntKind.u64.wrap (id.tdiv 256)) = none) :
    Calls Trym.prog 27 #[.pointer (some ⟨T, 0, none⟩), .int .u64 id, .bool false] w fun e w' => e = .returned (.pointer none) ∧ w' = w := by
  have hT := h.row
  have c0 : w.cell? ⟨T, 0, none⟩ = some (.map (some M)) := by simp [World.cell?, hT]
  have c2 : w.cell? ⟨T, 2, none⟩ = some (.int .u64 t) := by simp [World.cell?, hT]
  have hl := h.map.look (wf_key id)
  rw [hf] at hl
  have hl' : (Instr.lookup 69 (.map (some M)) (.int .u64 (IntKind.u64.wrap (id.tdiv 256))) false).run Trym.prog w = .ok (.pointer none) w := hl
  have hok := h.ok
  clear hl
  rcases last with _ | bl
  · have c1 : w.cell? ⟨T, 1, none⟩ = some (.pointer none) := by simp [World.cell?, hT, ptrV]
    clear hT h hok hf
    go_enter Trym.func27, Trym.ntmps27
    go_wp2
    go_ret
    exact ⟨rfl, rfl⟩
  · have c1 : w.cell? ⟨T, 1, none⟩ = some (.pointer (some ⟨bl, 0, none⟩)) := by simp [World.cell?, hT, ptrV]
    have hq : (t == IntKind.u64.wrap (id.tdiv 256)) = false := by
      rw [beq_eq_false_iff_ne]
      intro e
      have := hok bl rfl
      rw [e, hf] at this
      cases this
    clear hT h hok hf
    go_enter Trym.func27, Trym.ntmps27
    go_wp2
    go_ret
    exact ⟨rfl, rfl⟩

set_option maxHeartbeats 800000 in
theorem block_new (T M n : Nat) (hn : n < 100000) (f : Int → Option Nat) (last : Option Nat) (t id : Int) (w : World) (h : Tab w T M n f last t)
    (hf : f (IntKind.u64.wrap (id.tdiv 256)) = none) :
    Calls Trym.prog 27 #[.pointer (some ⟨T, 0, none⟩), .int .u64 id, .bool true] w fun e w' => e = .returned (.pointer (some ⟨w.heap.size, 0, none⟩)) ∧
      Tab w' T M (n + 1) (putF f (IntKind.u64.wrap (id.tdiv 256)) w.heap.size) (some w.heap.size) (IntKind.u64.wrap (id.tdiv 256)) ∧
      w'.heap[w.heap.size]? = some (.cells PB 74 (0, 0)) ∧ w'.heap.size = w.heap.size + 1 ∧ But w w' (fun k => k = T ∨ k = M) := by
  have hT := h.row
  have hlt : T < w.heap.size := (Array.getElem?_eq_some_iff.1 hT).1
  have c0 : w.cell? ⟨T, 0, none⟩ = some (.map (some M)) := by simp [World.cell?, hT]
  have c2 : w.cell? ⟨T, 2, none⟩ = some (.int .u64 t) := by simp [World.cell?, hT]
  have hl := h.map.look (wf_key id)
  rw [hf] at hl
  have hl' : (Instr.lookup 69 (.map (some M)) (.int .u64 (IntKind.u64.wrap (id.tdiv 256))) false).run Trym.prog w = .ok (.pointer none) w := hl
  have hok := h.ok
  have hM := h.map
  have hMT := h.ne
  have hMl := hM.lt
  -- what the end comes to
  have fin : ∀ w1 : World, MapIs w1 M (n + 1) (putF f (IntKind.u64.wrap (id.tdiv 256)) w.heap.size) → (w.alloc (.cells PB 74)).mapTurned w1 M →
      w1.heap[T]? = w.heap[T]? ∧ w1.frozen? ⟨T, 1, none⟩ = false ∧ w1.frozen? ⟨T, 2, none⟩ = false ∧
      ∀ W, W = (w1.setCell ⟨T, 1, none⟩ (.pointer (some ⟨w.heap.size, 0, none⟩))).setCell ⟨T, 2, none⟩ (.int .u64 (IntKind.u64.wrap (id.tdiv 256))) →
      Tab W T M (n + 1) (putF f (IntKind.u64.wrap (id.tdiv 256)) w.heap.size) (some w.heap.size) (IntKind.u64.wrap (id.tdiv 256)) ∧
      W.heap[w.heap.size]? = some (.cells PB 74 (0, 0)) ∧ W.heap.size = w.heap.size + 1 ∧ But w W (fun k => k = T ∨ k = M) := by
    intro w1 hM1 ht1
    have hb1 := But.turned ht1
    have e1 : w1.heap[T]? = w.heap[T]? := by
      rw [hb1.block T (by simp; omega) (fun e => hMT e.symm)]
      exact Below.heap_alloc w _ T hlt
    have hr1 := e1.trans hT
    have e2 : w1.heap[w.heap.size]? = some (.cells PB 74 (0, 0)) := by
      rw [hb1.block w.heap.size (by simp) (fun e => by omega)]
      exact heap_alloc_new w _
    have es : w1.heap.size = w.heap.size + 1 := by
      obtain ⟨_, _, _, _, _, rfl⟩ := ht1
      simp [ChangeMaps.setBlock]
    refine ⟨e1, frozen_of_row w1 T 1 _ 71 hr1, frozen_of_row w1 T 2 _ 71 hr1, ?_⟩
    rintro W rfl
    refine ⟨⟨tab_stored hr1 _ _, hM1.kept ?_, ?_⟩, ?_, by simpa using es, ?_⟩
    · rw [heap_setCell_other _ _ _ _ hMT, heap_setCell_other _ _ _ _ hMT]
    · intro b hb
      cases hb
      simp [putF]
    · have hne : w.heap.size ≠ T := by omega
      rw [heap_setCell_other _ _ _ _ hne, heap_setCell_other _ _ _ _ hne]
      exact e2
    · refine (((But.alloc w (.cells PB 74) _).trans hb1 (fun i _ e => Or.inr e)).trans (But.setCell w1 _ _) (fun i _ e => Or.inl e)).trans (But.setCell _ _ _) (fun i _ e => Or.inl e)
  clear hl
  rcases last with _ | bl
  · have c1 : w.cell? ⟨T, 1, none⟩ = some (.pointer none) := by simp [World.cell?, hT, ptrV]
    have HT : Hid (w.heap[T]? = some (.cells #[.map (some M), ptrV none, .int .u64 t] 71 (0, 0))) := hT
    have Hfin : Hid _ := fin
    clear hT h hok hf fin
    go_enter Trym.func27, Trym.ntmps27
    go_wp2_with (first
      | (with_reducible refine wpList_alloc74 _ rfl rfl ?_)
      | (at_mapUpdate; refine wpList_upd _ rfl _ _ _ rfl M n f _ w.heap.size rfl rfl rfl (hM.alloc _) (by unfold maxLen; omega) (wf_key id) ?_))
    intro w1 hM1 ht1
    obtain ⟨e1, f1, f2, hW⟩ := Hfin.out w1 hM1 ht1
    have HW : Hid _ := hW
    clear hW hM1 ht1
    have d1 : w1.cell? ⟨T, 1, none⟩ = some (.pointer none) := by rw [World.cell?_of_block (w := w) e1]; exact c1
    have d2 : w1.cell? ⟨T, 2, none⟩ = some (.int .u64 t) := by rw [World.cell?_of_block (w := w) e1]; exact c2
    clear e1 c0 c1 c2 hl'
    go_wp2
    go_ret
    exact ⟨rfl, HW.out _ rfl⟩
  · have c1 : w.cell? ⟨T, 1, none⟩ = some (.pointer (some ⟨bl, 0, none⟩)) := by simp [World.cell?, hT, ptrV]
    have hq : (t == IntKind.u64.wrap (id.tdiv 256)) = false := by
      rw [beq_eq_false_iff_ne]
      intro e
      have := hok bl rfl
      rw [e, hf] at this
      cases this
    have Hfin : Hid _ := fin
    clear hT h hok hf fin
    go_enter Trym.func27, Trym.ntmps27
    go_wp2_with (first
      | (with_reducible refine wpList_alloc74 _ rfl rfl ?_)
      | (at_mapUpdate; refine wpList_upd _ rfl _ _ _ rfl M n f _ w.heap.size rfl rfl rfl (hM.alloc _) (by unfold maxLen; omega) (wf_key id) ?_))
    intro w1 hM1 ht1
    obtain ⟨e1, f1, f2, hW⟩ := Hfin.out w1 hM1 ht1
    have HW : Hid _ := hW
    clear hW hM1 ht1
    have d1 : w1.cell? ⟨T, 1, none⟩ = some (.pointer (some ⟨bl, 0, none⟩)) := by rw [World.cell?_of_block (w := w) e1]; exact c1
    have d2 : w1.cell? ⟨T, 2, none⟩ = some (.int .u64 t) := by rw [World.cell?_of_block (w := w) e1]; exact c2
    clear e1 c0 c1 c2 hl'
    go_wp2
    go_ret
    exact ⟨rfl, HW.out _ rfl⟩

/-! ### ZZBlock -/
/-- The table holds the key. -/
theorem zzblock_some (T M n : Nat) (f : Int → Option Nat) (last : Option Nat) (t id : Int) (add : Bool) (b : Nat) (w : World) (h : Tab w T M n f last t)
    (hf : f (IntKind.u64.wrap (id.tdiv 256)) = some b) :
    Calls Trym.prog 21 #[.pointer (some ⟨T, 0, none⟩), .int .u64 id, .bool add] w fun e w' => e = .returned (.pointer (some ⟨b, 0, none⟩)) ∧
      Tab w' T M n f (some b) (IntKind.u64.wrap (id.tdiv 256)) ∧ w'.heap.size = w.heap.size ∧ But w w' (fun k => k = T) := by
  by_cases hc : last = none ∨ (t == IntKind.u64.wrap (id.tdiv 256)) = false
  · have h1 := block_found T M n f last t id add b w h hf hc
    have hb : But w ((w.setCell ⟨T, 1, none⟩ (.pointer (some ⟨b, 0, none⟩))).setCell ⟨T, 2, none⟩ (.int .u64 (IntKind.u64.wrap (id.tdiv 256)))) (fun k => k = T) :=
      (But.setCell w _ _).trans (But.setCell _ _ _) (fun i _ e => e)
    have htab : Tab ((w.setCell ⟨T, 1, none⟩ (.pointer (some ⟨b, 0, none⟩))).setCell ⟨T, 2, none⟩ (.int .u64 (IntKind.u64.wrap (id.tdiv 256)))) T M n f (some b) (IntKind.u64.wrap (id.tdiv 256)) :=
      ⟨tab_stored h.row _ _, h.map.kept (hb.block M h.map.lt h.ne), fun b' e => by cases e; exact hf⟩
    go_enter Trym.func21, Trym.ntmps21
    go_wp2_with fail
    refine h1.mono ?_
    rintro e w' ⟨rfl, rfl⟩
    clear h1 hc hf h
    go_wp2
    go_ret
    exact ⟨rfl, htab, by simp, hb⟩
  · obtain ⟨bl, rfl, ht⟩ : ∃ bl, last = some bl ∧ t = IntKind.u64.wrap (id.tdiv 256) := by
      cases last with
      | none => simp at hc
      | some bl => exact ⟨bl, rfl, by simpa using hc⟩
    subst ht
    have e : bl = b := by
      have := h.ok bl rfl
      rw [hf] at this
      cases this
      rfl
    subst e
    have h1 := block_hit T M n f id add bl w h
    go_enter Trym.func21, Trym.ntmps21
    go_wp2_with fail
    refine h1.mono ?_
    rintro e w' ⟨rfl, rfl⟩
    clear h1 hc hf
    go_wp2
    go_ret
    exact ⟨rfl, h, rfl, But.refl _ _⟩

theorem zzblock_none (T M n : Nat) (f : Int → Option Nat) (last : Option Nat) (t id : Int) (w : World) (h : Tab w T M n f last t)
    (hf : f (IntKind.u64.wrap (id.tdiv 256)) = none) :
    Calls Trym.prog 21 #[.pointer (some ⟨T, 0, none⟩), .int .u64 id, .bool false] w fun e w' => e = .returned (.pointer none) ∧ w' = w := by
  have h1 := block_none T M n f last t id w h hf
  clear h hf
  go_enter Trym.func21, Trym.ntmps21
  go_wp2_with fail
  refine h1.mono ?_
  rintro e w' ⟨rfl, rfl⟩
  clear h1
  go_wp2
  go_ret
  exact ⟨rfl, rfl⟩

theorem zzblock_new (T M n : Nat) (hn : n < 100000) (f : Int → Option Nat) (last : Option Nat) (t id : Int) (w : World) (h : Tab w T M n f last t)
    (hf : f (IntKind.u64.wrap (id.tdiv 256)) = none) :
    Calls Trym.prog 21 #[.pointer (some ⟨T, 0, none⟩), .int .u64 id, .bool true] w fun e w' => e = .returned (.pointer (some ⟨w.heap.size, 0, none⟩)) ∧
      Tab w' T M (n + 1) (putF f (IntKind.u64.wrap (id.tdiv 256)) w.heap.size) (some w.heap.size) (IntKind.u64.wrap (id.tdiv 256)) ∧
      w'.heap[w.heap.size]? = some (.cells PB 74 (0, 0)) ∧ w'.heap.size = w.heap.size + 1 ∧ But w w' (fun k => k = T ∨ k = M) := by
  have h1 := block_new T M n hn f last t id w h hf
  clear h hf
  go_enter Trym.func21, Trym.ntmps21
  go_wp2_with fail
  refine h1.mono ?_
  rintro e w' ⟨rfl, hr⟩
  have Hr : Hid _ := hr
  clear h1 hr
  go_wp2
  go_ret
  exact ⟨rfl, Hr.out⟩

end Go.Proofs.Qxb6603375aMods
