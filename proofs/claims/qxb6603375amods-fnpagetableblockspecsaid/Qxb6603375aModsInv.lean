import Derived.Test.Qxb6603375aModsMake
import Derived.Test.Qxb6603375aModsReads
import Derived.Test.Qxb6603375aModsBlock
namespace Go.Proofs.Qxb6603375aMods
open Go.RowKit Go.Maps

/-! ### the slices of the law, nil or not -/
/-- A slice of keys that the call owns, nil or not. -/
def Keys (w : World) (a : Option Addr) (n c : Nat) (zs : Nat → Int) : Prop :=
  (a = none ∧ n = 0 ∧ c = 0) ∨ ∃ g, a = some ⟨g, 0, none⟩ ∧ ∀ i, i < n → w.cell? ⟨g, i, none⟩ = some (.int .u64 (zs i))

/-- A slice of integers that came in, nil or not. -/
def KeysIn (w : World) (a : Option Addr) (n c : Nat) (zs : Nat → Int) : Prop :=
  (a = none ∧ n = 0 ∧ c = 0) ∨ ∃ x, a = some x ∧ ∀ i, i < n → w.cell? (x.add i) = some (.int .u64 (zs i))

def CallsOwn (w : World) (a : Option Addr) (n c : Nat) (ids : Nat → Int) (adds : Nat → Bool) : Prop :=
  (a = none ∧ n = 0 ∧ c = 0) ∨ ∃ g, a = some ⟨g, 0, none⟩ ∧ ∀ i, i < n → w.cell? ⟨g, i * 2, none⟩ = some (.int .u64 (ids i)) ∧ w.cell? ⟨g, i * 2 + 1, none⟩ = some (.bool (adds i))

def CallsIn (w : World) (a : Option Addr) (n c : Nat) (ids : Nat → Int) (adds : Nat → Bool) : Prop :=
  (a = none ∧ n = 0 ∧ c = 0) ∨ ∃ x, a = some x ∧ ∀ i, i < n → w.cell? (x.add (i * 2)) = some (.int .u64 (ids i)) ∧ w.cell? (x.add (i * 2 + 1)) = some (.bool (adds i))

theorem But.cell {w w' : World} {may : Nat → Prop} (h : But w w' may) {a : Addr} {v : Value} (hc : w.cell? a = some v) (hm : ¬ may a.block) : w'.cell? a = some v := by
  rw [World.cell?_of_block (w := w) (h.block _ (World.block_lt_of_cell? _ _ hc) hm)]
  exact hc

theorem clone_any (a : Option Addr) (n c : Nat) (zs : Nat → Int) (hn : n ≤ 100000) (w : World) (h : KeysIn w a n c zs) :
    Calls Trym.prog 18 #[.slice a n c] w fun e w' => ∃ a' c', e = .returned (.slice a' n c') ∧ Keys w' a' n c' zs ∧ But w w' (fun _ => False) := by
  rcases h with ⟨rfl, rfl, rfl⟩ | ⟨x, rfl, hc⟩
  · refine (clone_nil w).mono ?_
    rintro e w' ⟨rfl, rfl⟩
    exact ⟨none, 0, rfl, .inl ⟨rfl, rfl, rfl⟩, But.refl _ _⟩
  · refine (clone_some x n c zs hn w hc).mono ?_
    rintro e w' ⟨rfl, hb, _, hcells⟩
    exact ⟨_, n, rfl, .inr ⟨_, rfl, hcells⟩, hb⟩

theorem ccalls_any (a : Option Addr) (n c : Nat) (ids : Nat → Int) (adds : Nat → Bool) (hn : n ≤ 100000) (w : World) (h : CallsIn w a n c ids adds) :
    Calls Trym.prog 19 #[.slice a n c] w fun e w' => ∃ a' c', e = .returned (.slice a' n c') ∧ CallsOwn w' a' n c' ids adds ∧ But w w' (fun _ => False) := by
  rcases h with ⟨rfl, rfl, rfl⟩ | ⟨x, rfl, hc⟩
  · refine (ccalls_nil w).mono ?_
    rintro e w' ⟨rfl, rfl⟩
    exact ⟨none, 0, rfl, .inl ⟨rfl, rfl, rfl⟩, But.refl _ _⟩
  · refine (ccalls_some x n c ids adds hn w hc).mono ?_
    rintro e w' ⟨rfl, hb, _, hcells⟩
    exact ⟨_, n, rfl, .inr ⟨_, rfl, hcells⟩, hb⟩

theorem table_any (a : Option Addr) (n c : Nat) (zs : Nat → Int) (t : Int) (hn : n ≤ 100000) (w : World) (h : Keys w a n c zs) (hw : ∀ i, i < n → (Lit.int .u64 (zs i)).wf = true) :
    Calls Trym.prog 20 #[.slice a n c, .int .u64 t] w fun e w' => e = .returned (.tuple #[.pointer (some ⟨w.heap.size + 1, 0, none⟩), .slice (some ⟨w.heap.size + 2, 0, none⟩) n n]) ∧ Made w w' zs n t n := by
  rcases h with ⟨rfl, rfl, rfl⟩ | ⟨g, rfl, hc⟩
  · exact table_nil t zs w
  · exact table_row g n c zs t hn w hc hw

theorem last_any (a : Option Addr) (n c : Nat) (zs : Nat → Int) (key : Int) (hn : n ≤ 100000) (w : World) (h : Keys w a n c zs) :
    Calls Trym.prog 23 #[.slice a n c, .int .u64 key] w fun e w' => w' = w ∧ ((e = .returned (.int .i64 (-1)) ∧ ∀ j, j < n → zs j ≠ key) ∨ ∃ i : Nat, i < n ∧ zs i = key ∧ (∀ j, i < j → j < n → zs j ≠ key) ∧ e = .returned (.int .i64 i)) := by
  rcases h with ⟨rfl, rfl, rfl⟩ | ⟨g, rfl, hc⟩
  · refine (last_nil key w).mono ?_
    rintro e w' ⟨rfl, rfl⟩
    exact ⟨rfl, .inl ⟨rfl, fun j hj => absurd hj (Nat.not_lt_zero _)⟩⟩
  · exact last_row g n c zs key hn w hc

theorem index_any (base : Nat) (v : Value) (lk : List Int) (key : Int) (hn : lk.length ≤ 100000) (w : World) (h : w.ownsRow base 38 1 v lk.length (lk.map (Value.int .u64))) :
    Calls Trym.prog 22 #[v, .int .u64 key] w fun e w' => w' = w ∧ ((e = .returned (.int .i64 (-1)) ∧ key ∉ lk) ∨ ∃ i : Nat, lk[i]? = some key ∧ e = .returned (.int .i64 i)) := by
  rcases h.2 with ⟨rfl, h0⟩ | ⟨g, cap, cur, rfl, _, hg, hnc, _, hcs, htake⟩
  · refine (index_nil key w).mono ?_
    rintro e w' ⟨rfl, rfl⟩
    have : lk = [] := List.eq_nil_of_length_eq_zero h0
    exact ⟨rfl, .inl ⟨rfl, by simp [this]⟩⟩
  · refine (index_row g lk.length cap (fun i => lk.getD i 0) key hn w (fun i hi => ?_)).mono ?_
    · rw [cell_of_row w g i cur 38 (0, 0) hg]
      have e1 : cur.toList[i]? = (lk.map (Value.int .u64))[i]? := by
        rw [← htake, List.getElem?_take, if_pos (by omega)]
      rw [Array.getElem?_toList] at e1
      rw [e1]
      simp [hi, List.getD]
    · rintro e w' ⟨rfl, ⟨rfl, hno⟩ | ⟨i, hi, hq, rfl⟩⟩
      · refine ⟨rfl, .inl ⟨rfl, fun hmem => ?_⟩⟩
        obtain ⟨j, hj⟩ := List.getElem?_of_mem hmem
        have hjl := (List.getElem?_eq_some_iff.1 hj).1
        exact hno j hjl (by simp [List.getD, hj])
      · refine ⟨rfl, .inr ⟨i, ?_, rfl⟩⟩
        simp only [List.getD] at hq
        rw [List.getElem?_eq_getElem hi] at hq ⊢
        simpa using hq

/-! ### the loop's state -/
structure Core (wS wr : World) (T M S n : Nat) (zs : Nat → Int) (nm : Nat) (lk : List Int) (lb : List Nat) (f : Int → Option Nat) (last : Option Nat) (t : Int) : Prop where
  tab : Tab wr T M nm f last t
  hT : T < wS.heap.size
  hM : M < wS.heap.size
  len : lk.length = lb.length
  learned : ∀ (j : Nat) (x : Int) (b : Nat), lk[j]? = some x → lb[j]? = some b → f x = some b
  keys : ∀ i, i < n → (∀ j, i < j → j < n → zs j ≠ zs i) → f (zs i) = some (S + 1 + i)
  fresh : ∀ x, x ∉ lk → (∀ j, j < n → zs j ≠ x) → f x = none
  pages : ∀ b, b ∈ lb → wr.heap[b]? = some (.cells PB 74 (0, 0))
  stored : ∀ i, i < n → wr.heap[S + 1 + i]? = some (.cells PB 74 (0, 0))
  but : But wS wr (fun k => k = T ∨ k = M)

def ptrs (lb : List Nat) : List Value := lb.map fun b => .pointer (some ⟨b, 0, none⟩)

section
variable {wS wr w' : World} {T M S n : Nat} {zs : Nat → Int} {nm : Nat} {lk : List Int} {lb : List Nat} {f : Int → Option Nat} {last : Option Nat} {t : Int}

/-- Blocks that the loop has made, other than page blocks, may be written. -/
theorem Core.move (h : Core wS wr T M S n zs nm lk lb f last t) {may : Nat → Prop} (hb : But wr w' may) (hm : ∀ k, k < wr.heap.size → may k → wS.heap.size ≤ k ∧ ∀ cur, wr.heap[k]? ≠ some (.cells cur 74 (0, 0))) : Core wS w' T M S n zs nm lk lb f last t := by
  have hTl := Nat.lt_of_lt_of_le h.hT h.but.size
  have hMl := Nat.lt_of_lt_of_le h.hM h.but.size
  have hpage : ∀ b : Nat, wr.heap[b]? = some (Obj.cells PB 74 (0, 0)) → w'.heap[b]? = some (Obj.cells PB 74 (0, 0)) := fun b hbk => by
    have hbl := (Array.getElem?_eq_some_iff.1 hbk).1
    rw [hb.block b hbl (fun e => (hm b hbl e).2 _ hbk)]
    exact hbk
  refine ⟨h.tab.kept (hb.block T hTl fun e => ?_) (hb.block M hMl fun e => ?_), h.hT, h.hM, h.len, h.learned, h.keys, h.fresh, fun b hbm => hpage b (h.pages b hbm), fun i hi => hpage _ (h.stored i hi), h.but.trans hb fun i hi e => ?_⟩
  · have := (hm T hTl e).1; have := h.hT; omega
  · have := (hm M hMl e).1; have := h.hM; omega
  · have := (hm i (Nat.lt_of_lt_of_le hi h.but.size) e).1; omega

/-- The table was asked for a key that it holds. -/
theorem Core.asked (h : Core wS wr T M S n zs nm lk lb f last t) {b : Nat} {key : Int} (hT : Tab w' T M nm f (some b) key) (hb : But wr w' (fun k => k = T)) : Core wS w' T M S n zs nm lk lb f (some b) key := by
  have hpage : ∀ b : Nat, wr.heap[b]? = some (Obj.cells PB 74 (0, 0)) → w'.heap[b]? = some (Obj.cells PB 74 (0, 0)) := fun b hbk => by
    have hbl := (Array.getElem?_eq_some_iff.1 hbk).1
    rw [hb.block b hbl (fun e => by
      have := h.tab.row
      rw [← e, hbk] at this
      simp at this)]
    exact hbk
  exact ⟨hT, h.hT, h.hM, h.len, h.learned, h.keys, h.fresh, fun b hbm => hpage b (h.pages b hbm), fun i hi => hpage _ (h.stored i hi), h.but.trans hb fun i _ e => Or.inl e⟩

/-- A key is learned whose block the table holds. -/
theorem Core.learn (h : Core wS wr T M S n zs nm lk lb f last t) {b : Nat} {key : Int} (hf : f key = some b) (hp : wr.heap[b]? = some (.cells PB 74 (0, 0))) : Core wS wr T M S n zs nm (lk ++ [key]) (lb ++ [b]) f last t := by
  refine ⟨h.tab, h.hT, h.hM, by simp [h.len], ?_, h.keys, fun x hx hz => h.fresh x (fun e => hx (by simp [e])) hz, ?_, h.stored, h.but⟩
  · intro j x b' hx hb'
    rw [List.getElem?_append] at hx hb'
    by_cases hj : j < lk.length
    · rw [if_pos hj] at hx
      rw [if_pos (by rw [← h.len]; exact hj)] at hb'
      exact h.learned j x b' hx hb'
    · rw [if_neg hj] at hx
      rw [if_neg (by rw [← h.len]; exact hj), ← h.len] at hb'
      have e0 : j - lk.length = 0 := by
        have := (List.getElem?_eq_some_iff.1 hx).1
        simp at this
        omega
      rw [e0] at hx hb'
      simp at hx hb'
      subst hx; subst hb'
      exact hf
  · intro b' hb'
    rcases List.mem_append.1 hb' with h1 | h1
    · exact h.pages b' h1
    · simp at h1; subst h1; exact hp

/-- The table was asked for a key that it does not hold, and added it: the key is learned. -/
theorem Core.added (h : Core wS wr T M S n zs nm lk lb f last t) {key : Int} (hno : key ∉ lk) (hz : ∀ j, j < n → zs j ≠ key)
    (hT : Tab w' T M (nm + 1) (putF f key wr.heap.size) (some wr.heap.size) key) (hp : w'.heap[wr.heap.size]? = some (.cells PB 74 (0, 0))) (hb : But wr w' (fun k => k = T ∨ k = M)) :
    Core wS w' T M S n zs (nm + 1) (lk ++ [key]) (lb ++ [wr.heap.size]) (putF f key wr.heap.size) (some wr.heap.size) key := by
  have hpage : ∀ b : Nat, wr.heap[b]? = some (Obj.cells PB 74 (0, 0)) → w'.heap[b]? = some (Obj.cells PB 74 (0, 0)) := fun b hbk => by
    have hbl := (Array.getElem?_eq_some_iff.1 hbk).1
    rw [hb.block b hbl (fun e => by
      rcases e with e | e
      · have := h.tab.row
        rw [← e, hbk] at this
        simp at this
      · obtain ⟨es, clock, h1⟩ := h.tab.map.isMap
        rw [← e, hbk] at h1
        cases h1)]
    exact hbk
  refine ⟨hT, h.hT, h.hM, by simp [h.len], ?_, ?_, ?_, ?_, fun i hi => hpage _ (h.stored i hi), h.but.trans hb fun i _ e => e⟩
  · intro j x b' hx hb'
    rw [List.getElem?_append] at hx hb'
    unfold putF
    by_cases hj : j < lk.length
    · rw [if_pos hj] at hx
      rw [if_pos (by rw [← h.len]; exact hj)] at hb'
      rw [if_neg (fun e => hno (by rw [← e]; exact List.mem_of_getElem? hx))]
      exact h.learned j x b' hx hb'
    · rw [if_neg hj] at hx
      rw [if_neg (by rw [← h.len]; exact hj), ← h.len] at hb'
      have e0 : j - lk.length = 0 := by
        have := (List.getElem?_eq_some_iff.1 hx).1
        simp at this
        omega
      rw [e0] at hx hb'
      simp at hx hb'
      subst hx; subst hb'
      rw [if_pos rfl]
  · intro i hi hl
    unfold putF
    rw [if_neg (hz i hi)]
    exact h.keys i hi hl
  · intro x hx hzx
    unfold putF
    rw [if_neg (fun e => hx (by simp [e]))]
    exact h.fresh x (fun e => hx (by simp [e])) hzx
  · intro b' hb'
    rcases List.mem_append.1 hb' with h1 | h1
    · exact hpage b' (h.pages b' h1)
    · simp at h1; subst h1; exact hp

/-- A row stays while blocks below its base are written. -/
theorem row_but {w w' : World} {base e s n : Nat} {v : Value} {xs : List Value} {may : Nat → Prop} (h : w.ownsRow base e s v n xs) (hb : But w w' may) (hm : ∀ k, may k → k < base) : w'.ownsRow base e s v n xs := by
  refine ⟨h.1, ?_⟩
  rcases h.2 with h2 | ⟨g, cap, cur, hv, hg, hh, r⟩
  · exact .inl h2
  · refine .inr ⟨g, cap, cur, hv, hg, ?_, r⟩
    rw [hb.block g (Array.getElem?_eq_some_iff.1 hh).1 (fun e => by have := hm g e; omega)]
    exact hh

theorem pb_cell {w : World} {b : Nat} (h : w.heap[b]? = some (.cells PB 74 (0, 0))) (i : Nat) (hi : i < 256) : w.cell? ⟨b, i, none⟩ = some (.pointer none) := by
  refine cell_row h ?_
  unfold PB
  rw [Array.getElem?_replicate, if_pos hi]

/-- An element of the row of blocks. -/
theorem row_cell {wx : World} {base : Nat} {v : Value} {lb : List Nat} {j b : Nat} (h : wx.ownsRow base 49 1 v lb.length (ptrs lb)) (hj : j < lb.length) (hb : lb[j]? = some b) :
    ∃ g cap, v = .slice (some ⟨g, 0, none⟩) lb.length cap ∧ wx.cell? ⟨g, j, none⟩ = some (.pointer (some ⟨b, 0, none⟩)) := by
  rcases h.2 with ⟨_, h0⟩ | ⟨g, cap, cur, rfl, _, hg, hnc, _, hcs, htake⟩
  · omega
  · refine ⟨g, cap, rfl, ?_⟩
    rw [cell_of_row wx g j cur 49 (0, 0) hg]
    have e1 : cur.toList[j]? = (ptrs lb)[j]? := by
      rw [← htake, List.getElem?_take, if_pos (by omega)]
    rw [Array.getElem?_toList] at e1
    rw [e1]
    simp [ptrs, hb]

/-- Behind the append to the keys the row of blocks is as it was. -/
theorem mid10 {wx wa : World} {base : Nat} {v9 v10 : Value} {xs ys : List Value} {n9 n10 : Nat} {x : Value} (h9 : wx.ownsRow base 38 1 v9 n9 xs) (h10 : wx.ownsRow base 49 1 v10 n10 ys) (g9 : (wx.alloc (.cells #[x] 38)).grownBy wa v9.ownBlock) : wa.ownsRow base 49 1 v10 n10 ys :=
  (h10.alloc _).kept g9 (own_ne (h10.alloc (.cells #[x] 38)) (h9.alloc _) (by decide))

/-- An append to a row of the loop's own that is no page block. -/
theorem Core.appended {wx wa : World} (h : Core wS wx T M S n zs nm lk lb f last t) {e : Nat} {v : Value} {m : Nat} {xs : List Value} {x : Value} (he : e ≠ 74) (hr : wx.ownsRow wS.heap.size e 1 v m xs) (g : (wx.alloc (.cells #[x] e)).grownBy wa v.ownBlock) : Core wS wa T M S n zs nm lk lb f last t := by
  have h1 : Core wS (wx.alloc (.cells #[x] e)) T M S n zs nm lk lb f last t := h.move (But.alloc wx _ (fun _ => False)) (fun k _ h => h.elim)
  refine h1.move (But.grown g) fun k hk e1 => ⟨((hr.alloc (.cells #[x] e)).lt k e1.symm).1, fun cur hc => ?_⟩
  exact block_ne (hr.alloc (.cells #[x] e)) hc (fun cur' e2 => by cases e2; exact he rfl) e1

theorem learn_step {wx wa wb : World} {v9 v10 v9' v10' : Value} {key : Int} {b : Nat} (h : Core wS wx T M S n zs nm (lk ++ [key]) (lb ++ [b]) f last t)
    (hr9 : wx.ownsRow wS.heap.size 38 1 v9 lk.length (lk.map (Value.int .u64))) (hr10 : wx.ownsRow wS.heap.size 49 1 v10 lb.length (ptrs lb))
    (h9 : wa.ownsRow wS.heap.size 38 1 v9' (lk.length + 1) (lk.map (Value.int .u64) ++ [.int .u64 key])) (g9 : (wx.alloc (.cells #[.int .u64 key] 38)).grownBy wa v9.ownBlock)
    (h10 : wb.ownsRow wS.heap.size 49 1 v10' (lb.length + 1) (ptrs lb ++ [.pointer (some ⟨b, 0, none⟩)])) (g10 : (wa.alloc (.cells #[.pointer (some ⟨b, 0, none⟩)] 49)).grownBy wb v10.ownBlock) :
    Core wS wb T M S n zs nm (lk ++ [key]) (lb ++ [b]) f last t ∧ wb.ownsRow wS.heap.size 38 1 v9' (lk ++ [key]).length ((lk ++ [key]).map (Value.int .u64)) ∧ wb.ownsRow wS.heap.size 49 1 v10' (lb ++ [b]).length (ptrs (lb ++ [b])) := by
  have m10 := mid10 hr9 hr10 g9
  refine ⟨(h.appended (by decide) hr9 g9).appended (by decide) m10 g10, ?_, ?_⟩
  · have := (h9.alloc (.cells #[.pointer (some ⟨b, 0, none⟩)] 49)).kept g10 (own_ne h9 m10 (by decide))
    simpa using this
  · simpa [ptrs] using h10

/-- The start. -/
theorem core_start {w2 : World} (h : Made w2 wS zs n t n) : Core wS wS (w2.heap.size + 1) w2.heap.size (w2.heap.size + 2) n zs n [] [] (fill zs (w2.heap.size + 2) n) none t := by
  have := h.size
  exact ⟨h.tab, by omega, by omega, rfl, fun j x b hx => by simp at hx, fun i hi hl => fill_last hi hl, fun x _ hz => fill_none hz, fun b hb => by simp at hb, h.blocks, But.refl _ _⟩
end

end Go.Proofs.Qxb6603375aMods
