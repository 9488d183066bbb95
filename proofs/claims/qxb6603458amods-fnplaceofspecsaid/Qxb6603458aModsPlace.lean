import Derived.Test.Qxb6603458aModsParts
namespace Go.Proofs.Qxb6603458aMods
open Go.RowKit Go.Maps

/-! ### placeOf -/
/-- What placeOf answers: a place that the owner holds; or, where it holds none, the least free one, or -1. -/
def PlaceOk (f : Int → Option (Int × ByteArray × Int)) (owner : ByteArray) (places : Int) (r : Int) : Prop :=
  ((Lit.int .i64 r).wf = true ∧ ∃ c, f r = some c ∧ c.2.1 = owner) ∨
  ((∀ x c, (Lit.int .i64 x).wf = true → f x = some c → c.2.1 ≠ owner) ∧
    ((0 ≤ r ∧ r < places ∧ f r = none ∧ ∀ j, 0 ≤ j → j < r → f j ≠ none) ∨ (r = -1 ∧ ∀ j, 0 ≤ j → j < places → f j ≠ none)))

theorem str_eq {a b : ByteArray} (h : a = b) : (a.toList == b.toList) = true := by subst h; simp
theorem str_ne {a b : ByteArray} (h : a ≠ b) : (a.toList == b.toList) = false := by
  rw [beq_eq_false_iff_ne]
  intro e
  rw [ByteArray.toList_eq, ByteArray.toList_eq] at e
  apply h
  obtain ⟨⟨a⟩⟩ := a
  obtain ⟨⟨b⟩⟩ := b
  simp at e
  subst e
  rfl

/-- An entry that the range hands out. -/
theorem entry_of {D : DataW Unit} {f : Int → Option (Int × ByteArray × Int)} (hD : Reads D f) {x : Int} {c : Int × ByteArray × Int} {kl : Lit} {y : DataW Unit × List MemPlace} (hkey : keyOf Trym.prog 3 (.int .i64 x) = some kl) (hv : holdElem (.agg #[.int .i64 c.1, .string c.2.1, .int .i64 c.2.2]) = some y) (hat : ∀ zd, D.atKey kl zd = y.1) :
    kl = .int .i64 x ∧ (Lit.int .i64 x).wf = true ∧ f x = some c := by
  obtain ⟨x', ex, rfl, hwx⟩ := Maps.keyOf_int_inv Trym.underlying3 hkey
  cases ex
  obtain ⟨h1, h2⟩ := hD x hwx
  have hy : y = (holdD c, []) := by
    have : holdElem (holdV c) = some y := hv
    rw [holdElem_mk] at this
    exact (Option.some.inj this).symm
  have hh : has D (.int .i64 x) = true := has_true_of_atKey hat
  rw [hh] at h1
  cases hf : f x with
  | none => rw [hf] at h1; cases h1
  | some h =>
    have := h2 h hf .nil
    rw [hat, hy] at this
    exact ⟨rfl, hwx, by rw [holdD_inj this]⟩

/-- The range's step has handed out the entry at key x. -/
structure NextIs (w w' : World) (M r n : Nat) (D : DataW Unit) (f : Int → Option (Int × ByteArray × Int)) (left : Lit → Bool) (cnt cnt' : Nat) (x : Int) (c : Int × ByteArray × Int) : Prop where
  wf : (Lit.int .i64 x).wf = true
  fx : f x = some c
  rg : w'.ranges Trym.prog 3 holdElem M r n D (fun z => left z && !z.sameKey (.int .i64 x)) cnt'
  lt : cnt' < cnt
  gr : w.grownBy w' (some r)
  sz : w'.heap.size = w.heap.size
  en : (Instr.entry (.pointer (some ⟨r, 0, none⟩))).run Trym.prog w' = .ok (.tuple #[.int .i64 x, .agg #[.int .i64 c.1, .string c.2.1, .int .i64 c.2.2]]) w'

/-- No entry is left. -/
def NoneLeft (left : Lit → Bool) : Prop := ∀ kl, left kl = false

theorem wpList_next_hold (w : World) {ops : Array Oper} {rest : List Oper} {o : Oper} {a : Act} {Q : Exit → Act → World → Prop} (hg : o.guard = none) (it : Operand) (hop : o.op = Op.next it false) (M r n : Nat) (D : DataW Unit) (f : Int → Option (Int × ByteArray × Int)) (left : Lit → Bool) (cnt : Nat)
    (hD : Reads D f) (hit : a.eval it = .pointer (some ⟨r, 0, none⟩)) (h : w.ranges Trym.prog 3 holdElem M r n D left cnt)
    (hDone : NoneLeft left → wpList Trym.prog ops Q rest (a.put o.dst (.tuple #[.bool false])) w)
    (hMore : ∀ (x p : Int) (s : ByteArray) (t : Int) (w' : World) (cnt' : Nat), NextIs w w' M r n D f left cnt cnt' x (p, s, t) → wpList Trym.prog ops Q rest (a.put o.dst (.tuple #[.bool true, .int .i64 x, .agg #[.int .i64 p, .string s, .int .i64 t]])) w') :
    wpList Trym.prog ops Q (o :: rest) a w :=
  wpList_next_ranges (α := Int) (β := Int × ByteArray × Int) w hg it hop 3 law3 holdElem (fun x => .int .i64 x) (fun c => .agg #[.int .i64 c.1, .string c.2.1, .int .i64 c.2.2]) (fun key kl hkey => by obtain ⟨x, rfl, _⟩ := Maps.keyOf_int_inv Trym.underlying3 hkey; exact ⟨x, rfl⟩) (fun v y hv => by obtain ⟨c, rfl, _⟩ := holdElem_shape hv; exact ⟨c, rfl⟩) M r n D left cnt hit h
    (fun _ hl => hDone hl) (fun x c kl y w' cnt' hkey hlk hv hat hrg hlt hgr hsz hen => by
      obtain ⟨rfl, hwx, hfx⟩ := entry_of hD hkey hv hat
      exact hMore x c.1 c.2.1 c.2.2 w' cnt' ⟨hwx, hfx, hrg, hlt, hgr, hsz, hen⟩)

set_option maxHeartbeats 1000000 in
theorem place_some (p : Option Addr) (M n : Nat) (f : Int → Option (Int × ByteArray × Int)) (owner : ByteArray) (places : Int) (hp : places ≤ 65536) (w : World) (hM : MapIs w M n f) :
    Calls Trym.prog 19 #[.agg #[.pointer p, .map (some M)], .string owner, .int .i64 places] w fun e w' => ∃ r, e = .returned (.int .i64 r) ∧ PlaceOk f owner places r ∧ But w w' (fun _ => False) := by
  obtain ⟨D, hown, hD⟩ := hM
  have HD := tuck hD
  have hMl : M < w.heap.size := hown.lt
  have HO := tuck (hown.alloc (.cells #[.pointer p, .map (some M)] 41))
  clear hown hD
  go_enter Trym.func19, Trym.ntmps19
  go_wp2_with (first
    | (at_range; refine wpList_range_own _ rfl _ 39 rfl 3 47 law3 Trym.underlying39 _ M n D rfl HO.out ?_; intro w0 hrg0 hg0 hs0)
    | go_in)
  go_frame
  have e1 : (w.alloc (Obj.cells #[Value.pointer p, Value.map (some M)] 41)).heap.size = w.heap.size + 1 := by simp
  rw [e1] at hrg0 ⊢
  have HB0 := tuck ((But.grown hg0).none (fun k _ e => by simp at e))
  have HR0 := tuck hrg0
  have HB1 := tuck (But.alloc w (.cells #[.pointer p, .map (some M)] 41) (fun _ => False))
  have H1 := tuck (MapKept.heap_alloc w (.cells #[.pointer p, .map (some M)] 41)).1
  have HW1 := tuck e1
  clear hrg0 hg0 hs0 e1
  generalize w.alloc (.cells #[.pointer p, .map (some M)] 41) = W1 at HB0 HB1 H1 HO HW1
  go_loopw [15] (fun _ wr => ∃ (left : Lit → Bool) (cnt : Nat), wr.ranges Trym.prog 3 holdElem M (w.heap.size + 1) n D left cnt ∧ But W1 wr (fun _ => False) ∧ ∀ x c, (Lit.int .i64 x).wf = true → f x = some c → left (.int .i64 x) = false → c.2.1 ≠ owner)
    (fun _ wr => wr.rangeLeft M (w.heap.size + 1))
  case atStart =>
    exact ⟨_, _, HR0.out, HB0.out, fun x c hx hf hl => by rw [(HD.out x hx).1, hf] at hl; cases hl⟩
  case round =>
    obtain ⟨left, cnt, hrg, hb, hno⟩ := hrel
    have HRG := tuck hrg
    have HB := tuck hb
    have HN := tuck hno
    clear hrg hb hno
    go_wp2_with (first
      | (at_next; refine wpList_next_hold _ rfl _ rfl M (w.heap.size + 1) n D f left cnt HD.out rfl HRG.out ?_ ?_)
      | go_in)
    · -- nothing is left
      intro hl0
      have HAll : Hid (∀ x c, (Lit.int .i64 x).wf = true → f x = some c → c.2.1 ≠ owner) := fun x c hx hf => HN.out x c hx hf (hl0 _)
      clear hl0
      have HMr : Hid (MapIs wr M n f) := ⟨D, HRG.out.owns, HD.out⟩
      have hc1 : wr.cell? ⟨w.heap.size, 1, none⟩ = some (.map (some M)) := by
        have e : wr.heap[w.heap.size]? = some (.cells #[.pointer p, .map (some M)] 41 (0, 0)) := (HB.out.block _ (Array.getElem?_eq_some_iff.1 H1.out).1 (fun e => e)).trans H1.out
        rw [cell_of_row wr _ 1 _ _ _ e]; simp
      go_wp2
      obtain ⟨wo, rfl⟩ : ∃ wo : World, wo = wr := ⟨_, rfl⟩
      go_loopw [26] (fun i wr => ∃ q : Nat, i = .int .i64 q ∧ ((q : Int) ≤ places ∨ q = 0) ∧ But wo wr (fun _ => False) ∧ ∀ j : Int, 0 ≤ j → j < q → f j ≠ none) (fun i _ => (places - intOf i).toNat)
      case atStart => exact ⟨0, rfl, .inr rfl, But.refl _ _, fun j h0 h1 => by omega⟩
      case round =>
        obtain ⟨q, rfl, hq, hb2, hall⟩ := hrel
        have HB2 := tuck hb2
        have HJ := tuck hall
        have hc2 := hb2.cell hc1 (fun e => e)
        have HM2 : Hid (MapIs wr M n f) := HMr.out.kept (hb2.block M HMr.out.lt (fun e => e))
        clear hb2 hall hc1
        by_cases hlt : (q : Int) < places
        · have hl := HM2.out.look (x := (q : Int)) (WalkArith.wf_i64 ⟨by omega, by omega⟩)
          rcases hf : f (q : Int) with _ | ⟨cp, cs, ct⟩
          · rw [hf] at hl
            have hl' : (Instr.lookup 39 (.map (some M)) (.int .i64 (q : Int)) true).run Trym.prog wr = .ok (.tuple #[.agg #[.int .i64 0, .string ⟨#[]⟩, .int .i64 0], .bool false]) wr := hl
            have HF := tuck hf
            clear hl hf
            go_wp2
            go_ret
            exact ⟨q, rfl, .inr ⟨HAll.out, .inl ⟨by omega, hlt, HF.out, fun j h0 h1 => HJ.out j h0 h1⟩⟩, ((HB1.out.trans HB.out (fun _ _ h => h)).trans HB2.out (fun _ _ h => h)).trans (But.alloc _ _ (fun _ => False)) (fun _ _ h => h)⟩
          · rw [hf] at hl
            have hl' : (Instr.lookup 39 (.map (some M)) (.int .i64 (q : Int)) true).run Trym.prog wr = .ok (.tuple #[.agg #[.int .i64 cp, .string cs, .int .i64 ct], .bool true]) wr := hl
            have HF := tuck hf
            clear hl hf
            go_wp2
            go_roundw
            case rel =>
              refine ⟨q + 1, by go_num, .inl (by omega), HB2.out.trans (But.alloc _ _ (fun _ => False)) (fun _ _ h => h), fun j h0 h1 => ?_⟩
              by_cases e : j = (q : Int)
              · subst e; rw [HF.out]; simp
              · exact HJ.out j h0 (by omega)
            case measure => simp [intOf]; omega
        · go_wp2
          go_ret
          exact ⟨-1, rfl, .inr ⟨HAll.out, .inr ⟨rfl, fun j h0 h1 => HJ.out j h0 (by omega)⟩⟩, (HB1.out.trans HB.out (fun _ _ h => h)).trans HB2.out (fun _ _ h => h)⟩
    · -- an entry has come
      intro x cp cs ct w1 cnt1 hnx
      have HX := tuck hnx
      have HBn := tuck ((HB.out.trans (But.grown hnx.gr) (fun i hi e => by
        have h1 := HW1.out
        simp only [Option.some.injEq] at e
        omega)))
      have hen := hnx.en
      clear hnx
      by_cases ho : cs = owner
      · have hq := str_eq ho
        have HOw := tuck ho
        clear ho
        go_wp2
        go_ret
        exact ⟨x, rfl, .inl ⟨HX.out.wf, _, HX.out.fx, HOw.out⟩, (HB1.out.trans HBn.out (fun _ _ h => h)).trans (But.alloc _ _ (fun _ => False)) (fun _ _ h => h)⟩
      · have hq := str_ne ho
        have HOw := tuck ho
        clear ho
        go_wp2
        go_roundw
        case rel =>
          refine ⟨_, cnt1, HX.out.rg.alloc _, HBn.out.trans (But.alloc _ _ (fun _ => False)) (fun _ _ h => h), fun x' c' hx' hf' hl' => ?_⟩
          simp only [Bool.and_eq_false_iff] at hl'
          rcases hl' with hl' | hl'
          · exact HN.out x' c' hx' hf' hl'
          · have e : x' = x := by simpa [Lit.sameKey] using hl'
            subst e
            rw [HX.out.fx] at hf'
            cases hf'
            exact HOw.out
        case measure => rw [(HX.out.rg.alloc _).left_eq, HRG.out.left_eq]; exact HX.out.lt

set_option maxHeartbeats 1000000 in
theorem place_nil (p : Option Addr) (f : Int → Option (Int × ByteArray × Int)) (hf : ∀ x, f x = none) (owner : ByteArray) (places : Int) (w : World) :
    Calls Trym.prog 19 #[.agg #[.pointer p, .map none], .string owner, .int .i64 places] w fun e w' => ∃ r, e = .returned (.int .i64 r) ∧ PlaceOk f owner places r ∧ But w w' (fun _ => False) := by
  have hrg := run_range_nilMap (P := Trym.prog) (w.alloc (.cells #[.pointer p, .map none] 41)) 39 3 47 Trym.underlying39
  have hnx : ∀ ty, (Instr.next (.pointer (some ⟨(w.alloc (.cells #[.pointer p, .map none] 41)).heap.size, 0, none⟩)) false ty).run Trym.prog ((w.alloc (.cells #[.pointer p, .map none] 41)).alloc (.mapIter none 0 #[] 0)) = _ := fun ty => run_next_nilMap _ ty 0 0 #[]
  have e1 : (w.alloc (Obj.cells #[Value.pointer p, Value.map none] 41)).heap.size = w.heap.size + 1 := by simp
  rw [e1] at hrg hnx
  have HF := tuck hf
  have HB : Hid (∀ o1 o2 o3, But w (((w.alloc o1).alloc o2).alloc o3) (fun _ => False)) := fun o1 o2 o3 => ((But.alloc w _ _).trans (But.alloc _ _ (fun _ => False)) (fun _ _ h => h)).trans (But.alloc _ _ (fun _ => False)) (fun _ _ h => h)
  have HB' : Hid (∀ o1 o2, But w ((w.alloc o1).alloc o2) (fun _ => False)) := fun o1 o2 => (But.alloc w _ _).trans (But.alloc _ _ (fun _ => False)) (fun _ _ h => h)
  clear hf
  by_cases h0 : (0 : Int) < places
  · have hl : ∀ W, (Instr.lookup 39 (.map none) (.int .i64 0) true).run Trym.prog W = .ok (.tuple #[.agg #[.int .i64 0, .string ⟨#[]⟩, .int .i64 0], .bool false]) W := fun W => look_nil39 W (by decide)
    go_enter Trym.func19, Trym.ntmps19
    go_wp2
    refine wp_loop_rounds 1 ?_
    rw [rounds_succ]
    go_wp2
    refine wp_loop_rounds 1 ?_
    rw [rounds_succ]
    go_wp2
    go_ret
    exact ⟨0, rfl, .inr ⟨fun x c _ hx => (by rw [HF.out] at hx; cases hx), .inl ⟨by omega, h0, HF.out _, fun j h1 h2 => (by omega)⟩⟩, HB.out _ _ _⟩
  · go_enter Trym.func19, Trym.ntmps19
    go_wp2
    refine wp_loop_rounds 1 ?_
    rw [rounds_succ]
    go_wp2
    refine wp_loop_rounds 1 ?_
    rw [rounds_succ]
    go_wp2
    go_ret
    exact ⟨-1, rfl, .inr ⟨fun x c _ hx => (by rw [HF.out] at hx; cases hx), .inr ⟨rfl, fun j h1 h2 => (by omega)⟩⟩, HB'.out _ _⟩

theorem place_any (p : Option Addr) (mo : Option Nat) (n : Nat) (f : Int → Option (Int × ByteArray × Int)) (owner : ByteArray) (places : Int) (hp : places ≤ 65536) (w : World) (h : Places w mo n f) :
    Calls Trym.prog 19 #[.agg #[.pointer p, .map mo], .string owner, .int .i64 places] w fun e w' => ∃ r, e = .returned (.int .i64 r) ∧ PlaceOk f owner places r ∧ But w w' (fun _ => False) := by
  rcases h with ⟨rfl, hf⟩ | ⟨M, rfl, hM⟩
  · exact place_nil p f hf owner places w
  · exact place_some p M n f owner places hp w hM

end Go.Proofs.Qxb6603458aMods
