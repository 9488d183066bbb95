import Derived.Test.Qxb6603458aModsPlace
import Derived.Test.Qxb6603458aModsHold
namespace Go.Proofs.Qxb6603458aMods
open Go.RowKit Go.Maps

theorem Places.look {w : World} {mo : Option Nat} {n : Nat} {f : Int → Option (Int × ByteArray × Int)} (h : Places w mo n f) {x : Int} (hx : (Lit.int .i64 x).wf = true) :
    (Instr.lookup 39 (.map mo) (.int .i64 x) true).run Trym.prog w = .ok (.tuple #[holdV ((f x).getD zeroH), .bool (f x).isSome]) w := by
  rcases h with ⟨rfl, hf⟩ | ⟨M, rfl, hM⟩
  · rw [hf]; exact look_nil39 w hx
  · exact hM.look hx

/-- What found answers: another owner's (3) where the row is another's lock; else only where another holds the place. -/
def FoundOk (b : Bool) (ro : ByteArray) (f : Int → Option (Int × ByteArray × Int)) (owner : ByteArray) (place r : Int) : Prop :=
  (b = true ∧ ro ≠ ⟨#[]⟩ ∧ r = 3) ∨ (¬ (b = true ∧ ro ≠ ⟨#[]⟩) ∧ (r = 3 → ∃ c, f place = some c ∧ c.2.1 ≠ owner))

theorem emp_eq : ((⟨#[]⟩ : ByteArray).toList == []) = true := by decide +kernel
theorem emp_ne {a : ByteArray} (h : a ≠ ⟨#[]⟩) : (a.toList == []) = false := by
  rw [beq_eq_false_iff_ne]
  intro e
  rw [ByteArray.toList_eq] at e
  apply h
  obtain ⟨⟨a⟩⟩ := a
  simp at e
  subst e
  rfl

theorem found_nil_none (owner : ByteArray) (place : Int) (mo : Option Nat) (w : World) (hl : (Instr.lookup 39 (.map mo) (.int .i64 place) true).run Trym.prog (w.alloc (.cells #[.pointer none, .map mo] 41)) = .ok (.tuple #[.agg #[.int .i64 0, .string ⟨#[]⟩, .int .i64 0], .bool false]) (w.alloc (.cells #[.pointer none, .map mo] 41))) :
    Calls Trym.prog 20 #[.agg #[.pointer none, .map mo], .string owner, .int .i64 place] w fun e w' => e = .returned (.int .i64 2) ∧ But w w' (fun _ => False) := by
  have HB : Hid (∀ o1 o2, But w ((w.alloc o1).alloc o2) (fun _ => False)) := fun o1 o2 => (But.alloc w _ _).trans (But.alloc _ _ (fun _ => False)) (fun _ _ h => h)
  go_enter Trym.func20, Trym.ntmps20
  go_wp2
  go_ret
  exact ⟨rfl, HB.out _ _⟩

theorem found_nil_eq (owner : ByteArray) (place : Int) (mo : Option Nat) (w : World) (cp : Int) (cs : ByteArray) (ct : Int) (hcs : (cs.toList == owner.toList) = true) (hl : (Instr.lookup 39 (.map mo) (.int .i64 place) true).run Trym.prog (w.alloc (.cells #[.pointer none, .map mo] 41)) = .ok (.tuple #[.agg #[.int .i64 cp, .string cs, .int .i64 ct], .bool true]) (w.alloc (.cells #[.pointer none, .map mo] 41))) :
    Calls Trym.prog 20 #[.agg #[.pointer none, .map mo], .string owner, .int .i64 place] w fun e w' => e = .returned (.int .i64 2) ∧ But w w' (fun _ => False) := by
  have HB : Hid (∀ o1 o2, But w ((w.alloc o1).alloc o2) (fun _ => False)) := fun o1 o2 => (But.alloc w _ _).trans (But.alloc _ _ (fun _ => False)) (fun _ _ h => h)
  go_enter Trym.func20, Trym.ntmps20
  go_wp2
  go_ret
  exact ⟨rfl, HB.out _ _⟩

theorem found_nil_ne (owner : ByteArray) (place : Int) (mo : Option Nat) (w : World) (cp : Int) (cs : ByteArray) (ct : Int) (hcs : (cs.toList == owner.toList) = false) (hl : (Instr.lookup 39 (.map mo) (.int .i64 place) true).run Trym.prog (w.alloc (.cells #[.pointer none, .map mo] 41)) = .ok (.tuple #[.agg #[.int .i64 cp, .string cs, .int .i64 ct], .bool true]) (w.alloc (.cells #[.pointer none, .map mo] 41))) :
    Calls Trym.prog 20 #[.agg #[.pointer none, .map mo], .string owner, .int .i64 place] w fun e w' => e = .returned (.int .i64 3) ∧ But w w' (fun _ => False) := by
  have HB : Hid (∀ o1 o2, But w ((w.alloc o1).alloc o2) (fun _ => False)) := fun o1 o2 => (But.alloc w _ _).trans (But.alloc _ _ (fun _ => False)) (fun _ _ h => h)
  go_enter Trym.func20, Trym.ntmps20
  go_wp2
  go_ret
  exact ⟨rfl, HB.out _ _⟩

theorem found_emp_none (owner : ByteArray) (place : Int) (mo : Option Nat) (w : World) (b : Nat) (rx rt : Int) (hrow : w.heap[b]? = some (.cells #[.int .i64 rx, .string ⟨#[]⟩, .int .i64 rt] 47 (0, 0))) (hl : (Instr.lookup 39 (.map mo) (.int .i64 place) true).run Trym.prog (w.alloc (.cells #[.pointer (some ⟨b, 0, none⟩), .map mo] 41)) = .ok (.tuple #[.agg #[.int .i64 0, .string ⟨#[]⟩, .int .i64 0], .bool false]) (w.alloc (.cells #[.pointer (some ⟨b, 0, none⟩), .map mo] 41))) :
    Calls Trym.prog 20 #[.agg #[.pointer (some ⟨b, 0, none⟩), .map mo], .string owner, .int .i64 place] w fun e w' => e = .returned (.int .i64 2) ∧ But w w' (fun _ => False) := by
  have hbl : b < w.heap.size := (Array.getElem?_eq_some_iff.1 hrow).1
  have c1 : w.cell? ⟨b, 1, none⟩ = some (.string ⟨#[]⟩) := by rw [cell_of_row w b 1 _ _ _ hrow]; simp
  clear hrow
  have hro := emp_eq
  have HB : Hid (∀ o1 o2, But w ((w.alloc o1).alloc o2) (fun _ => False)) := fun o1 o2 => (But.alloc w _ _).trans (But.alloc _ _ (fun _ => False)) (fun _ _ h => h)
  go_enter Trym.func20, Trym.ntmps20
  go_wp2
  go_ret
  exact ⟨rfl, HB.out _ _⟩

theorem found_emp_eq (owner : ByteArray) (place : Int) (mo : Option Nat) (w : World) (b : Nat) (rx rt : Int) (cp : Int) (cs : ByteArray) (ct : Int) (hrow : w.heap[b]? = some (.cells #[.int .i64 rx, .string ⟨#[]⟩, .int .i64 rt] 47 (0, 0))) (hcs : (cs.toList == owner.toList) = true) (hl : (Instr.lookup 39 (.map mo) (.int .i64 place) true).run Trym.prog (w.alloc (.cells #[.pointer (some ⟨b, 0, none⟩), .map mo] 41)) = .ok (.tuple #[.agg #[.int .i64 cp, .string cs, .int .i64 ct], .bool true]) (w.alloc (.cells #[.pointer (some ⟨b, 0, none⟩), .map mo] 41))) :
    Calls Trym.prog 20 #[.agg #[.pointer (some ⟨b, 0, none⟩), .map mo], .string owner, .int .i64 place] w fun e w' => e = .returned (.int .i64 1) ∧ But w w' (fun _ => False) := by
  have hbl : b < w.heap.size := (Array.getElem?_eq_some_iff.1 hrow).1
  have c1 : w.cell? ⟨b, 1, none⟩ = some (.string ⟨#[]⟩) := by rw [cell_of_row w b 1 _ _ _ hrow]; simp
  clear hrow
  have hro := emp_eq
  have HB : Hid (∀ o1 o2, But w ((w.alloc o1).alloc o2) (fun _ => False)) := fun o1 o2 => (But.alloc w _ _).trans (But.alloc _ _ (fun _ => False)) (fun _ _ h => h)
  go_enter Trym.func20, Trym.ntmps20
  go_wp2
  go_ret
  exact ⟨rfl, HB.out _ _⟩

theorem found_emp_ne (owner : ByteArray) (place : Int) (mo : Option Nat) (w : World) (b : Nat) (rx rt : Int) (cp : Int) (cs : ByteArray) (ct : Int) (hrow : w.heap[b]? = some (.cells #[.int .i64 rx, .string ⟨#[]⟩, .int .i64 rt] 47 (0, 0))) (hcs : (cs.toList == owner.toList) = false) (hl : (Instr.lookup 39 (.map mo) (.int .i64 place) true).run Trym.prog (w.alloc (.cells #[.pointer (some ⟨b, 0, none⟩), .map mo] 41)) = .ok (.tuple #[.agg #[.int .i64 cp, .string cs, .int .i64 ct], .bool true]) (w.alloc (.cells #[.pointer (some ⟨b, 0, none⟩), .map mo] 41))) :
    Calls Trym.prog 20 #[.agg #[.pointer (some ⟨b, 0, none⟩), .map mo], .string owner, .int .i64 place] w fun e w' => e = .returned (.int .i64 3) ∧ But w w' (fun _ => False) := by
  have hbl : b < w.heap.size := (Array.getElem?_eq_some_iff.1 hrow).1
  have c1 : w.cell? ⟨b, 1, none⟩ = some (.string ⟨#[]⟩) := by rw [cell_of_row w b 1 _ _ _ hrow]; simp
  clear hrow
  have hro := emp_eq
  have HB : Hid (∀ o1 o2, But w ((w.alloc o1).alloc o2) (fun _ => False)) := fun o1 o2 => (But.alloc w _ _).trans (But.alloc _ _ (fun _ => False)) (fun _ _ h => h)
  go_enter Trym.func20, Trym.ntmps20
  go_wp2
  go_ret
  exact ⟨rfl, HB.out _ _⟩

theorem found_own_none (owner : ByteArray) (place : Int) (mo : Option Nat) (w : World) (b : Nat) (rx rt : Int) (ro : ByteArray) (hro : (ro.toList == []) = false) (hrow : w.heap[b]? = some (.cells #[.int .i64 rx, .string ro, .int .i64 rt] 47 (0, 0))) (hl : (Instr.lookup 39 (.map mo) (.int .i64 place) true).run Trym.prog (w.alloc (.cells #[.pointer (some ⟨b, 0, none⟩), .map mo] 41)) = .ok (.tuple #[.agg #[.int .i64 0, .string ⟨#[]⟩, .int .i64 0], .bool false]) (w.alloc (.cells #[.pointer (some ⟨b, 0, none⟩), .map mo] 41))) :
    Calls Trym.prog 20 #[.agg #[.pointer (some ⟨b, 0, none⟩), .map mo], .string owner, .int .i64 place] w fun e w' => e = .returned (.int .i64 3) ∧ But w w' (fun _ => False) := by
  have hbl : b < w.heap.size := (Array.getElem?_eq_some_iff.1 hrow).1
  have c1 : w.cell? ⟨b, 1, none⟩ = some (.string ro) := by rw [cell_of_row w b 1 _ _ _ hrow]; simp
  clear hrow
  have HB : Hid (∀ o1 o2, But w ((w.alloc o1).alloc o2) (fun _ => False)) := fun o1 o2 => (But.alloc w _ _).trans (But.alloc _ _ (fun _ => False)) (fun _ _ h => h)
  go_enter Trym.func20, Trym.ntmps20
  go_wp2
  go_ret
  exact ⟨rfl, HB.out _ _⟩

theorem found_own_some (owner : ByteArray) (place : Int) (mo : Option Nat) (w : World) (b : Nat) (rx rt : Int) (ro : ByteArray) (cp : Int) (cs : ByteArray) (ct : Int) (hro : (ro.toList == []) = false) (hrow : w.heap[b]? = some (.cells #[.int .i64 rx, .string ro, .int .i64 rt] 47 (0, 0))) (hl : (Instr.lookup 39 (.map mo) (.int .i64 place) true).run Trym.prog (w.alloc (.cells #[.pointer (some ⟨b, 0, none⟩), .map mo] 41)) = .ok (.tuple #[.agg #[.int .i64 cp, .string cs, .int .i64 ct], .bool true]) (w.alloc (.cells #[.pointer (some ⟨b, 0, none⟩), .map mo] 41))) :
    Calls Trym.prog 20 #[.agg #[.pointer (some ⟨b, 0, none⟩), .map mo], .string owner, .int .i64 place] w fun e w' => e = .returned (.int .i64 3) ∧ But w w' (fun _ => False) := by
  have hbl : b < w.heap.size := (Array.getElem?_eq_some_iff.1 hrow).1
  have c1 : w.cell? ⟨b, 1, none⟩ = some (.string ro) := by rw [cell_of_row w b 1 _ _ _ hrow]; simp
  clear hrow
  have HB : Hid (∀ o1 o2, But w ((w.alloc o1).alloc o2) (fun _ => False)) := fun o1 o2 => (But.alloc w _ _).trans (But.alloc _ _ (fun _ => False)) (fun _ _ h => h)
  go_enter Trym.func20, Trym.ntmps20
  go_wp2
  go_ret
  exact ⟨rfl, HB.out _ _⟩

theorem found_any (p : Option Addr) (mo : Option Nat) (n : Nat) (f : Int → Option (Int × ByteArray × Int)) (b0 : Bool) (ro : ByteArray) (owner : ByteArray) (place : Int) (hpl : (Lit.int .i64 place).wf = true) (w : World) (h : Places w mo n f) (hr : RowIs w b0 ro p) :
    Calls Trym.prog 20 #[.agg #[.pointer p, .map mo], .string owner, .int .i64 place] w fun e w' => ∃ r, e = .returned (.int .i64 r) ∧ FoundOk b0 ro f owner place r ∧ But w w' (fun _ => False) := by
  have hl := (h.later (But.alloc w (.cells #[.pointer p, .map mo] 41) (fun _ => False))).look hpl
  rcases hr with ⟨rfl, rfl⟩ | ⟨rfl, b, rx, rt, rfl, hrow⟩
  · -- no row
    rcases hf : f place with _ | ⟨cp, cs, ct⟩
    · rw [hf] at hl
      refine (found_nil_none owner place mo w hl).mono ?_
      rintro e w' ⟨rfl, hb⟩
      exact ⟨2, rfl, .inr ⟨by simp, by simp⟩, hb⟩
    · rw [hf] at hl
      by_cases hc : cs = owner
      · refine (found_nil_eq owner place mo w cp cs ct (str_eq hc) hl).mono ?_
        rintro e w' ⟨rfl, hb⟩
        exact ⟨2, rfl, .inr ⟨by simp, by simp⟩, hb⟩
      · refine (found_nil_ne owner place mo w cp cs ct (str_ne hc) hl).mono ?_
        rintro e w' ⟨rfl, hb⟩
        exact ⟨3, rfl, .inr ⟨by simp, fun _ => ⟨_, hf, hc⟩⟩, hb⟩
  · by_cases hro : ro = ⟨#[]⟩
    · subst hro
      rcases hf : f place with _ | ⟨cp, cs, ct⟩
      · rw [hf] at hl
        refine (found_emp_none owner place mo w b rx rt hrow hl).mono ?_
        rintro e w' ⟨rfl, hb⟩
        exact ⟨2, rfl, .inr ⟨by simp, by simp⟩, hb⟩
      · rw [hf] at hl
        by_cases hc : cs = owner
        · refine (found_emp_eq owner place mo w b rx rt cp cs ct hrow (str_eq hc) hl).mono ?_
          rintro e w' ⟨rfl, hb⟩
          exact ⟨1, rfl, .inr ⟨by simp, by simp⟩, hb⟩
        · refine (found_emp_ne owner place mo w b rx rt cp cs ct hrow (str_ne hc) hl).mono ?_
          rintro e w' ⟨rfl, hb⟩
          exact ⟨3, rfl, .inr ⟨by simp, fun _ => ⟨_, hf, hc⟩⟩, hb⟩
    · rcases hf : f place with _ | ⟨cp, cs, ct⟩
      · rw [hf] at hl
        refine (found_own_none owner place mo w b rx rt ro (emp_ne hro) hrow hl).mono ?_
        rintro e w' ⟨rfl, hb⟩
        exact ⟨3, rfl, .inl ⟨rfl, hro, rfl⟩, hb⟩
      · rw [hf] at hl
        refine (found_own_some owner place mo w b rx rt ro cp cs ct (emp_ne hro) hrow hl).mono ?_
        rintro e w' ⟨rfl, hb⟩
        exact ⟨3, rfl, .inl ⟨rfl, hro, rfl⟩, hb⟩

/-! ### the two exports -/
set_option maxHeartbeats 400000 in
theorem zzplace (b0 : Bool) (i1 : Int) (s2 : ByteArray) (i3 : Int) (a4 : Option Addr) (n c4 : Nat) (ks : Nat → Int) (a5 : Option Addr) (c5 : Nat) (os : Nat → ByteArray) (a6 : Option Addr) (c6 : Nat) (ts : Nat → Int) (owner : ByteArray) (places : Int) (hp : places ≤ 65536) (w : World) (hn : n ≤ 131072)
    (hk : RowOwn w a4 n c4 (fun i => .int .i64 (ks i))) (hwk : ∀ i, i < n → (Lit.int .i64 (ks i)).wf = true) (ho : RowOwn w a5 n c5 (fun i => .string (os i))) (ht : RowOwn w a6 n c6 (fun i => .int .i64 (ts i))) :
    Calls Trym.prog 11 #[.bool b0, .int .i64 i1, .string s2, .int .i64 i3, .slice a4 n c4, .slice a5 n c5, .slice a6 n c6, .string owner, .int .i64 places] w fun e w' => ∃ r, e = .returned (.int .i64 r) ∧ PlaceOk (held ks os ts n) owner places r ∧ But w w' (fun _ => False) := by
  have H := tuck (hold_any b0 i1 s2 i3 a4 n c4 ks a5 c5 os a6 c6 ts w hn hk hwk ho ht)
  clear hk hwk ho ht
  go_enter Trym.func11, Trym.ntmps11
  go_wp2_with fail
  refine H.out.mono ?_
  rintro e w1 ⟨p, mo, rfl, _, hpl, hb⟩
  have HP := tuck hpl
  have HB := tuck hb
  clear hpl hb
  go_wp2_with fail
  refine (place_any p mo n _ owner places hp w1 HP.out).mono ?_
  rintro e w2 ⟨r, rfl, hr, hb2⟩
  have HR := tuck hr
  have HB2 := tuck hb2
  clear hr hb2
  go_wp2
  go_ret
  exact ⟨r, rfl, HR.out, HB.out.trans HB2.out (fun _ _ h => h)⟩

set_option maxHeartbeats 400000 in
theorem zzfound (b0 : Bool) (i1 : Int) (s2 : ByteArray) (i3 : Int) (a4 : Option Addr) (n c4 : Nat) (ks : Nat → Int) (a5 : Option Addr) (c5 : Nat) (os : Nat → ByteArray) (a6 : Option Addr) (c6 : Nat) (ts : Nat → Int) (owner : ByteArray) (place : Int) (hpl : (Lit.int .i64 place).wf = true) (w : World) (hn : n ≤ 131072)
    (hk : RowOwn w a4 n c4 (fun i => .int .i64 (ks i))) (hwk : ∀ i, i < n → (Lit.int .i64 (ks i)).wf = true) (ho : RowOwn w a5 n c5 (fun i => .string (os i))) (ht : RowOwn w a6 n c6 (fun i => .int .i64 (ts i))) :
    Calls Trym.prog 17 #[.bool b0, .int .i64 i1, .string s2, .int .i64 i3, .slice a4 n c4, .slice a5 n c5, .slice a6 n c6, .string owner, .int .i64 place] w fun e w' => ∃ r, e = .returned (.int .i64 r) ∧ FoundOk b0 s2 (held ks os ts n) owner place r ∧ But w w' (fun _ => False) := by
  have H := tuck (hold_any b0 i1 s2 i3 a4 n c4 ks a5 c5 os a6 c6 ts w hn hk hwk ho ht)
  have HW := tuck hpl
  clear hk hwk ho ht hpl
  go_enter Trym.func17, Trym.ntmps17
  go_wp2_with fail
  refine H.out.mono ?_
  rintro e w1 ⟨p, mo, rfl, hrow, hpl, hb⟩
  have HP := tuck hpl
  have HRow := tuck hrow
  have HB := tuck hb
  clear hpl hb hrow
  go_wp2_with fail
  refine (found_any p mo n _ b0 s2 owner place HW.out w1 HP.out HRow.out).mono ?_
  rintro e w2 ⟨r, rfl, hr, hb2⟩
  have HR := tuck hr
  have HB2 := tuck hb2
  clear hr hb2
  go_wp2
  go_ret
  exact ⟨r, rfl, HR.out, HB.out.trans HB2.out (fun _ _ h => h)⟩

end Go.Proofs.Qxb6603458aMods
