import Derived.Test.Qxb6603551aModsLong
import Derived.Test.Qxb6603551aModsScan
namespace Go.Proofs.Qxb6603551aMods
open Go.RowKit

theorem RowOwn.toIn {w : World} {a : Option Addr} {n c : Nat} {V : Nat → Value} (h : RowOwn w a n c V) : RowIn w a n c V := by
  rcases h with h | ⟨g, h, hc⟩
  · exact .inl h
  · exact .inr ⟨_, h, fun i hi => by rw [Addr.add_lit, Nat.zero_add]; exact hc i hi⟩

/-- Where there is a byte, the slice lies in a block's cells. -/
theorem RowIn.cells {w : World} {a : Option Addr} {n c : Nat} {V : Nat → Value} (h : RowIn w a n c V) (hn : 0 < n) : ∃ b off, a = some ⟨b, off, none⟩ ∧ ∀ i, i < n → w.cell? ⟨b, off + i, none⟩ = some (V i) := by
  rcases h with ⟨_, h, _⟩ | ⟨⟨b, off, spot⟩, rfl, hc⟩
  · omega
  · have hspot : spot = none := by simpa [Addr.add] using World.cell?_spot (hc 0 hn)
    subst hspot
    exact ⟨b, off, rfl, fun i hi => by rw [← Addr.add_lit]; exact hc i hi⟩

theorem L_zero (z : Nat → Int) : L z 0 0 0 0 = 0 := L_end (Nat.le_refl _)
theorem scan_nil (z : Nat → Int) : scan z 0 = 0 := by rw [scan_eq, L_zero]

theorem long_any (a : Option Addr) (n c : Nat) (z : Nat → Int) (hn : n ≤ 2097152) (w : World) (h : RowIn w a n c (fun i => .int .u8 (z i))) :
    Calls Trym.prog 8 #[.slice a n c] w fun e w' => e = .returned (.int .i64 (L z n 0 0 0 : Nat)) ∧ w' = w := by
  by_cases h0 : n = 0
  · subst h0
    rw [L_zero]
    exact long_zero a c w
  · obtain ⟨b, off, rfl, hc⟩ := h.cells (by omega)
    exact long_row b off n c z hn w hc

theorem scan_any (a : Option Addr) (n c : Nat) (z : Nat → Int) (hn : n ≤ 2097152) (w : World) (h : RowIn w a n c (fun i => .int .u8 (z i))) :
    Calls Trym.prog 7 #[.slice a n c] w fun e w' => e = .returned (.int .i64 (scan z n : Nat)) ∧ w' = w := by
  have H : Calls Trym.prog 11 #[.slice a n c] w fun e w' => e = .returned (.int .i64 (scan z n : Nat)) ∧ w' = w := by
    by_cases h0 : n = 0
    · subst h0
      rw [scan_nil]
      exact scan_zero a c w
    · obtain ⟨b, off, rfl, hc⟩ := h.cells (by omega)
      exact scan_row b off n c z (by omega) hn w hc
  have HH := tuck H
  clear H h
  go_enter Trym.func7, Trym.ntmps7
  go_wp2_with fail
  refine HH.out.mono ?_
  rintro e w' ⟨rfl, rfl⟩
  go_wp2
  go_ret
  exact ⟨rfl, rfl⟩

/-! ### the first law -/
set_option maxHeartbeats 400000 in
theorem law3 (a0 : Option Addr) (n c0 : Nat) (z : Nat → Int) (w : World) (hn : n ≤ maxLen) (h0 : RowIn w a0 n c0 (fun i => .int .u8 (z i))) :
    Calls Trym.prog 3 #[.slice a0 n c0] w fun e w' => e = .returned (.bool true) ∧ Below w.heap.size w w' := by
  have H0 := tuck h0
  clear h0
  go_enter Trym.func3, Trym.ntmps3
  go_wp2_with fail
  refine (bytes5 a0 n c0 hn w).mono ?_
  rintro e w ⟨rfl, rfl | rfl⟩
  · go_wp2
    go_ret
    exact ⟨rfl, Below.refl _ _⟩
  by_cases hb : 1048576 < n
  · have hd : decide ((1048576 : Int) < (n : Int)) = true := by simp; omega
    go_wp2
    go_ret
    exact ⟨rfl, Below.refl _ _⟩
  have hd : decide ((1048576 : Int) < (n : Int)) = false := by simp; omega
  clear hn
  go_wp2_with fail
  refine (clone6 a0 n c0 z (by omega) w H0.out).mono ?_
  rintro e w1 ⟨a1, c1, rfl, hr, hbt⟩
  have HR := tuck hr.toIn
  have HB := tuck hbt
  clear hr hbt
  go_wp2_with fail
  refine (scan_any a1 n c1 z (by omega) w1 HR.out).mono ?_
  rintro e w1 ⟨rfl, rfl⟩
  go_wp2_with fail
  refine (long_any a1 n c1 z (by omega) w1 HR.out).mono ?_
  rintro e w1 ⟨rfl, rfl⟩
  have he : (((scan z n : Nat) : Int) == ((L z n 0 0 0 : Nat) : Int)) = true := by rw [scan_eq]; simp
  go_wp2
  go_ret
  exact ⟨rfl, HB.out.below (Nat.le_refl _) (fun k h => h.elim)⟩

/-! ### the byte that ends a number -/
theorem ends10 (c : Int) (w : World) : Calls Trym.prog 10 #[.int .u8 c] w fun e w' => w' = w ∧ (e = .returned (.bool false) ∨ (e = .returned (.bool true) ∧ ends c)) := by
  cases hd : dg c
  · cases h46 : (c != 46)
    · go_enter Trym.func10, Trym.ntmps10
      go_wp2_with (go_at_call 12; refine (dig12 _ _).mono ?_; rintro e w' ⟨rfl, rfl⟩)
      go_ret
      exact ⟨rfl, .inl rfl⟩
    · cases h101 : (c != 101)
      · go_enter Trym.func10, Trym.ntmps10
        go_wp2_with (go_at_call 12; refine (dig12 _ _).mono ?_; rintro e w' ⟨rfl, rfl⟩)
        go_ret
        exact ⟨rfl, .inl rfl⟩
      · cases h69 : (c != 69)
        · go_enter Trym.func10, Trym.ntmps10
          go_wp2_with (go_at_call 12; refine (dig12 _ _).mono ?_; rintro e w' ⟨rfl, rfl⟩)
          go_ret
          exact ⟨rfl, .inl rfl⟩
        · have HE : Hid (ends c) := ⟨hd, by simpa using h46, by simpa using h101, by simpa using h69⟩
          go_enter Trym.func10, Trym.ntmps10
          go_wp2_with (go_at_call 12; refine (dig12 _ _).mono ?_; rintro e w' ⟨rfl, rfl⟩)
          go_ret
          exact ⟨rfl, .inr ⟨rfl, HE.out⟩⟩
  · go_enter Trym.func10, Trym.ntmps10
    go_wp2_with (go_at_call 12; refine (dig12 _ _).mono ?_; rintro e w' ⟨rfl, rfl⟩)
    go_ret
    exact ⟨rfl, .inl rfl⟩

end Go.Proofs.Qxb6603551aMods
