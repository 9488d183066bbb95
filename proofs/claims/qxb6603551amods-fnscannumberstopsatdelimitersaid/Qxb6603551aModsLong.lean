import Derived.Test.Qxb6603551aModsParts
namespace Go.Proofs.Qxb6603551aMods
open Go.RowKit

/-- The automaton's loop: after k bytes it is in state s, the longest prefix so far is b. -/
def At (z : Nat → Int) (n k s b : Nat) : Prop := k ≤ n ∧ s ≤ 8 ∧ b ≤ k ∧ L z n k s b = L z n 0 0 0

theorem At.step {z : Nat → Int} {n k s b s' : Nat} (h : At z n k s b) (hk : k < n) (hs : s' ≤ 8) (hn : nxt s (z k) = some s') : At z n (k + 1) s' (if acc s' then k + 1 else b) := by
  obtain ⟨h1, h2, h3, h4⟩ := h
  exact ⟨by omega, hs, by split <;> omega, by rw [← L_some hk hn]; exact h4⟩
theorem At.stop {z : Nat → Int} {n k s b : Nat} (h : At z n k s b) (hk : k < n) (hn : nxt s (z k) = none) : b = L z n 0 0 0 := by
  rw [← h.2.2.2, L_none hk hn]

set_option maxRecDepth 100000 in
set_option maxHeartbeats 8000000 in
theorem long_row (b off n c : Nat) (z : Nat → Int) (hn : n ≤ 2097152) (w : World) (hc : ∀ j, j < n → w.cell? ⟨b, off + j, none⟩ = some (.int .u8 (z j))) :
    Calls Trym.prog 8 #[.slice (some ⟨b, off, none⟩) n c] w fun e w' => e = .returned (.int .i64 (L z n 0 0 0 : Nat)) ∧ w' = w := by
  have HC := tuck hc
  clear hc
  go_enter Trym.func8, Trym.ntmps8
  go_wp2
  go_loop [3, 4, 5] (fun st be i => ∃ k s r : Nat, st = .int .i64 s ∧ be = .int .i64 r ∧ i = .int .i64 k ∧ At z n k s r) (fun _ _ i => n - (intOf i).toNat)
  case atStart => exact ⟨0, 0, 0, rfl, rfl, rfl, Nat.zero_le _, Nat.zero_le _, Nat.zero_le _, rfl⟩
  case round =>
    obtain ⟨k, s, r, rfl, rfl, rfl, hat⟩ := hrel
    have HA := tuck hat
    have hrk : r ≤ k := hat.2.2.1
    have hkn : k ≤ n := hat.1
    have hs8 := hat.2.1
    clear hat
    by_cases hlt : k < n
    · have hck := HC.out k hlt
      have hsc : s = 0 ∨ s = 1 ∨ s = 2 ∨ s = 3 ∨ s = 4 ∨ s = 5 ∨ s = 6 ∨ s = 7 ∨ s = 8 := by omega
      clear hs8
      generalize hz : z k = x at hck
      have HZ := tuck hz
      clear hz
      rcases hsc with rfl | rfl | rfl | rfl | rfl | rfl | rfl | rfl | rfl
      · rw [show (((0 : Nat)) : Int) = 0 from rfl]
        cases q1 : (x == 45)
        · cases q2 : (x == 48)
          · cases q3 : dg x
            · have HN := tuck (HA.out.stop hlt (by rw [HZ.out]; simp [nxt, q1, q2, q3]))
              go_wp2_with (go_at_call 12; refine (dig12 _ _).mono ?_; rintro e w' ⟨rfl, rfl⟩)
              go_ret
              exact ⟨by rw [← HN.out]; rfl, rfl⟩
            · have HN := tuck (HA.out.step hlt (s' := 3) (by omega) (by rw [HZ.out]; simp [nxt, q1, q2, q3]))
              go_wp2_with (go_at_call 12; refine (dig12 _ _).mono ?_; rintro e w' ⟨rfl, rfl⟩)
              go_round
              case rel => exact ⟨k + 1, 3, k + 1, by go_num, by go_num, by go_num, HN.out⟩
              case measure => simp [intOf]; omega
          · have HN := tuck (HA.out.step hlt (s' := 2) (by omega) (by rw [HZ.out]; simp [nxt, q1, q2]))
            go_wp2_with (go_at_call 12; refine (dig12 _ _).mono ?_; rintro e w' ⟨rfl, rfl⟩)
            go_round
            case rel => exact ⟨k + 1, 2, k + 1, by go_num, by go_num, by go_num, HN.out⟩
            case measure => simp [intOf]; omega
        · have HN := tuck (HA.out.step hlt (s' := 1) (by omega) (by rw [HZ.out]; simp [nxt, q1]))
          go_wp2_with (go_at_call 12; refine (dig12 _ _).mono ?_; rintro e w' ⟨rfl, rfl⟩)
          go_round
          case rel => exact ⟨k + 1, 1, r, by go_num, by go_num, by go_num, HN.out⟩
          case measure => simp [intOf]; omega
      · rw [show (((1 : Nat)) : Int) = 1 from rfl]
        cases q4 : (x == 48)
        · cases q5 : dg x
          · have HN := tuck (HA.out.stop hlt (by rw [HZ.out]; simp [nxt, q4, q5]))
            go_wp2_with (go_at_call 12; refine (dig12 _ _).mono ?_; rintro e w' ⟨rfl, rfl⟩)
            go_ret
            exact ⟨by rw [← HN.out]; rfl, rfl⟩
          · have HN := tuck (HA.out.step hlt (s' := 3) (by omega) (by rw [HZ.out]; simp [nxt, q4, q5]))
            go_wp2_with (go_at_call 12; refine (dig12 _ _).mono ?_; rintro e w' ⟨rfl, rfl⟩)
            go_round
            case rel => exact ⟨k + 1, 3, k + 1, by go_num, by go_num, by go_num, HN.out⟩
            case measure => simp [intOf]; omega
        · have HN := tuck (HA.out.step hlt (s' := 2) (by omega) (by rw [HZ.out]; simp [nxt, q4]))
          go_wp2_with (go_at_call 12; refine (dig12 _ _).mono ?_; rintro e w' ⟨rfl, rfl⟩)
          go_round
          case rel => exact ⟨k + 1, 2, k + 1, by go_num, by go_num, by go_num, HN.out⟩
          case measure => simp [intOf]; omega
      · rw [show (((2 : Nat)) : Int) = 2 from rfl]
        cases q6 : (x == 46)
        · cases q7 : (x == 101)
          · cases q8 : (x == 69)
            · have HN := tuck (HA.out.stop hlt (by rw [HZ.out]; simp [nxt, q6, q7, q8]))
              go_wp2_with (go_at_call 12; refine (dig12 _ _).mono ?_; rintro e w' ⟨rfl, rfl⟩)
              go_ret
              exact ⟨by rw [← HN.out]; rfl, rfl⟩
            · have HN := tuck (HA.out.step hlt (s' := 6) (by omega) (by rw [HZ.out]; simp [nxt, q6, q7, q8]))
              go_wp2_with (go_at_call 12; refine (dig12 _ _).mono ?_; rintro e w' ⟨rfl, rfl⟩)
              go_round
              case rel => exact ⟨k + 1, 6, r, by go_num, by go_num, by go_num, HN.out⟩
              case measure => simp [intOf]; omega
          · have HN := tuck (HA.out.step hlt (s' := 6) (by omega) (by rw [HZ.out]; simp [nxt, q6, q7]))
            go_wp2_with (go_at_call 12; refine (dig12 _ _).mono ?_; rintro e w' ⟨rfl, rfl⟩)
            go_round
            case rel => exact ⟨k + 1, 6, r, by go_num, by go_num, by go_num, HN.out⟩
            case measure => simp [intOf]; omega
        · have HN := tuck (HA.out.step hlt (s' := 4) (by omega) (by rw [HZ.out]; simp [nxt, q6]))
          go_wp2_with (go_at_call 12; refine (dig12 _ _).mono ?_; rintro e w' ⟨rfl, rfl⟩)
          go_round
          case rel => exact ⟨k + 1, 4, r, by go_num, by go_num, by go_num, HN.out⟩
          case measure => simp [intOf]; omega
      · rw [show (((3 : Nat)) : Int) = 3 from rfl]
        cases q9 : dg x
        · cases q10 : (x == 46)
          · cases q11 : (x == 101)
            · cases q12 : (x == 69)
              · have HN := tuck (HA.out.stop hlt (by rw [HZ.out]; simp [nxt, q9, q10, q11, q12]))
                go_wp2_with (go_at_call 12; refine (dig12 _ _).mono ?_; rintro e w' ⟨rfl, rfl⟩)
                go_ret
                exact ⟨by rw [← HN.out]; rfl, rfl⟩
              · have HN := tuck (HA.out.step hlt (s' := 6) (by omega) (by rw [HZ.out]; simp [nxt, q9, q10, q11, q12]))
                go_wp2_with (go_at_call 12; refine (dig12 _ _).mono ?_; rintro e w' ⟨rfl, rfl⟩)
                go_round
                case rel => exact ⟨k + 1, 6, r, by go_num, by go_num, by go_num, HN.out⟩
                case measure => simp [intOf]; omega
            · have HN := tuck (HA.out.step hlt (s' := 6) (by omega) (by rw [HZ.out]; simp [nxt, q9, q10, q11]))
              go_wp2_with (go_at_call 12; refine (dig12 _ _).mono ?_; rintro e w' ⟨rfl, rfl⟩)
              go_round
              case rel => exact ⟨k + 1, 6, r, by go_num, by go_num, by go_num, HN.out⟩
              case measure => simp [intOf]; omega
          · have HN := tuck (HA.out.step hlt (s' := 4) (by omega) (by rw [HZ.out]; simp [nxt, q9, q10]))
            go_wp2_with (go_at_call 12; refine (dig12 _ _).mono ?_; rintro e w' ⟨rfl, rfl⟩)
            go_round
            case rel => exact ⟨k + 1, 4, r, by go_num, by go_num, by go_num, HN.out⟩
            case measure => simp [intOf]; omega
        · have HN := tuck (HA.out.step hlt (s' := 3) (by omega) (by rw [HZ.out]; simp [nxt, q9]))
          go_wp2_with (go_at_call 12; refine (dig12 _ _).mono ?_; rintro e w' ⟨rfl, rfl⟩)
          go_round
          case rel => exact ⟨k + 1, 3, k + 1, by go_num, by go_num, by go_num, HN.out⟩
          case measure => simp [intOf]; omega
      · rw [show (((4 : Nat)) : Int) = 4 from rfl]
        cases q13 : dg x
        · have HN := tuck (HA.out.stop hlt (by rw [HZ.out]; simp [nxt, q13]))
          go_wp2_with (go_at_call 12; refine (dig12 _ _).mono ?_; rintro e w' ⟨rfl, rfl⟩)
          go_ret
          exact ⟨by rw [← HN.out]; rfl, rfl⟩
        · have HN := tuck (HA.out.step hlt (s' := 5) (by omega) (by rw [HZ.out]; simp [nxt, q13]))
          go_wp2_with (go_at_call 12; refine (dig12 _ _).mono ?_; rintro e w' ⟨rfl, rfl⟩)
          go_round
          case rel => exact ⟨k + 1, 5, k + 1, by go_num, by go_num, by go_num, HN.out⟩
          case measure => simp [intOf]; omega
      · rw [show (((5 : Nat)) : Int) = 5 from rfl]
        cases q14 : dg x
        · cases q15 : (x == 101)
          · cases q16 : (x == 69)
            · have HN := tuck (HA.out.stop hlt (by rw [HZ.out]; simp [nxt, q14, q15, q16]))
              go_wp2_with (go_at_call 12; refine (dig12 _ _).mono ?_; rintro e w' ⟨rfl, rfl⟩)
              go_ret
              exact ⟨by rw [← HN.out]; rfl, rfl⟩
            · have HN := tuck (HA.out.step hlt (s' := 6) (by omega) (by rw [HZ.out]; simp [nxt, q14, q15, q16]))
              go_wp2_with (go_at_call 12; refine (dig12 _ _).mono ?_; rintro e w' ⟨rfl, rfl⟩)
              go_round
              case rel => exact ⟨k + 1, 6, r, by go_num, by go_num, by go_num, HN.out⟩
              case measure => simp [intOf]; omega
          · have HN := tuck (HA.out.step hlt (s' := 6) (by omega) (by rw [HZ.out]; simp [nxt, q14, q15]))
            go_wp2_with (go_at_call 12; refine (dig12 _ _).mono ?_; rintro e w' ⟨rfl, rfl⟩)
            go_round
            case rel => exact ⟨k + 1, 6, r, by go_num, by go_num, by go_num, HN.out⟩
            case measure => simp [intOf]; omega
        · have HN := tuck (HA.out.step hlt (s' := 5) (by omega) (by rw [HZ.out]; simp [nxt, q14]))
          go_wp2_with (go_at_call 12; refine (dig12 _ _).mono ?_; rintro e w' ⟨rfl, rfl⟩)
          go_round
          case rel => exact ⟨k + 1, 5, k + 1, by go_num, by go_num, by go_num, HN.out⟩
          case measure => simp [intOf]; omega
      · rw [show (((6 : Nat)) : Int) = 6 from rfl]
        cases q17 : (x == 43)
        · cases q18 : (x == 45)
          · cases q19 : dg x
            · have HN := tuck (HA.out.stop hlt (by rw [HZ.out]; simp [nxt, q17, q18, q19]))
              go_wp2_with (go_at_call 12; refine (dig12 _ _).mono ?_; rintro e w' ⟨rfl, rfl⟩)
              go_ret
              exact ⟨by rw [← HN.out]; rfl, rfl⟩
            · have HN := tuck (HA.out.step hlt (s' := 8) (by omega) (by rw [HZ.out]; simp [nxt, q17, q18, q19]))
              go_wp2_with (go_at_call 12; refine (dig12 _ _).mono ?_; rintro e w' ⟨rfl, rfl⟩)
              go_round
              case rel => exact ⟨k + 1, 8, k + 1, by go_num, by go_num, by go_num, HN.out⟩
              case measure => simp [intOf]; omega
          · have HN := tuck (HA.out.step hlt (s' := 7) (by omega) (by rw [HZ.out]; simp [nxt, q17, q18]))
            go_wp2_with (go_at_call 12; refine (dig12 _ _).mono ?_; rintro e w' ⟨rfl, rfl⟩)
            go_round
            case rel => exact ⟨k + 1, 7, r, by go_num, by go_num, by go_num, HN.out⟩
            case measure => simp [intOf]; omega
        · have HN := tuck (HA.out.step hlt (s' := 7) (by omega) (by rw [HZ.out]; simp [nxt, q17]))
          go_wp2_with (go_at_call 12; refine (dig12 _ _).mono ?_; rintro e w' ⟨rfl, rfl⟩)
          go_round
          case rel => exact ⟨k + 1, 7, r, by go_num, by go_num, by go_num, HN.out⟩
          case measure => simp [intOf]; omega
      · rw [show (((7 : Nat)) : Int) = 7 from rfl]
        cases q20 : dg x
        · have HN := tuck (HA.out.stop hlt (by rw [HZ.out]; simp [nxt, q20]))
          go_wp2_with (go_at_call 12; refine (dig12 _ _).mono ?_; rintro e w' ⟨rfl, rfl⟩)
          go_ret
          exact ⟨by rw [← HN.out]; rfl, rfl⟩
        · have HN := tuck (HA.out.step hlt (s' := 8) (by omega) (by rw [HZ.out]; simp [nxt, q20]))
          go_wp2_with (go_at_call 12; refine (dig12 _ _).mono ?_; rintro e w' ⟨rfl, rfl⟩)
          go_round
          case rel => exact ⟨k + 1, 8, k + 1, by go_num, by go_num, by go_num, HN.out⟩
          case measure => simp [intOf]; omega
      · rw [show (((8 : Nat)) : Int) = 8 from rfl]
        cases q21 : dg x
        · have HN := tuck (HA.out.stop hlt (by rw [HZ.out]; simp [nxt, q21]))
          go_wp2_with (go_at_call 12; refine (dig12 _ _).mono ?_; rintro e w' ⟨rfl, rfl⟩)
          go_ret
          exact ⟨by rw [← HN.out]; rfl, rfl⟩
        · have HN := tuck (HA.out.step hlt (s' := 8) (by omega) (by rw [HZ.out]; simp [nxt, q21]))
          go_wp2_with (go_at_call 12; refine (dig12 _ _).mono ?_; rintro e w' ⟨rfl, rfl⟩)
          go_round
          case rel => exact ⟨k + 1, 8, k + 1, by go_num, by go_num, by go_num, HN.out⟩
          case measure => simp [intOf]; omega
    · have HE : Hid (r = L z n 0 0 0) := by
        show r = L z n 0 0 0
        rw [← HA.out.2.2.2, L_end (by omega)]
      clear hs8
      go_wp2
      go_ret
      exact ⟨by rw [← HE.out]; rfl, rfl⟩

theorem long_zero (a : Option Addr) (c : Nat) (w : World) :
    Calls Trym.prog 8 #[.slice a 0 c] w fun e w' => e = .returned (.int .i64 0) ∧ w' = w := by
  go_enter Trym.func8, Trym.ntmps8
  go_wp2
  refine wp_loop_rounds 1 ?_
  rw [rounds_succ]
  go_wp2
  go_ret
  exact ⟨rfl, rfl⟩

end Go.Proofs.Qxb6603551aMods
