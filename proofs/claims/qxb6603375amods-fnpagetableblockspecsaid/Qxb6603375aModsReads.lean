import Derived.Test.Qxb6603375aModsParts
namespace Go.Proofs.Qxb6603375aMods
open Go.RowKit Go.Maps

theorem bytes_any (a0 a2 : Option Addr) (n0 c0 n2 c2 : Nat) (t : Int) (h0 : n0 ≤ maxLen) (h2 : n2 ≤ maxLen) (w : World) :
    Calls Trym.prog 17 #[.slice a0 n0 c0, .int .u64 t, .slice a2 n2 c2] w fun e w' => ∃ b, e = .returned (.bool b) ∧ w' = w := by
  unfold maxLen at h0 h2
  go_enter Trym.func17, Trym.ntmps17
  go_wp2
  all_goals (go_ret; exact ⟨_, rfl, rfl⟩)

/-! ### indexOfKey -/
set_option maxHeartbeats 400000 in
theorem index_row (g n c : Nat) (zs : Nat → Int) (key : Int) (hn : n ≤ 100000) (w : World) (hc : ∀ i, i < n → w.cell? ⟨g, i, none⟩ = some (.int .u64 (zs i))) :
    Calls Trym.prog 22 #[.slice (some ⟨g, 0, none⟩) n c, .int .u64 key] w fun e w' => w' = w ∧ ((e = .returned (.int .i64 (-1)) ∧ ∀ j, j < n → zs j ≠ key) ∨ ∃ i : Nat, i < n ∧ zs i = key ∧ e = .returned (.int .i64 i)) := by
  go_enter Trym.func22, Trym.ntmps22
  go_wp2
  go_loop [5] (fun i => ∃ k : Nat, k ≤ n ∧ i = .int .i64 k ∧ ∀ j, j < k → zs j ≠ key) (fun i => n - (intOf i).toNat)
  case atStart => exact ⟨0, Nat.zero_le _, rfl, fun j hj => absurd hj (Nat.not_lt_zero _)⟩
  case round =>
    obtain ⟨k, hk, rfl, hno⟩ := hrel
    have Hno : Hid (∀ j, j < k → zs j ≠ key) := hno
    clear hno
    by_cases hlt : k < n
    · have hck := hc k hlt
      by_cases hq : zs k = key
      · have hb : (zs k == key) = true := by simpa using hq
        have Hq : Hid (zs k = key) := hq
        clear hq hc
        go_wp2
        go_ret
        exact ⟨rfl, Or.inr ⟨k, hlt, Hq.out, rfl⟩⟩
      · have hb : (zs k == key) = false := by simpa using hq
        have Hq : Hid (¬ zs k = key) := hq
        clear hq hc
        go_wp2
        go_round
        case rel => exact ⟨k + 1, by omega, by go_num, fun j hj => by
          by_cases e : j = k
          · subst e; exact Hq.out
          · exact Hno.out j (by omega)⟩
        case measure => simp [intOf]; omega
    · clear hc
      go_wp2
      go_ret
      exact ⟨rfl, Or.inl ⟨rfl, fun j hj => Hno.out j (by omega)⟩⟩

theorem index_nil (key : Int) (w : World) :
    Calls Trym.prog 22 #[.slice none 0 0, .int .u64 key] w fun e w' => w' = w ∧ e = .returned (.int .i64 (-1)) := by
  go_enter Trym.func22, Trym.ntmps22
  go_wp2
  refine wp_loop_rounds 1 ?_
  rw [rounds_succ]
  go_wp2
  go_ret
  exact ⟨rfl, rfl⟩

/-! ### lastIndexOfKey -/
set_option maxHeartbeats 400000 in
theorem last_row (g n c : Nat) (zs : Nat → Int) (key : Int) (hn : n ≤ 100000) (w : World) (hc : ∀ i, i < n → w.cell? ⟨g, i, none⟩ = some (.int .u64 (zs i))) :
    Calls Trym.prog 23 #[.slice (some ⟨g, 0, none⟩) n c, .int .u64 key] w fun e w' => w' = w ∧ ((e = .returned (.int .i64 (-1)) ∧ ∀ j, j < n → zs j ≠ key) ∨ ∃ i : Nat, i < n ∧ zs i = key ∧ (∀ j, i < j → j < n → zs j ≠ key) ∧ e = .returned (.int .i64 i)) := by
  go_enter Trym.func23, Trym.ntmps23
  go_wp2
  go_loop [5] (fun i => ∃ k : Nat, k ≤ n ∧ i = .int .i64 ((k : Int) - 1) ∧ ∀ j, k ≤ j → j < n → zs j ≠ key) (fun i => (intOf i + 1).toNat)
  case atStart => exact ⟨n, Nat.le_refl _, rfl, fun j hj hj' => absurd hj' (by omega)⟩
  case round =>
    obtain ⟨k, hk, rfl, hno⟩ := hrel
    have Hno : Hid (∀ j, k ≤ j → j < n → zs j ≠ key) := hno
    clear hno
    by_cases hlt : 0 < k
    · obtain ⟨m, rfl⟩ : ∃ m, k = m + 1 := ⟨k - 1, by omega⟩
      rw [show (((m + 1 : Nat) : Int) - 1) = (m : Int) from by omega]
      have hck := hc m (by omega)
      have hm : m < n := by omega
      by_cases hq : zs m = key
      · have hb : (zs m == key) = true := by simpa using hq
        have Hq : Hid (zs m = key) := hq
        clear hq hc
        go_wp2
        go_ret
        exact ⟨rfl, Or.inr ⟨m, hm, Hq.out, fun j hj hj' => Hno.out j (by omega) hj', rfl⟩⟩
      · have hb : (zs m == key) = false := by simpa using hq
        have Hq : Hid (¬ zs m = key) := hq
        clear hq hc
        go_wp2
        go_round
        case rel => exact ⟨m, by omega, rfl, fun j hj hj' => by
          by_cases e : j = m
          · subst e; exact Hq.out
          · exact Hno.out j (by omega) hj'⟩
        case measure => simp [intOf]
    · clear hc
      obtain rfl : k = 0 := by omega
      rw [show (((0 : Nat) : Int) - 1) = (-1 : Int) from by omega]
      go_wp2
      go_ret
      exact ⟨rfl, Or.inl ⟨rfl, fun j hj => Hno.out j (by omega) hj⟩⟩

theorem last_nil (key : Int) (w : World) :
    Calls Trym.prog 23 #[.slice none 0 0, .int .u64 key] w fun e w' => w' = w ∧ e = .returned (.int .i64 (-1)) := by
  go_enter Trym.func23, Trym.ntmps23
  go_wp2
  refine wp_loop_rounds 1 ?_
  rw [rounds_succ]
  go_wp2
  go_ret
  exact ⟨rfl, rfl⟩

/-! ### blockEmpty -/
set_option maxRecDepth 100000 in
set_option maxHeartbeats 400000 in
theorem empty_any (b : Nat) (w : World) (hc : ∀ i, i < 256 → w.cell? ⟨b, i, none⟩ = some (.pointer none)) :
    Calls Trym.prog 24 #[.pointer (some ⟨b, 0, none⟩)] w fun e w' => e = .returned (.bool true) ∧ w' = w := by
  go_enter Trym.func24, Trym.ntmps24
  go_wp2
  go_loop [3] (fun i => ∃ k : Nat, k ≤ 256 ∧ i = .int .i64 k) (fun i => 256 - (intOf i).toNat)
  case atStart => exact ⟨0, Nat.zero_le _, rfl⟩
  case round =>
    obtain ⟨k, hk, rfl⟩ := hrel
    by_cases hlt : k < 256
    · have hck := hc k hlt
      clear hc
      go_wp2
      go_round
      case rel => exact ⟨k + 1, by omega, by go_num⟩
      case measure => simp [intOf]; omega
    · clear hc
      go_wp2
      go_ret
      exact ⟨rfl, rfl⟩

end Go.Proofs.Qxb6603375aMods
