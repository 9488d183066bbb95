import Derived.Test.Qxb6603458aModsParts
namespace Go.Proofs.Qxb6603458aMods
open Go.RowKit Go.Maps

/-- A slice of one-cell elements that came in, nil or not. -/
def RowIn (w : World) (a : Option Addr) (n c : Nat) (V : Nat → Value) : Prop :=
  (a = none ∧ n = 0 ∧ c = 0) ∨ ∃ x, a = some x ∧ ∀ i, i < n → w.cell? (x.add i) = some (V i)

set_option maxHeartbeats 1000000 in
theorem bytes6 (b0 : Bool) (i1 : Int) (s2 : ByteArray) (i3 : Int) (a4 : Option Addr) (n4 c4 : Nat) (a5 : Option Addr) (n5 c5 : Nat) (os : Nat → ByteArray) (a6 : Option Addr) (n6 c6 : Nat) (s7 : ByteArray) (i8 : Int) (w : World)
    (h2 : s2.size ≤ maxLen) (h4 : n4 ≤ maxLen) (h5 : n5 ≤ maxLen) (h6 : n6 ≤ maxLen) (h7 : s7.size ≤ maxLen) (hr : RowIn w a5 n5 c5 (fun i => .string (os i))) (hos : ∀ i, i < n5 → (os i).size ≤ maxLen) :
    Calls Trym.prog 6 #[.bool b0, .int .i64 i1, .string s2, .int .i64 i3, .slice a4 n4 c4, .slice a5 n5 c5, .slice a6 n6 c6, .string s7, .int .i64 i8] w fun e w' => w' = w ∧ (e = .returned (.bool false) ∨ e = .returned (.bool true)) := by
  unfold maxLen at *
  by_cases hs : 1048576 < s2.size + n4 + n5
  · clear hos hr
    go_enter Trym.func6, Trym.ntmps6
    go_wp2
    all_goals (go_ret; first | exact ⟨rfl, Or.inl rfl⟩ | exact ⟨rfl, Or.inr rfl⟩)
  · have e1 : decide ((1048576 : Int) < (s2.size : Int)) = false := by simp; omega
    have e2 : decide ((1048576 : Int) < (n4 : Int)) = false := by simp; omega
    have e3 : decide ((1048576 : Int) < (s2.size : Int) + (n4 : Int)) = false := by simp; omega
    have e4 : decide ((1048576 : Int) < (n5 : Int)) = false := by simp; omega
    have e5 : decide ((1048576 : Int) < (s2.size : Int) + (n4 : Int) + (n5 : Int)) = false := by simp; omega
    have HR := tuck hr
    have HO := tuck hos
    clear hr hos
    go_enter Trym.func6, Trym.ntmps6
    go_wp2
    go_loop [19, 20] (fun z i => ∃ (k : Nat) (s : Int), k ≤ n5 ∧ i = .int .i64 k ∧ z = .int .i64 s ∧ 0 ≤ s ∧ s ≤ 1048576) (fun _ i => n5 - (intOf i).toNat)
    case atStart => exact ⟨0, _, Nat.zero_le _, rfl, rfl, by omega, by omega⟩
    case round =>
      obtain ⟨k, s, hk, rfl, rfl, hs0, hs1⟩ := hrel
      by_cases hlt : k < n5
      · rcases HR.out with ⟨_, h0, _⟩ | ⟨x, hx, hc⟩
        · omega
        · subst hx
          have hck := hc k hlt
          have hlk := HO.out k hlt
          clear hc e1 e2 e3 e4 e5
          go_wp2
          all_goals first
            | (go_ret; first | exact ⟨rfl, Or.inl rfl⟩ | exact ⟨rfl, Or.inr rfl⟩)
            | (go_round
               case rel => exact ⟨k + 1, _, by omega, by go_num, rfl, by omega, by omega⟩
               case measure => simp [intOf]; omega)
      · clear e1 e2 e3 e4 e5
        go_wp2
        all_goals (go_ret; first | exact ⟨rfl, Or.inl rfl⟩ | exact ⟨rfl, Or.inr rfl⟩)

set_option maxHeartbeats 1000000 in
theorem bytes16 (b0 : Bool) (i1 : Int) (s2 : ByteArray) (i3 : Int) (a4 : Option Addr) (n4 c4 : Nat) (a5 : Option Addr) (n5 c5 : Nat) (os : Nat → ByteArray) (a6 : Option Addr) (n6 c6 : Nat) (s7 : ByteArray) (i8 : Int) (w : World)
    (h2 : s2.size ≤ maxLen) (h4 : n4 ≤ maxLen) (h5 : n5 ≤ maxLen) (h6 : n6 ≤ maxLen) (h7 : s7.size ≤ maxLen) (hr : RowIn w a5 n5 c5 (fun i => .string (os i))) (hos : ∀ i, i < n5 → (os i).size ≤ maxLen) :
    Calls Trym.prog 16 #[.bool b0, .int .i64 i1, .string s2, .int .i64 i3, .slice a4 n4 c4, .slice a5 n5 c5, .slice a6 n6 c6, .string s7, .int .i64 i8] w fun e w' => w' = w ∧ (e = .returned (.bool false) ∨ e = .returned (.bool true)) := by
  unfold maxLen at *
  by_cases hs : 1048576 < s2.size + n4 + n5
  · clear hos hr
    go_enter Trym.func16, Trym.ntmps16
    go_wp2
    all_goals (go_ret; first | exact ⟨rfl, Or.inl rfl⟩ | exact ⟨rfl, Or.inr rfl⟩)
  · have e1 : decide ((1048576 : Int) < (s2.size : Int)) = false := by simp; omega
    have e2 : decide ((1048576 : Int) < (n4 : Int)) = false := by simp; omega
    have e3 : decide ((1048576 : Int) < (s2.size : Int) + (n4 : Int)) = false := by simp; omega
    have e4 : decide ((1048576 : Int) < (n5 : Int)) = false := by simp; omega
    have e5 : decide ((1048576 : Int) < (s2.size : Int) + (n4 : Int) + (n5 : Int)) = false := by simp; omega
    have HR := tuck hr
    have HO := tuck hos
    clear hr hos
    go_enter Trym.func16, Trym.ntmps16
    go_wp2
    go_loop [19, 20] (fun z i => ∃ (k : Nat) (s : Int), k ≤ n5 ∧ i = .int .i64 k ∧ z = .int .i64 s ∧ 0 ≤ s ∧ s ≤ 1048576) (fun _ i => n5 - (intOf i).toNat)
    case atStart => exact ⟨0, _, Nat.zero_le _, rfl, rfl, by omega, by omega⟩
    case round =>
      obtain ⟨k, s, hk, rfl, rfl, hs0, hs1⟩ := hrel
      by_cases hlt : k < n5
      · rcases HR.out with ⟨_, h0, _⟩ | ⟨x, hx, hc⟩
        · omega
        · subst hx
          have hck := hc k hlt
          have hlk := HO.out k hlt
          clear hc e1 e2 e3 e4 e5
          go_wp2
          all_goals first
            | (go_ret; first | exact ⟨rfl, Or.inl rfl⟩ | exact ⟨rfl, Or.inr rfl⟩)
            | (go_round
               case rel => exact ⟨k + 1, _, by omega, by go_num, rfl, by omega, by omega⟩
               case measure => simp [intOf]; omega)
      · clear e1 e2 e3 e4 e5
        go_wp2
        all_goals (go_ret; first | exact ⟨rfl, Or.inl rfl⟩ | exact ⟨rfl, Or.inr rfl⟩)

set_option maxHeartbeats 1000000 in
theorem size7 (s0 s1 : ByteArray) (a2 : Option Addr) (n2 c2 : Nat) (a3 : Option Addr) (n3 c3 : Nat) (os : Nat → ByteArray) (a4 : Option Addr) (n4 c4 : Nat) (w : World)
    (h0 : s0.size ≤ maxLen) (h1 : s1.size ≤ maxLen) (h2 : n2 ≤ maxLen) (h3 : n3 ≤ maxLen) (h4 : n4 ≤ maxLen) (hr : RowIn w a3 n3 c3 (fun i => .string (os i))) (hos : ∀ i, i < n3 → (os i).size ≤ maxLen) :
    Calls Trym.prog 7 #[.string s0, .string s1, .slice a2 n2 c2, .slice a3 n3 c3, .slice a4 n4 c4] w fun e w' => w' = w ∧ (e = .returned (.bool false) ∨ (e = .returned (.bool true) ∧ n2 ≤ 131072 ∧ n3 ≤ 131072 ∧ n4 ≤ 131072)) := by
  unfold maxLen at *
  by_cases q0 : 1048576 < s0.size
  · have e1 : decide ((1048576 : Int) < (s0.size : Int)) = true := by simp; omega
    clear hos hr
    go_enter Trym.func7, Trym.ntmps7
    go_wp2
    go_ret
    exact ⟨rfl, Or.inl rfl⟩
  have e1 : decide ((1048576 : Int) < (s0.size : Int)) = false := by simp; omega
  by_cases q1 : 1048576 < s1.size
  · have e2 : decide ((1048576 : Int) < (s1.size : Int)) = true := by simp; omega
    clear hos hr
    go_enter Trym.func7, Trym.ntmps7
    go_wp2
    go_ret
    exact ⟨rfl, Or.inl rfl⟩
  have e2 : decide ((1048576 : Int) < (s1.size : Int)) = false := by simp; omega
  by_cases q2 : 131072 < n2
  · have e3 : decide ((131072 : Int) < (n2 : Int)) = true := by simp; omega
    clear hos hr
    go_enter Trym.func7, Trym.ntmps7
    go_wp2
    go_ret
    exact ⟨rfl, Or.inl rfl⟩
  have e3 : decide ((131072 : Int) < (n2 : Int)) = false := by simp; omega
  by_cases q4 : 131072 < n4
  · have e4 : decide ((131072 : Int) < (n4 : Int)) = true := by simp; omega
    clear hos hr
    go_enter Trym.func7, Trym.ntmps7
    go_wp2
    go_ret
    exact ⟨rfl, Or.inl rfl⟩
  have e4 : decide ((131072 : Int) < (n4 : Int)) = false := by simp; omega
  by_cases q3 : 65536 < n3
  · have e5 : decide ((65536 : Int) < (n3 : Int)) = true := by simp; omega
    clear hos hr
    go_enter Trym.func7, Trym.ntmps7
    go_wp2
    go_ret
    exact ⟨rfl, Or.inl rfl⟩
  have e5 : decide ((65536 : Int) < (n3 : Int)) = false := by simp; omega
  by_cases qs : 1048576 < s0.size + s1.size + 8 * n2 + 8 * n4 + 16 * n3
  · clear hos hr
    go_enter Trym.func7, Trym.ntmps7
    go_wp2
    go_ret
    exact ⟨rfl, Or.inl rfl⟩
  have e6 : decide ((1048576 : Int) < (s0.size : Int) + (s1.size : Int) + 8 * (n2 : Int) + 8 * (n4 : Int) + 16 * (n3 : Int)) = false := by simp; omega
  have HR := tuck hr
  have HO := tuck hos
  clear hr hos
  go_enter Trym.func7, Trym.ntmps7
  go_wp2
  go_loop [11, 12] (fun z i => ∃ (k : Nat) (s : Int), k ≤ n3 ∧ i = .int .i64 k ∧ z = .int .i64 s ∧ 0 ≤ s ∧ s ≤ 1048576) (fun _ i => n3 - (intOf i).toNat)
  case atStart => exact ⟨0, _, Nat.zero_le _, rfl, rfl, by omega, by omega⟩
  case round =>
    obtain ⟨k, s, hk, rfl, rfl, hs0, hs1⟩ := hrel
    by_cases hlt : k < n3
    · rcases HR.out with ⟨_, h0, _⟩ | ⟨x, hx, hc⟩
      · omega
      · subst hx
        have hck := hc k hlt
        have hlk := HO.out k hlt
        clear hc e1 e2 e3 e4 e5 e6
        go_wp2
        all_goals first
          | (go_ret; exact ⟨rfl, Or.inl rfl⟩)
          | (go_round
             case rel => exact ⟨k + 1, _, by omega, by go_num, rfl, by omega, by omega⟩
             case measure => simp [intOf]; omega)
    · clear e1 e2 e3 e4 e5 e6
      go_wp2
      go_ret
      exact ⟨rfl, Or.inr ⟨rfl, by omega, by omega, by omega⟩⟩

end Go.Proofs.Qxb6603458aMods
