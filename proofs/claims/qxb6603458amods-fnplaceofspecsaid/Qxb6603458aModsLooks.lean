import Derived.Test.Qxb6603458aModsFound
namespace Go.Proofs.Qxb6603458aMods
open Go.RowKit Go.Maps

/-! ### lastAt -/
theorem lastAt_none {ks : Nat → Int} {x : Int} : ∀ {n : Nat}, (∀ j, j < n → ks j ≠ x) → lastAt ks n x = none
  | 0, _ => rfl
  | n + 1, h => by
    show (if ks n = x then some n else lastAt ks n x) = none
    rw [if_neg (h n (by omega))]
    exact lastAt_none fun j hj => h j (by omega)

theorem lastAt_some {ks : Nat → Int} {x : Int} {j : Nat} : ∀ {n : Nat}, j < n → ks j = x → (∀ i, j < i → i < n → ks i ≠ x) → lastAt ks n x = some j
  | 0, h, _, _ => absurd h (Nat.not_lt_zero _)
  | n + 1, h, hx, hl => by
    show (if ks n = x then some n else lastAt ks n x) = some j
    by_cases e : j = n
    · subst e; rw [if_pos hx]
    · rw [if_neg (hl n (by omega) (by omega))]
      exact lastAt_some (by omega) hx fun i h1 h2 => hl i h1 (by omega)

theorem lastAt_inv {ks : Nat → Int} {x : Int} {j : Nat} : ∀ {n : Nat}, lastAt ks n x = some j → j < n ∧ ks j = x
  | 0, h => by cases h
  | n + 1, h => by
    have h' : (if ks n = x then some n else lastAt ks n x) = some j := h
    split at h'
    · cases h'; exact ⟨by omega, by assumption⟩
    · obtain ⟨h1, h2⟩ := lastAt_inv h'
      exact ⟨by omega, h2⟩

theorem lastAt_ex {ks : Nat → Int} {x : Int} : ∀ {n i : Nat}, i < n → ks i = x → ∃ j, lastAt ks n x = some j
  | 0, _, h, _ => absurd h (Nat.not_lt_zero _)
  | n + 1, i, h, hx => by
    show ∃ j, (if ks n = x then some n else lastAt ks n x) = some j
    by_cases e : ks n = x
    · exact ⟨n, by rw [if_pos e]⟩
    · rw [if_neg e]
      exact lastAt_ex (i := i) (by
        by_cases e' : i = n
        · subst e'; exact absurd hx e
        · omega) hx

/-! ### lookup -/
/-- What lookup answers. -/
def LookOk (ks : Nat → Int) (os : Nat → ByteArray) (n : Nat) (x : Int) (e : Ending) : Prop :=
  (lastAt ks n x = none ∧ e = .returned (.tuple #[.string ⟨#[]⟩, .bool false])) ∨ ∃ j, lastAt ks n x = some j ∧ e = .returned (.tuple #[.string (os j), .bool true])

set_option maxHeartbeats 400000 in
theorem look_row (g4 c4 g5 c5 n : Nat) (ks : Nat → Int) (os : Nat → ByteArray) (x : Int) (hn : n ≤ 131072) (w : World) (hk : ∀ i, i < n → w.cell? ⟨g4, i, none⟩ = some (.int .i64 (ks i))) (ho : ∀ i, i < n → w.cell? ⟨g5, i, none⟩ = some (.string (os i))) :
    Calls Trym.prog 13 #[.slice (some ⟨g4, 0, none⟩) n c4, .slice (some ⟨g5, 0, none⟩) n c5, .int .i64 x] w fun e w' => w' = w ∧ LookOk ks os n x e := by
  have HK := tuck hk
  have HO := tuck ho
  clear hk ho
  go_enter Trym.func13, Trym.ntmps13
  go_wp2
  go_loop [8] (fun i => ∃ k : Nat, k ≤ n ∧ i = .int .i64 ((k : Int) - 1) ∧ ∀ j, k ≤ j → j < n → ks j ≠ x) (fun i => (intOf i + 1).toNat)
  case atStart => exact ⟨n, Nat.le_refl _, rfl, fun j hj hj' => absurd hj' (by omega)⟩
  case round =>
    obtain ⟨k, hk, rfl, hno⟩ := hrel
    have Hno := tuck hno
    clear hno
    by_cases hlt : 0 < k
    · obtain ⟨m, rfl⟩ : ∃ m, k = m + 1 := ⟨k - 1, by omega⟩
      rw [show (((m + 1 : Nat) : Int) - 1) = (m : Int) from by omega]
      have hm : m < n := by omega
      have hck := HK.out m hm
      have hco := HO.out m hm
      by_cases hq : ks m = x
      · have hb : (ks m == x) = true := by simpa using hq
        have Hq := tuck hq
        clear hq
        go_wp2
        go_ret2
        exact ⟨rfl, .inr ⟨m, lastAt_some hm Hq.out (fun j hj hj' => Hno.out j (by omega) hj'), rfl⟩⟩
      · have hb : (ks m == x) = false := by simpa using hq
        have Hq := tuck hq
        clear hq
        go_wp2
        go_round
        case rel => exact ⟨m, by omega, rfl, fun j hj hj' => by
          by_cases e : j = m
          · subst e; exact Hq.out
          · exact Hno.out j (by omega) hj'⟩
        case measure => simp [intOf]
    · obtain rfl : k = 0 := by omega
      rw [show (((0 : Nat) : Int) - 1) = (-1 : Int) from by omega]
      go_wp2
      go_ret2
      exact ⟨rfl, .inl ⟨lastAt_none fun j hj => Hno.out j (by omega) hj, rfl⟩⟩

theorem look_zero (a4 : Option Addr) (c4 : Nat) (a5 : Option Addr) (c5 : Nat) (x : Int) (w : World) :
    Calls Trym.prog 13 #[.slice a4 0 c4, .slice a5 0 c5, .int .i64 x] w fun e w' => w' = w ∧ e = .returned (.tuple #[.string ⟨#[]⟩, .bool false]) := by
  go_enter Trym.func13, Trym.ntmps13
  go_wp2
  refine wp_loop_rounds 1 ?_
  rw [rounds_succ]
  go_wp2
  go_ret2
  exact ⟨rfl, rfl⟩

theorem look_any (a4 : Option Addr) (c4 : Nat) (a5 : Option Addr) (c5 n : Nat) (ks : Nat → Int) (os : Nat → ByteArray) (x : Int) (hn : n ≤ 131072) (w : World) (hk : RowOwn w a4 n c4 (fun i => .int .i64 (ks i))) (ho : RowOwn w a5 n c5 (fun i => .string (os i))) :
    Calls Trym.prog 13 #[.slice a4 n c4, .slice a5 n c5, .int .i64 x] w fun e w' => w' = w ∧ LookOk ks os n x e := by
  by_cases h0 : n = 0
  · subst h0
    refine (look_zero a4 c4 a5 c5 x w).mono ?_
    rintro e w' ⟨rfl, rfl⟩
    exact ⟨rfl, .inl ⟨rfl, rfl⟩⟩
  · rcases hk with ⟨_, h, _⟩ | ⟨g4, rfl, hk⟩
    · exact absurd h h0
    · rcases ho with ⟨_, h, _⟩ | ⟨g5, rfl, ho⟩
      · exact absurd h h0
      · exact look_row g4 c4 g5 c5 n ks os x hn w hk ho

/-! ### ownsAny -/
/-- The owner holds some place. -/
def Owns (ks : Nat → Int) (os : Nat → ByteArray) (n : Nat) (owner : ByteArray) : Prop := ∃ x j, lastAt ks n x = some j ∧ os j = owner

set_option maxHeartbeats 1000000 in
theorem owns_row (g4 c4 g5 c5 n : Nat) (ks : Nat → Int) (os : Nat → ByteArray) (owner : ByteArray) (hn : n ≤ 131072) (w : World) (hk : ∀ i, i < n → w.cell? ⟨g4, i, none⟩ = some (.int .i64 (ks i))) (ho : ∀ i, i < n → w.cell? ⟨g5, i, none⟩ = some (.string (os i))) :
    Calls Trym.prog 12 #[.slice (some ⟨g4, 0, none⟩) n c4, .slice (some ⟨g5, 0, none⟩) n c5, .string owner] w fun e w' => w' = w ∧ ((e = .returned (.bool true) ∧ Owns ks os n owner) ∨ (e = .returned (.bool false) ∧ ¬ Owns ks os n owner)) := by
  have HK := tuck hk
  have HO := tuck ho
  clear hk ho
  go_enter Trym.func12, Trym.ntmps12
  go_wp2
  go_loop [7] (fun i => ∃ k : Nat, k ≤ n ∧ i = .int .i64 k ∧ ∀ j, j < k → lastAt ks n (ks j) = some j → os j ≠ owner) (fun i => n - (intOf i).toNat)
  case atStart => exact ⟨0, Nat.zero_le _, rfl, fun j hj => absurd hj (Nat.not_lt_zero _)⟩
  case round =>
    obtain ⟨k, hk, rfl, hno⟩ := hrel
    have Hno := tuck hno
    clear hno
    by_cases hlt : k < n
    · have hck := HK.out k hlt
      have hco := HO.out k hlt
      by_cases hq : os k = owner
      · have hb := str_eq hq
        have Hq := tuck hq
        clear hq
        go_wp2_with fail
        refine (look_row g4 c4 g5 c5 n ks os (ks k) hn w HK.out HO.out).mono ?_
        rintro e w ⟨rfl, ⟨hl, rfl⟩ | ⟨j, hl, rfl⟩⟩
        · exfalso
          obtain ⟨j, hj⟩ := lastAt_ex hlt rfl
          rw [hl] at hj
          cases hj
        · have HL := tuck hl
          clear hl
          by_cases hj : os j = owner
          · have hbj := str_eq hj
            have HJ := tuck hj
            clear hj
            go_wp2
            go_ret
            exact ⟨rfl, .inl ⟨rfl, ks k, j, HL.out, HJ.out⟩⟩
          · have hbj := str_ne hj
            have HJ := tuck hj
            clear hj
            go_wp2
            go_round
            case rel => exact ⟨k + 1, by omega, by go_num, fun j' hj' hl' => by
              by_cases e : j' = k
              · subst e
                rw [HL.out] at hl'
                cases hl'
                exact HJ.out
              · exact Hno.out j' (by omega) hl'⟩
            case measure => simp [intOf]; omega
      · have hb := str_ne hq
        have Hq := tuck hq
        clear hq
        go_wp2
        go_round
        case rel => exact ⟨k + 1, by omega, by go_num, fun j' hj' hl' => by
          by_cases e : j' = k
          · subst e; exact Hq.out
          · exact Hno.out j' (by omega) hl'⟩
        case measure => simp [intOf]; omega
    · go_wp2
      go_ret
      refine ⟨rfl, .inr ⟨rfl, ?_⟩⟩
      rintro ⟨x, j, hl, hj⟩
      obtain ⟨h1, h2⟩ := lastAt_inv hl
      subst h2
      exact Hno.out j (by omega) hl hj

theorem owns_zero (a4 : Option Addr) (c4 : Nat) (a5 : Option Addr) (c5 : Nat) (owner : ByteArray) (w : World) :
    Calls Trym.prog 12 #[.slice a4 0 c4, .slice a5 0 c5, .string owner] w fun e w' => w' = w ∧ e = .returned (.bool false) := by
  go_enter Trym.func12, Trym.ntmps12
  go_wp2
  refine wp_loop_rounds 1 ?_
  rw [rounds_succ]
  go_wp2
  go_ret
  exact ⟨rfl, rfl⟩

theorem owns_any (a4 : Option Addr) (c4 : Nat) (a5 : Option Addr) (c5 n : Nat) (ks : Nat → Int) (os : Nat → ByteArray) (owner : ByteArray) (hn : n ≤ 131072) (w : World) (hk : RowOwn w a4 n c4 (fun i => .int .i64 (ks i))) (ho : RowOwn w a5 n c5 (fun i => .string (os i))) :
    Calls Trym.prog 12 #[.slice a4 n c4, .slice a5 n c5, .string owner] w fun e w' => w' = w ∧ ((e = .returned (.bool true) ∧ Owns ks os n owner) ∨ (e = .returned (.bool false) ∧ ¬ Owns ks os n owner)) := by
  by_cases h0 : n = 0
  · subst h0
    refine (owns_zero a4 c4 a5 c5 owner w).mono ?_
    rintro e w' ⟨rfl, rfl⟩
    exact ⟨rfl, .inr ⟨rfl, fun ⟨x, j, hl, _⟩ => by cases hl⟩⟩
  · rcases hk with ⟨_, h, _⟩ | ⟨g4, rfl, hk⟩
    · exact absurd h h0
    · rcases ho with ⟨_, h, _⟩ | ⟨g5, rfl, ho⟩
      · exact absurd h h0
      · exact owns_row g4 c4 g5 c5 n ks os owner hn w hk ho

end Go.Proofs.Qxb6603458aMods
