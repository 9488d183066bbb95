/-
  THE PLAIN PART: no Go in sight: the automaton of a JSON number and the scanner by hand come to one length.
-/
namespace Go.Proofs.Qxb6603551aMods

/-- A digit. -/
def dg (c : Int) : Bool := decide (48 ≤ c ∧ c ≤ 57)

/-- One step of the automaton. -/
def nxt (s : Nat) (c : Int) : Option Nat :=
  match s with
  | 0 => if c == 45 then some 1 else if c == 48 then some 2 else if dg c then some 3 else none
  | 1 => if c == 48 then some 2 else if dg c then some 3 else none
  | 2 => if c == 46 then some 4 else if c == 101 || c == 69 then some 6 else none
  | 3 => if dg c then some 3 else if c == 46 then some 4 else if c == 101 || c == 69 then some 6 else none
  | 4 => if dg c then some 5 else none
  | 5 => if dg c then some 5 else if c == 101 || c == 69 then some 6 else none
  | 6 => if c == 43 || c == 45 then some 7 else if dg c then some 8 else none
  | 7 => if dg c then some 8 else none
  | 8 => if dg c then some 8 else none
  | _ => none

/-- The accepting states. -/
def acc (s : Nat) : Bool := s == 2 || s == 3 || s == 5 || s == 8

/-- The automaton's run from place i in state s, the longest prefix so far b: 'f' places are left. -/
def run (z : Nat → Int) : Nat → Nat → Nat → Nat → Nat
  | 0, _, _, b => b
  | f + 1, i, s, b => match nxt s (z i) with
    | none => b
    | some s' => run z f (i + 1) s' (if acc s' then i + 1 else b)

def L (z : Nat → Int) (n i s b : Nat) : Nat := run z (n - i) i s b

theorem L_end {z : Nat → Int} {n i s b : Nat} (h : n ≤ i) : L z n i s b = b := by
  unfold L
  rw [show n - i = 0 from by omega]
  rfl

theorem L_none {z : Nat → Int} {n i s b : Nat} (h : i < n) (hn : nxt s (z i) = none) : L z n i s b = b := by
  unfold L
  rw [show n - i = (n - (i + 1)) + 1 from by omega]
  show (match nxt s (z i) with | none => b | some s' => run z (n - (i + 1)) (i + 1) s' (if acc s' then i + 1 else b)) = b
  rw [hn]

theorem L_some {z : Nat → Int} {n i s b s' : Nat} (h : i < n) (hn : nxt s (z i) = some s') : L z n i s b = L z n (i + 1) s' (if acc s' then i + 1 else b) := by
  unfold L
  rw [show n - i = (n - (i + 1)) + 1 from by omega]
  show (match nxt s (z i) with | none => b | some s' => run z (n - (i + 1)) (i + 1) s' (if acc s' then i + 1 else b)) = _
  rw [hn]

theorem run_le (z : Nat → Int) : ∀ (f i s b : Nat), b ≤ i → run z f i s b ≤ i + f
  | 0, i, s, b, h => by show b ≤ i + 0; omega
  | f + 1, i, s, b, h => by
    show (match nxt s (z i) with | none => b | some s' => run z f (i + 1) s' (if acc s' then i + 1 else b)) ≤ i + (f + 1)
    split
    · omega
    · rename_i s' _
      have := run_le z f (i + 1) s' (if acc s' then i + 1 else b) (by split <;> omega)
      omega

theorem L_le {z : Nat → Int} {n i s b : Nat} (hb : b ≤ i) (hi : i ≤ n) : L z n i s b ≤ n := by
  have := run_le z (n - i) i s b hb
  unfold L
  omega

/-! ### the scanner by hand -/
/-- Past the digits. -/
def skip (z : Nat → Int) : Nat → Nat → Nat
  | 0, i => i
  | f + 1, i => if dg (z i) then skip z f (i + 1) else i
def sk (z : Nat → Int) (n i : Nat) : Nat := skip z (n - i) i

theorem sk_end {z : Nat → Int} {n i : Nat} (h : n ≤ i) : sk z n i = i := by
  unfold sk
  rw [show n - i = 0 from by omega]
  rfl
theorem sk_yes {z : Nat → Int} {n i : Nat} (h : i < n) (hd : dg (z i) = true) : sk z n i = sk z n (i + 1) := by
  unfold sk
  rw [show n - i = (n - (i + 1)) + 1 from by omega]
  show (if dg (z i) then skip z (n - (i + 1)) (i + 1) else i) = _
  rw [if_pos hd]
theorem sk_no {z : Nat → Int} {n i : Nat} (h : i < n) (hd : dg (z i) = false) : sk z n i = i := by
  unfold sk
  rw [show n - i = (n - (i + 1)) + 1 from by omega]
  show (if dg (z i) then skip z (n - (i + 1)) (i + 1) else i) = _
  rw [if_neg (by rw [hd]; decide)]

/-- Where the digits end. -/
theorem sk_spec (z : Nat → Int) (n : Nat) : ∀ (f i : Nat), n - i = f → i ≤ n → i ≤ sk z n i ∧ sk z n i ≤ n ∧ (sk z n i = n ∨ dg (z (sk z n i)) = false)
  | 0, i, hf, hi => by
    rw [sk_end (by omega)]
    exact ⟨by omega, by omega, .inl (by omega)⟩
  | f + 1, i, hf, hi => by
    cases hd : dg (z i)
    · rw [sk_no (by omega) hd]
      exact ⟨by omega, by omega, .inr hd⟩
    · rw [sk_yes (by omega) hd]
      obtain ⟨h1, h2, h3⟩ := sk_spec z n f (i + 1) (by omega) (by omega)
      exact ⟨by omega, h2, h3⟩

/-- A state that a digit keeps, and that accepts. -/
def Keeps (s : Nat) : Prop := (∀ c, dg c = true → nxt s c = some s) ∧ acc s = true
theorem keeps3 : Keeps 3 := ⟨fun c h => by simp [nxt, h], rfl⟩
theorem keeps5 : Keeps 5 := ⟨fun c h => by simp [nxt, h], rfl⟩
theorem keeps8 : Keeps 8 := ⟨fun c h => by simp [nxt, h], rfl⟩

theorem L_digits {z : Nat → Int} {n s : Nat} (hs : Keeps s) : ∀ (f i : Nat), n - i = f → i ≤ n → L z n i s i = L z n (sk z n i) s (sk z n i)
  | 0, i, hf, hi => by rw [sk_end (by omega)]
  | f + 1, i, hf, hi => by
    cases hd : dg (z i)
    · rw [sk_no (by omega) hd]
    · rw [sk_yes (by omega) hd, ← L_digits hs f (i + 1) (by omega) (by omega), L_some (by omega) (hs.1 _ hd), if_pos hs.2]

/-- The exponent: what the scanner answers from place i on. -/
def signAt (z : Nat → Int) (n j : Nat) : Nat := if j < n ∧ (z j = 43 ∨ z j = 45) then j + 1 else j
def expo (z : Nat → Int) (n i : Nat) : Nat :=
  if i < n ∧ (z i = 101 ∨ z i = 69) then
    (if signAt z n (i + 1) < n ∧ dg (z (signAt z n (i + 1))) = true then sk z n (signAt z n (i + 1) + 1) else i)
  else i
/-- The fraction. -/
def frac (z : Nat → Int) (n i : Nat) : Nat := if i + 1 < n ∧ z i = 46 ∧ dg (z (i + 1)) = true then sk z n (i + 2) else i
/-- The sign. -/
def sign0 (z : Nat → Int) (n : Nat) : Nat := if 0 < n ∧ z 0 = 45 then 1 else 0
/-- The scanner. -/
def scan (z : Nat → Int) (n : Nat) : Nat :=
  if sign0 z n < n ∧ z (sign0 z n) = 48 then expo z n (frac z n (sign0 z n + 1))
  else if sign0 z n < n ∧ 49 ≤ z (sign0 z n) ∧ z (sign0 z n) ≤ 57 then expo z n (frac z n (sk z n (sign0 z n + 1)))
  else 0

theorem dg_true {c : Int} : dg c = true ↔ 48 ≤ c ∧ c ≤ 57 := by simp [dg]
theorem dg_false {c : Int} : dg c = false ↔ ¬ (48 ≤ c ∧ c ≤ 57) := by simp [dg]

/-- State 8 at a place j: the digits of the exponent. -/
theorem L_eight {z : Nat → Int} {n j : Nat} (hj : j ≤ n) : L z n j 8 j = sk z n j := by
  rw [L_digits keeps8 (n - j) j rfl hj]
  obtain ⟨h1, h2, h3⟩ := sk_spec z n (n - j) j rfl hj
  rcases h3 with h3 | h3
  · rw [L_end (by omega)]
  · by_cases he : sk z n j = n
    · rw [L_end (by omega)]
    · rw [L_none (by omega) (by simp [nxt, h3])]

/-- The exponent, by the automaton: from state 6 behind the letter, b the place of the letter. -/
theorem L_six {z : Nat → Int} {n i : Nat} (hi : i < n) : L z n (i + 1) 6 i = if signAt z n (i + 1) < n ∧ dg (z (signAt z n (i + 1))) = true then sk z n (signAt z n (i + 1) + 1) else i := by
  by_cases h1 : i + 1 < n
  · by_cases hs : z (i + 1) = 43 ∨ z (i + 1) = 45
    · have e : signAt z n (i + 1) = i + 2 := by unfold signAt; rw [if_pos ⟨h1, hs⟩]
      rw [e, L_some h1 (s' := 7) (by rcases hs with hs | hs <;> simp [nxt, hs])]
      rw [if_neg (by decide)]
      by_cases h2 : i + 2 < n
      · cases hd : dg (z (i + 2))
        · rw [if_neg (by simp), L_none h2 (by simp [nxt, hd])]
        · rw [if_pos ⟨h2, rfl⟩, L_some h2 (s' := 8) (by simp [nxt, hd]), if_pos (by decide)]
          exact L_eight (by omega)
      · rw [if_neg (by omega), L_end (by omega)]
    · have e : signAt z n (i + 1) = i + 1 := by unfold signAt; rw [if_neg (fun h => hs h.2)]
      have hs1 : ¬ z (i + 1) = 43 := fun h => hs (.inl h)
      have hs2 : ¬ z (i + 1) = 45 := fun h => hs (.inr h)
      rw [e]
      cases hd : dg (z (i + 1))
      · rw [if_neg (by simp), L_none h1 (by simp [nxt, hs1, hs2, hd])]
      · rw [if_pos ⟨h1, rfl⟩, L_some h1 (s' := 8) (by simp [nxt, hs1, hs2, hd]), if_pos (by decide)]
        exact L_eight (by omega)
  · have e : signAt z n (i + 1) = i + 1 := by unfold signAt; rw [if_neg (fun h => h1 h.1)]
    rw [e, if_neg (by omega), L_end (by omega)]

/-- A state from which a letter opens the exponent, and which nothing else at place i continues. -/
theorem L_expo {z : Nat → Int} {n i s : Nat} (hi : i ≤ n) (he : ∀ c, (c = 101 ∨ c = 69) → nxt s c = some 6) (hn : i < n → ¬ (z i = 101 ∨ z i = 69) → L z n i s i = i) : L z n i s i = expo z n i := by
  unfold expo
  by_cases h : i < n ∧ (z i = 101 ∨ z i = 69)
  · rw [if_pos h, L_some h.1 (he _ h.2), if_neg (by decide)]
    exact L_six h.1
  · rw [if_neg h]
    by_cases hin : i < n
    · exact hn hin (fun hz => h ⟨hin, hz⟩)
    · exact L_end (by omega)

/-- Behind the fraction. -/
theorem L_five {z : Nat → Int} {n i : Nat} (hi : i ≤ n) : L z n i 5 i = expo z n (sk z n i) := by
  rw [L_digits keeps5 (n - i) i rfl hi]
  obtain ⟨h1, h2, h3⟩ := sk_spec z n (n - i) i rfl hi
  refine L_expo h2 (fun c hc => by rcases hc with rfl | rfl <;> rfl) (fun hlt hz => ?_)
  have hd : dg (z (sk z n i)) = false := by
    rcases h3 with h3 | h3
    · omega
    · exact h3
  have hz1 : ¬ z (sk z n i) = 101 := fun h => hz (.inl h)
  have hz2 : ¬ z (sk z n i) = 69 := fun h => hz (.inr h)
  exact L_none hlt (by simp [nxt, hd, hz1, hz2])

/-- Behind the whole part: in state 2, or in state 3 at the digits' end. -/
theorem L_whole {z : Nat → Int} {n i s : Nat} (hi : i ≤ n) (hs : s = 2 ∨ (s = 3 ∧ (i = n ∨ dg (z i) = false))) : L z n i s i = expo z n (frac z n i) := by
  have hdot : i < n → z i = 46 → nxt s (z i) = some 4 := fun hlt hz => by
    rw [hz]
    rcases hs with rfl | ⟨rfl, _⟩ <;> rfl
  by_cases hf : i + 1 < n ∧ z i = 46 ∧ dg (z (i + 1)) = true
  · unfold frac
    rw [if_pos hf, L_some (by omega) (hdot (by omega) hf.2.1), if_neg (by decide), L_some hf.1 (s' := 5) (by simp [nxt, hf.2.2]), if_pos (by decide)]
    exact L_five (by omega)
  · have e : frac z n i = i := by unfold frac; rw [if_neg hf]
    rw [e]
    refine L_expo hi (fun c hc => by rcases hs with rfl | ⟨rfl, _⟩ <;> rcases hc with rfl | rfl <;> rfl) (fun hlt hz => ?_)
    have hz1 : ¬ z i = 101 := fun h => hz (.inl h)
    have hz2 : ¬ z i = 69 := fun h => hz (.inr h)
    by_cases hz46 : z i = 46
    · rw [L_some hlt (hdot hlt hz46), if_neg (by decide)]
      by_cases h1 : i + 1 < n
      · have hd : dg (z (i + 1)) = false := by
          cases hd : dg (z (i + 1))
          · rfl
          · exact absurd ⟨h1, hz46, hd⟩ hf
        exact L_none h1 (by simp [nxt, hd])
      · exact L_end (by omega)
    · rcases hs with rfl | ⟨rfl, h3⟩
      · exact L_none hlt (by simp [nxt, hz46, hz1, hz2])
      · have hd : dg (z i) = false := by
          rcases h3 with h3 | h3
          · omega
          · exact h3
        exact L_none hlt (by simp [nxt, hd, hz46, hz1, hz2])

/-- Behind the sign. -/
theorem L_int {z : Nat → Int} {n i s : Nat} (hs : s = 0 ∨ s = 1) (h45 : s = 0 → i < n → z i ≠ 45) (hi : i ≤ n) :
    L z n i s 0 = if i < n ∧ z i = 48 then expo z n (frac z n (i + 1)) else if i < n ∧ 49 ≤ z i ∧ z i ≤ 57 then expo z n (frac z n (sk z n (i + 1))) else 0 := by
  by_cases h1 : i < n ∧ z i = 48
  · rw [if_pos h1, L_some h1.1 (s' := 2) (by rw [h1.2]; rcases hs with rfl | rfl <;> rfl), if_pos (by decide)]
    exact L_whole (by omega) (.inl rfl)
  · rw [if_neg h1]
    by_cases h2 : i < n ∧ 49 ≤ z i ∧ z i ≤ 57
    · have n45 : ¬ z i = 45 := by omega
      have n48 : ¬ z i = 48 := by omega
      have hd : dg (z i) = true := dg_true.2 (by omega)
      rw [if_pos h2, L_some h2.1 (s' := 3) (by rcases hs with rfl | rfl <;> simp [nxt, n45, n48, hd]), if_pos (by decide), L_digits keeps3 (n - (i + 1)) (i + 1) rfl (by omega)]
      obtain ⟨_, k2, k3⟩ := sk_spec z n (n - (i + 1)) (i + 1) rfl (by omega)
      exact L_whole k2 (.inr ⟨rfl, k3⟩)
    · rw [if_neg h2]
      by_cases hlt : i < n
      · have n48 : ¬ z i = 48 := fun h => h1 ⟨hlt, h⟩
        have hd : dg (z i) = false := dg_false.2 (fun h => h2 ⟨hlt, by omega, h.2⟩)
        rcases hs with rfl | rfl
        · have n45 := h45 rfl hlt
          exact L_none hlt (by simp [nxt, n45, n48, hd])
        · exact L_none hlt (by simp [nxt, n48, hd])
      · exact L_end (by omega)

/-- THE PLAIN LAW: the scanner by hand answers the length of the longest prefix that the automaton accepts. -/
theorem scan_eq (z : Nat → Int) (n : Nat) : scan z n = L z n 0 0 0 := by
  unfold scan sign0
  by_cases h : 0 < n ∧ z 0 = 45
  · have e : L z n 0 0 0 = L z n 1 1 0 := by
      rw [L_some (z := z) (n := n) (i := 0) (s := 0) (b := 0) h.1 (s' := 1) (by rw [h.2]; rfl), if_neg (by decide)]
    rw [if_pos h, e]
    exact (L_int (.inr rfl) (fun e => by cases e) (by omega)).symm
  · rw [if_neg h]
    exact (L_int (.inl rfl) (fun _ hlt hz => h ⟨hlt, hz⟩) (by omega)).symm

/-! ### the second law -/
theorem whole_from {z : Nat → Int} {n : Nat} : ∀ (f i s b : Nat), n - i = f → i ≤ n → 0 < n → b ≤ i → (b = i → acc s = true ∨ i = 0) → L z n i s b = n →
    ∃ s', acc s' = true ∧ ∀ (z' : Nat → Int) (n' : Nat), n ≤ n' → (∀ j, j < n → z' j = z j) → L z' n' i s b = L z' n' n s' n
  | 0, i, s, b, hf, hi, hn, hb, ha, hL => by
    have e : i = n := by omega
    subst e
    rw [L_end (Nat.le_refl _)] at hL
    subst hL
    rcases ha rfl with h | h
    · exact ⟨s, h, fun z' n' _ _ => rfl⟩
    · omega
  | f + 1, i, s, b, hf, hi, hn, hb, ha, hL => by
    have hlt : i < n := by omega
    cases hx : nxt s (z i) with
    | none => rw [L_none hlt hx] at hL; omega
    | some s1 =>
      rw [L_some hlt hx] at hL
      obtain ⟨s', h1, h2⟩ := whole_from f (i + 1) s1 (if acc s1 then i + 1 else b) (by omega) (by omega) hn (by split <;> omega) (by
        intro e
        cases hacc : acc s1
        · rw [hacc] at e; simp at e; omega
        · exact .inl rfl) hL
      refine ⟨s', h1, fun z' n' hn' hz => ?_⟩
      rw [← h2 z' n' hn' hz]
      exact L_some (by omega) (by rw [hz i hlt]; exact hx)

/-- A byte that can never continue a whole number. -/
def ends (c : Int) : Prop := dg c = false ∧ c ≠ 46 ∧ c ≠ 101 ∧ c ≠ 69

theorem nxt_ends {s : Nat} {c : Int} (hs : acc s = true) (hc : ends c) : nxt s c = none := by
  obtain ⟨h1, h2, h3, h4⟩ := hc
  have : s = 2 ∨ s = 3 ∨ s = 5 ∨ s = 8 := by
    simp [acc] at hs
    omega
  rcases this with rfl | rfl | rfl | rfl <;> simp [nxt, h1, h2, h3, h4]

/-- THE PLAIN LAW OF THE SECOND STATEMENT: a whole number, alone or before a byte that ends it, is read whole and no further. -/
theorem scan_stops {z z' : Nat → Int} {n n' : Nat} (hn : 0 < n) (hL : L z n 0 0 0 = n) (hn' : n ≤ n') (hz : ∀ j, j < n → z' j = z j) (he : n < n' → ends (z' n)) : scan z' n' = n := by
  rw [scan_eq]
  obtain ⟨s', h1, h2⟩ := whole_from (n - 0) 0 0 0 rfl (by omega) hn (by omega) (fun _ => .inr rfl) hL
  rw [h2 z' n' hn' hz]
  by_cases h : n < n'
  · exact L_none h (nxt_ends h1 (he h))
  · exact L_end (by omega)

theorem scan_le (z : Nat → Int) (n : Nat) : scan z n ≤ n := by
  rw [scan_eq]
  exact L_le (Nat.le_refl _) (Nat.zero_le _)

end Go.Proofs.Qxb6603551aMods
