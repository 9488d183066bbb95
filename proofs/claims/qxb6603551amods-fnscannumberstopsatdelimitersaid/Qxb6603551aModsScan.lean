import Derived.Test.Qxb6603551aModsParts
import Derived.Deep.DeepCutAuto
import Derived.Deep.CutBlock
namespace Go.Proofs.Qxb6603551aMods
open Go.RowKit

theorem ret_int {k : IntKind} {a b : Int} (h : a = b) : Ending.returned (.int k a) = .returned (.int k b) := by rw [h]

/-- The tests of the scanner, as the Go text asks them. -/
def frB (z : Nat → Int) (n i : Nat) : Bool := decide (i + 1 < n ∧ z i = 46 ∧ dg (z (i + 1)) = true)
def exB (z : Nat → Int) (n i : Nat) : Bool := decide (i < n ∧ (z i = 101 ∨ z i = 69))
def sgB (z : Nat → Int) (n j : Nat) : Bool := decide (j < n ∧ (z j = 43 ∨ z j = 45))
def dgB (z : Nat → Int) (n j : Nat) : Bool := decide (j < n ∧ dg (z j) = true)

theorem frac_t {z : Nat → Int} {n i : Nat} (h : frB z n i = true) : i + 1 < n ∧ frac z n i = sk z n (i + 2) := by
  have h' := of_decide_eq_true h
  exact ⟨h'.1, by unfold frac; rw [if_pos h']⟩
theorem frac_f {z : Nat → Int} {n i : Nat} (h : frB z n i = false) : frac z n i = i := by
  unfold frac; rw [if_neg (of_decide_eq_false h)]
theorem expo_f {z : Nat → Int} {n i : Nat} (h : exB z n i = false) : expo z n i = i := by
  unfold expo; rw [if_neg (of_decide_eq_false h)]
theorem expo_tt {z : Nat → Int} {n i : Nat} (h : exB z n i = true) (h2 : dgB z n (signAt z n (i + 1)) = true) : signAt z n (i + 1) < n ∧ expo z n i = sk z n (signAt z n (i + 1) + 1) := by
  have h2' := of_decide_eq_true h2
  exact ⟨h2'.1, by unfold expo; rw [if_pos (of_decide_eq_true h), if_pos h2']⟩
theorem expo_tf {z : Nat → Int} {n i : Nat} (h : exB z n i = true) (h2 : dgB z n (signAt z n (i + 1)) = false) : expo z n i = i := by
  unfold expo; rw [if_pos (of_decide_eq_true h), if_neg (of_decide_eq_false h2)]
theorem sign_t {z : Nat → Int} {n j : Nat} (h : sgB z n j = true) : signAt z n j = j + 1 := by
  unfold signAt; rw [if_pos (of_decide_eq_true h)]
theorem sign_f {z : Nat → Int} {n j : Nat} (h : sgB z n j = false) : signAt z n j = j := by
  unfold signAt; rw [if_neg (of_decide_eq_false h)]
theorem sign_le {z : Nat → Int} {n j : Nat} (h : j ≤ n) : signAt z n j ≤ n := by
  unfold signAt; split <;> omega

set_option maxRecDepth 100000 in
set_option maxHeartbeats 8000000 in
theorem scan_row (b off n c : Nat) (z : Nat → Int) (hn0 : 0 < n) (hn : n ≤ 2097152) (w : World) (hc : ∀ j, j < n → w.cell? ⟨b, off + j, none⟩ = some (.int .u8 (z j))) :
    Calls Trym.prog 11 #[.slice (some ⟨b, off, none⟩) n c] w fun e w' => e = .returned (.int .i64 (scan z n : Nat)) ∧ w' = w := by
  have HC := tuck hc
  clear hc
  have c0 : w.cell? ⟨b, off, none⟩ = some (.int .u8 (z 0)) := by simpa using HC.out 0 hn0
  go_enter Trym.func11, Trym.ntmps11
  go_upto_if 15 with (fail)
  go_cut [3] (fun s3 w' => s3 = .int .i64 ((sign0 z n : Nat) : Int) ∧ w = w')
  case first =>
    cases hz : (z 0 == 45)
    · have HS : Hid (sign0 z n = 0) := by
        show sign0 z n = 0
        unfold sign0; rw [if_neg (fun h => by rw [h.2] at hz; simp at hz)]
      go_wp2
      go_meet
      case rel => exact ⟨by rw [HS.out]; rfl, rfl⟩
    · have HS : Hid (sign0 z n = 1) := by
        show sign0 z n = 1
        unfold sign0; rw [if_pos ⟨hn0, by simpa using hz⟩]
      go_wp2
      go_meet
      case rel => exact ⟨by rw [HS.out]; rfl, rfl⟩
  case rest =>
    obtain ⟨rfl, rfl⟩ := hcut
    have HSc : Hid (scan z n = if sign0 z n < n ∧ z (sign0 z n) = 48 then expo z n (frac z n (sign0 z n + 1)) else if sign0 z n < n ∧ 49 ≤ z (sign0 z n) ∧ z (sign0 z n) ≤ 57 then expo z n (frac z n (sk z n (sign0 z n + 1))) else 0) := rfl
    have h01 : sign0 z n ≤ 1 := by unfold sign0; split <;> omega
    generalize sign0 z n = i0 at HSc h01 ⊢
    clear c0
    go_upto_block 0 with (fail)
    go_cut [3] (fun s3 w' => ∃ i : Nat, i ≤ n ∧ s3 = .int .i64 (i : Int) ∧ w = w' ∧ scan z n = expo z n (frac z n i))
    case first =>
      by_cases hlt : i0 < n
      · have hck := HC.out i0 hlt
        cases h48 : (z i0 == 48)
        · have n48 : Hid (¬ z i0 = 48) := fun h => by rw [h] at h48; simp at h48
          by_cases h49 : 49 ≤ z i0
          · by_cases h57 : z i0 ≤ 57
            · have HF : Hid (scan z n = expo z n (frac z n (sk z n (i0 + 1)))) := by
                show scan z n = _
                rw [HSc.out, if_neg (fun h => n48.out h.2), if_pos ⟨hlt, h49, h57⟩]
              have HB := tuck (sk_spec z n (n - (i0 + 1)) (i0 + 1) rfl (by omega))
              go_wp2_with (go_at_call 13; refine (skip13t b off n c (i0 + 1) _ (by omega) z hn (by omega) _ HC.out).mono ?_; rintro e w' ⟨rfl, rfl⟩)
              go_meet
              case rel => exact ⟨_, HB.out.2.1, rfl, rfl, HF.out⟩
            · have hd : decide (z i0 ≤ 57) = false := by simpa using h57
              have HF : Hid (scan z n = 0) := by
                show scan z n = _
                rw [HSc.out, if_neg (fun h => n48.out h.2), if_neg (fun h => h57 h.2.2)]
              go_wp2
              go_ret
              exact ⟨by rw [HF.out]; rfl, rfl⟩
          · have hd : decide (49 ≤ z i0) = false := by simpa using h49
            have HF : Hid (scan z n = 0) := by
              show scan z n = _
              rw [HSc.out, if_neg (fun h => n48.out h.2), if_neg (fun h => h49 h.2.1)]
            go_wp2
            go_ret
            exact ⟨by rw [HF.out]; rfl, rfl⟩
        · have HF : Hid (scan z n = expo z n (frac z n (i0 + 1))) := by
            show scan z n = _
            rw [HSc.out, if_pos ⟨hlt, by simpa using h48⟩]
          go_wp2
          go_meet
          case rel => exact ⟨i0 + 1, by omega, by go_num, rfl, HF.out⟩
      · have hd : decide ((i0 : Int) < (n : Int)) = false := by simp; omega
        have HF : Hid (scan z n = 0) := by
          show scan z n = _
          rw [HSc.out, if_neg (fun h => hlt h.1), if_neg (fun h => hlt h.1)]
        go_wp2
        go_ret
        exact ⟨by rw [HF.out]; rfl, rfl⟩
    case rest =>
      obtain ⟨i, hi, rfl, rfl, hsc⟩ := hcut
      have HS2 := tuck hsc
      clear hsc HSc h01
      -- THE FRACTION
      go_upto_region 9 with (fail)
      go_cut [74] (fun s w' => s = .bool (frB z n i) ∧ w = w')
      case first =>
        by_cases h1 : i + 1 < n
        · have hck := HC.out i (by omega)
          have hck1 := HC.out (i + 1) h1
          cases h46 : (z i == 46)
          · have HF : Hid (frB z n i = false) := by
              show frB z n i = false
              unfold frB; rw [decide_eq_false_iff_not]; rintro ⟨_, h, _⟩; rw [h] at h46; simp at h46
            go_wp2
            go_meet
            case rel => exact ⟨by rw [HF.out], rfl⟩
          · have HF : Hid (frB z n i = dg (z (i + 1))) := by
              show frB z n i = _
              have h46' : z i = 46 := by simpa using h46
              unfold frB
              cases hd : dg (z (i + 1)) <;> simp [h1, h46']
            go_wp2_with (go_at_call 14; refine (dig14 _ _).mono ?_; rintro e w' ⟨rfl, rfl⟩)
            go_meet
            case rel => exact ⟨by rw [HF.out], rfl⟩
        · have hd : decide ((i : Int) + 1 < (n : Int)) = false := by simp; omega
          have HF : Hid (frB z n i = false) := by
            show frB z n i = false
            unfold frB; rw [decide_eq_false_iff_not]; exact fun h => h1 h.1
          go_wp2
          go_meet
          case rel => exact ⟨by rw [HF.out], rfl⟩
      case rest =>
        obtain ⟨rfl, rfl⟩ := hcut
        go_upto_if 74 with (fail)
        go_cut [3] (fun s3 w' => ∃ j : Nat, j ≤ n ∧ s3 = .int .i64 (j : Int) ∧ w = w' ∧ scan z n = expo z n j)
        case first =>
          cases hB : frB z n i
          · have HF : Hid (scan z n = expo z n i) := by
              show scan z n = _
              rw [HS2.out, frac_f hB]
            go_wp2
            go_meet
            case rel => exact ⟨i, hi, rfl, rfl, HF.out⟩
          · have HF : Hid (scan z n = expo z n (sk z n (i + 2))) := by
              show scan z n = _
              rw [HS2.out, (frac_t hB).2]
            have h1 := (frac_t hB).1
            have HB := tuck (sk_spec z n (n - (i + 2)) (i + 2) rfl (by omega))
            go_wp2_with (go_at_call 13; refine (skip13t b off n c (i + 2) _ (by omega) z hn (by omega) _ HC.out).mono ?_; rintro e w' ⟨rfl, rfl⟩)
            go_meet
            case rel => exact ⟨_, HB.out.2.1, rfl, rfl, HF.out⟩
        case rest =>
          clear HS2 hi
          obtain ⟨i, hi, rfl, rfl, hsc⟩ := hcut
          have HS3 := tuck hsc
          clear hsc
          -- THE EXPONENT
          go_upto_region 11 with (fail)
          go_cut [96] (fun s w' => s = .bool (exB z n i) ∧ w = w')
          case first =>
            by_cases h1 : i < n
            · have hck := HC.out i h1
              cases h101 : (z i == 101)
              · cases h69 : (z i == 69)
                · have HF : Hid (exB z n i = false) := by
                    show exB z n i = false
                    unfold exB; rw [decide_eq_false_iff_not]
                    rintro ⟨_, h | h⟩
                    · rw [h] at h101; simp at h101
                    · rw [h] at h69; simp at h69
                  go_wp2
                  go_meet
                  case rel => exact ⟨by rw [HF.out], rfl⟩
                · have HF : Hid (exB z n i = true) := by
                    show exB z n i = true
                    unfold exB; rw [decide_eq_true_eq]; exact ⟨h1, .inr (by simpa using h69)⟩
                  go_wp2
                  go_meet
                  case rel => exact ⟨by rw [HF.out], rfl⟩
              · have HF : Hid (exB z n i = true) := by
                  show exB z n i = true
                  unfold exB; rw [decide_eq_true_eq]; exact ⟨h1, .inl (by simpa using h101)⟩
                go_wp2
                go_meet
                case rel => exact ⟨by rw [HF.out], rfl⟩
            · have hd : decide ((i : Int) < (n : Int)) = false := by simp; omega
              have HF : Hid (exB z n i = false) := by
                show exB z n i = false
                unfold exB; rw [decide_eq_false_iff_not]; exact fun h => h1 h.1
              go_wp2
              go_meet
              case rel => exact ⟨by rw [HF.out], rfl⟩
          case rest =>
            obtain ⟨rfl, rfl⟩ := hcut
            cases hE : exB z n i
            · have HF : Hid (scan z n = i) := by
                show scan z n = i
                rw [HS3.out, expo_f hE]
              go_wp2
              go_ret
              exact ⟨by rw [HF.out]; rfl, rfl⟩
            · have hin : i < n := (of_decide_eq_true hE).1
              have HE := tuck hE
              go_upto_region 13 with (fail)
              go_cut [116] (fun s w' => s = .bool (sgB z n (i + 1)) ∧ w = w')
              case first =>
                by_cases h1 : i + 1 < n
                · have hck := HC.out (i + 1) h1
                  cases h43 : (z (i + 1) == 43)
                  · cases h45 : (z (i + 1) == 45)
                    · have HF : Hid (sgB z n (i + 1) = false) := by
                        show sgB z n (i + 1) = false
                        unfold sgB; rw [decide_eq_false_iff_not]
                        rintro ⟨_, h | h⟩
                        · rw [h] at h43; simp at h43
                        · rw [h] at h45; simp at h45
                      go_wp2
                      go_meet
                      case rel => exact ⟨by rw [HF.out], rfl⟩
                    · have HF : Hid (sgB z n (i + 1) = true) := by
                        show sgB z n (i + 1) = true
                        unfold sgB; rw [decide_eq_true_eq]; exact ⟨h1, .inr (by simpa using h45)⟩
                      go_wp2
                      go_meet
                      case rel => exact ⟨by rw [HF.out], rfl⟩
                  · have HF : Hid (sgB z n (i + 1) = true) := by
                      show sgB z n (i + 1) = true
                      unfold sgB; rw [decide_eq_true_eq]; exact ⟨h1, .inl (by simpa using h43)⟩
                    go_wp2
                    go_meet
                    case rel => exact ⟨by rw [HF.out], rfl⟩
                · have hd : decide ((i : Int) + 1 < (n : Int)) = false := by simp; omega
                  have HF : Hid (sgB z n (i + 1) = false) := by
                    show sgB z n (i + 1) = false
                    unfold sgB; rw [decide_eq_false_iff_not]; exact fun h => h1 h.1
                  go_wp2
                  go_meet
                  case rel => exact ⟨by rw [HF.out], rfl⟩
              case rest =>
                obtain ⟨rfl, rfl⟩ := hcut
                go_upto_if 116 with (fail)
                go_cut [4] (fun s4 w' => s4 = .int .i64 ((signAt z n (i + 1) : Nat) : Int) ∧ w = w')
                case first =>
                  cases hG : sgB z n (i + 1)
                  · have HF := tuck (sign_f hG)
                    go_wp2
                    go_meet
                    case rel => exact ⟨by rw [HF.out]; go_num, rfl⟩
                  · have HF := tuck (sign_t hG)
                    go_wp2
                    go_meet
                    case rel => exact ⟨by rw [HF.out]; go_num, rfl⟩
                case rest =>
                  obtain ⟨rfl, rfl⟩ := hcut
                  have hj : signAt z n (i + 1) ≤ n := sign_le (by omega)
                  have HT : Hid (dgB z n (signAt z n (i + 1)) = true → signAt z n (i + 1) < n ∧ expo z n i = sk z n (signAt z n (i + 1) + 1)) := fun h => expo_tt HE.out h
                  have HFa : Hid (dgB z n (signAt z n (i + 1)) = false → expo z n i = i) := fun h => expo_tf HE.out h
                  clear hE
                  generalize signAt z n (i + 1) = j at hj HT HFa ⊢
                  go_upto_region 15 with (fail)
                  go_cut [129] (fun s w' => s = .bool (dgB z n j) ∧ w = w')
                  case first =>
                    by_cases h1 : j < n
                    · have hck := HC.out j h1
                      have HF : Hid (dgB z n j = dg (z j)) := by
                        show dgB z n j = _
                        unfold dgB
                        cases hd : dg (z j) <;> simp [h1]
                      go_wp2_with (go_at_call 14; refine (dig14 _ _).mono ?_; rintro e w' ⟨rfl, rfl⟩)
                      go_meet
                      case rel => exact ⟨by rw [HF.out], rfl⟩
                    · have hd : decide ((j : Int) < (n : Int)) = false := by simp; omega
                      have HF : Hid (dgB z n j = false) := by
                        show dgB z n j = false
                        unfold dgB; rw [decide_eq_false_iff_not]; exact fun h => h1 h.1
                      go_wp2
                      go_meet
                      case rel => exact ⟨by rw [HF.out], rfl⟩
                  case rest =>
                    obtain ⟨rfl, rfl⟩ := hcut
                    cases hD : dgB z n j
                    · have HF : Hid (scan z n = i) := by
                        show scan z n = i
                        rw [HS3.out, HFa.out hD]
                      go_wp2
                      go_ret
                      exact ⟨by rw [HF.out]; rfl, rfl⟩
                    · have HF : Hid (scan z n = sk z n (j + 1)) := by
                        show scan z n = _
                        rw [HS3.out, (HT.out hD).2]
                      have h1 := (HT.out hD).1
                      go_wp2_with (go_at_call 13; refine (skip13t b off n c (j + 1) _ (by omega) z hn (by omega) _ HC.out).mono ?_; rintro e w' ⟨rfl, rfl⟩)
                      go_ret
                      exact ⟨by rw [HF.out]; rfl, rfl⟩

theorem scan_zero (a : Option Addr) (c : Nat) (w : World) :
    Calls Trym.prog 11 #[.slice a 0 c] w fun e w' => e = .returned (.int .i64 0) ∧ w' = w := by
  go_enter Trym.func11, Trym.ntmps11
  go_wp2
  go_ret
  exact ⟨rfl, rfl⟩

end Go.Proofs.Qxb6603551aMods
