import Derived.Test.Qxb6603190aModsRows
import Derived.WalkKit
import Derived.ProofKit
namespace Go.Proofs.Qxb6603190aMods
open Go.ChangeShapes Go.WideShapes Go.ChangeAt Go.RowKit

/-- The text ends in a full stop. -/
def Ends (s : ByteArray) : Prop := ∃ h : 0 < s.size, (s[s.size - 1]'(by omega)).toNat = 46 ∧ s.size ≤ 9223372036854775807

theorem Ends.append {a b : ByteArray} (hb : Ends b) (h : a.size + b.size ≤ 9223372036854775807) : Ends (a ++ b) := by
  obtain ⟨h0, h1, h2⟩ := hb
  have hs : (a ++ b).size = a.size + b.size := by simp [ByteArray.size_append]
  refine ⟨by omega, ?_, by omega⟩
  have e : (a ++ b)[(a ++ b).size - 1]'(by omega) = b[b.size - 1]'(by omega) := by
    rw [ByteArray.getElem_append_right (by omega)]
    congr 1
    omega
  rw [e, h1]

set_option maxHeartbeats 400000 in
theorem fullStop_any (s : ByteArray) (h : Ends s) (w : World) :
    Calls Trym.prog 7 #[.string s] w fun e w' => e = .returned (.bool true) ∧ w' = w := by
  obtain ⟨h0, h1, h2⟩ := h
  have h0' : (0 : Int) < (s.size : Int) := by omega
  go_enter Trym.func7, Trym.ntmps7
  go_wp2
  go_ret
  exact ⟨rfl, rfl⟩

theorem bytes_dep (a0 a1 a2 a3 : ByteArray) (h0 : a0.size ≤ maxLen) (h1 : a1.size ≤ maxLen) (h2 : a2.size ≤ maxLen) (h3 : a3.size ≤ maxLen) (w : World) :
    Calls Trym.prog 5 #[.string a0, .string a1, .string a2, .string a3] w fun e w' => ∃ b, e = .returned (.bool b) ∧ w' = w := by
  unfold maxLen at h0 h1 h2 h3
  go_enter Trym.func5, Trym.ntmps5
  go_wp2
  all_goals (go_ret; exact ⟨_, rfl, rfl⟩)

theorem bytes_opt (a0 a1 a2 : ByteArray) (h0 : a0.size ≤ maxLen) (h1 : a1.size ≤ maxLen) (h2 : a2.size ≤ maxLen) (w : World) :
    Calls Trym.prog 8 #[.string a0, .string a1, .string a2] w fun e w' => ∃ b, e = .returned (.bool b) ∧ w' = w := by
  unfold maxLen at h0 h1 h2
  go_enter Trym.func8, Trym.ntmps8
  go_wp2
  all_goals (go_ret; exact ⟨_, rfl, rfl⟩)

set_option maxHeartbeats 400000 in
theorem dep_any (a0 a1 a2 a3 : ByteArray) (h0 : a0.size ≤ 262144) (h1 : a1.size ≤ 262144) (h2 : a2.size ≤ 262144) (h3 : a3.size ≤ 262144) (w : World) :
    Calls Trym.prog 10 #[.string a0, .string a1, .string a2, .string a3] w fun e w' => ∃ f s a g p r : ByteArray, e = .returned (.agg #[.string ⟨#[]⟩, .string f, .string s, .string a, .string g, .string p, .string r]) ∧ w' = w.alloc (.cells #[.string ⟨#[]⟩, .string f, .string s, .string a, .string g, .string p, .string r] 24) ∧ (f.toList == []) = false ∧ Ends s ∧ Ends a ∧ Ends g ∧ Ends p ∧ Ends r := by
  go_enter Trym.func10, Trym.ntmps10
  go_wp2
  refine bodyPost_ret (by simp [results, Trym.results10, go_sem]) rfl ⟨_, _, _, _, _, _, rfl, rfl, ?_, ?_, ?_, ?_, ?_, ?_⟩
  · decide +kernel
  · refine Ends.append ?_ ?_
    · exact ⟨by decide +kernel, by decide +kernel, by decide +kernel⟩
    · simp [ByteArray.size_append, ByteArray.size_mk']; omega
  · exact ⟨by decide +kernel, by decide +kernel, by decide +kernel⟩
  · exact ⟨by decide +kernel, by decide +kernel, by decide +kernel⟩
  · exact ⟨by decide +kernel, by decide +kernel, by decide +kernel⟩
  · refine Ends.append ?_ ?_
    · exact ⟨by decide +kernel, by decide +kernel, by decide +kernel⟩
    · simp [ByteArray.size_append, ByteArray.size_mk']; omega

set_option maxRecDepth 100000 in
set_option maxHeartbeats 400000 in
theorem opt_any (a0 a1 a2 : ByteArray) (h0 : a0.size ≤ 262144) (h1 : a1.size ≤ 262144) (h2 : a2.size ≤ 262144) (w : World) :
    Calls Trym.prog 11 #[.string a0, .string a1, .string a2] w fun e w' => ∃ f s a g p r : ByteArray, e = .returned (.agg #[.string ⟨#[]⟩, .string f, .string s, .string a, .string g, .string p, .string r]) ∧ w' = w.alloc (.cells #[.string ⟨#[]⟩, .string f, .string s, .string a, .string g, .string p, .string r] 24) ∧ (f.toList == []) = false ∧ Ends s ∧ Ends a ∧ Ends g ∧ Ends p ∧ Ends r := by
  go_enter Trym.func11, Trym.ntmps11
  go_wp2
  refine bodyPost_ret (by simp [results, Trym.results11, go_sem]) rfl ⟨_, _, _, _, _, _, rfl, rfl, ?_, ?_, ?_, ?_, ?_, ?_⟩
  · decide +kernel
  · refine Ends.append ?_ ?_
    · exact ⟨by decide +kernel, by decide +kernel, by decide +kernel⟩
    · simp [ByteArray.size_append, ByteArray.size_mk']; omega
  · exact ⟨by decide +kernel, by decide +kernel, by decide +kernel⟩
  · exact ⟨by decide +kernel, by decide +kernel, by decide +kernel⟩
  · exact ⟨by decide +kernel, by decide +kernel, by decide +kernel⟩
  · refine Ends.append ?_ ?_
    · exact ⟨by decide +kernel, by decide +kernel, by decide +kernel⟩
    · simp [ByteArray.size_append, ByteArray.size_mk']; omega

set_option maxHeartbeats 400000 in
theorem zzdep_any (a0 a1 a2 a3 : ByteArray) (h0 : a0.size ≤ 262144) (h1 : a1.size ≤ 262144) (h2 : a2.size ≤ 262144) (h3 : a3.size ≤ 262144) (w : World) :
    Calls Trym.prog 6 #[.string a0, .string a1, .string a2, .string a3] w fun e w' => ∃ f s a g p r : ByteArray, e = .returned (.agg #[.string ⟨#[]⟩, .string f, .string s, .string a, .string g, .string p, .string r]) ∧ w' = (w.alloc (.cells #[.string ⟨#[]⟩, .string f, .string s, .string a, .string g, .string p, .string r] 24)).alloc (.cells #[.string ⟨#[]⟩, .string f, .string s, .string a, .string g, .string p, .string r] 24) ∧ (f.toList == []) = false ∧ Ends s ∧ Ends a ∧ Ends g ∧ Ends p ∧ Ends r := by
  go_enter Trym.func6, Trym.ntmps6
  go_wp2_with fail
  refine (dep_any a0 a1 a2 a3 h0 h1 h2 h3 _).mono ?_
  rintro e w1 ⟨f, s, a, g, p, r, rfl, rfl, hf, hs, ha, hg, hp, hr⟩
  go_wp2
  exact bodyPost_ret (by simp [results, Trym.results6, go_sem]) rfl ⟨f, s, a, g, p, r, rfl, rfl, hf, hs, ha, hg, hp, hr⟩

set_option maxHeartbeats 400000 in
theorem zzopt_any (a0 a1 a2 : ByteArray) (h0 : a0.size ≤ 262144) (h1 : a1.size ≤ 262144) (h2 : a2.size ≤ 262144) (w : World) :
    Calls Trym.prog 9 #[.string a0, .string a1, .string a2] w fun e w' => ∃ f s a g p r : ByteArray, e = .returned (.agg #[.string ⟨#[]⟩, .string f, .string s, .string a, .string g, .string p, .string r]) ∧ w' = (w.alloc (.cells #[.string ⟨#[]⟩, .string f, .string s, .string a, .string g, .string p, .string r] 24)).alloc (.cells #[.string ⟨#[]⟩, .string f, .string s, .string a, .string g, .string p, .string r] 24) ∧ (f.toList == []) = false ∧ Ends s ∧ Ends a ∧ Ends g ∧ Ends p ∧ Ends r := by
  go_enter Trym.func9, Trym.ntmps9
  go_wp2_with fail
  refine (opt_any a0 a1 a2 h0 h1 h2 _).mono ?_
  rintro e w1 ⟨f, s, a, g, p, r, rfl, rfl, hf, hs, ha, hg, hp, hr⟩
  go_wp2
  exact bodyPost_ret (by simp [results, Trym.results9, go_sem]) rfl ⟨f, s, a, g, p, r, rfl, rfl, hf, hs, ha, hg, hp, hr⟩

set_option maxHeartbeats 1000000 in
theorem law_dep (a0 a1 a2 a3 : ByteArray) (w0 : a0.size ≤ maxLen) (w1 : a1.size ≤ maxLen) (w2 : a2.size ≤ maxLen) (w3 : a3.size ≤ maxLen) (w : World) :
    Calls Trym.prog 3 #[.string a0, .string a1, .string a2, .string a3] w fun e w' => e = .returned (.bool true) ∧ Grown w w' := by
  go_enter Trym.func3, Trym.ntmps3
  go_wp2_with fail
  refine (bytes_dep a0 a1 a2 a3 w0 w1 w2 w3 _).mono ?_
  rintro e w' ⟨b, rfl, rfl⟩
  cases b
  · go_wp2
    go_ret
    exact ⟨rfl, Grown.refl _⟩
  · by_cases c0 : a0.size ≤ 262144
    · by_cases c1 : a1.size ≤ 262144
      · by_cases c2 : a2.size ≤ 262144
        · by_cases c3 : a3.size ≤ 262144
          · go_wp2_with fail
            refine (zzdep_any a0 a1 a2 a3 c0 c1 c2 c3 _).mono ?_
            rintro e w1 ⟨f, s, a, g, p, r, rfl, rfl, hf, hs, ha, hg, hp, hr⟩
            go_wp2_with fail
            refine (fullStop_any s hs _).mono ?_
            rintro e w1 ⟨rfl, rfl⟩
            go_wp2_with fail
            refine (fullStop_any a ha _).mono ?_
            rintro e w1 ⟨rfl, rfl⟩
            go_wp2_with fail
            refine (fullStop_any g hg _).mono ?_
            rintro e w1 ⟨rfl, rfl⟩
            go_wp2_with fail
            refine (fullStop_any p hp _).mono ?_
            rintro e w1 ⟨rfl, rfl⟩
            go_wp2_with fail
            refine (fullStop_any r hr _).mono ?_
            rintro e w1 ⟨rfl, rfl⟩
            go_wp2
            go_ret
            exact ⟨rfl, by repeat (first | exact Grown.refl _ | apply Grown.drew | apply Grown.alloc)⟩
          · go_wp2
            go_ret
            exact ⟨rfl, Grown.refl _⟩
        · go_wp2
          go_ret
          exact ⟨rfl, Grown.refl _⟩
      · go_wp2
        go_ret
        exact ⟨rfl, Grown.refl _⟩
    · go_wp2
      go_ret
      exact ⟨rfl, Grown.refl _⟩

set_option maxHeartbeats 1000000 in
theorem law_opt (a0 a1 a2 : ByteArray) (w0 : a0.size ≤ maxLen) (w1 : a1.size ≤ maxLen) (w2 : a2.size ≤ maxLen) (w : World) :
    Calls Trym.prog 4 #[.string a0, .string a1, .string a2] w fun e w' => e = .returned (.bool true) ∧ Grown w w' := by
  go_enter Trym.func4, Trym.ntmps4
  go_wp2_with fail
  refine (bytes_opt a0 a1 a2 w0 w1 w2 _).mono ?_
  rintro e w' ⟨b, rfl, rfl⟩
  cases b
  · go_wp2
    go_ret
    exact ⟨rfl, Grown.refl _⟩
  · by_cases c0 : a0.size ≤ 262144
    · by_cases c1 : a1.size ≤ 262144
      · by_cases c2 : a2.size ≤ 262144
        · go_wp2_with fail
          refine (zzopt_any a0 a1 a2 c0 c1 c2 _).mono ?_
          rintro e w1 ⟨f, s, a, g, p, r, rfl, rfl, hf, hs, ha, hg, hp, hr⟩
          go_wp2_with fail
          refine (fullStop_any s hs _).mono ?_
          rintro e w1 ⟨rfl, rfl⟩
          go_wp2_with fail
          refine (fullStop_any a ha _).mono ?_
          rintro e w1 ⟨rfl, rfl⟩
          go_wp2_with fail
          refine (fullStop_any g hg _).mono ?_
          rintro e w1 ⟨rfl, rfl⟩
          go_wp2_with fail
          refine (fullStop_any p hp _).mono ?_
          rintro e w1 ⟨rfl, rfl⟩
          go_wp2_with fail
          refine (fullStop_any r hr _).mono ?_
          rintro e w1 ⟨rfl, rfl⟩
          go_wp2
          go_ret
          exact ⟨rfl, by repeat (first | exact Grown.refl _ | apply Grown.drew | apply Grown.alloc)⟩
        · go_wp2
          go_ret
          exact ⟨rfl, Grown.refl _⟩
      · go_wp2
        go_ret
        exact ⟨rfl, Grown.refl _⟩
    · go_wp2
      go_ret
      exact ⟨rfl, Grown.refl _⟩
end Go.Proofs.Qxb6603190aMods
