import Derived.Test.Qxb6603458aModsFound
namespace Go.Proofs.Qxb6603458aMods
open Go.RowKit Go.Maps

/-- The place that placeOf picks is a plain int. -/
theorem place_wf {f : Int → Option (Int × ByteArray × Int)} {owner : ByteArray} {places r : Int} (hp : places ≤ 65536) (h : PlaceOk f owner places r) : (Lit.int .i64 r).wf = true := by
  rcases h with ⟨h, _⟩ | ⟨_, ⟨h0, h1, _⟩ | ⟨rfl, _⟩⟩
  · exact h
  · exact WalkArith.wf_i64 ⟨by omega, by omega⟩
  · decide

/-- THE PLAIN LAW: found of the place that placeOf picks. -/
theorem plain5 {f : Int → Option (Int × ByteArray × Int)} {owner ro : ByteArray} {places p r : Int} {b : Bool} (hp : PlaceOk f owner places p) (hr : FoundOk b ro f owner p r) :
    (b = true ∧ ro ≠ ⟨#[]⟩ ∧ r = 3) ∨ (¬ (b = true ∧ ro ≠ ⟨#[]⟩) ∧ (r ≠ 3 ∨ p = -1)) := by
  rcases hr with h | ⟨h, h3⟩
  · exact .inl h
  · refine .inr ⟨h, ?_⟩
    by_cases hr3 : r = 3
    · obtain ⟨c, hc, hne⟩ := h3 hr3
      rcases hp with ⟨_, c', hc', ho⟩ | ⟨_, ⟨_, _, hn, _⟩ | ⟨hm, _⟩⟩
      · rw [hc] at hc'; cases hc'; exact absurd ho hne
      · rw [hc] at hn; cases hn
      · exact .inr hm
    · exact .inl hr3

set_option maxHeartbeats 1000000 in
theorem law5 (b0 : Bool) (i1 : Int) (s2 : ByteArray) (i3 : Int) (a4 : Option Addr) (n4 c4 : Nat) (ks : Nat → Int) (a5 : Option Addr) (n5 c5 : Nat) (os : Nat → ByteArray) (a6 : Option Addr) (n6 c6 : Nat) (ts : Nat → Int) (s7 : ByteArray) (i8 : Int) (w : World)
    (h2 : s2.size ≤ maxLen) (h4 : n4 ≤ maxLen) (h5 : n5 ≤ maxLen) (h6 : n6 ≤ maxLen) (h7 : s7.size ≤ maxLen)
    (hk : RowIn w a4 n4 c4 (fun i => .int .i64 (ks i))) (hwk : ∀ i, i < n4 → (Lit.int .i64 (ks i)).wf = true) (ho : RowIn w a5 n5 c5 (fun i => .string (os i))) (hos : ∀ i, i < n5 → (os i).size ≤ maxLen) (ht : RowIn w a6 n6 c6 (fun i => .int .i64 (ts i))) :
    Calls Trym.prog 5 #[.bool b0, .int .i64 i1, .string s2, .int .i64 i3, .slice a4 n4 c4, .slice a5 n5 c5, .slice a6 n6 c6, .string s7, .int .i64 i8] w fun e w' => e = .returned (.bool true) ∧ Below w.heap.size w w' := by
  have HK := tuck hk
  have HW := tuck hwk
  have HO := tuck ho
  have HOS := tuck hos
  have HT := tuck ht
  clear hk hwk ho hos ht
  go_enter Trym.func5, Trym.ntmps5
  go_wp2_with fail
  refine (bytes16 b0 i1 s2 i3 a4 n4 c4 a5 n5 c5 os a6 n6 c6 s7 i8 w h2 h4 h5 h6 h7 HO.out HOS.out).mono ?_
  rintro e w ⟨rfl, rfl | rfl⟩
  · go_wp2
    go_ret
    exact ⟨rfl, Below.refl _ _⟩
  go_wp2_with fail
  refine (size7 s2 s7 a4 n4 c4 a5 n5 c5 os a6 n6 c6 w h2 h7 h4 h5 h6 HO.out HOS.out).mono ?_
  rintro e w ⟨rfl, rfl | ⟨rfl, g4, g5, g6⟩⟩
  · go_wp2
    go_ret
    exact ⟨rfl, Below.refl _ _⟩
  clear h2 h4 h5 h6 h7
  by_cases hp : 65536 < i8
  · have hd : decide (65536 < i8) = true := by simpa using hp
    go_wp2
    go_ret
    exact ⟨rfl, Below.refl _ _⟩
  by_cases hl : ¬ (n5 = n4 ∧ n6 = n4)
  · by_cases e5 : n5 = n4
    · have e6 : ((n6 : Int) != (n4 : Int)) = true := by rw [bne_iff_ne]; omega
      have e5' : ((n5 : Int) != (n4 : Int)) = false := by simp; omega
      clear e5 hl
      go_wp2
      go_ret
      exact ⟨rfl, Below.refl _ _⟩
    · have e5' : ((n5 : Int) != (n4 : Int)) = true := by rw [bne_iff_ne]; omega
      clear e5 hl
      go_wp2
      go_ret
      exact ⟨rfl, Below.refl _ _⟩
  obtain ⟨rfl, rfl⟩ : n5 = n4 ∧ n6 = n4 := by
    by_cases e : n5 = n4 ∧ n6 = n4
    · exact e
    · exact absurd e hl
  clear hl g5 g6
  have HP : Hid (i8 ≤ 65536) := by show i8 ≤ 65536; omega
  have hd : decide (65536 < i8) = false := by simpa using hp
  clear hp
  go_wp2_with fail
  refine (clone8 a4 _ c4 ks g4 w HK.out).mono ?_
  rintro e w1 ⟨a4', c4', rfl, hk1, hb1⟩
  have HK1 := tuck hk1
  have HB1 := tuck hb1
  clear hk1 hb1
  go_wp2_with fail
  refine (clone9 a5 _ c5 os g4 w1 (HO.out.later HB1.out)).mono ?_
  rintro e w2 ⟨a5', c5', rfl, hk2, hb2⟩
  have HK2 := tuck hk2
  have HB2 := tuck hb2
  clear hk2 hb2
  go_wp2_with fail
  refine (clone10 a6 _ c6 ts g4 w2 ((HT.out.later HB1.out).later HB2.out)).mono ?_
  rintro e w3 ⟨a6', c6', rfl, hk3, hb3⟩
  have HK3 := tuck hk3
  have HB3 := tuck hb3
  clear hk3 hb3
  go_wp2_with fail
  refine (zzplace b0 i1 s2 i3 a4' _ c4' ks a5' c5' os a6' c6' ts s7 i8 HP.out w3 g4 ((HK1.out.later HB2.out).later HB3.out) HW.out (HK2.out.later HB3.out) HK3.out).mono ?_
  rintro e w4 ⟨p, rfl, hpo, hb4⟩
  have HPO := tuck hpo
  have HB4 := tuck hb4
  clear hpo hb4
  go_wp2_with fail
  refine (zzfound b0 i1 s2 i3 a4' _ c4' ks a5' c5' os a6' c6' ts s7 p (place_wf HP.out HPO.out) w4 g4 (((HK1.out.later HB2.out).later HB3.out).later HB4.out) HW.out ((HK2.out.later HB3.out).later HB4.out) (HK3.out.later HB4.out)).mono ?_
  rintro e w5 ⟨r, rfl, hfo, hb5⟩
  have HB : Hid (Below w.heap.size w w5) := ((((HB1.out.trans HB2.out (fun _ _ h => h)).trans HB3.out (fun _ _ h => h)).trans HB4.out (fun _ _ h => h)).trans hb5 (fun _ _ h => h)).below (Nat.le_refl _) (fun k h => h.elim)
  have HL := tuck (plain5 HPO.out hfo)
  clear hfo hb5
  rcases HL.out with ⟨hb, hro, hr⟩ | ⟨hnb, hr⟩
  · subst hb
    subst hr
    have hre := emp_ne hro
    clear hro
    go_wp2
    go_ret
    exact ⟨rfl, HB.out⟩
  · cases b0
    · clear hnb
      rcases hr with hr | hr
      · have hr' : (r != 3) = true := by simpa using hr
        clear hr
        go_wp2
        go_ret
        exact ⟨rfl, HB.out⟩
      · subst hr
        clear HPO
        by_cases hr3 : r = 3
        · subst hr3
          go_wp2
          go_ret
          exact ⟨rfl, HB.out⟩
        · have hr' : (r != 3) = true := by simpa using hr3
          clear hr3
          go_wp2
          go_ret
          exact ⟨rfl, HB.out⟩
    · have hs2 : s2 = ⟨#[]⟩ := by
        by_cases e : s2 = ⟨#[]⟩
        · exact e
        · exact absurd ⟨rfl, e⟩ hnb
      clear hnb
      subst hs2
      have hre := emp_eq
      rcases hr with hr | hr
      · have hr' : (r != 3) = true := by simpa using hr
        clear hr
        go_wp2
        go_ret
        exact ⟨rfl, HB.out⟩
      · subst hr
        by_cases hr3 : r = 3
        · subst hr3
          go_wp2
          go_ret
          exact ⟨rfl, HB.out⟩
        · have hr' : (r != 3) = true := by simpa using hr3
          clear hr3
          go_wp2
          go_ret
          exact ⟨rfl, HB.out⟩

end Go.Proofs.Qxb6603458aMods
