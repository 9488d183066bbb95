import Derived.Test.Qxb6603458aModsFree
namespace Go.Proofs.Qxb6603458aMods
open Go.RowKit Go.Maps

/-! ### THE PLAIN LAW -/
/-- No more different members than members. -/
theorem length_le_of_subset : ∀ {l1 l2 : List Int}, l1.Nodup → (∀ x, x ∈ l1 → x ∈ l2) → l1.length ≤ l2.length
  | [], _, _, _ => Nat.zero_le _
  | a :: t, l2, hn, hs => by
    obtain ⟨ha, ht⟩ := List.nodup_cons.1 hn
    have hmem : a ∈ l2 := hs a (by simp)
    have h1 := length_le_of_subset (l1 := t) (l2 := l2.erase a) ht (fun x hx => by
      have hne : x ≠ a := fun e => ha (e ▸ hx)
      exact (List.mem_erase_of_ne hne).2 (hs x (by simp [hx])))
    have h2 := List.length_erase_of_mem hmem
    have h3 : 0 < l2.length := List.length_pos_of_mem hmem
    simp
    omega

/-- THE PIGEONHOLE: where every place below p is a key's, p is at most the keys' number. -/
theorem pigeon {ks : Nat → Int} {n p : Nat} (h : ∀ q, q < p → tk ks n q = true) : p ≤ n := by
  have h1 := length_le_of_subset (l1 := (List.range p).map (fun q : Nat => (q : Int))) (l2 := (List.range n).map ks) (by
      rw [List.nodup_iff_pairwise_ne, List.pairwise_map]
      refine List.Pairwise.imp ?_ (List.pairwise_lt_range (n := p))
      intro a b hab e
      have : a = b := by exact Int.ofNat.inj e
      omega)
    (fun x hx => by
      obtain ⟨q, hq, rfl⟩ := List.mem_map.1 hx
      obtain ⟨j, hj, e⟩ := tk_iff.1 (h q (List.mem_range.1 hq))
      exact List.mem_map.2 ⟨j, List.mem_range.2 hj, e⟩)
  simpa using h1

theorem held_none {ks : Nat → Int} {os : Nat → ByteArray} {ts : Nat → Int} {n q : Nat} : held ks os ts n (q : Int) = none ↔ tk ks n q = false := by
  constructor
  · intro h
    cases ht : tk ks n q
    · rfl
    · obtain ⟨j, hj, e⟩ := tk_iff.1 ht
      obtain ⟨j', hj'⟩ := lastAt_ex hj e
      simp [held, hj'] at h
  · intro h
    have : lastAt ks n (q : Int) = none := lastAt_none fun j hj e => by
      have := tk_iff.2 ⟨j, hj, e⟩
      rw [h] at this
      cases this
    simp [held, this]

/-- The owner holds a place: placeOf gives one that it holds. -/
theorem plain_owns {ks : Nat → Int} {os : Nat → ByteArray} {ts : Nat → Int} {n : Nat} {owner : ByteArray} {places r : Int} (hwk : ∀ i, i < n → (Lit.int .i64 (ks i)).wf = true) (h : PlaceOk (held ks os ts n) owner places r) (ho : Owns ks os n owner) : ∃ j, lastAt ks n r = some j ∧ os j = owner := by
  rcases h with ⟨_, c, hc, he⟩ | ⟨hno, _⟩
  · unfold held at hc
    obtain ⟨j, hj, rfl⟩ := Option.map_eq_some_iff.1 hc
    exact ⟨j, hj, he⟩
  · obtain ⟨x, j, hl, hj⟩ := ho
    obtain ⟨h1, h2⟩ := lastAt_inv hl
    exact absurd hj (hno x (ks j, os j, ts j) (h2 ▸ hwk j h1) (by simp [held, hl]))

/-- It holds none: placeOf gives the least free place, as firstFree reckons it. -/
theorem plain_free {ks : Nat → Int} {os : Nat → ByteArray} {ts : Nat → Int} {n : Nat} {owner : ByteArray} {places r r' : Int} (h : PlaceOk (held ks os ts n) owner places r) (ho : ¬ Owns ks os n owner) (hf : FreeOk ks n (min ((n : Int) + 1) places) r') : r = r' := by
  rcases h with ⟨_, c, hc, he⟩ | ⟨_, ⟨h0, h1, h2, h3⟩ | ⟨hm, hall⟩⟩
  · exfalso
    unfold held at hc
    obtain ⟨j, hj, rfl⟩ := Option.map_eq_some_iff.1 hc
    exact ho ⟨r, j, hj, he⟩
  · obtain ⟨p, rfl⟩ : ∃ p : Nat, r = (p : Int) := ⟨r.toNat, by omega⟩
    have hp := held_none.1 h2
    have hlt : ∀ q, q < p → tk ks n q = true := fun q hq => by
      cases ht : tk ks n q
      · exact absurd (held_none.2 ht) (h3 (q : Int) (by omega) (by omega))
      · rfl
    have hpn := pigeon hlt
    rcases hf with ⟨p', rfl, hp1, hp2, hp3⟩ | ⟨rfl, hall⟩
    · rcases Nat.lt_trichotomy p p' with hc | hc | hc
      · have := hp3 p hc; rw [hp] at this; cases this
      · rw [hc]
      · have := hlt p' hc; rw [hp2] at this; cases this
    · have := hall p (by omega)
      rw [hp] at this
      cases this
  · subst hm
    rcases hf with ⟨p', rfl, hp1, hp2, hp3⟩ | ⟨rfl, _⟩
    · exact absurd (held_none.2 hp2) (hall (p' : Int) (by omega) (by omega))
    · rfl

set_option maxHeartbeats 1000000 in
theorem lawPlace (b0 : Bool) (i1 : Int) (s2 : ByteArray) (i3 : Int) (a4 : Option Addr) (n4 c4 : Nat) (ks : Nat → Int) (a5 : Option Addr) (n5 c5 : Nat) (os : Nat → ByteArray) (a6 : Option Addr) (n6 c6 : Nat) (ts : Nat → Int) (s7 : ByteArray) (i8 : Int) (w : World)
    (h2 : s2.size ≤ maxLen) (h4 : n4 ≤ maxLen) (h5 : n5 ≤ maxLen) (h6 : n6 ≤ maxLen) (h7 : s7.size ≤ maxLen)
    (hk : RowIn w a4 n4 c4 (fun i => .int .i64 (ks i))) (hwk : ∀ i, i < n4 → (Lit.int .i64 (ks i)).wf = true) (ho : RowIn w a5 n5 c5 (fun i => .string (os i))) (hos : ∀ i, i < n5 → (os i).size ≤ maxLen) (ht : RowIn w a6 n6 c6 (fun i => .int .i64 (ts i))) :
    Calls Trym.prog 3 #[.bool b0, .int .i64 i1, .string s2, .int .i64 i3, .slice a4 n4 c4, .slice a5 n5 c5, .slice a6 n6 c6, .string s7, .int .i64 i8] w fun e w' => e = .returned (.bool true) ∧ Below w.heap.size w w' := by
  have HK := tuck hk
  have HW := tuck hwk
  have HO := tuck ho
  have HOS := tuck hos
  have HT := tuck ht
  clear hk hwk ho hos ht
  go_enter Trym.func3, Trym.ntmps3
  go_wp2_with fail
  refine (bytes6 b0 i1 s2 i3 a4 n4 c4 a5 n5 c5 os a6 n6 c6 s7 i8 w h2 h4 h5 h6 h7 HO.out HOS.out).mono ?_
  rintro e w ⟨rfl, rfl | rfl⟩
  · go_wp2
    go_ret
    exact ⟨rfl, Below.refl _ _⟩
  go_wp2_with fail
  refine (size7 s2 s7 a4 n4 c4 a5 n5 c5 os a6 n6 c6 w h2 h7 h4 h5 h6 HO.out HOS.out).mono ?_
  rintro e w ⟨rfl, rfl | ⟨rfl, g4, g5, g6⟩⟩
  · go_wp2
    go_ret
    exact ⟨rfl, Below.refl _ _⟩
  clear h2 h4 h5 h6 h7
  by_cases hk4 : 4096 < n4
  · have hd : decide ((4096 : Int) < (n4 : Int)) = true := by simp; omega
    go_wp2
    go_ret
    exact ⟨rfl, Below.refl _ _⟩
  have hd4 : decide ((4096 : Int) < (n4 : Int)) = false := by simp; omega
  by_cases hp : 65536 < i8
  · have hd : decide (65536 < i8) = true := by simpa using hp
    go_wp2
    go_ret
    exact ⟨rfl, Below.refl _ _⟩
  by_cases hl : ¬ (n5 = n4 ∧ n6 = n4)
  · by_cases e5 : n5 = n4
    · have e6 : ((n6 : Int) != (n4 : Int)) = true := by rw [bne_iff_ne]; omega
      have e5' : ((n5 : Int) != (n4 : Int)) = false := by simp; omega
      clear e5 hl
      go_wp2
      go_ret
      exact ⟨rfl, Below.refl _ _⟩
    · have e5' : ((n5 : Int) != (n4 : Int)) = true := by rw [bne_iff_ne]; omega
      clear e5 hl
      go_wp2
      go_ret
      exact ⟨rfl, Below.refl _ _⟩
  obtain ⟨rfl, rfl⟩ : n5 = n4 ∧ n6 = n4 := by
    by_cases e : n5 = n4 ∧ n6 = n4
    · exact e
    · exact absurd e hl
  clear hl g5 g6 hk4
  have HP : Hid (i8 ≤ 65536) := by show i8 ≤ 65536; omega
  have hd : decide (65536 < i8) = false := by simpa using hp
  clear hp
  go_wp2_with fail
  refine (clone8 a4 _ c4 ks g4 w HK.out).mono ?_
  rintro e w1 ⟨a4', c4', rfl, hk1, hb1⟩
  have HK1 := tuck hk1
  have HB1 := tuck hb1
  clear hk1 hb1
  go_wp2_with fail
  refine (clone9 a5 _ c5 os g4 w1 (HO.out.later HB1.out)).mono ?_
  rintro e w2 ⟨a5', c5', rfl, hk2, hb2⟩
  have HK2 := tuck hk2
  have HB2 := tuck hb2
  clear hk2 hb2
  go_wp2_with fail
  refine (clone10 a6 _ c6 ts g4 w2 ((HT.out.later HB1.out).later HB2.out)).mono ?_
  rintro e w3 ⟨a6', c6', rfl, hk3, hb3⟩
  have HK3 := tuck hk3
  have HB3 := tuck hb3
  clear hk3 hb3
  go_wp2_with fail
  refine (zzplace b0 i1 s2 i3 a4' _ c4' ks a5' c5' os a6' c6' ts s7 i8 HP.out w3 g4 ((HK1.out.later HB2.out).later HB3.out) HW.out (HK2.out.later HB3.out) HK3.out).mono ?_
  rintro e w4 ⟨p, rfl, hpo, hb4⟩
  have HPO := tuck hpo
  have HB4 := tuck hb4
  have HKs := tuck (((HK1.out.later HB2.out).later HB3.out).later hb4)
  have HOs := tuck ((HK2.out.later HB3.out).later hb4)
  have HB : Hid (But w w4 (fun _ => False)) := (((HB1.out.trans HB2.out (fun _ _ h => h)).trans HB3.out (fun _ _ h => h)).trans HB4.out (fun _ _ h => h))
  clear hpo hb4
  go_wp2_with fail
  refine (owns_any a4' c4' a5' c5' _ ks os s7 g4 w4 HKs.out HOs.out).mono ?_
  rintro e w5 ⟨rfl, ⟨rfl, how⟩ | ⟨rfl, how⟩⟩
  · have HL := tuck (plain_owns HW.out HPO.out how)
    clear how
    go_wp2_with fail
    refine (look_any a4' c4' a5' c5' _ ks os p g4 w5 HKs.out HOs.out).mono ?_
    rintro e w6 ⟨rfl, ⟨hl, rfl⟩ | ⟨j, hl, rfl⟩⟩
    · exfalso
      obtain ⟨j, hj, _⟩ := HL.out
      rw [hl] at hj
      cases hj
    · have hj : os j = s7 := by
        obtain ⟨j', hj', he⟩ := HL.out
        rw [hl] at hj'
        cases hj'
        exact he
      have hq := str_eq hj
      clear hj hl
      go_wp2
      go_ret
      exact ⟨rfl, HB.out.below (Nat.le_refl _) (fun k h => h.elim)⟩
  · have HOW := tuck how
    clear how
    go_wp2_with fail
    refine (free_any a4' _ c4' ks i8 g4 w5 HKs.out).mono ?_
    rintro e w6 ⟨r, rfl, hfr, hb6⟩
    have hpr := plain_free HPO.out HOW.out hfr
    have HB6 := tuck hb6
    clear hfr hb6
    subst hpr
    go_wp2
    go_ret
    exact ⟨rfl, (HB.out.trans HB6.out (fun _ _ h => h)).below (Nat.le_refl _) (fun k h => h.elim)⟩

end Go.Proofs.Qxb6603458aMods
