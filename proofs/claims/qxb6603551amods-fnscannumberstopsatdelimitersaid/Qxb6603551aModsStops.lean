import Derived.Test.Qxb6603551aModsLaws
namespace Go.Proofs.Qxb6603551aMods
open Go.RowKit

/-- The bytes of t and of rest, one behind the other. -/
def joined (zt zr : Nat → Int) (nt : Nat) (j : Nat) : Int := if j < nt then zt j else zr (j - nt)

/-- What the loops have gathered. -/
def bytesTo (zj : Nat → Int) (k : Nat) : List Value := (List.range k).map fun j => .int .u8 (zj j)

theorem bytesTo_succ (zj : Nat → Int) (k : Nat) : bytesTo zj k ++ [.int .u8 (zj k)] = bytesTo zj (k + 1) := by
  simp [bytesTo, List.range_succ]

theorem one_u8 (x : Int) : ∀ u ∈ [Value.int .u8 x], u.oneCell' = true := by
  intro u hu
  simp at hu
  subst hu
  rfl

set_option maxRecDepth 100000 in
set_option maxHeartbeats 4000000 in
theorem law4 (a0 : Option Addr) (nt c0 : Nat) (zt : Nat → Int) (a1 : Option Addr) (nr c1 : Nat) (zr : Nat → Int) (w : World) (hnt : nt ≤ maxLen) (hnr : nr ≤ maxLen) (h0 : RowIn w a0 nt c0 (fun i => .int .u8 (zt i))) (h1 : RowIn w a1 nr c1 (fun i => .int .u8 (zr i))) :
    Calls Trym.prog 4 #[.slice a0 nt c0, .slice a1 nr c1] w fun e w' => e = .returned (.bool true) ∧ Below w.heap.size w w' := by
  have H0 := tuck h0
  have H1 := tuck h1
  clear h0 h1
  go_enter Trym.func4, Trym.ntmps4
  go_wp2_with fail
  refine (bytes9 a0 nt c0 a1 nr c1 hnt hnr w).mono ?_
  rintro e w ⟨rfl, rfl | rfl⟩
  · go_wp2
    go_ret
    exact ⟨rfl, Below.refl _ _⟩
  clear hnt hnr
  by_cases ht : 524288 < nt
  · have hd : decide ((524288 : Int) < (nt : Int)) = true := by simp; omega
    go_wp2
    go_ret
    exact ⟨rfl, Below.refl _ _⟩
  have hd1 : decide ((524288 : Int) < (nt : Int)) = false := by simp; omega
  by_cases hr : 524288 < nr
  · have hd : decide ((524288 : Int) < (nr : Int)) = true := by simp; omega
    go_wp2
    go_ret
    exact ⟨rfl, Below.refl _ _⟩
  have hd2 : decide ((524288 : Int) < (nr : Int)) = false := by simp; omega
  have ht' : nt ≤ 524288 := by omega
  have hr' : nr ≤ 524288 := by omega
  clear ht hr
  by_cases h00 : nt = 0
  · have he : ((nt : Int) == 0) = true := by simp; omega
    clear h00
    go_wp2
    go_ret
    exact ⟨rfl, Below.refl _ _⟩
  have he0 : ((nt : Int) == 0) = false := by simp; omega
  have hpos : 0 < nt := by omega
  clear h00
  go_wp2_with fail
  refine (long_any a0 nt c0 zt (by omega) w H0.out).mono ?_
  rintro e w ⟨rfl, rfl⟩
  by_cases hL : L zt nt 0 0 0 = nt
  case neg =>
    have hne : (((L zt nt 0 0 0 : Nat) : Int) != (nt : Int)) = true := by rw [bne_iff_ne]; omega
    clear hL
    go_wp2
    go_ret
    exact ⟨rfl, Below.refl _ _⟩
  have hne : (((L zt nt 0 0 0 : Nat) : Int) != (nt : Int)) = false := by simp; omega
  have HL := tuck hL
  clear hL
  -- the byte behind the number
  go_upto_region 7 with (fail)
  go_cut [39] (fun s w' => ∃ q : Bool, s = .bool q ∧ w = w' ∧ (q = false → 0 < nr → ends (zr 0)))
  case first =>
    by_cases hr0 : 0 < nr
    · obtain ⟨b1, off1, hb1, hcs⟩ := H1.out.cells hr0
      subst hb1
      have hck : w.cell? ⟨b1, off1, none⟩ = some (.int .u8 (zr 0)) := by simpa using hcs 0 hr0
      have hp : (0 : Int) < (nr : Int) := by omega
      clear hcs
      go_wp2_with fail
      refine (ends10 (zr 0) w).mono ?_
      rintro e w ⟨rfl, rfl | ⟨rfl, hen⟩⟩
      · go_wp2
        go_meet
        case rel => exact ⟨true, rfl, rfl, fun h => by cases h⟩
      · have HEn := tuck hen
        clear hen
        go_wp2
        go_meet
        case rel => exact ⟨false, rfl, rfl, fun _ _ => HEn.out⟩
    · have hp : decide ((0 : Int) < (nr : Int)) = false := by simp; omega
      go_wp2
      go_meet
      case rel => exact ⟨false, rfl, rfl, fun _ h => absurd h hr0⟩
  case rest =>
  obtain ⟨q, rfl, rfl, hq⟩ := hcut
  cases q
  case true =>
    go_wp2
    go_ret
    exact ⟨rfl, Below.refl _ _⟩
  have HE : Hid (0 < nr → ends (zr 0)) := fun h => hq rfl h
  clear hq hd1 hd2 he0 hne
  go_wp2_with fail
  refine (clone6 a0 nt c0 zt (by omega) w H0.out).mono ?_
  rintro e w1 ⟨a0', c0', rfl, hr1, hb1⟩
  have HB1 := tuck hb1
  have HR1 := tuck hr1
  clear hr1 hb1
  go_wp2_with fail
  refine (clone6 a1 nr c1 zr (by omega) w1 (H1.out.later HB1.out)).mono ?_
  rintro e w2 ⟨a1', c1', rfl, hr2, hb2⟩
  have HR1' := tuck (HR1.out.later hb2)
  have HR2 := tuck hr2
  have HB2 := tuck (HB1.out.trans hb2 (fun _ _ h => h))
  clear hr2 hb2 HR1
  rcases HR1'.out with ⟨_, h, _⟩ | ⟨g0, hg0, hct⟩
  · omega
  subst hg0
  have HCT := tuck hct
  clear hct
  obtain ⟨i0, hi, hz0, hz1, hz2⟩ := info_parts info5
  go_wp2_with (first
    | (at_make; refine wpList_make_own _ rfl _ _ 22 rfl w2.heap.size 5 i0 (.int .u8 0) 1 Trym.underlying22 hi hz0 hz1 _ _ _ (nt + nr) rfl rfl (by omega) (by rw [hz2]; omega) (by unfold maxLen; omega) (Nat.le_refl _) ?_; intro w3 hown hgrow)
    | go_in)
  have HO3 := tuck hown
  have HB3 := tuck ((But.grown hgrow).none (fun k _ e => by simp at e))
  clear hown hgrow
  go_loopw [5, 6] (fun s i wr => ∃ k : Nat, k ≤ nt ∧ i = .int .i64 k ∧ s = .slice (some ⟨w2.heap.size, 0, none⟩) k (nt + nr) ∧ wr.ownsRow w2.heap.size 5 1 (.slice (some ⟨w2.heap.size, 0, none⟩) k (nt + nr)) k (bytesTo (joined zt zr nt) k) ∧ But w2 wr (fun _ => False)) (fun _ i _ => nt - (intOf i).toNat)
  case atStart => exact ⟨0, Nat.zero_le _, rfl, rfl, HO3.out, HB3.out⟩
  case round =>
    obtain ⟨k, hk, rfl, rfl, hown, hb⟩ := hrel
    have HO := tuck hown
    have HB := tuck hb
    clear hown hb
    by_cases hlt : k < nt
    · have hck := HB.out.cell (HCT.out k hlt) (fun e => e)
      go_wp2_with (at_builtin; refine wpList_append_fits _ rfl _ _ 22 rfl w2.heap.size 5 i0 1 Trym.underlying22 hi hz1 w2.heap.size k (nt + nr) _ rfl (HO.out.alloc _) ⟨wr.heap.size, 0, none⟩ 1 1 [.int .u8 (zt k)] rfl rfl (cell_one_new _ _ _) (one_u8 _) (by omega) ?_)
      intro w4 hown4 hgrow4
      have HO4 : Hid (w4.ownsRow w2.heap.size 5 1 (.slice (some ⟨w2.heap.size, 0, none⟩) (k + 1) (nt + nr)) (k + 1) (bytesTo (joined zt zr nt) (k + 1))) := by
        show w4.ownsRow _ _ _ _ _ _
        rw [← bytesTo_succ, show joined zt zr nt k = zt k from if_pos hlt]
        exact hown4
      have HB4 : Hid (But w2 w4 (fun _ => False)) := (HB.out.trans (But.alloc wr _ (fun _ => False)) (fun _ _ h => h)).trans (But.grown hgrow4) (fun i hi e => by simp only [Option.some.injEq] at e; omega)
      clear hown4 hgrow4 hck
      go_wp2
      go_roundw
      case rel => exact ⟨k + 1, by omega, by go_num, rfl, HO4.out, HB4.out⟩
      case measure => simp [intOf]; omega
    · obtain rfl : nt = k := by omega
      obtain ⟨wo, rfl⟩ : ∃ wo : World, wo = wr := ⟨_, rfl⟩
      go_wp2
      go_loopw [5, 7] (fun s i wr => ∃ k : Nat, k ≤ nr ∧ i = .int .i64 k ∧ s = .slice (some ⟨w2.heap.size, 0, none⟩) (nt + k) (nt + nr) ∧ wr.ownsRow w2.heap.size 5 1 (.slice (some ⟨w2.heap.size, 0, none⟩) (nt + k) (nt + nr)) (nt + k) (bytesTo (joined zt zr nt) (nt + k)) ∧ But w2 wr (fun _ => False)) (fun _ i _ => nr - (intOf i).toNat)
      case atStart => exact ⟨0, Nat.zero_le _, rfl, rfl, HO.out, HB.out⟩
      case round =>
        obtain ⟨k, hk, rfl, rfl, hown, hb⟩ := hrel
        have HO2 := tuck hown
        have HBr := tuck hb
        clear hown hb
        by_cases hlt2 : k < nr
        · rcases HR2.out with ⟨_, h, _⟩ | ⟨g1, hg1, hcr⟩
          · omega
          subst hg1
          have hck := HBr.out.cell (hcr k hlt2) (fun e => e)
          clear hcr
          go_wp2_with (at_builtin; refine wpList_append_fits _ rfl _ _ 22 rfl w2.heap.size 5 i0 1 Trym.underlying22 hi hz1 w2.heap.size (nt + k) (nt + nr) _ rfl (HO2.out.alloc _) ⟨wr.heap.size, 0, none⟩ 1 1 [.int .u8 (zr k)] rfl rfl (cell_one_new _ _ _) (one_u8 _) (by omega) ?_)
          intro w4 hown4 hgrow4
          have HO4 : Hid (w4.ownsRow w2.heap.size 5 1 (.slice (some ⟨w2.heap.size, 0, none⟩) (nt + (k + 1)) (nt + nr)) (nt + (k + 1)) (bytesTo (joined zt zr nt) (nt + (k + 1)))) := by
            show w4.ownsRow _ _ _ _ _ _
            rw [← Nat.add_assoc, ← bytesTo_succ, show joined zt zr nt (nt + k) = zr k from by unfold joined; rw [if_neg (by omega), Nat.add_sub_cancel_left]]
            exact hown4
          have HB4 : Hid (But w2 w4 (fun _ => False)) := (HBr.out.trans (But.alloc wr _ (fun _ => False)) (fun _ _ h => h)).trans (But.grown hgrow4) (fun i hi e => by simp only [Option.some.injEq] at e; omega)
          clear hown4 hgrow4 hck
          go_wp2
          go_roundw
          case rel => exact ⟨k + 1, by omega, by go_num, rfl, HO4.out, HB4.out⟩
          case measure => simp [intOf]; omega
        · obtain rfl : nr = k := by omega
          have HRs : Hid (RowIn wr (some ⟨w2.heap.size, 0, none⟩) (nt + nr) (nt + nr) (fun i => .int .u8 (joined zt zr nt i))) := by
            refine .inr ⟨_, rfl, fun i hi => ?_⟩
            rw [Addr.add_lit, Nat.zero_add, HO2.out.cellAt i (by omega)]
            simp [bytesTo, hi]
          have HRt : Hid (RowIn wr (some ⟨g0, 0, none⟩) nt c0' (fun i => .int .u8 (zt i))) := (HR1'.out.later HBr.out).toIn
          have hs1 : ((scan (joined zt zr nt) (nt + nr) : Nat) : Int) = (nt : Int) := by
            rw [scan_stops (z := zt) (z' := joined zt zr nt) (n := nt) (n' := nt + nr) hpos HL.out (by omega) (fun j hj => if_pos hj) (fun h => by
              rw [show joined zt zr nt nt = zr 0 from by unfold joined; rw [if_neg (by omega), Nat.sub_self]]
              exact HE.out (by omega))]
          have hs2 : ((scan zt nt : Nat) : Int) = (nt : Int) := by
            rw [scan_stops (z := zt) (z' := zt) (n := nt) (n' := nt) hpos HL.out (Nat.le_refl _) (fun _ _ => rfl) (fun h => by omega)]
          have HS1 := tuck hs1
          have HS2 := tuck hs2
          clear hs1 hs2
          go_wp2_with fail
          refine (scan_any (some ⟨w2.heap.size, 0, none⟩) (nt + nr) (nt + nr) (joined zt zr nt) (by omega) wr HRs.out).mono ?_
          rintro e wr ⟨rfl, rfl⟩
          rw [HS1.out]
          go_wp2_with fail
          refine (scan_any (some ⟨g0, 0, none⟩) nt c0' zt (by omega) wr HRt.out).mono ?_
          rintro e wr ⟨rfl, rfl⟩
          rw [HS2.out]
          go_wp2
          go_ret
          exact ⟨rfl, (HB2.out.trans HBr.out (fun _ _ h => h)).below (Nat.le_refl _) (fun k h => h.elim)⟩

end Go.Proofs.Qxb6603551aMods
