import Derived.Test.Qxb6603375aModsInv
namespace Go.Proofs.Qxb6603375aMods
open Go.RowKit Go.Maps

theorem keys_later {w w' : World} {a : Option Addr} {n c : Nat} {zs : Nat → Int} (h : Keys w a n c zs) (hb : Below w.heap.size w w') : Keys w' a n c zs := by
  rcases h with h | ⟨g, h, hc⟩
  · exact .inl h
  · exact .inr ⟨g, h, fun i hi => cell_later hb (hc i hi)⟩

theorem calls_in_later {w w' : World} {a : Option Addr} {n c : Nat} {ids : Nat → Int} {adds : Nat → Bool} (h : CallsIn w a n c ids adds) (hb : Below w.heap.size w w') : CallsIn w' a n c ids adds := by
  rcases h with h | ⟨g, h, hc⟩
  · exact .inl h
  · exact .inr ⟨g, h, fun i hi => ⟨cell_later hb (hc i hi).1, cell_later hb (hc i hi).2⟩⟩

theorem tuck {p : Prop} (h : p) : Hid p := h

theorem info74 : (Trym.prog.info? 74).map (fun i => i.size) = some 256 := by kernel_rfl
theorem neq_same (a : Addr) (W : World) : (binOp .neq 49 (.pointer (some a)) (.pointer (some a))).run Trym.prog W = .ok (.bool false) W := by
  obtain ⟨j, hj, _⟩ := Option.map_eq_some_iff.1 info74
  exact Lib.run_neq_ptr_same W a Trym.underlying49 hj
theorem eql_other {b1 b2 : Nat} (W : World) {c1 c2 : Array Value} {t1 t2 : TypeId} (hne : b1 ≠ b2) (h1 : W.heap[b1]? = some (.cells c1 t1 (0, 0))) (h2 : W.heap[b2]? = some (.cells c2 t2 (0, 0))) :
    (binOp .eql 49 (.pointer (some ⟨b1, 0, none⟩)) (.pointer (some ⟨b2, 0, none⟩))).run Trym.prog W = .ok (.bool false) W := by
  obtain ⟨j, hj, hs⟩ := Option.map_eq_some_iff.1 info74
  exact run_eql_ptr_other W Trym.underlying49 hj (by rw [hs]; decide) (fun e => hne (congrArg Addr.block e)) h1 h2

theorem stored_cell {wc wS wz : World} {n : Nat} {zs : Nat → Int} {t : Int} {S nm : Nat} {lk : List Int} {lb : List Nat} {f : Int → Option Nat} {last : Option Nat} {t' : Int} (h : Made wc wS zs n t n) (hL : Core wS wz (wc.heap.size + 1) wc.heap.size S n zs nm lk lb f last t') {q : Nat} (hq : q < n) :
    wz.cell? ⟨wc.heap.size + 2, q, none⟩ = some (.pointer (some ⟨wc.heap.size + 2 + 1 + q, 0, none⟩)) := by
  obtain ⟨cur, hc1, _, hc2⟩ := h.row
  exact hL.but.cell (cell_row hc1 (hc2 q hq)) (fun e => by simp only at e; omega)

theorem learned_cell {wS wr wz : World} {T M S n : Nat} {zs : Nat → Int} {nm nm' : Nat} {lk lk' : List Int} {lb : List Nat} {f f' : Int → Option Nat} {last last' : Option Nat} {t t' : Int} (h : Core wS wr T M S n zs nm lk lb f last t) (hL : Core wS wz T M S n zs nm' lk' (lb ++ [wr.heap.size]) f' last' t')
    (hp : wz.heap[wr.heap.size]? = some (.cells PB 74 (0, 0))) {g : Nat} {cur : Array Value} (hg : wz.heap[g]? = some (.cells cur 49 (0, 0))) (htake : cur.toList.take (lb.length * 1) = ptrs lb) {q : Nat} (hq : q < lb.length) :
    ∃ b : Nat, wz.cell? ⟨g, q, none⟩ = some (.pointer (some ⟨b, 0, none⟩)) ∧ (binOp .eql 49 (.pointer (some ⟨b, 0, none⟩)) (.pointer (some ⟨wr.heap.size, 0, none⟩))).run Trym.prog wz = .ok (.bool false) wz := by
  have hb : lb[q]? = some lb[q] := List.getElem?_eq_getElem hq
  have hmem : lb[q] ∈ lb := List.getElem_mem hq
  refine ⟨lb[q], ?_, eql_other wz (Nat.ne_of_lt (Array.getElem?_eq_some_iff.1 (h.pages _ hmem)).1) (hL.pages _ (List.mem_append_left _ hmem)) hp⟩
  rw [cell_of_row wz g q cur 49 (0, 0) hg]
  have e1 : cur.toList[q]? = (ptrs lb)[q]? := by
    rw [← htake, List.getElem?_take, if_pos (by omega)]
  rw [Array.getElem?_toList] at e1
  rw [e1]
  simp [ptrs, hb]

set_option maxRecDepth 100000 in
set_option maxHeartbeats 2000000 in
theorem law (a0 : Option Addr) (n c0 : Nat) (zs : Nat → Int) (t : Int) (a2 : Option Addr) (m c2 : Nat) (ids : Nat → Int) (adds : Nat → Bool) (w : World)
    (h0 : KeysIn w a0 n c0 zs) (hw : ∀ i, i < n → (Lit.int .u64 (zs i)).wf = true) (h2 : CallsIn w a2 m c2 ids adds) (hn : n ≤ maxLen) (hm : m ≤ maxLen) :
    Calls Trym.prog 5 #[.slice a0 n c0, .int .u64 t, .slice a2 m c2] w fun e w' => e = .returned (.bool true) ∧ Below w.heap.size w w' := by
  go_enter Trym.func5, Trym.ntmps5
  go_wp2_with fail
  refine (bytes_any a0 a2 n c0 m c2 t hn hm w).mono ?_
  rintro e w ⟨b, rfl, rfl⟩
  cases b
  · go_wp2
    go_ret
    exact ⟨rfl, Below.refl _ _⟩
  by_cases hn1 : ¬ n ≤ 4096
  · unfold maxLen at hn hm
    have hd : decide ((4096 : Int) < (n : Int)) = true := by simp; omega
    go_wp2
    go_ret
    exact ⟨rfl, Below.refl _ _⟩
  by_cases hm1 : ¬ m ≤ 4096
  · unfold maxLen at hn hm
    go_wp2
    go_ret
    exact ⟨rfl, Below.refl _ _⟩
  have hn2 : n ≤ 4096 := by omega
  have hm2 : m ≤ 4096 := by omega
  clear hn1 hm1 hn hm
  have hd1 : decide ((4096 : Int) < (n : Int)) = false := by simp; omega
  have hd2 : decide ((4096 : Int) < (m : Int)) = false := by simp; omega
  have H0 := tuck (h0)
  have H2 := tuck (h2)
  have HW := tuck (hw)
  clear h0 h2 hw
  go_wp2_with fail
  refine (clone_any a0 n c0 zs (by omega) _ H0.out).mono ?_
  rintro e w1 ⟨a0', c0', rfl, hk1, hb1⟩
  have HK1 := tuck (hk1)
  have HB1 := tuck (hb1)
  clear hk1 hb1
  go_wp2_with fail
  refine (ccalls_any a2 m c2 ids adds (by omega) _ (calls_in_later H2.out (HB1.out.below (Nat.le_refl _) (fun k h => h.elim)))).mono ?_
  rintro e wc ⟨a2', c2', rfl, hk2, hb2⟩
  have HK0 := tuck (keys_later HK1.out (hb2.below (Nat.le_refl _) (fun k h => h.elim)))
  have HB2 := tuck (HB1.out.trans hb2 (fun _ _ h => h))
  have HC := tuck (hk2)
  clear hb2 hk2
  go_wp2_with fail
  refine (table_any a0' n c0' zs t (by omega) _ HK0.out HW.out).mono ?_
  rintro e wS ⟨rfl, hmade⟩
  have HM : Hid (Made wc wS zs n t n) := hmade
  clear hmade
  rcases HC.out with ⟨rfl, rfl, rfl⟩ | ⟨g2, rfl, hcells⟩
  · go_wp2
    refine wp_loop_rounds 1 ?_
    rw [rounds_succ]
    go_wp2
    go_ret
    exact ⟨rfl, (HB2.out.trans HM.out.but (fun _ _ h => h)).below (Nat.le_refl _) (fun k h => h.elim)⟩
  · have HCells := tuck (hcells)
    clear hcells
    go_wp2
    go_loopw [9, 10, 11] (fun v9 v10 i wr => ∃ (k nm : Nat) (lk : List Int) (lb : List Nat) (f : Int → Option Nat) (last : Option Nat) (t' : Int), k ≤ m ∧ i = .int .i64 k ∧
        Core wS wr (wc.heap.size + 1) wc.heap.size (wc.heap.size + 2) n zs nm lk lb f last t' ∧ nm ≤ n + k ∧ lk.length ≤ k ∧
        wr.ownsRow wS.heap.size 38 1 v9 lk.length (lk.map (Value.int .u64)) ∧ wr.ownsRow wS.heap.size 49 1 v10 lb.length (ptrs lb))
      (fun _ _ i _ => m - (intOf i).toNat)
    case atStart => exact ⟨0, n, [], [], _, _, _, Nat.zero_le _, rfl, core_start HM.out, Nat.le_refl _, Nat.le_refl _, World.ownsRow_nil _ _ _ _, World.ownsRow_nil _ _ _ _⟩
    case round =>
      obtain ⟨k, nm, lk, lb, f, last, t', hk, rfl, hcore, hnm, hlk, hr9, hr10⟩ := hrel
      have hbw : Below wc.heap.size wc wr := (HM.out.but.below (Nat.le_refl _) (fun k h => h.elim)).trans ((hcore.but.below (B := wc.heap.size) (by have := HM.out.size; omega) (fun k h => by omega)))
      have HKr := tuck (keys_later HK0.out hbw)
      have HBW := tuck (hbw)
      have HCore := tuck (hcore)
      have HR9 := tuck (hr9)
      have HR10 := tuck (hr10)
      by_cases hlt : k < m
      · have hid := cell_later hbw (HCells.out k hlt).1
        have hadd := cell_later hbw (HCells.out k hlt).2
        clear hbw hcore hr9 hr10
        rcases hf : f (IntKind.u64.wrap ((ids k).tdiv 256)) with _ | b
        · -- IT DOES NOT
          have HF := tuck (hf)
          have hnk : IntKind.u64.wrap ((ids k).tdiv 256) ∉ lk := fun hmem => by
            obtain ⟨j, hj⟩ := List.getElem?_of_mem hmem
            have hjl := (List.getElem?_eq_some_iff.1 hj).1
            have hjb : j < lb.length := by rw [← HCore.out.len]; exact hjl
            have h1 := HCore.out.learned j _ _ hj (List.getElem?_eq_getElem hjb)
            rw [HF.out] at h1
            cases h1
          have HNK := tuck hnk
          clear hf hnk
          cases had : adds k
          · -- .. and nothing is added
            rw [had] at hadd
            clear had
            go_wp2_with fail
            refine (zzblock_none _ _ nm f last t' (ids k) wr HCore.out.tab HF.out).mono ?_
            rintro e wr ⟨rfl, rfl⟩
            clear hid hadd
            go_wp2_with fail
            refine (index_any wS.heap.size _ lk (IntKind.u64.wrap ((ids k).tdiv 256)) (by omega) wr HR9.out).mono ?_
            rintro e wr ⟨rfl, ⟨rfl, hno⟩ | ⟨j, hj, rfl⟩⟩
            · clear hno
              go_wp2_with fail
              refine (last_any a0' n c0' zs (IntKind.u64.wrap ((ids k).tdiv 256)) (by omega) wr HKr.out).mono ?_
              rintro e wr ⟨rfl, ⟨rfl, hnz⟩ | ⟨i, hi, hzi, hlast, rfl⟩⟩
              · clear hnz
                go_wp2
                go_roundw
                case rel => exact ⟨k + 1, nm, lk, lb, f, _, _, by omega, by go_num, HCore.out, by omega, by omega, HR9.out, HR10.out⟩
                case measure => simp [intOf]; omega
              · exfalso
                have := HCore.out.keys i hi (fun j h1 h2 => by rw [hzi]; exact hlast j h1 h2)
                rw [hzi, HF.out] at this
                cases this
            · exact absurd (List.mem_of_getElem? hj) HNK.out
          · -- .. and a new block is added
            rw [had] at hadd
            clear had
            go_wp2_with fail
            refine (zzblock_new _ _ nm (by omega) f last t' (ids k) wr HCore.out.tab HF.out).mono ?_
            rintro e wx ⟨rfl, htab, hp, hsz, hbx⟩
            have HTab := tuck htab
            have HP := tuck hp
            have HBX := tuck hbx
            have HR9x := tuck (row_but HR9.out hbx (fun k h => by have := HCore.out.hT; have := HCore.out.hM; omega))
            have HR10x := tuck (row_but HR10.out hbx (fun k h => by have := HCore.out.hT; have := HCore.out.hM; omega))
            have HKx := tuck (keys_later HK0.out (HBW.out.trans (hbx.below (B := wc.heap.size) HBW.out.size (fun k h => by omega))))
            have HSZ := tuck hsz
            clear htab hp hbx hsz hid hadd
            go_wp2_with fail
            refine (index_any wS.heap.size _ lk (IntKind.u64.wrap ((ids k).tdiv 256)) (by omega) wx HR9x.out).mono ?_
            rintro e wy ⟨rfl, ⟨rfl, hno⟩ | ⟨j, hj, rfl⟩⟩
            · clear hno
              go_wp2_with fail
              refine (last_any a0' n c0' zs (IntKind.u64.wrap ((ids k).tdiv 256)) (by omega) wy HKx.out).mono ?_
              rintro e wz ⟨rfl, ⟨rfl, hnz⟩ | ⟨i, hi, hzi, hlast, rfl⟩⟩
              · have HL := tuck (HCore.out.added HNK.out hnz HTab.out HP.out HBX.out)
                have hbase : wS.heap.size ≤ wz.heap.size := HL.out.but.size
                clear hnz
                obtain ⟨i38, h38a, h38b, h38c, h38d⟩ := info_parts info38
                obtain ⟨i49, h49a, h49b, h49c, h49d⟩ := info_parts info49
                have HSt := tuck (fun (q : Nat) (hq : q < n) => (⟨stored_cell HM.out HL.out hq, eql_other wz (Nat.ne_of_lt (Array.getElem?_eq_some_iff.1 (HCore.out.stored q hq)).1) (HL.out.stored q hq) HP.out⟩ : wz.cell? ⟨wc.heap.size + 2, q, none⟩ = some (.pointer (some ⟨wc.heap.size + 2 + 1 + q, 0, none⟩)) ∧ (binOp .eql 49 (.pointer (some ⟨wc.heap.size + 2 + 1 + q, 0, none⟩)) (.pointer (some ⟨wr.heap.size, 0, none⟩))).run Trym.prog wz = .ok (.bool false) wz))
                go_wp2_with fail
                go_loop [18] (fun q => ∃ i : Nat, i ≤ n ∧ q = .int .i64 i) (fun q => n - (intOf q).toNat)
                case atStart => exact ⟨0, Nat.zero_le _, rfl⟩
                case round =>
                  obtain ⟨q, hq, rfl⟩ := hrel
                  by_cases hqn : q < n
                  · have hc := (HSt.out q hqn).1
                    have he := (HSt.out q hqn).2
                    go_wp2
                    go_round
                    case rel => exact ⟨q + 1, by omega, by go_num⟩
                    case measure => simp [intOf]; omega
                  · rcases HR10x.out.2 with ⟨hv, h0⟩ | ⟨g, cap, cur, hv, _, hg, hnc, _, hcs, htake⟩
                    · subst hv
                      have h0' : lb = [] := List.eq_nil_of_length_eq_zero h0
                      clear h0
                      subst h0'
                      go_wp2_with fail
                      refine wp_loop_rounds 1 ?_
                      rw [rounds_succ]
                      go_wp2_with fail
                      refine (empty_any wr.heap.size wz (fun i hi => pb_cell HP.out i hi)).mono ?_
                      rintro e wz' ⟨rfl, rfl⟩
                      go_wp2_with (at_builtin; refine wpList_append_own _ rfl _ _ 37 rfl wS.heap.size 38 i38 (.int .u64 0) 1 8 Trym.underlying37 h38a h38b h38c h38d rfl (by decide) _ _ _ rfl (HR9x.out.alloc _) ⟨wz'.heap.size, 0, none⟩ 1 1 [.int .u64 (IntKind.u64.wrap ((ids k).tdiv 256))] rfl rfl (cell_one_new _ _ _) (ints_oneCell .u64 [_]) (by unfold maxLen; omega) (by omega) (by simp; omega) ?_)
                      intro v9' wa h9 g9 _
                      have M10 := tuck (mid10 HR9x.out HR10x.out g9)
                      have H9 := tuck h9
                      have G9 := tuck g9
                      have hbase' : wz'.heap.size + 1 ≤ wa.heap.size := by simpa using g9.size
                      clear h9 g9
                      go_wp2_with (at_builtin; refine wpList_append_own _ rfl _ _ 44 rfl wS.heap.size 49 i49 (.pointer none) 1 8 Trym.underlying44 h49a h49b h49c h49d rfl (by decide) _ _ _ rfl (M10.out.alloc _) ⟨wa.heap.size, 0, none⟩ 1 1 [.pointer (some ⟨wr.heap.size, 0, none⟩)] rfl rfl (cell_one_new _ _ _) (by intro u hu; simp at hu; subst hu; rfl) (by have := HCore.out.len; unfold maxLen; omega) (by have := HCore.out.len; omega) (by simp; omega) ?_)
                      intro v10' wb h10 g10 _
                      have HS := tuck (learn_step HL.out HR9x.out HR10x.out H9.out G9.out h10 g10)
                      clear h10 g10 hbase hbase'
                      go_wp2
                      go_roundw
                      case rel => exact ⟨k + 1, nm + 1, _, _, _, _, _, by omega, by go_num, HS.out.1, by omega, by simp; omega, HS.out.2.1, HS.out.2.2⟩
                      case measure => simp [intOf]; omega
                    · have HLd := tuck (fun (q : Nat) (hq : q < lb.length) => learned_cell HCore.out HL.out HP.out hg htake hq)
                      clear hg htake hcs hnc
                      subst hv
                      go_wp2_with fail
                      go_loop [19] (fun q => ∃ i : Nat, i ≤ lb.length ∧ q = .int .i64 i) (fun q => lb.length - (intOf q).toNat)
                      case atStart => exact ⟨0, Nat.zero_le _, rfl⟩
                      case round =>
                        obtain ⟨q', hq', rfl⟩ := hrel
                        have hlen : lb.length ≤ 100000 := by have := HCore.out.len; omega
                        by_cases hqn' : q' < lb.length
                        · obtain ⟨b', hc, he⟩ := HLd.out q' hqn'
                          go_wp2
                          go_round
                          case rel => exact ⟨q' + 1, by omega, by go_num⟩
                          case measure => simp [intOf]; omega
                        · clear hq' hqn hq
                          go_wp2_with fail
                          refine (empty_any wr.heap.size wz (fun i hi => pb_cell HP.out i hi)).mono ?_
                          rintro e wz' ⟨rfl, rfl⟩
                          go_wp2_with (at_builtin; refine wpList_append_own _ rfl _ _ 37 rfl wS.heap.size 38 i38 (.int .u64 0) 1 8 Trym.underlying37 h38a h38b h38c h38d rfl (by decide) _ _ _ rfl (HR9x.out.alloc _) ⟨wz'.heap.size, 0, none⟩ 1 1 [.int .u64 (IntKind.u64.wrap ((ids k).tdiv 256))] rfl rfl (cell_one_new _ _ _) (ints_oneCell .u64 [_]) (by unfold maxLen; omega) (by omega) (by simp; omega) ?_)
                          intro v9' wa h9 g9 _
                          have M10 := tuck (mid10 HR9x.out HR10x.out g9)
                          have H9 := tuck h9
                          have G9 := tuck g9
                          have hbase' : wz'.heap.size + 1 ≤ wa.heap.size := by simpa using g9.size
                          clear h9 g9
                          go_wp2_with (at_builtin; refine wpList_append_own _ rfl _ _ 44 rfl wS.heap.size 49 i49 (.pointer none) 1 8 Trym.underlying44 h49a h49b h49c h49d rfl (by decide) _ _ _ rfl (M10.out.alloc _) ⟨wa.heap.size, 0, none⟩ 1 1 [.pointer (some ⟨wr.heap.size, 0, none⟩)] rfl rfl (cell_one_new _ _ _) (by intro u hu; simp at hu; subst hu; rfl) (by have := HCore.out.len; unfold maxLen; omega) (by have := HCore.out.len; omega) (by simp; omega) ?_)
                          intro v10' wb h10 g10 _
                          have HS := tuck (learn_step HL.out HR9x.out HR10x.out H9.out G9.out h10 g10)
                          clear h10 g10 hbase hbase'
                          go_wp2
                          go_roundw
                          case rel => exact ⟨k + 1, nm + 1, _, _, _, _, _, by omega, by go_num, HS.out.1, by omega, by simp; omega, HS.out.2.1, HS.out.2.2⟩
                          case measure => simp [intOf]; omega
              · exfalso
                have := HCore.out.keys i hi (fun j h1 h2 => by rw [hzi]; exact hlast j h1 h2)
                rw [hzi, HF.out] at this
                cases this
            · exact absurd (List.mem_of_getElem? hj) HNK.out
        · -- THE TABLE HOLDS THE KEY
          have HF := tuck (hf)
          clear hf
          go_wp2_with fail
          refine (zzblock_some _ _ nm f last t' (ids k) (adds k) b wr HCore.out.tab HF.out).mono ?_
          rintro e wx ⟨rfl, htab, hsz, hbx⟩
          have HX := tuck (HCore.out.asked htab hbx)
          have HR9x := tuck (HR9.out.kept (row := some (wc.heap.size + 1)) ⟨hbx.os, hbx.tape, hbx.output, hbx.size, fun k hk hne => hbx.block k hk (fun e => hne (by rw [e]))⟩ (.inr (fun e => by have := HR9.out.lt _ e; have := HCore.out.hT; omega)))
          have HR10x := tuck (HR10.out.kept (row := some (wc.heap.size + 1)) ⟨hbx.os, hbx.tape, hbx.output, hbx.size, fun k hk hne => hbx.block k hk (fun e => hne (by rw [e]))⟩ (.inr (fun e => by have := HR10.out.lt _ e; have := HCore.out.hT; omega)))
          have HKx := tuck (keys_later HK0.out (HBW.out.trans (hbx.below (B := wc.heap.size) HBW.out.size (fun k h => by omega))))
          clear htab hsz hbx hid hadd
          go_wp2_with fail
          refine (index_any wS.heap.size _ lk (IntKind.u64.wrap ((ids k).tdiv 256)) (by omega) wx HR9x.out).mono ?_
          rintro e wy ⟨rfl, ⟨rfl, hno⟩ | ⟨j, hj, rfl⟩⟩
          · -- not learned yet
            have HNo := tuck (hno)
            clear hno
            go_wp2_with fail
            refine (last_any a0' n c0' zs (IntKind.u64.wrap ((ids k).tdiv 256)) (by omega) wy HKx.out).mono ?_
            rintro e wz ⟨rfl, ⟨rfl, hnz⟩ | ⟨i, hi, hzi, hlast, rfl⟩⟩
            · exfalso
              have := HX.out.fresh _ HNo.out hnz
              rw [HF.out] at this
              cases this
            · have hbe : b = wc.heap.size + 2 + 1 + i := by
                have := HX.out.keys i hi (fun j h1 h2 => by rw [hzi]; exact hlast j h1 h2)
                rw [hzi, HF.out] at this
                cases this
                rfl
              subst hbe
              have hst : wz.cell? ⟨wc.heap.size + 2, i, none⟩ = some (.pointer (some ⟨wc.heap.size + 2 + 1 + i, 0, none⟩)) := by
                obtain ⟨cur, hc1, _, hc2⟩ := HM.out.row
                exact HX.out.but.cell (cell_row hc1 (hc2 i hi)) (fun e => by simp only at e; omega)
              have HL := tuck (HX.out.learn HF.out (HX.out.stored i hi))
              have hns := neq_same
              have HZ := tuck (hi)
              clear hzi hlast
              obtain ⟨i38, h38a, h38b, h38c, h38d⟩ := info_parts info38
              obtain ⟨i49, h49a, h49b, h49c, h49d⟩ := info_parts info49
              have hbase := HX.out.but.size
              go_wp2_with (at_builtin; refine wpList_append_own _ rfl _ _ 37 rfl wS.heap.size 38 i38 (.int .u64 0) 1 8 Trym.underlying37 h38a h38b h38c h38d rfl (by decide) _ _ _ rfl (HR9x.out.alloc _) ⟨wz.heap.size, 0, none⟩ 1 1 [.int .u64 (IntKind.u64.wrap ((ids k).tdiv 256))] rfl rfl (cell_one_new _ _ _) (ints_oneCell .u64 [_]) (by unfold maxLen; omega) (by omega) (by simp; omega) ?_)
              intro v9' wa h9 g9 _
              have M10 := tuck (mid10 HR9x.out HR10x.out g9)
              have H9 := tuck h9
              have G9 := tuck g9
              have hbase' : wz.heap.size + 1 ≤ wa.heap.size := by simpa using g9.size
              clear h9 g9
              go_wp2_with (at_builtin; refine wpList_append_own _ rfl _ _ 44 rfl wS.heap.size 49 i49 (.pointer none) 1 8 Trym.underlying44 h49a h49b h49c h49d rfl (by decide) _ _ _ rfl (M10.out.alloc _) ⟨wa.heap.size, 0, none⟩ 1 1 [.pointer (some ⟨wc.heap.size + 2 + 1 + i, 0, none⟩)] rfl rfl (cell_one_new _ _ _) (by intro u hu; simp at hu; subst hu; rfl) (by have := HX.out.len; unfold maxLen; omega) (by have := HX.out.len; omega) (by simp; omega) ?_)
              intro v10' wb h10 g10 _
              have HS := tuck (learn_step HL.out HR9x.out HR10x.out H9.out G9.out h10 g10)
              clear h10 g10 hbase hbase'
              go_wp2
              go_roundw
              case rel => exact ⟨k + 1, nm, _, _, f, _, _, by omega, by go_num, HS.out.1, by omega, by simp; omega, HS.out.2.1, HS.out.2.2⟩
              case measure => simp [intOf]; omega
          · -- learned already
            have hjl : j < lk.length := (List.getElem?_eq_some_iff.1 hj).1
            have hjb : j < lb.length := by rw [← HX.out.len]; exact hjl
            have hbj : lb[j]? = some b := by
              have h1 := HX.out.learned j _ _ hj (List.getElem?_eq_getElem hjb)
              rw [HF.out] at h1
              rw [List.getElem?_eq_getElem hjb]
              exact h1.symm
            obtain ⟨g, cap, hv10, hcell10⟩ : ∃ g cap, _ = Value.slice (some ⟨g, 0, none⟩) lb.length cap ∧ wy.cell? ⟨g, j, none⟩ = some (.pointer (some ⟨b, 0, none⟩)) := row_cell HR10x.out hjb hbj
            have hns := neq_same
            have hjl' : (j : Int) < (lb.length : Int) := by omega
            clear hj
            subst hv10
            go_wp2
            go_roundw
            case rel => exact ⟨k + 1, nm, lk, lb, f, _, _, by omega, by go_num, HX.out, by omega, by omega, HR9x.out, HR10x.out⟩
            case measure => simp [intOf]; omega
      · obtain rfl : k = m := by omega
        clear hbw hcore hr9 hr10
        go_wp2
        go_ret
        exact ⟨rfl, (HB2.out.trans HM.out.but (fun _ _ h => h)).below (Nat.le_refl _) (fun k h => h.elim) |>.trans (HCore.out.but.below (B := w.heap.size) (Nat.le_trans HB2.out.size HM.out.but.size) (fun k h => by have := HB2.out.size; omega))⟩
end Go.Proofs.Qxb6603375aMods
