/-
  The row's step of 'Rows.FnPageTableBlockSpecSaid', after the kit's frame for a law over slices; the walk: Qxb6603375aModsLaw.lean.
-/
import Derived.Test.Qxb6603375aModsLaw
import Derived.WalkKit
import Derived.ProofKit
import Derived.OpenShut
import Derived.ShutString
import Derived.ChangeOld
import Derived.Below
import Derived.Deep.SlicePairs
namespace Go.Proofs.Qxb6603375aMods.fnPageTableBlockSpec
open Go.ChangeShapes Go.WideShapes Go.ChangeAt Go.RowKit Go.Deep
open Go.ChangeMaps (open_string shut_string)

theorem own : ownKnob Trym.prog.godebug = none := by kernel_rfl
theorem laidOut : laidOutB Trym.prog = true := by kernel_rfl

set_option maxRecDepth 100000 in
theorem lifted (os : Os) (started : os.Started) (H : Type) (enc : TypeId × Value → H) :
    ReturnsInHanded {} Trym.checked os 5 .any (Rows.fnPageTableBlockSpecSpec.pre6 enc Trym.prog Trym.f5 Rows.fnPageTableBlockSpecRow.domain false) (Rows.fnPageTableBlockSpecSpec.post enc Trym.prog Trym.f5 false true false false) := by
  refine returnsInHanded_of_change (C := Trym.checked) own started (by kernel_rfl) Trym.func5
    (ChangeSpec.witness6 (enc := enc) (C := Trym.checked) false ⟨#[], #[.slice none 0 0, .int .u64 0, .slice none 0 0], []⟩ 8 (by kernel_rfl) (by kernel_rfl) (by kernel_rfl) (by kernel_rfl)) ?_
  intro W base args ds gs before hval0 hW hcnd _
  have hval : ∀ (j : Nat) t v, Trym.f5.params[j]? = some t → args[j]? = some v → Value.okWide Trym.prog W .any base t v := hval0
  have hW' := hW
  obtain ⟨p, q, hA0, hV, rfl, hfz, hnd⟩ := hW
  have hA : DataW.TrodAll enc Trym.prog W 0 (fun _ => true) true Trym.f5.params.toList args.toList ds p := hA0
  rw [Trym.params5] at hA hval
  obtain ⟨v0, vs0, d0, ds0, p0, q0, hargs, rfl, rfl, h0, r0⟩ := trodAll_cons hA
  obtain ⟨v1, vs1, d1, ds1, p1, q1, rfl, rfl, rfl, h1, r1⟩ := trodAll_cons r0
  obtain ⟨v2, vs2, d2, ds2, p2, q2, rfl, rfl, rfl, h2, r2⟩ := trodAll_cons r1
  obtain ⟨rfl, rfl, rfl⟩ := trodAll_nil r2
  obtain rfl : args = #[v0, v1, v2] := by cases args; simp_all
  obtain ⟨rfl, rfl⟩ := trodVars_none hV
  obtain ⟨a0, len0, cap0, rfl⟩ := okWide_slice Trym.underlying37 (hval 0 37 v0 rfl rfl)
  obtain ⟨a2, len2, cap2, rfl⟩ := okWide_slice Trym.underlying39 (hval 2 39 v2 rfl rfl)
  have k0 := h0
  have k2 := h2
  have lt0 : ∀ x ∈ p0, x.block < W.heap.size := by obtain ⟨m, hm⟩ := k0; exact DataW.trod_lt m _ _ _ hm
  have lt2 : ∀ x ∈ p2, x.block < W.heap.size := by obtain ⟨m, hm⟩ := k2; exact DataW.trod_lt m _ _ _ hm
  obtain ⟨zs, w0, hw0, hl0⟩ : ∃ zs : Nat → Int, KeysIn W a0 len0 cap0 zs ∧ (∀ i, i < len0 → (Lit.int .u64 (zs i)).wf = true) ∧ len0 ≤ maxLen := by
    obtain ⟨fuel, hf⟩ := h0
    rcases open_ints Trym.underlying37 Trym.underlying38 (by kernel_rfl) hf with ⟨hcs, _⟩ | ⟨x, l, c, zs, hcs, _, hl, hm, hz, _, hcell, hwz⟩
    · simp [Value.cells] at hcs
      obtain ⟨rfl, rfl, rfl⟩ := hcs
      exact ⟨fun _ => 0, .inl ⟨rfl, rfl, rfl⟩, fun i hi => absurd hi (Nat.not_lt_zero _), Nat.zero_le _⟩
    · simp [Value.cells] at hcs
      obtain ⟨rfl, rfl, rfl⟩ := hcs
      simp only [if_true] at hz
      refine ⟨fun i => zs.getD i 0, .inr ⟨_, rfl, fun i hi => hcell i (by omega)⟩, fun i hi => hwz _ ?_, by omega⟩
      have hi' : i < zs.length := by omega
      simp [List.getD, hi']
  obtain ⟨a1, rfl, rfl, rfl, w1⟩ := open_int Trym.underlying38 (hval 1 38 v1 rfl rfl) h1
  obtain ⟨ids, adds, w2, hl2⟩ : ∃ (ids : Nat → Int) (adds : Nat → Bool), CallsIn W a2 len2 cap2 ids adds ∧ len2 ≤ maxLen := by
    obtain ⟨fuel, hf⟩ := h2
    rcases open_slice_pairs Trym.underlying39 Trym.underlying48 (by kernel_rfl) rfl rfl (by kernel_rfl) (by kernel_rfl) hf with ⟨hcs, _⟩ | ⟨x, l, c, m, n, V0, V1, D0, D1, P0, P1, hcs, _, hl, hm, hmm, _, hx⟩
    · simp [Value.cells] at hcs
      obtain ⟨rfl, rfl, rfl⟩ := hcs
      exact ⟨fun _ => 0, fun _ => false, .inl ⟨rfl, rfl, rfl⟩, Nat.zero_le _⟩
    · simp [Value.cells] at hcs
      obtain ⟨rfl, rfl, rfl⟩ := hcs
      simp only [if_true] at hmm
      subst hmm
      have each : ∀ i, i < m → ∃ q : Int × Bool, V0 i = .int .u64 q.1 ∧ V1 i = .bool q.2 := fun i hi => by
        obtain ⟨_, _, t0, t1⟩ := hx i hi
        obtain ⟨a, e0, _⟩ := DataW.trod_int Trym.underlying38 t0
        obtain ⟨b, e1, _⟩ := DataW.trod_bool Trym.underlying4 t1
        simp at e0 e1
        exact ⟨(a, b), e0, e1⟩
      obtain ⟨q, hq⟩ := choose_lt each
      refine ⟨fun i => (q i).1, fun i => (q i).2, .inr ⟨_, rfl, fun i hi => ?_⟩, by omega⟩
      obtain ⟨c0, c1, _, _⟩ := hx i (by omega)
      obtain ⟨e0, e1⟩ := hq i (by omega)
      rw [e0] at c0
      rw [e1] at c1
      exact ⟨c0, c1⟩
  clear hA0 hval0
  refine (law a0 len0 cap0 zs a1 a2 len2 cap2 ids adds W w0 hw0 w2 hl0 hl2).mono fun e W' ⟨he, bel⟩ => ?_
  subst he
  exact ⟨_, rfl, _, _, _, [], _, [], hW', trodAll_mk1 (shut_bool Trym.underlying4 _), (trodAll_cons_mk (Below.trod laidOut (by kernel_rfl) (of_decide_eq_true (by kernel_rfl)) k0 bel lt0) (trodAll_cons_mk (shut_int Trym.underlying38 w1) (trodAll_cons_mk (Below.trod laidOut (by kernel_rfl) (of_decide_eq_true (by kernel_rfl)) k2 bel lt2) trodAll_mk0))), rfl, bel.frame _, fun h => by cases h⟩

theorem over : Rows.fnPageTableBlockSpecRow.holds Trym.pinned (OpenSpec.ofChange Rows.fnPageTableBlockSpecSpec) :=
  OpenClaim.holds_of_wide 5 Trym.f5 rfl rfl rfl rfl rfl rfl rfl ⟨rfl, rfl, rfl, rfl, rfl⟩ rfl rfl rfl rfl rfl (by kernel_rfl) Trym.func5 (by kernel_rfl)
    (of_decide_eq_true (by kernel_rfl)) (by unfold Func.isWrapper; first | (rw [if_pos (by decide +kernel)]; kernel_rfl) | (rw [if_neg (by decide +kernel)]; exact ⟨rfl, rfl⟩))
    (fun os started H enc _ => lifted os started H enc)
end Go.Proofs.Qxb6603375aMods.fnPageTableBlockSpec
namespace Go.Proofs.Qxb6603375aMods
theorem fnPageTableBlockSpec_holds : Rows.FnPageTableBlockSpecSaid := fnPageTableBlockSpec.over
#print axioms fnPageTableBlockSpec_holds
end Go.Proofs.Qxb6603375aMods
