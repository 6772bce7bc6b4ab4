/- The law FnMerge -/
import Derived.Test.YtegaigpolhdicaaGreatGB
import Derived.Test.YtegaigpolhdicaaGreatWMG
import Derived.Test.YtegaigpolhdicaaGreatQMG0
namespace Go.Proofs.YtegaigpolhdicaaGreat
open Go.ChangeShapes Go.WideShapes Go.ChangeAt Go.RowKit
set_option linter.unusedVariables false
section
open Go.Proofs.YtegaigpolhdicaaGreatQ.QMG Go.Proofs.YtegaigpolhdicaaGreatQ.Ext Go.Proofs.YtegaigpolhdicaaGreatQ.QT
open Go.Proofs.YtegaigpolhdicaaGreatW.PrintWords (Kd)
set_option maxRecDepth 100000 in
theorem fnMerge_lifted (os : Os) (started : os.Started) (H : Type) (enc : TypeId × Value → H) :
    ReturnsInHanded {} Tryz.checked os 3 .any (Rows.fnMergeSpec.pre6 enc Tryz.prog Tryz.f3 Rows.fnMergeRow.domain false) (Rows.fnMergeSpec.post enc Tryz.prog Tryz.f3 false true false false) := by
  refine returnsInHanded_of_change_sized (C := Tryz.checked) ownKnob' started (by kernel_rfl) Tryz.func3
    (ChangeSpec.witness6 (enc := enc) (C := Tryz.checked) false ⟨#[], #[.slice none 0 0, .bool false, .slice none 0 0], []⟩ 8 (by kernel_rfl) (by kernel_rfl) (by kernel_rfl) (by kernel_rfl)) ?_
  intro W base args ds gs before hval0 hW hcnd hsz0 _
  have hval : ∀ (j : Nat) t v, Tryz.f3.params[j]? = some t → args[j]? = some v → Value.okWide Tryz.prog W .any base t v := hval0
  have hW' := hW
  obtain ⟨p, q, hA0, hV, rfl, hfz, hnd⟩ := hW
  have hA : DataW.TrodAll enc Tryz.prog W 0 (fun _ => true) true Tryz.f3.params.toList args.toList ds p := hA0
  rw [Tryz.params3] at hA hval
  obtain ⟨v0, vs0, d0, ds0, p0, q0, hargs, rfl, rfl, h0, r0⟩ := trodAll_cons hA
  obtain ⟨v1, vs1, d1, ds1, p1, q1, rfl, rfl, rfl, h1, r1⟩ := trodAll_cons r0
  obtain ⟨v2, vs2, d2, ds2, p2, q2, rfl, rfl, rfl, h2, r2⟩ := trodAll_cons r1
  obtain ⟨rfl, rfl, rfl⟩ := trodAll_nil r2
  obtain rfl : args = #[v0, v1, v2] := by cases args; simp_all
  obtain ⟨rfl, rfl⟩ := trodVars_none hV
  have k0 := h0
  have k1 := h1
  have k2 := h2
  obtain ⟨A0, n0, c0, rfl⟩ := okWide_slice Tryz.underlying22 (hval 0 22 v0 rfl rfl)
  obtain ⟨fu0, hf0⟩ := h0
  obtain ⟨x0, hK0, w0⟩ := ((vw_slice Tryz.underlying22 cz30 (vw_slice Tryz.underlying30 cz44 vw44)) : Vw enc Tryz.prog W 22 (Kd.slice 30 (Kd.slice 44 k44)) _).go _ _ _ hf0
  obtain ⟨B0, d0_, he0, hc0, hr0⟩ := hK0
  simp [Value.cells] at he0
  obtain ⟨rfl, rfl, rfl⟩ := he0
  obtain ⟨x1, rfl, rfl, rfl⟩ := open_bool Tryz.underlying4 (hval 1 4 v1 rfl rfl) h1
  obtain ⟨A2, n2, c2, rfl⟩ := okWide_slice Tryz.underlying23 (hval 2 23 v2 rfl rfl)
  obtain ⟨fu2, hf2⟩ := h2
  obtain ⟨x2, hK2, w2⟩ := ((vw_slice Tryz.underlying23 cz39 vw39) : Vw enc Tryz.prog W 23 (Kd.slice 39 k39) _).go _ _ _ hf2
  obtain ⟨B2, d2_, he2, hc2, hr2⟩ := hK2
  simp [Value.cells] at he2
  obtain ⟨rfl, rfl, rfl⟩ := he2
  clear hA0 hval0 hsz0
  obtain ⟨k, hP⟩ := merge_row x0 x1 x2 w0 trivial w2
  refine (laws_FnMerge.calls (k := k) (w := W) (r := true) (hr0 := hr0) (hc0 := hc0) (hr2 := hr2) (hc2 := hc2) (h := hP)).mono fun e W' hq => ?_
  obtain ⟨he, bel0⟩ := hq
  have bel : Below W.heap.size W W' := bel0
  subst he
  exact ⟨_, rfl, _, _, _, [], _, [], hW', trodAll_mk1 (shut_bool Tryz.underlying4 _), (trodAll_cons_mk (Below.trod laidOut' (by kernel_rfl) (of_decide_eq_true (by kernel_rfl)) k0 bel (lt_of_trod k0)) (trodAll_cons_mk (Below.trod laidOut' (by kernel_rfl) (of_decide_eq_true (by kernel_rfl)) k1 bel (lt_of_trod k1)) (trodAll_cons_mk (Below.trod laidOut' (by kernel_rfl) (of_decide_eq_true (by kernel_rfl)) k2 bel (lt_of_trod k2)) trodAll_mk0))), rfl, bel.frame _, fun h => by cases h⟩
end
set_option maxHeartbeats 8000000 in
theorem fnMerge_closed : joinedFacts Tryz.prog 3 Tryz.f3 Rows.fnMergeSpec Rows.fnMergeRow = true := by
  unfold joinedFacts
  repeat' (with_reducible refine and2 ?_ ?_)
  all_goals first | with_reducible exact mayEnter' | (rw [make']; as_aux_lemma => kernel_rfl) | (rw [lifts']; as_aux_lemma => kernel_rfl) | (as_aux_lemma => kernel_rfl)
theorem fnMerge_over : Rows.fnMergeRow.holds Tryz.pinned (OpenSpec.ofChange Rows.fnMergeSpec) :=
  OpenClaim.holds_of_wide 3 Tryz.f3 rfl rfl rfl rfl rfl rfl rfl ⟨rfl, rfl, rfl, rfl, rfl⟩ rfl rfl rfl rfl rfl (by as_aux_lemma => kernel_rfl) Tryz.func3 fnMerge_closed
    (of_decide_eq_true (by as_aux_lemma => kernel_rfl)) (by unfold Func.isWrapper; first | (rw [if_pos (by decide +kernel)]; kernel_rfl) | (rw [if_neg (by decide +kernel)]; exact ⟨rfl, rfl⟩))
    (fun os started H enc _ => fnMerge_lifted os started H enc)
theorem fnMerge_holds : Rows.FnMergeSaid := fnMerge_over
#print axioms fnMerge_holds
end Go.Proofs.YtegaigpolhdicaaGreat
