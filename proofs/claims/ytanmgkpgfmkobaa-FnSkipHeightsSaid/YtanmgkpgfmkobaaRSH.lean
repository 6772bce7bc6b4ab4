/- The law FnSkipHeights -/
import Derived.Test.YtanmgkpgfmkobaaGB
import Derived.Test.YtanmgkpgfmkobaaWSH
namespace Go.Proofs.Ytanmgkpgfmkobaa
open Go.ChangeShapes Go.WideShapes Go.ChangeAt Go.RowKit
set_option linter.unusedVariables false
section
open Go.Proofs.YtanmgkpgfmkobaaQ.QSH Go.Proofs.YtanmgkpgfmkobaaQ.Ext Go.Proofs.YtanmgkpgfmkobaaQ.QT
open Go.Proofs.YtanmgkpgfmkobaaW.PrintWords (Kd)
set_option maxRecDepth 100000 in
theorem fnSkipHeights_lifted (os : Os) (started : os.Started) (H : Type) (enc : TypeId × Value → H) :
    ReturnsInHanded {} Try.checked os 9 .any (Rows.fnSkipHeightsSpec.pre6 enc Try.prog Try.f9 Rows.fnSkipHeightsRow.domain false) (Rows.fnSkipHeightsSpec.post enc Try.prog Try.f9 false true false false) := by
  refine returnsInHanded_of_change_sized (C := Try.checked) ownKnob' started (by kernel_rfl) Try.func9
    (ChangeSpec.witness6 (enc := enc) (C := Try.checked) false ⟨#[], #[.slice none 0 0, .slice none 0 0, .slice none 0 0, .bool false, .slice none 0 0], []⟩ 8 (by kernel_rfl) (by kernel_rfl) (by kernel_rfl) (by kernel_rfl)) ?_
  intro W base args ds gs before hval0 hW hcnd hsz0 _
  have hval : ∀ (j : Nat) t v, Try.f9.params[j]? = some t → args[j]? = some v → Value.okWide Try.prog W .any base t v := hval0
  have hW' := hW
  obtain ⟨p, q, hA0, hV, rfl, hfz, hnd⟩ := hW
  have hA : DataW.TrodAll enc Try.prog W 0 (fun _ => true) true Try.f9.params.toList args.toList ds p := hA0
  rw [Try.params9] at hA hval
  obtain ⟨v0, vs0, d0, ds0, p0, q0, hargs, rfl, rfl, h0, r0⟩ := trodAll_cons hA
  obtain ⟨v1, vs1, d1, ds1, p1, q1, rfl, rfl, rfl, h1, r1⟩ := trodAll_cons r0
  obtain ⟨v2, vs2, d2, ds2, p2, q2, rfl, rfl, rfl, h2, r2⟩ := trodAll_cons r1
  obtain ⟨v3, vs3, d3, ds3, p3, q3, rfl, rfl, rfl, h3, r3⟩ := trodAll_cons r2
  obtain ⟨v4, vs4, d4, ds4, p4, q4, rfl, rfl, rfl, h4, r4⟩ := trodAll_cons r3
  obtain ⟨rfl, rfl, rfl⟩ := trodAll_nil r4
  obtain rfl : args = #[v0, v1, v2, v3, v4] := by cases args; simp_all
  obtain ⟨rfl, rfl⟩ := trodVars_none hV
  have k0 := h0
  have k1 := h1
  have k2 := h2
  have k3 := h3
  have k4 := h4
  obtain ⟨A0, n0, c0, rfl⟩ := okWide_slice Try.underlying22 (hval 0 22 v0 rfl rfl)
  obtain ⟨fu0, hf0⟩ := h0
  obtain ⟨x0, ⟨B0, d0_, he0, hc0, hr0⟩, w0⟩ := ((vw_slice Try.underlying22 cz26 (vw_int Try.underlying26)) : Vw enc Try.prog W 22 (Kd.slice 26 (Kd.int .u32)) _).go _ _ _ hf0
  simp [Value.cells] at he0
  obtain ⟨rfl, rfl, rfl⟩ := he0
  obtain ⟨A1, n1, c1, rfl⟩ := okWide_slice Try.underlying22 (hval 1 22 v1 rfl rfl)
  obtain ⟨fu1, hf1⟩ := h1
  obtain ⟨x1, ⟨B1, d1_, he1, hc1, hr1⟩, w1⟩ := ((vw_slice Try.underlying22 cz26 (vw_int Try.underlying26)) : Vw enc Try.prog W 22 (Kd.slice 26 (Kd.int .u32)) _).go _ _ _ hf1
  simp [Value.cells] at he1
  obtain ⟨rfl, rfl, rfl⟩ := he1
  obtain ⟨A2, n2, c2, rfl⟩ := okWide_slice Try.underlying23 (hval 2 23 v2 rfl rfl)
  obtain ⟨fu2, hf2⟩ := h2
  obtain ⟨x2, ⟨B2, d2_, he2, hc2, hr2⟩, w2⟩ := ((vw_slice Try.underlying23 cz32 vw32) : Vw enc Try.prog W 23 (Kd.slice 32 k32) _).go _ _ _ hf2
  simp [Value.cells] at he2
  obtain ⟨rfl, rfl, rfl⟩ := he2
  obtain ⟨x3, rfl, rfl, rfl⟩ := open_bool Try.underlying4 (hval 3 4 v3 rfl rfl) h3
  obtain ⟨A4, n4, c4, rfl⟩ := okWide_slice Try.underlying39 (hval 4 39 v4 rfl rfl)
  obtain ⟨fu4, hf4⟩ := h4
  obtain ⟨x4, ⟨B4, d4_, he4, hc4, hr4⟩, w4⟩ := ((vw_slice Try.underlying39 cz78 vw78) : Vw enc Try.prog W 39 (Kd.slice 78 k78) _).go _ _ _ hf4
  simp [Value.cells] at he4
  obtain ⟨rfl, rfl, rfl⟩ := he4
  clear hA0 hval0 hsz0
  obtain ⟨k, hP⟩ := skipHeights_row x0 x1 x2 x3 x4 w0 w1 w2 trivial w4
  refine (laws_FnSkipHeights.calls (k := k) (w := W) (r := true) (hr0 := hr0) (hc0 := hc0) (hr1 := hr1) (hc1 := hc1) (hr2 := hr2) (hc2 := hc2) (hr4 := hr4) (hc4 := hc4) (h := hP)).mono fun e W' hq => ?_
  obtain ⟨he, bel0⟩ := hq
  have bel : Below W.heap.size W W' := bel0
  subst he
  exact ⟨_, rfl, _, _, _, [], _, [], hW', trodAll_mk1 (shut_bool Try.underlying4 _), (trodAll_cons_mk (Below.trod laidOut' (by kernel_rfl) (of_decide_eq_true (by kernel_rfl)) k0 bel (lt_of_trod k0)) (trodAll_cons_mk (Below.trod laidOut' (by kernel_rfl) (of_decide_eq_true (by kernel_rfl)) k1 bel (lt_of_trod k1)) (trodAll_cons_mk (Below.trod laidOut' (by kernel_rfl) (of_decide_eq_true (by kernel_rfl)) k2 bel (lt_of_trod k2)) (trodAll_cons_mk (Below.trod laidOut' (by kernel_rfl) (of_decide_eq_true (by kernel_rfl)) k3 bel (lt_of_trod k3)) (trodAll_cons_mk (Below.trod laidOut' (by kernel_rfl) (of_decide_eq_true (by kernel_rfl)) k4 bel (lt_of_trod k4)) trodAll_mk0))))), rfl, bel.frame _, fun h => by cases h⟩
end
set_option maxHeartbeats 8000000 in
theorem fnSkipHeights_closed : joinedFacts Try.prog 9 Try.f9 Rows.fnSkipHeightsSpec Rows.fnSkipHeightsRow = true := by
  unfold joinedFacts
  repeat' (with_reducible refine and2 ?_ ?_)
  all_goals first | with_reducible exact mayEnter' | (rw [make']; as_aux_lemma => kernel_rfl) | (rw [lifts']; as_aux_lemma => kernel_rfl) | (as_aux_lemma => kernel_rfl)
theorem fnSkipHeights_over : Rows.fnSkipHeightsRow.holds Try.pinned (OpenSpec.ofChange Rows.fnSkipHeightsSpec) :=
  OpenClaim.holds_of_wide 9 Try.f9 rfl rfl rfl rfl rfl rfl rfl ⟨rfl, rfl, rfl, rfl, rfl⟩ rfl rfl rfl rfl rfl (by as_aux_lemma => kernel_rfl) Try.func9 fnSkipHeights_closed
    (of_decide_eq_true (by as_aux_lemma => kernel_rfl)) (by unfold Func.isWrapper; first | (rw [if_pos (by decide +kernel)]; kernel_rfl) | (rw [if_neg (by decide +kernel)]; exact ⟨rfl, rfl⟩))
    (fun os started H enc _ => fnSkipHeights_lifted os started H enc)
theorem fnSkipHeights_holds : Rows.FnSkipHeightsSaid := fnSkipHeights_over
#print axioms fnSkipHeights_holds
end Go.Proofs.Ytanmgkpgfmkobaa
