/- The law FnRangeExtend -/
import Derived.Test.YtbbncbjdpopkiaaGB
import Derived.Test.YtbbncbjdpopkiaaWQE
import Derived.Test.YtbbncbjdpopkiaaRE3
namespace Go.Proofs.Ytbbncbjdpopkiaa
open Go.ChangeShapes Go.WideShapes Go.ChangeAt Go.RowKit
set_option linter.unusedVariables false
section
open Go.Proofs.YtbbncbjdpopkiaaQ.QE Go.Proofs.YtbbncbjdpopkiaaQ.Ext
open Go.Proofs.YtbbncbjdpopkiaaW.PrintWords (Kd)
set_option maxRecDepth 100000 in
theorem fnRangeExtend_lifted (os : Os) (started : os.Started) (H : Type) (enc : TypeId × Value → H) :
    ReturnsInHanded {} Try.checked os 3 .any (Rows.fnRangeExtendSpec.pre6 enc Try.prog Try.f3 Rows.fnRangeExtendRow.domain false) (Rows.fnRangeExtendSpec.post enc Try.prog Try.f3 false true false false) := by
  refine returnsInHanded_of_change_sized (C := Try.checked) ownKnob' started (by kernel_rfl) Try.func3
    (ChangeSpec.witness6 (enc := enc) (C := Try.checked) false ⟨#[], #[.agg #[.bool false, .slice none 0 0, .int .u64 0, .bool false, .slice none 0 0, .int .u64 0, .bool false], .agg #[.bool false, .slice none 0 0, .int .u64 0, .bool false, .slice none 0 0, .int .u64 0, .bool false]], []⟩ 8 (by kernel_rfl) (by kernel_rfl) (by kernel_rfl) (by kernel_rfl)) ?_
  intro W base args ds gs before hval0 hW hcnd hsz0 _
  have hval : ∀ (j : Nat) t v, Try.f3.params[j]? = some t → args[j]? = some v → Value.okWide Try.prog W .any base t v := hval0
  have hW' := hW
  obtain ⟨p, q, hA0, hV, rfl, hfz, hnd⟩ := hW
  have hA : DataW.TrodAll enc Try.prog W 0 (fun _ => true) true Try.f3.params.toList args.toList ds p := hA0
  rw [Try.params3] at hA hval
  obtain ⟨v0, vs0, d0, ds0, p0, q0, hargs, rfl, rfl, h0, r0⟩ := trodAll_cons hA
  obtain ⟨v1, vs1, d1, ds1, p1, q1, rfl, rfl, rfl, h1, r1⟩ := trodAll_cons r0
  obtain ⟨rfl, rfl, rfl⟩ := trodAll_nil r1
  obtain rfl : args = #[v0, v1] := by cases args; simp_all
  obtain ⟨rfl, rfl⟩ := trodVars_none hV
  have k0 := h0
  have k1 := h1
  obtain ⟨cs0, rfl, fu0, y0, hf0⟩ := Ytbbncbjdpopkiaa.agg_of Try.underlying27 (hval 0 27 v0 rfl rfl) h0
  obtain ⟨x0, hk0, w0⟩ := (vw27 : Vw enc Try.prog W 27 k27 _).go _ _ _ hf0
  obtain ⟨A0_1, c0_1, A0_4, c0_4, rfl, hc0_1, hr0_1, hc0_4, hr0_4⟩ := k27_open hk0
  obtain ⟨cs1, rfl, fu1, y1, hf1⟩ := Ytbbncbjdpopkiaa.agg_of Try.underlying27 (hval 1 27 v1 rfl rfl) h1
  obtain ⟨x1, hk1, w1⟩ := (vw27 : Vw enc Try.prog W 27 k27 _).go _ _ _ hf1
  obtain ⟨A1_1, c1_1, A1_4, c1_4, rfl, hc1_1, hr1_1, hc1_4, hr1_4⟩ := k27_open hk1
  clear hA0 hval0 hsz0
  obtain ⟨k, hP⟩ := rangeExtend_row x0 x1 w0 w1
  refine (laws_FnRangeExtend.calls (k := k) (w := W) (r := true) (ht := rfl) (hs0_1 := V_of_C (Kd.heap_int _) hr0_1 hc0_1) (hs0_4 := V_of_C (Kd.heap_int _) hr0_4 hc0_4) (hs1_1 := V_of_C (Kd.heap_int _) hr1_1 hc1_1) (hs1_4 := V_of_C (Kd.heap_int _) hr1_4 hc1_4) (h := hP)).mono fun e W' hq => ?_
  obtain ⟨he, bel0⟩ := hq
  have bel : Below W.heap.size W W' := bel0
  subst he
  exact ⟨_, rfl, _, _, _, [], _, [], hW', trodAll_mk1 (shut_bool Try.underlying4 _), (trodAll_cons_mk (Below.trod laidOut' (by kernel_rfl) (of_decide_eq_true (by kernel_rfl)) k0 bel (lt_of_trod k0)) (trodAll_cons_mk (Below.trod laidOut' (by kernel_rfl) (of_decide_eq_true (by kernel_rfl)) k1 bel (lt_of_trod k1)) trodAll_mk0)), rfl, bel.frame _, fun h => by cases h⟩
end
theorem fnRangeExtend_closed : joinedFacts Try.prog 3 Try.f3 Rows.fnRangeExtendSpec Rows.fnRangeExtendRow = true := by
  unfold joinedFacts
  repeat' (with_reducible refine and2 ?_ ?_)
  all_goals first | with_reducible exact mayEnter' | (rw [make']; as_aux_lemma => kernel_rfl) | (rw [lifts']; as_aux_lemma => kernel_rfl) | (as_aux_lemma => kernel_rfl)
theorem fnRangeExtend_over : Rows.fnRangeExtendRow.holds Try.pinned (OpenSpec.ofChange Rows.fnRangeExtendSpec) :=
  OpenClaim.holds_of_wide 3 Try.f3 rfl rfl rfl rfl rfl rfl rfl ⟨rfl, rfl, rfl, rfl, rfl⟩ rfl rfl rfl rfl rfl (by as_aux_lemma => kernel_rfl) Try.func3 fnRangeExtend_closed
    (of_decide_eq_true (by as_aux_lemma => kernel_rfl)) (by unfold Func.isWrapper; first | (rw [if_pos (by decide +kernel)]; kernel_rfl) | (rw [if_neg (by decide +kernel)]; exact ⟨rfl, rfl⟩))
    (fun os started H enc _ => fnRangeExtend_lifted os started H enc)
theorem fnRangeExtend_holds : Rows.FnRangeExtendSaid := fnRangeExtend_over
#print axioms fnRangeExtend_holds
end Go.Proofs.Ytbbncbjdpopkiaa
