/- The law FnRangeSame -/
import Derived.Test.YtadhdimleabljaaV
import Derived.Test.YtadhdimleabljaaWQR
import Derived.Test.YtadhdimleabljaaRP1
namespace Go.Proofs.Ytadhdimleabljaa
open Go.ChangeShapes Go.WideShapes Go.ChangeAt Go.RowKit
set_option linter.unusedVariables false
section
open Go.Proofs.YtadhdimleabljaaQ.QR Go.Proofs.YtadhdimleabljaaQ.Ext
open Go.Proofs.YtadhdimleabljaaW.PrintWords (Kd)
set_option maxRecDepth 100000 in
theorem fnRangeSame_lifted (os : Os) (started : os.Started) (H : Type) (enc : TypeId × Value → H) :
    ReturnsInHanded {} Try.checked os 14 .any (Rows.fnRangeSameSpec.pre6 enc Try.prog Try.f14 Rows.fnRangeSameRow.domain false) (Rows.fnRangeSameSpec.post enc Try.prog Try.f14 false true false false) := by
  refine returnsInHanded_of_change_sized (C := Try.checked) ownKnob' started (by kernel_rfl) Try.func14
    (ChangeSpec.witness6 (enc := enc) (C := Try.checked) false ⟨#[], #[.agg #[.bool false, .slice none 0 0, .int .u64 0, .bool false, .slice none 0 0, .int .u64 0, .bool false], .agg #[.bool false, .slice none 0 0, .int .u64 0, .bool false, .slice none 0 0, .int .u64 0, .bool false]], []⟩ 8 (by kernel_rfl) (by kernel_rfl) (by kernel_rfl) (by kernel_rfl)) ?_
  intro W base args ds gs before hval0 hW hcnd hsz0 _
  have hval : ∀ (j : Nat) t v, Try.f14.params[j]? = some t → args[j]? = some v → Value.okWide Try.prog W .any base t v := hval0
  have hW' := hW
  obtain ⟨p, q, hA0, hV, rfl, hfz, hnd⟩ := hW
  have hA : DataW.TrodAll enc Try.prog W 0 (fun _ => true) true Try.f14.params.toList args.toList ds p := hA0
  rw [Try.params14] at hA hval
  obtain ⟨v0, vs0, d0, ds0, p0, q0, hargs, rfl, rfl, h0, r0⟩ := trodAll_cons hA
  obtain ⟨v1, vs1, d1, ds1, p1, q1, rfl, rfl, rfl, h1, r1⟩ := trodAll_cons r0
  obtain ⟨rfl, rfl, rfl⟩ := trodAll_nil r1
  obtain rfl : args = #[v0, v1] := by cases args; simp_all
  obtain ⟨rfl, rfl⟩ := trodVars_none hV
  have k0 := h0
  have k1 := h1
  obtain ⟨cs0, rfl, fu0, y0, hf0⟩ := Ytadhdimleabljaa.agg_of Try.underlying63 (hval 0 63 v0 rfl rfl) h0
  obtain ⟨x0, hk0, w0⟩ := (vw63 : Vw enc Try.prog W 63 k63 _).go _ _ _ hf0
  obtain ⟨A0_1, c0_1, A0_4, c0_4, rfl, hc0_1, hr0_1, hc0_4, hr0_4⟩ := k63_open hk0
  obtain ⟨cs1, rfl, fu1, y1, hf1⟩ := Ytadhdimleabljaa.agg_of Try.underlying63 (hval 1 63 v1 rfl rfl) h1
  obtain ⟨x1, hk1, w1⟩ := (vw63 : Vw enc Try.prog W 63 k63 _).go _ _ _ hf1
  obtain ⟨A1_1, c1_1, A1_4, c1_4, rfl, hc1_1, hr1_1, hc1_4, hr1_4⟩ := k63_open hk1
  clear hA0 hval0 hsz0
  obtain ⟨k, hP⟩ := rangeSame_row x0 x1 w0 w1
  refine (laws_FnRangeSame.calls (k := k) (w := W) (r := true) (hs0_1 := V_of_C (Kd.heap_int _) hr0_1 hc0_1) (hs0_4 := V_of_C (Kd.heap_int _) hr0_4 hc0_4) (hs1_1 := V_of_C (Kd.heap_int _) hr1_1 hc1_1) (hs1_4 := V_of_C (Kd.heap_int _) hr1_4 hc1_4) (h := hP)).mono fun e W' hq => ?_
  obtain ⟨he, bel0⟩ := hq
  have bel : Below W.heap.size W W' := bel0
  subst he
  exact ⟨_, rfl, _, _, _, [], _, [], hW', trodAll_mk1 (shut_bool Try.underlying4 _), (trodAll_cons_mk (Below.trod laidOut' (by kernel_rfl) (of_decide_eq_true (by kernel_rfl)) k0 bel (lt_of_trod k0)) (trodAll_cons_mk (Below.trod laidOut' (by kernel_rfl) (of_decide_eq_true (by kernel_rfl)) k1 bel (lt_of_trod k1)) trodAll_mk0)), rfl, bel.frame _, fun h => by cases h⟩
end
theorem fnRangeSame_closed : joinedFacts Try.prog 14 Try.f14 Rows.fnRangeSameSpec Rows.fnRangeSameRow = true := by
  unfold joinedFacts
  repeat' (with_reducible refine and2 ?_ ?_)
  all_goals first | with_reducible exact mayEnter' | (rw [make']; as_aux_lemma => kernel_rfl) | (rw [lifts']; as_aux_lemma => kernel_rfl) | (as_aux_lemma => kernel_rfl)
theorem fnRangeSame_over : Rows.fnRangeSameRow.holds Try.pinned (OpenSpec.ofChange Rows.fnRangeSameSpec) :=
  OpenClaim.holds_of_wide 14 Try.f14 rfl rfl rfl rfl rfl rfl rfl ⟨rfl, rfl, rfl, rfl, rfl⟩ rfl rfl rfl rfl rfl (by as_aux_lemma => kernel_rfl) Try.func14 fnRangeSame_closed
    (of_decide_eq_true (by as_aux_lemma => kernel_rfl)) (by unfold Func.isWrapper; first | (rw [if_pos (by decide +kernel)]; kernel_rfl) | (rw [if_neg (by decide +kernel)]; exact ⟨rfl, rfl⟩))
    (fun os started H enc _ => fnRangeSame_lifted os started H enc)
theorem fnRangeSame_holds : Rows.FnRangeSameSaid := fnRangeSame_over
#print axioms fnRangeSame_holds
end Go.Proofs.Ytadhdimleabljaa
