/- The law FnSpotBack -/
import Derived.Test.YtadhdimleabljaaGB
import Derived.Test.YtadhdimleabljaaWQS
import Derived.Test.YtadhdimleabljaaSP
namespace Go.Proofs.Ytadhdimleabljaa
open Go.ChangeShapes Go.WideShapes Go.ChangeAt Go.RowKit
set_option linter.unusedVariables false
section
open Go.Proofs.YtadhdimleabljaaQ.QS Go.Proofs.YtadhdimleabljaaQ.Ext
open Go.Proofs.YtadhdimleabljaaW.PrintWords (Kd)
set_option maxRecDepth 100000 in
theorem fnSpotBack_lifted (os : Os) (started : os.Started) (H : Type) (enc : TypeId × Value → H) :
    ReturnsInHanded {} Try.checked os 11 .any (Rows.fnSpotBackSpec.pre6 enc Try.prog Try.f11 Rows.fnSpotBackRow.domain false) (Rows.fnSpotBackSpec.post enc Try.prog Try.f11 false true false false) := by
  refine returnsInHanded_of_change_sized (C := Try.checked) ownKnob' started (by kernel_rfl) Try.func11
    (ChangeSpec.witness6 (enc := enc) (C := Try.checked) false ⟨#[], #[.agg #[.int .u32 0, .int .u32 0, .int .u32 0]], []⟩ 8 (by kernel_rfl) (by kernel_rfl) (by kernel_rfl) (by kernel_rfl)) ?_
  intro W base args ds gs before hval0 hW hcnd hsz0 _
  have hval : ∀ (j : Nat) t v, Try.f11.params[j]? = some t → args[j]? = some v → Value.okWide Try.prog W .any base t v := hval0
  have hW' := hW
  obtain ⟨p, q, hA0, hV, rfl, hfz, hnd⟩ := hW
  have hA : DataW.TrodAll enc Try.prog W 0 (fun _ => true) true Try.f11.params.toList args.toList ds p := hA0
  rw [Try.params11] at hA hval
  obtain ⟨v0, vs0, d0, ds0, p0, q0, hargs, rfl, rfl, h0, r0⟩ := trodAll_cons hA
  obtain ⟨rfl, rfl, rfl⟩ := trodAll_nil r0
  obtain rfl : args = #[v0] := by cases args; simp_all
  obtain ⟨rfl, rfl⟩ := trodVars_none hV
  have k0 := h0
  obtain ⟨cs0, rfl, fu0, y0, hf0⟩ := Ytadhdimleabljaa.agg_of Try.underlying24 (hval 0 24 v0 rfl rfl) h0
  obtain ⟨x0, hk0, w0⟩ := (vw24 : Vw enc Try.prog W 24 k24 _).go _ _ _ hf0
  obtain rfl := k24_open hk0
  clear hA0 hval0 hsz0
  have hP := spotBack_row x0 w0
  refine (laws_FnSpotBack.calls (w := W) (r := true)  (h := hP)).mono fun e W' hq => ?_
  obtain ⟨he, bel0⟩ := hq
  have bel : Below W.heap.size W W' := bel0
  subst he
  exact ⟨_, rfl, _, _, _, [], _, [], hW', trodAll_mk1 (shut_bool Try.underlying4 _), (trodAll_cons_mk (Below.trod laidOut' (by kernel_rfl) (of_decide_eq_true (by kernel_rfl)) k0 bel (lt_of_trod k0)) trodAll_mk0), rfl, bel.frame _, fun h => by cases h⟩
end
theorem fnSpotBack_closed : joinedFacts Try.prog 11 Try.f11 Rows.fnSpotBackSpec Rows.fnSpotBackRow = true := by
  unfold joinedFacts
  repeat' (with_reducible refine and2 ?_ ?_)
  all_goals first | with_reducible exact mayEnter' | (rw [make']; as_aux_lemma => kernel_rfl) | (rw [lifts']; as_aux_lemma => kernel_rfl) | (as_aux_lemma => kernel_rfl)
theorem fnSpotBack_over : Rows.fnSpotBackRow.holds Try.pinned (OpenSpec.ofChange Rows.fnSpotBackSpec) :=
  OpenClaim.holds_of_wide 11 Try.f11 rfl rfl rfl rfl rfl rfl rfl ⟨rfl, rfl, rfl, rfl, rfl⟩ rfl rfl rfl rfl rfl (by as_aux_lemma => kernel_rfl) Try.func11 fnSpotBack_closed
    (of_decide_eq_true (by as_aux_lemma => kernel_rfl)) (by unfold Func.isWrapper; first | (rw [if_pos (by decide +kernel)]; kernel_rfl) | (rw [if_neg (by decide +kernel)]; exact ⟨rfl, rfl⟩))
    (fun os started H enc _ => fnSpotBack_lifted os started H enc)
theorem fnSpotBack_holds : Rows.FnSpotBackSaid := fnSpotBack_over
#print axioms fnSpotBack_holds
end Go.Proofs.Ytadhdimleabljaa
