/- The law FnFilterHas -/
import Derived.Test.YtadhdimleabljaaGB
import Derived.Test.YtadhdimleabljaaWQB
import Derived.Test.YtadhdimleabljaaBP
namespace Go.Proofs.Ytadhdimleabljaa
open Go.ChangeShapes Go.WideShapes Go.ChangeAt Go.RowKit
set_option linter.unusedVariables false
section
open Go.Proofs.YtadhdimleabljaaQ.QB Go.Proofs.YtadhdimleabljaaQ.Ext
open Go.Proofs.YtadhdimleabljaaW.PrintWords (Kd)
set_option maxRecDepth 100000 in
theorem fnFilterHas_lifted (os : Os) (started : os.Started) (H : Type) (enc : TypeId × Value → H) :
    ReturnsInHanded {} Try.checked os 23 .any (Rows.fnFilterHasSpec.pre6 enc Try.prog Try.f23 Rows.fnFilterHasRow.domain false) (Rows.fnFilterHasSpec.post enc Try.prog Try.f23 false true false false) := by
  refine returnsInHanded_of_change_sized (C := Try.checked) ownKnob' started (by kernel_rfl) Try.func23
    (ChangeSpec.witness6 (enc := enc) (C := Try.checked) false ⟨#[], #[.slice none 0 0, .int .i64 0], []⟩ 8 (by kernel_rfl) (by kernel_rfl) (by kernel_rfl) (by kernel_rfl)) ?_
  intro W base args ds gs before hval0 hW hcnd hsz0 _
  have hval : ∀ (j : Nat) t v, Try.f23.params[j]? = some t → args[j]? = some v → Value.okWide Try.prog W .any base t v := hval0
  have hW' := hW
  obtain ⟨p, q, hA0, hV, rfl, hfz, hnd⟩ := hW
  have hA : DataW.TrodAll enc Try.prog W 0 (fun _ => true) true Try.f23.params.toList args.toList ds p := hA0
  rw [Try.params23] at hA hval
  obtain ⟨v0, vs0, d0, ds0, p0, q0, hargs, rfl, rfl, h0, r0⟩ := trodAll_cons hA
  obtain ⟨v1, vs1, d1, ds1, p1, q1, rfl, rfl, rfl, h1, r1⟩ := trodAll_cons r0
  obtain ⟨rfl, rfl, rfl⟩ := trodAll_nil r1
  obtain rfl : args = #[v0, v1] := by cases args; simp_all
  obtain ⟨rfl, rfl⟩ := trodVars_none hV
  have k0 := h0
  have k1 := h1
  obtain ⟨A0, n0, c0, rfl⟩ := okWide_slice Try.underlying40 (hval 0 40 v0 rfl rfl)
  obtain ⟨fu0, hf0⟩ := h0
  obtain ⟨x0, ⟨B0, d0_, he0, hc0, hr0⟩, w0⟩ := ((vw_slice Try.underlying40 cz22 (vw_int Try.underlying22)) : Vw enc Try.prog W 40 (Kd.slice 22 (Kd.int .u32)) _).go _ _ _ hf0
  simp [Value.cells] at he0
  obtain ⟨rfl, rfl, rfl⟩ := he0
  obtain ⟨x1, rfl, rfl, rfl, w1⟩ := open_int Try.underlying3 (hval 1 3 v1 rfl rfl) h1
  clear hA0 hval0 hsz0
  obtain ⟨k, hP⟩ := filterHas_row x0 x1 w0 w1
  refine (laws_FnFilterHas.calls (k := k) (w := W) (r := true) (hr0 := hr0) (hc0 := hc0) (h := hP)).mono fun e W' hq => ?_
  obtain ⟨he, bel0⟩ := hq
  have bel : Below W.heap.size W W' := bel0
  subst he
  exact ⟨_, rfl, _, _, _, [], _, [], hW', trodAll_mk1 (shut_bool Try.underlying4 _), (trodAll_cons_mk (Below.trod laidOut' (by kernel_rfl) (of_decide_eq_true (by kernel_rfl)) k0 bel (lt_of_trod k0)) (trodAll_cons_mk (Below.trod laidOut' (by kernel_rfl) (of_decide_eq_true (by kernel_rfl)) k1 bel (lt_of_trod k1)) trodAll_mk0)), rfl, bel.frame _, fun h => by cases h⟩
end
theorem fnFilterHas_closed : joinedFacts Try.prog 23 Try.f23 Rows.fnFilterHasSpec Rows.fnFilterHasRow = true := by
  unfold joinedFacts
  repeat' (with_reducible refine and2 ?_ ?_)
  all_goals first | with_reducible exact mayEnter' | (rw [make']; as_aux_lemma => kernel_rfl) | (rw [lifts']; as_aux_lemma => kernel_rfl) | (as_aux_lemma => kernel_rfl)
theorem fnFilterHas_over : Rows.fnFilterHasRow.holds Try.pinned (OpenSpec.ofChange Rows.fnFilterHasSpec) :=
  OpenClaim.holds_of_wide 23 Try.f23 rfl rfl rfl rfl rfl rfl rfl ⟨rfl, rfl, rfl, rfl, rfl⟩ rfl rfl rfl rfl rfl (by as_aux_lemma => kernel_rfl) Try.func23 fnFilterHas_closed
    (of_decide_eq_true (by as_aux_lemma => kernel_rfl)) (by unfold Func.isWrapper; first | (rw [if_pos (by decide +kernel)]; kernel_rfl) | (rw [if_neg (by decide +kernel)]; exact ⟨rfl, rfl⟩))
    (fun os started H enc _ => fnFilterHas_lifted os started H enc)
theorem fnFilterHas_holds : Rows.FnFilterHasSaid := fnFilterHas_over
#print axioms fnFilterHas_holds
end Go.Proofs.Ytadhdimleabljaa
