/- The law FnOracleBelow -/
import Derived.Test.YtanmgkpgfmkobaaGB
import Derived.Test.YtanmgkpgfmkobaaWQT
import Derived.Test.YtanmgkpgfmkobaaQOB0
namespace Go.Proofs.Ytanmgkpgfmkobaa
open Go.ChangeShapes Go.WideShapes Go.ChangeAt Go.RowKit
set_option linter.unusedVariables false
section
open Go.Proofs.YtanmgkpgfmkobaaQ.QOB Go.Proofs.YtanmgkpgfmkobaaQ.Ext Go.Proofs.YtanmgkpgfmkobaaQ.QT
open Go.Proofs.YtanmgkpgfmkobaaW.PrintWords (Kd)
set_option maxRecDepth 100000 in
theorem fnOracleBelow_lifted (os : Os) (started : os.Started) (H : Type) (enc : TypeId × Value → H) :
    ReturnsInHanded {} Try.checked os 7 .any (Rows.fnOracleBelowSpec.pre6 enc Try.prog Try.f7 Rows.fnOracleBelowRow.domain false) (Rows.fnOracleBelowSpec.post enc Try.prog Try.f7 false true false false) := by
  refine returnsInHanded_of_change_sized (C := Try.checked) ownKnob' started (by kernel_rfl) Try.func7
    (ChangeSpec.witness6 (enc := enc) (C := Try.checked) false ⟨#[], #[.bool false, .slice none 0 0], []⟩ 8 (by kernel_rfl) (by kernel_rfl) (by kernel_rfl) (by kernel_rfl)) ?_
  intro W base args ds gs before hval0 hW hcnd hsz0 _
  have hval : ∀ (j : Nat) t v, Try.f7.params[j]? = some t → args[j]? = some v → Value.okWide Try.prog W .any base t v := hval0
  have hW' := hW
  obtain ⟨p, q, hA0, hV, rfl, hfz, hnd⟩ := hW
  have hA : DataW.TrodAll enc Try.prog W 0 (fun _ => true) true Try.f7.params.toList args.toList ds p := hA0
  rw [Try.params7] at hA hval
  obtain ⟨v0, vs0, d0, ds0, p0, q0, hargs, rfl, rfl, h0, r0⟩ := trodAll_cons hA
  obtain ⟨v1, vs1, d1, ds1, p1, q1, rfl, rfl, rfl, h1, r1⟩ := trodAll_cons r0
  obtain ⟨rfl, rfl, rfl⟩ := trodAll_nil r1
  obtain rfl : args = #[v0, v1] := by cases args; simp_all
  obtain ⟨rfl, rfl⟩ := trodVars_none hV
  have k0 := h0
  have k1 := h1
  obtain ⟨x0, rfl, rfl, rfl⟩ := open_bool Try.underlying4 (hval 0 4 v0 rfl rfl) h0
  obtain ⟨A1, n1, c1, rfl⟩ := okWide_slice Try.underlying47 (hval 1 47 v1 rfl rfl)
  obtain ⟨fu1, hf1⟩ := h1
  obtain ⟨x1, hK1, w1⟩ := ((vw_slice Try.underlying47 cz55 vw55) : Vw enc Try.prog W 47 (Kd.slice 55 k55) _).go _ _ _ hf1
  obtain ⟨B1, d1_, he1, hc1, hr1⟩ := hK1
  simp [Value.cells] at he1
  obtain ⟨rfl, rfl, rfl⟩ := he1
  clear hA0 hval0 hsz0
  obtain ⟨k, hP⟩ := below_row x0 x1 trivial w1
  refine (laws_FnOracleBelow.calls (k := k) (w := W) (r := true) (hr1 := hr1) (hc1 := hc1) (h := hP)).mono fun e W' hq => ?_
  obtain ⟨he, bel0⟩ := hq
  have bel : Below W.heap.size W W' := bel0
  subst he
  exact ⟨_, rfl, _, _, _, [], _, [], hW', trodAll_mk1 (shut_bool Try.underlying4 _), (trodAll_cons_mk (Below.trod laidOut' (by kernel_rfl) (of_decide_eq_true (by kernel_rfl)) k0 bel (lt_of_trod k0)) (trodAll_cons_mk (Below.trod laidOut' (by kernel_rfl) (of_decide_eq_true (by kernel_rfl)) k1 bel (lt_of_trod k1)) trodAll_mk0)), rfl, bel.frame _, fun h => by cases h⟩
end
set_option maxHeartbeats 8000000 in
theorem fnOracleBelow_closed : joinedFacts Try.prog 7 Try.f7 Rows.fnOracleBelowSpec Rows.fnOracleBelowRow = true := by
  unfold joinedFacts
  repeat' (with_reducible refine and2 ?_ ?_)
  all_goals first | with_reducible exact mayEnter' | (rw [make']; as_aux_lemma => kernel_rfl) | (rw [lifts']; as_aux_lemma => kernel_rfl) | (as_aux_lemma => kernel_rfl)
theorem fnOracleBelow_over : Rows.fnOracleBelowRow.holds Try.pinned (OpenSpec.ofChange Rows.fnOracleBelowSpec) :=
  OpenClaim.holds_of_wide 7 Try.f7 rfl rfl rfl rfl rfl rfl rfl ⟨rfl, rfl, rfl, rfl, rfl⟩ rfl rfl rfl rfl rfl (by as_aux_lemma => kernel_rfl) Try.func7 fnOracleBelow_closed
    (of_decide_eq_true (by as_aux_lemma => kernel_rfl)) (by unfold Func.isWrapper; first | (rw [if_pos (by decide +kernel)]; kernel_rfl) | (rw [if_neg (by decide +kernel)]; exact ⟨rfl, rfl⟩))
    (fun os started H enc _ => fnOracleBelow_lifted os started H enc)
theorem fnOracleBelow_holds : Rows.FnOracleBelowSaid := fnOracleBelow_over
#print axioms fnOracleBelow_holds
end Go.Proofs.Ytanmgkpgfmkobaa
