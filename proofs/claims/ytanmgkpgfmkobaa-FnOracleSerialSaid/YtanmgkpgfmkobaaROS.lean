/- The law FnOracleSerial -/
import Derived.Test.YtanmgkpgfmkobaaGB
import Derived.Test.YtanmgkpgfmkobaaWQT
import Derived.Test.YtanmgkpgfmkobaaQOX0
namespace Go.Proofs.Ytanmgkpgfmkobaa
open Go.ChangeShapes Go.WideShapes Go.ChangeAt Go.RowKit
set_option linter.unusedVariables false
section
open Go.Proofs.YtanmgkpgfmkobaaQ.QOX Go.Proofs.YtanmgkpgfmkobaaQ.Ext Go.Proofs.YtanmgkpgfmkobaaQ.QT
open Go.Proofs.YtanmgkpgfmkobaaW.PrintWords (Kd)
set_option maxRecDepth 100000 in
theorem fnOracleSerial_lifted (os : Os) (started : os.Started) (H : Type) (enc : TypeId × Value → H) :
    ReturnsInHanded {} Try.checked os 8 .any (Rows.fnOracleSerialSpec.pre6 enc Try.prog Try.f8 Rows.fnOracleSerialRow.domain false) (Rows.fnOracleSerialSpec.post enc Try.prog Try.f8 false true false false) := by
  refine returnsInHanded_of_change_sized (C := Try.checked) ownKnob' started (by kernel_rfl) Try.func8
    (ChangeSpec.witness6 (enc := enc) (C := Try.checked) false ⟨#[], #[.slice none 0 0], []⟩ 8 (by kernel_rfl) (by kernel_rfl) (by kernel_rfl) (by kernel_rfl)) ?_
  intro W base args ds gs before hval0 hW hcnd hsz0 _
  have hval : ∀ (j : Nat) t v, Try.f8.params[j]? = some t → args[j]? = some v → Value.okWide Try.prog W .any base t v := hval0
  have hW' := hW
  obtain ⟨p, q, hA0, hV, rfl, hfz, hnd⟩ := hW
  have hA : DataW.TrodAll enc Try.prog W 0 (fun _ => true) true Try.f8.params.toList args.toList ds p := hA0
  rw [Try.params8] at hA hval
  obtain ⟨v0, vs0, d0, ds0, p0, q0, hargs, rfl, rfl, h0, r0⟩ := trodAll_cons hA
  obtain ⟨rfl, rfl, rfl⟩ := trodAll_nil r0
  obtain rfl : args = #[v0] := by cases args; simp_all
  obtain ⟨rfl, rfl⟩ := trodVars_none hV
  have k0 := h0
  obtain ⟨A0, n0, c0, rfl⟩ := okWide_slice Try.underlying47 (hval 0 47 v0 rfl rfl)
  obtain ⟨fu0, hf0⟩ := h0
  obtain ⟨x0, hK0, w0⟩ := ((vw_slice Try.underlying47 cz55 vw55) : Vw enc Try.prog W 47 (Kd.slice 55 k55) _).go _ _ _ hf0
  obtain ⟨B0, d0_, he0, hc0, hr0⟩ := hK0
  simp [Value.cells] at he0
  obtain ⟨rfl, rfl, rfl⟩ := he0
  clear hA0 hval0 hsz0
  obtain ⟨k, hP⟩ := serial_row x0 w0
  refine (laws_FnOracleSerial.calls (k := k) (w := W) (r := true) (hr0 := hr0) (hc0 := hc0) (h := hP)).mono fun e W' hq => ?_
  obtain ⟨he, bel0⟩ := hq
  have bel : Below W.heap.size W W' := bel0
  subst he
  exact ⟨_, rfl, _, _, _, [], _, [], hW', trodAll_mk1 (shut_bool Try.underlying4 _), (trodAll_cons_mk (Below.trod laidOut' (by kernel_rfl) (of_decide_eq_true (by kernel_rfl)) k0 bel (lt_of_trod k0)) trodAll_mk0), rfl, bel.frame _, fun h => by cases h⟩
end
set_option maxHeartbeats 8000000 in
theorem fnOracleSerial_closed : joinedFacts Try.prog 8 Try.f8 Rows.fnOracleSerialSpec Rows.fnOracleSerialRow = true := by
  unfold joinedFacts
  repeat' (with_reducible refine and2 ?_ ?_)
  all_goals first | with_reducible exact mayEnter' | (rw [make']; as_aux_lemma => kernel_rfl) | (rw [lifts']; as_aux_lemma => kernel_rfl) | (as_aux_lemma => kernel_rfl)
theorem fnOracleSerial_over : Rows.fnOracleSerialRow.holds Try.pinned (OpenSpec.ofChange Rows.fnOracleSerialSpec) :=
  OpenClaim.holds_of_wide 8 Try.f8 rfl rfl rfl rfl rfl rfl rfl ⟨rfl, rfl, rfl, rfl, rfl⟩ rfl rfl rfl rfl rfl (by as_aux_lemma => kernel_rfl) Try.func8 fnOracleSerial_closed
    (of_decide_eq_true (by as_aux_lemma => kernel_rfl)) (by unfold Func.isWrapper; first | (rw [if_pos (by decide +kernel)]; kernel_rfl) | (rw [if_neg (by decide +kernel)]; exact ⟨rfl, rfl⟩))
    (fun os started H enc _ => fnOracleSerial_lifted os started H enc)
theorem fnOracleSerial_holds : Rows.FnOracleSerialSaid := fnOracleSerial_over
#print axioms fnOracleSerial_holds
end Go.Proofs.Ytanmgkpgfmkobaa
