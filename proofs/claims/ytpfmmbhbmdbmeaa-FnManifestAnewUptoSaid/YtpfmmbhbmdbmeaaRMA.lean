/- The law FnManifestAnew -/
import Derived.Test.YtpfmmbhbmdbmeaaGB
import Derived.Test.YtpfmmbhbmdbmeaaVZ
import Derived.JoinedCond
import Derived.Test.YtpfmmbhbmdbmeaaWMA
namespace Go.Proofs.Ytpfmmbhbmdbmeaa
open Go.ChangeShapes Go.WideShapes Go.ChangeAt Go.RowKit
set_option linter.unusedVariables false
section
open Go.Proofs.YtpfmmbhbmdbmeaaQ.QMA Go.Proofs.YtpfmmbhbmdbmeaaQ.Ext Go.Proofs.YtpfmmbhbmdbmeaaQ.QT
open Go.Proofs.YtpfmmbhbmdbmeaaW.PrintWords (Kd)
set_option maxRecDepth 100000 in
theorem fnManifestAnew_lifted (os : Os) (started : os.Started) (H : Type) (enc : TypeId × Value → H)
    (F : Stop.Interp) : ReturnsInHanded {} Try.checked os 3 .any ((Rows.OpenSpec.upto Rows.fnManifestAnewSpec).pre6 enc Try.prog Try.f3 Rows.fnManifestAnewUptoRow.domain false) (((Rows.OpenSpec.upto Rows.fnManifestAnewSpec).at F).post enc Try.prog Try.f3 false true false false) := by
  refine returnsInHanded_of_cond (C := Try.checked) (s := Rows.OpenSpec.upto Rows.fnManifestAnewSpec) (k := Rows.uptoSmall) rfl ownKnob' started (by kernel_rfl) Try.func3
    (OpenSpec.witness (enc := enc) (C := Try.checked) (s := Rows.OpenSpec.upto Rows.fnManifestAnewSpec) (k := Rows.uptoSmall) rfl false ⟨#[], #[.slice none 0 0], []⟩ 8 (by kernel_rfl) (by kernel_rfl) (by kernel_rfl)
      (x := ([.nil], [], [])) (by kernel_rfl) rfl (by kernel_rfl)) ?_
  intro W base args ds gs before hval0 hW _ hk0 _
  have hval : ∀ (j : Nat) t v, Try.f3.params[j]? = some t → args[j]? = some v → Value.okWide Try.prog W .any base t v := hval0
  have hW' := hW
  obtain ⟨p, q, hA0, hV, rfl, hfz, hnd⟩ := hW
  have hA : DataW.TrodAll enc Try.prog W 0 (fun _ => true) true Try.f3.params.toList args.toList ds p := hA0
  rw [Try.params3] at hA hval
  obtain ⟨v0, vs0, d0, ds0, p0, q0, hargs, rfl, rfl, h0, r0⟩ := trodAll_cons hA
  obtain ⟨rfl, rfl, rfl⟩ := trodAll_nil r0
  obtain rfl : args = #[v0] := by cases args; simp_all
  obtain ⟨rfl, rfl⟩ := trodVars_none hV
  have k0 := h0
  obtain ⟨A0, n0, c0, rfl⟩ := okWide_slice Try.underlying22 (hval 0 22 v0 rfl rfl)
  obtain ⟨fu0, hf0⟩ := h0
  obtain ⟨x0, hK0, w0⟩ := ((vw_slice Try.underlying22 cz24 (vw_slice Try.underlying24 cz36 vw36)) : Vw enc Try.prog W 22 (Kd.slice 24 (Kd.slice 36 k36)) _).go _ _ _ hf0
  have hz0 : _ ≤ Rows.uptoBulk d0 := ((vz_slice Try.underlying22 cz24 (vz_slice Try.underlying24 cz36 vz_one)) : Vz enc Try.prog W 22 (Kd.slice 24 (Kd.slice 36 k36)) _).go _ _ _ hf0 _ hK0
  obtain ⟨B0, d0_, he0, hc0, hr0⟩ := hK0
  simp [Value.cells] at he0
  obtain ⟨rfl, rfl, rfl⟩ := he0
  clear hA0 hval0
  have hbk := bulk_bound hk0
  simp only [List.cons_append, List.nil_append, Rows.uptoBulkAll] at hbk
  obtain ⟨k, hP⟩ := manifestAnew_row x0 w0 (by omega)
  refine (laws_FnManifestAnew.calls (k := k) (w := W) (r := true) (hr0 := hr0) (hc0 := hc0) (h := hP)).mono fun e W' hq => ?_
  obtain ⟨he, bel0⟩ := hq
  have bel : Below W.heap.size W W' := bel0
  subst he
  exact ⟨_, rfl, _, _, _, [], _, [], hW', trodAll_mk1 (shut_bool Try.underlying4 _), (trodAll_cons_mk (Below.trod laidOut' (by kernel_rfl) (of_decide_eq_true (by kernel_rfl)) k0 bel (lt_of_trod k0)) trodAll_mk0), rfl, bel.frame _, fun h => by cases h⟩
end
set_option maxHeartbeats 8000000 in
theorem fnManifestAnew_closed : joinedFacts Try.prog 3 Try.f3 (Rows.OpenSpec.upto Rows.fnManifestAnewSpec).bare Rows.fnManifestAnewUptoRow = true := by
  unfold joinedFacts
  repeat' (with_reducible refine and2 ?_ ?_)
  all_goals first | with_reducible exact mayEnter' | (rw [make']; as_aux_lemma => kernel_rfl) | (rw [lifts']; as_aux_lemma => kernel_rfl) | (as_aux_lemma => kernel_rfl)
theorem fnManifestAnew_over : Rows.fnManifestAnewUptoRow.holds Try.pinned (Rows.OpenSpec.upto Rows.fnManifestAnewSpec) :=
  OpenClaim.holds_of_cond 3 Try.f3 rfl rfl rfl rfl rfl rfl rfl ⟨rfl, rfl, rfl, rfl, rfl⟩ rfl rfl rfl rfl rfl (by as_aux_lemma => kernel_rfl) Try.func3 fnManifestAnew_closed
    (of_decide_eq_true (by as_aux_lemma => kernel_rfl)) (by unfold Func.isWrapper; first | (rw [if_pos (by decide +kernel)]; kernel_rfl) | (rw [if_neg (by decide +kernel)]; exact ⟨rfl, rfl⟩))
    (fun os started H enc _ F => fnManifestAnew_lifted os started H enc F)
theorem fnManifestAnew_holds : Rows.FnManifestAnewUptoSaid := fnManifestAnew_over
#print axioms fnManifestAnew_holds
end Go.Proofs.Ytpfmmbhbmdbmeaa
