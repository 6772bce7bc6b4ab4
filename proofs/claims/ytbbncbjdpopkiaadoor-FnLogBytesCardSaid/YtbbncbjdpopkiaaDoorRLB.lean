/- The law FnLogBytes -/
import Derived.Test.YtbbncbjdpopkiaaDoorGB
import Derived.Test.YtbbncbjdpopkiaaDoorCards
import Derived.Test.YtbbncbjdpopkiaaDoorTie
import Derived.SevenTiedAt
import Derived.LaidMore
import Derived.Stop.Joined
import Derived.ProofKit
import Derived.OpenShut
import Derived.Test.YtbbncbjdpopkiaaDoorWQL
import Derived.Test.YtbbncbjdpopkiaaDoorL6
namespace Go.Proofs.YtbbncbjdpopkiaaDoor
open Go.ChangeShapes Go.WideShapes Go.ChangeAt Go.RowKit
set_option linter.unusedVariables false
section
open Go.Proofs.YtbbncbjdpopkiaaDoorQ.QL Go.Proofs.YtbbncbjdpopkiaaDoorQ.Ext
open Go.Proofs.YtbbncbjdpopkiaaDoorW.PrintWords (Kd)
set_option maxRecDepth 100000 in
theorem fnLogBytes_met (os : Os) (args : Array Value) : laidMetH Tryd.prog Rows.fnLogBytesRow.laid ((World.doorLaid Tryd.prog 47 os).forCall (fun _ _ => 0) ⟨#[], args, []⟩).memory :=
  laidMetH_of_parts3 (fuel := 8) (laidMet_of_run' 8 (by kernel_rfl) (by kernel_rfl)) (by kernel_rfl) (by kernel_rfl)
set_option maxRecDepth 100000 in
theorem fnLogBytes_lifted (os : Os) (started : os.Started) (H : Type) (enc : TypeId × Value → H) :
    ReturnsInHanded {} Tryd.checked os 7 .any (fun w args => (Rows.fnLogBytesSpec.pre enc Tryd.prog Tryd.f7 Rows.fnLogBytesRow.domain false w args ∧ laidMetH Tryd.prog Rows.fnLogBytesRow.laid w) ∧ sizedMet enc Tryd.prog Tryd.f7 (OpenSpec.ofChange Rows.fnLogBytesSpec) false w args) (Rows.fnLogBytesSpec.post enc Tryd.prog Tryd.f7 false true false false) := by
  refine returnsInHanded_of_change_and (C := Tryd.checked) (X := fun w _ => laidMetH Tryd.prog Rows.fnLogBytesRow.laid w) (fun _ _ _ hh h => h.of_heap hh) ownKnob' started (by kernel_rfl) Tryd.func7
    (ChangeSpec.witness_shaped (enc := enc) (C := Tryd.checked) (os := os) (X := fun w _ => laidMetH Tryd.prog Rows.fnLogBytesRow.laid w) false (World.doorLaid Tryd.prog 47 os) #[.slice none 0 0] 8 rfl (World.shaped_of_RefB (by kernel_rfl) (by kernel_rfl)) (by kernel_rfl) (by kernel_rfl) (by kernel_rfl) (fnLogBytes_met os _)) ?_
  intro W base args ds gs before hval0 hW hcnd hsz0 hL _
  have hval : ∀ (j : Nat) t v, Tryd.f7.params[j]? = some t → args[j]? = some v → Value.okWide Tryd.prog W .any base t v := hval0
  have hW' := hW
  obtain ⟨p, q, hA0, hV, rfl, hfz, hnd⟩ := hW
  have hA : DataW.TrodAll enc Tryd.prog W 0 (fun _ => true) true Tryd.f7.params.toList args.toList ds p := hA0
  rw [Tryd.params7] at hA hval
  obtain ⟨v0, vs0, d0, ds0, p0, q0, hargs, rfl, rfl, h0, r0⟩ := trodAll_cons hA
  obtain ⟨rfl, rfl, rfl⟩ := trodAll_nil r0
  obtain rfl : args = #[v0] := by cases args; simp_all
  obtain ⟨rfl, rfl⟩ := trodVars_none hV
  have k0 := h0
  obtain ⟨A0, n0, c0, rfl⟩ := okWide_slice Tryd.underlying43 (hval 0 43 v0 rfl rfl)
  obtain ⟨fu0, hf0⟩ := h0
  obtain ⟨x0, ⟨B0, d0_, he0, hc0, hr0⟩, w0⟩ := ((vw_slice Tryd.underlying43 cz80 vw80) : Vw enc Tryd.prog W 43 (Kd.slice 80 k80) _).go _ _ _ hf0
  simp [Value.cells] at he0
  obtain ⟨rfl, rfl, rfl⟩ := he0
  clear hA0 hval0 hsz0
  obtain ⟨k, hP⟩ := logBytes_row x0 w0
  refine (laws_FnLogBytes.calls (k := k) (w := W) (r := true) (hr0 := hr0) (hc0 := hc0) (h := hP)).mono fun e W' hq => ?_
  obtain ⟨he, bel0⟩ := hq
  have bel : Below W.heap.size W W' := bel0
  subst he
  exact ⟨_, rfl, _, _, _, [], _, [], hW', trodAll_mk1 (shut_bool Tryd.underlying4 _), (trodAll_cons_mk (Below.trod laidOut' (by kernel_rfl) (of_decide_eq_true (by kernel_rfl)) k0 bel (lt_of_trod k0)) trodAll_mk0), rfl, bel.frame _, fun h => by cases h⟩
end
theorem fnLogBytes_closed : joinedFacts Tryd.prog 7 Tryd.f7 Rows.fnLogBytesSpec Rows.fnLogBytesRow = true := by
  unfold joinedFacts
  repeat' (with_reducible refine and2 ?_ ?_)
  all_goals first | with_reducible exact mayEnter' | (rw [make']; as_aux_lemma => kernel_rfl) | (rw [lifts']; as_aux_lemma => kernel_rfl) | (as_aux_lemma => kernel_rfl)
theorem fnLogBytes_over : Rows.fnLogBytesRow.holds Tryd.pinned (OpenSpec.ofChange Rows.fnLogBytesSpec) :=
  OpenClaim.holds_of_wide 7 Tryd.f7 rfl rfl rfl rfl rfl rfl rfl ⟨rfl, rfl, rfl, rfl, rfl⟩ rfl rfl rfl rfl rfl (by as_aux_lemma => kernel_rfl) Tryd.func7 fnLogBytes_closed
    (of_decide_eq_true (by as_aux_lemma => kernel_rfl)) (by unfold Func.isWrapper; first | (rw [if_pos (by decide +kernel)]; kernel_rfl) | (rw [if_neg (by decide +kernel)]; exact ⟨rfl, rfl⟩))
    (fun os started H enc _ => fnLogBytes_lifted os started H enc)
theorem fnLogBytes_card : Rows.FnLogBytesCardSaid :=
  Claim7.holds_tied_plain_at .later [] [.sentinel] true (true, "de4a623a71c0de391d6442eac45bb2f6c5238a5bea9d8c0b9ac46fb393680221") false
    (fnLogBytes_over : Rows.fnLogBytesRow.holds Tryd.pinned (OpenSpec.ofChange Rows.fnLogBytesSpec)) (fun _ h => by cases h) (by as_aux_lemma => kernel_rfl) (fun _ h => by cases h) fnLogBytes_row_tie rfl ⟨rfl, rfl⟩ (by as_aux_lemma => kernel_rfl) rfl
    (fun f fn hf hfn => by
      obtain rfl : f = 7 := Option.some.inj ((show Tryd.prog.funcNamed "loop.example/pub-g01501/laws.FnLogBytes" = some 7 by kernel_rfl).symm.trans hf) |>.symm
      obtain rfl : fn = Tryd.f7 := (Option.some.inj (Tryd.func7.symm.trans hfn)).symm
      exact ⟨by kernel_rfl, fun j t ht => by
        have hall : Tryd.f7.params.all (fun t => Tryd.prog.wantsStandIn t == false) = true := by kernel_rfl
        have := Array.all_eq_true.1 hall j (Array.getElem?_eq_some_iff.1 ht).1
        rw [(Array.getElem?_eq_some_iff.1 ht).2] at this
        exact (show Tryd.prog.wantsStandIn t = false by simpa using this)⟩)
    (by as_aux_lemma => kernel_rfl)
#print axioms fnLogBytes_card
end Go.Proofs.YtbbncbjdpopkiaaDoor
