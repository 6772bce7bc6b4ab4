/- The law FnSumCheck: the row and the card. -/
import Derived.Test.YtbbncbjdpopkiaaDoorCards
import Derived.Test.YtbbncbjdpopkiaaDoorTie
import Derived.Test.YtbbncbjdpopkiaaDoorGB
import Derived.Test.YtbbncbjdpopkiaaDoorG4
import Derived.Test.YtbbncbjdpopkiaaDoorG3
import Derived.SevenTiedAt
import Derived.LaidMore
import Derived.Stop.Joined
import Derived.ProofKit
import Derived.OpenShut
namespace Go.Proofs.YtbbncbjdpopkiaaDoor
open Go.ChangeShapes Go.WideShapes Go.ChangeAt Go.RowKit
set_option linter.unusedVariables false
set_option maxRecDepth 100000 in
theorem fnSumCheck_met (os : Os) (args : Array Value) : laidMetH Tryd.prog Rows.fnSumCheckRow.laid ((World.doorLaid Tryd.prog 47 os).forCall (fun _ _ => 0) ⟨#[], args, []⟩).memory :=
  laidMetH_of_parts3 (fuel := 8) (laidMet_of_run' 8 (by kernel_rfl) (by kernel_rfl)) (by kernel_rfl) (by kernel_rfl)
set_option maxRecDepth 100000 in
theorem fnSumCheck_lifted (os : Os) (started : os.Started) (H : Type) (enc : TypeId × Value → H) :
    ReturnsInHanded {} Tryd.checked os 3 .any (fun w args => (Rows.fnSumCheckSpec.pre enc Tryd.prog Tryd.f3 Rows.fnSumCheckRow.domain false w args ∧ laidMetH Tryd.prog Rows.fnSumCheckRow.laid w) ∧ sizedMet enc Tryd.prog Tryd.f3 (OpenSpec.ofChange Rows.fnSumCheckSpec) false w args) (Rows.fnSumCheckSpec.post enc Tryd.prog Tryd.f3 false true false false) := by
  refine returnsInHanded_of_change_and (C := Tryd.checked) (X := fun w _ => laidMetH Tryd.prog Rows.fnSumCheckRow.laid w) (fun _ _ _ hh h => h.of_heap hh) ownKnob' started (by kernel_rfl) Tryd.func3
    (ChangeSpec.witness_shaped (enc := enc) (C := Tryd.checked) (os := os) (X := fun w _ => laidMetH Tryd.prog Rows.fnSumCheckRow.laid w) false (World.doorLaid Tryd.prog 47 os) #[.slice none 0 0, .int .u64 0] 8 rfl (World.shaped_of_RefB (by kernel_rfl) (by kernel_rfl)) (by kernel_rfl) (by kernel_rfl) (by kernel_rfl) (fnSumCheck_met os _)) ?_
  intro W base args ds gs before hval0 hW hcnd hsz0 hL _
  have hval : ∀ (j : Nat) t v, Tryd.f3.params[j]? = some t → args[j]? = some v → Value.okWide Tryd.prog W .any base t v := hval0
  have hW' := hW
  obtain ⟨p, q, hA0, hV0, rfl, hfz, hnd⟩ := hW
  have hA : DataW.TrodAll enc Tryd.prog W 0 (fun _ => true) true Tryd.f3.params.toList args.toList ds p := hA0
  have hV : DataW.TrodVars enc Tryd.prog W (fun _ => true) ["loop.example/pub-g01501/pub/badgery.ErrChecksumMismatch"] gs q := hV0
  rw [Tryd.params3] at hA hval
  obtain ⟨v0, vs0, d0, ds0, p0, q0, hargs, rfl, rfl, h0, r0⟩ := trodAll_cons hA
  obtain ⟨v1, vs1, d1, ds1, p1, q1, rfl, rfl, rfl, h1, r1⟩ := trodAll_cons r0
  obtain ⟨rfl, rfl, rfl⟩ := trodAll_nil r1
  obtain rfl : args = #[v0, v1] := by cases args; simp_all
  obtain ⟨ea, hev⟩ := errVar hL
  obtain ⟨rfl, rfl⟩ := hV.unique (errReads enc hev _)
  have k0 := h0
  have k1 := h1
  obtain ⟨A0, n0, c0, l0, rfl, hc0, hs0, hw0⟩ := view_bytes (hval 0 22 v0 rfl rfl) h0
  obtain ⟨a1, rfl, rfl, rfl, w1⟩ := open_int Tryd.underlying23 (hval 1 23 v1 rfl rfl) h1
  clear hA0 hV0 hval0 hsz0
  refine (sumCheck_walk A0 n0 c0 l0 a1 W hs0 hc0 hw0 w1 (errThere hev)).mono fun e W' ⟨he, bel⟩ => ?_
  subst he
  exact ⟨_, rfl, _, _, _, [], _, _, hW', trodAll_mk1 (shut_bool Tryd.underlying4 _), (trodAll_cons_mk (Below.trod laidOut' (by kernel_rfl) (of_decide_eq_true (by kernel_rfl)) k0 bel (lt_of_trod k0)) (trodAll_cons_mk (Below.trod laidOut' (by kernel_rfl) (of_decide_eq_true (by kernel_rfl)) k1 bel (lt_of_trod k1)) trodAll_mk0)), errReads enc (var?_below hev bel) _, bel.frame _, fun h => by cases h⟩
theorem fnSumCheck_closed : joinedFacts Tryd.prog 3 Tryd.f3 Rows.fnSumCheckSpec Rows.fnSumCheckRow = true := by
  unfold joinedFacts
  repeat' (with_reducible refine and2 ?_ ?_)
  all_goals first | with_reducible exact mayEnter' | (rw [make']; as_aux_lemma => kernel_rfl) | (rw [lifts']; as_aux_lemma => kernel_rfl) | (as_aux_lemma => kernel_rfl)
theorem fnSumCheck_over : Rows.fnSumCheckRow.holds Tryd.pinned (OpenSpec.ofChange Rows.fnSumCheckSpec) :=
  OpenClaim.holds_of_wide 3 Tryd.f3 rfl rfl rfl rfl rfl rfl rfl ⟨rfl, rfl, rfl, rfl, rfl⟩ rfl rfl rfl rfl rfl (by as_aux_lemma => kernel_rfl) Tryd.func3 fnSumCheck_closed
    (of_decide_eq_true (by as_aux_lemma => kernel_rfl)) (by unfold Func.isWrapper; first | (rw [if_pos (by decide +kernel)]; kernel_rfl) | (rw [if_neg (by decide +kernel)]; exact ⟨rfl, rfl⟩))
    (fun os started H enc _ => fnSumCheck_lifted os started H enc)
theorem fnSumCheck_card : Rows.FnSumCheckCardSaid :=
  Claim7.holds_tied_plain_at .later [] [.sentinel] true (true, "de4a623a71c0de391d6442eac45bb2f6c5238a5bea9d8c0b9ac46fb393680221") false
    (fnSumCheck_over : Rows.fnSumCheckRow.holds Tryd.pinned (OpenSpec.ofChange Rows.fnSumCheckSpec)) (fun _ h => by cases h) (by as_aux_lemma => kernel_rfl) (fun _ h => by cases h) fnSumCheck_row_tie rfl ⟨rfl, rfl⟩ (by as_aux_lemma => kernel_rfl) rfl
    (fun f fn hf hfn => by
      obtain rfl : f = 3 := Option.some.inj ((show Tryd.prog.funcNamed "loop.example/pub-g01501/laws.FnSumCheck" = some 3 by kernel_rfl).symm.trans hf) |>.symm
      obtain rfl : fn = Tryd.f3 := (Option.some.inj (Tryd.func3.symm.trans hfn)).symm
      exact ⟨by kernel_rfl, fun j t ht => by
        have hall : Tryd.f3.params.all (fun t => Tryd.prog.wantsStandIn t == false) = true := by kernel_rfl
        have := Array.all_eq_true.1 hall j (Array.getElem?_eq_some_iff.1 ht).1
        rw [(Array.getElem?_eq_some_iff.1 ht).2] at this
        exact (show Tryd.prog.wantsStandIn t = false by simpa using this)⟩)
    (by as_aux_lemma => kernel_rfl)
#print axioms fnSumCheck_card
end Go.Proofs.YtbbncbjdpopkiaaDoor
