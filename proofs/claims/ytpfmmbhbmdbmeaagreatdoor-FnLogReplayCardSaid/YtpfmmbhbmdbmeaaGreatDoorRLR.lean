/- The law FnLogReplay: the row and the card. -/
import Derived.Test.YtpfmmbhbmdbmeaaGreatDoorCards
import Derived.Test.YtpfmmbhbmdbmeaaGreatDoorTie
import Derived.Test.YtpfmmbhbmdbmeaaGreatDoorGB
import Derived.Test.YtpfmmbhbmdbmeaaGreatDoorWQL
import Derived.Test.YtpfmmbhbmdbmeaaGreatDoorLV
import Derived.Test.YtpfmmbhbmdbmeaaGreatDoorHV
import Derived.SevenTiedAt
import Derived.LaidMore
import Derived.Stop.Joined
import Derived.ProofKit
import Derived.OpenShut
namespace Go.Proofs.YtpfmmbhbmdbmeaaGreatDoor
open Go.ChangeShapes Go.WideShapes Go.ChangeAt Go.RowKit
set_option linter.unusedVariables false
section
open Go.Proofs.YtpfmmbhbmdbmeaaGreatDoorQ.QL Go.Proofs.YtpfmmbhbmdbmeaaGreatDoorQ.Ext
open Go.Proofs.YtpfmmbhbmdbmeaaGreatDoorW.PrintWords (Kd)
set_option maxRecDepth 100000 in
theorem fnLogReplay_met (os : Os) (args : Array Value) : laidMetH Tryz.prog Rows.fnLogReplayRow.laid ((World.doorLaid Tryz.prog 176 os).forCall (fun _ _ => 0) ⟨#[], args, []⟩).memory :=
  laidMetH_of_parts3 (fuel := 8) (laidMet_of_run' 8 (by kernel_rfl) (by kernel_rfl)) (by kernel_rfl) (by kernel_rfl)
set_option maxRecDepth 100000 in
theorem fnLogReplay_lifted (os : Os) (started : os.Started) (H : Type) (enc : TypeId × Value → H) :
    ReturnsInHanded {} Tryz.checked os 5 .any (fun w args => (Rows.fnLogReplaySpec.pre enc Tryz.prog Tryz.f5 Rows.fnLogReplayRow.domain false w args ∧ laidMetH Tryz.prog Rows.fnLogReplayRow.laid w) ∧ sizedMet enc Tryz.prog Tryz.f5 (OpenSpec.ofChange Rows.fnLogReplaySpec) false w args) (Rows.fnLogReplaySpec.post enc Tryz.prog Tryz.f5 false true false false) := by
  refine returnsInHanded_of_change_and (C := Tryz.checked) (X := fun w _ => laidMetH Tryz.prog Rows.fnLogReplayRow.laid w) (fun _ _ _ hh h => h.of_heap hh) ownKnob' started (by kernel_rfl) Tryz.func5
    (ChangeSpec.witness_shaped (enc := enc) (C := Tryz.checked) (os := os) (X := fun w _ => laidMetH Tryz.prog Rows.fnLogReplayRow.laid w) false (World.doorLaid Tryz.prog 176 os) #[.slice none 0 0, .int .u32 0] 8 rfl (World.shaped_of_RefB (by kernel_rfl) (by kernel_rfl)) (by kernel_rfl) (by kernel_rfl) (by kernel_rfl) (fnLogReplay_met os _)) ?_
  intro W base args ds gs before hval0 hW hcnd hsz0 hL _
  have hval : ∀ (j : Nat) t v, Tryz.f5.params[j]? = some t → args[j]? = some v → Value.okWide Tryz.prog W .any base t v := hval0
  have hW' := hW
  obtain ⟨p, q, hA0, hV0, rfl, hfz, hnd⟩ := hW
  have hA : DataW.TrodAll enc Tryz.prog W 0 (fun _ => true) true Tryz.f5.params.toList args.toList ds p := hA0
  have hV : DataW.TrodVars enc Tryz.prog W (fun _ => true) ["loop.example/pub-g01501/pub/badgerlog.errTruncate", "loop.example/pub-g01501/pub/badgerlog.errStop"] gs q := hV0
  rw [Tryz.params5] at hA hval
  obtain ⟨v0, vs0, d0, ds0, p0, q0, hargs, rfl, rfl, h0, r0⟩ := trodAll_cons hA
  obtain ⟨v1, vs1, d1, ds1, p1, q1, rfl, rfl, rfl, h1, r1⟩ := trodAll_cons r0
  obtain ⟨rfl, rfl, rfl⟩ := trodAll_nil r1
  obtain rfl : args = #[v0, v1] := by cases args; simp_all
  obtain ⟨ae, au, ab, ac, hvb, hvc, hEZ⟩ := errVars hL
  obtain ⟨rfl, rfl⟩ := hV.unique (errReads2 enc hvb hvc _)
  have k0 := h0
  have k1 := h1
  obtain ⟨A0, n0, c0, rfl⟩ := okWide_slice Tryz.underlying22 (hval 0 22 v0 rfl rfl)
  obtain ⟨fu0, hf0⟩ := h0
  obtain ⟨x0, ⟨B0, d0_, he0, hc0, hr0⟩, w0⟩ := ((vw_slice Tryz.underlying22 cz45 vw45) : Vw enc Tryz.prog W 22 (Kd.slice 45 k45) _).go _ _ _ hf0
  simp [Value.cells] at he0
  obtain ⟨rfl, rfl, rfl⟩ := he0
  obtain ⟨a1, rfl, rfl, rfl, w1⟩ := open_int Tryz.underlying23 (hval 1 23 v1 rfl rfl) h1
  clear hA0 hV0 hval0 hsz0
  refine (fnLogReplay_walk A0 c0 x0 a1 ae au ab W hr0 hc0 (fun u hu r hr => (w0 u hu).1 r hr)  hEZ).mono fun e W' ⟨he, bel⟩ => ?_
  subst he
  exact ⟨_, rfl, _, _, _, [], _, _, hW', trodAll_mk1 (shut_bool Tryz.underlying4 _), (trodAll_cons_mk (Below.trod laidOut' (by kernel_rfl) (of_decide_eq_true (by kernel_rfl)) k0 bel (lt_of_trod k0)) (trodAll_cons_mk (Below.trod laidOut' (by kernel_rfl) (of_decide_eq_true (by kernel_rfl)) k1 bel (lt_of_trod k1)) trodAll_mk0)), errReads2 enc (var?_below hvb bel) (var?_below hvc bel) _, bel.frame _, fun h => by cases h⟩
end
set_option maxHeartbeats 8000000 in
theorem fnLogReplay_closed : joinedFacts Tryz.prog 5 Tryz.f5 Rows.fnLogReplaySpec Rows.fnLogReplayRow = true := by
  unfold joinedFacts
  repeat' (with_reducible refine and2 ?_ ?_)
  all_goals first | with_reducible exact mayEnter' | (rw [make']; as_aux_lemma => kernel_rfl) | (rw [lifts']; as_aux_lemma => kernel_rfl) | (as_aux_lemma => kernel_rfl)
theorem fnLogReplay_over : Rows.fnLogReplayRow.holds Tryz.pinned (OpenSpec.ofChange Rows.fnLogReplaySpec) :=
  OpenClaim.holds_of_wide 5 Tryz.f5 rfl rfl rfl rfl rfl rfl rfl ⟨rfl, rfl, rfl, rfl, rfl⟩ rfl rfl rfl rfl rfl (by as_aux_lemma => kernel_rfl) Tryz.func5 fnLogReplay_closed
    (of_decide_eq_true (by as_aux_lemma => kernel_rfl)) (by unfold Func.isWrapper; first | (rw [if_pos (by decide +kernel)]; kernel_rfl) | (rw [if_neg (by decide +kernel)]; exact ⟨rfl, rfl⟩))
    (fun os started H enc _ => fnLogReplay_lifted os started H enc)
theorem fnLogReplay_card : Rows.FnLogReplayCardSaid :=
  Claim7.holds_tied_plain_at .later [] [.data, .data, .data, .sentinel, .sentinel, .sentinel, .sentinel, .sentinel, .sentinel, .sentinel, .sentinel] true (true, "dd7c7e293b8b06532c6a8af786ac2eb4923c936e709d14aac09618a87fbb7609") true
    (fnLogReplay_over : Rows.fnLogReplayRow.holds Tryz.pinned (OpenSpec.ofChange Rows.fnLogReplaySpec)) (fun _ h => by cases h) (by as_aux_lemma => kernel_rfl) (fun _ h => by cases h) fnLogReplay_row_tie rfl ⟨rfl, rfl⟩ (by as_aux_lemma => kernel_rfl) rfl
    (fun f fn hf hfn => by
      obtain rfl : f = 5 := Option.some.inj ((show Tryz.prog.funcNamed "loop.example/pub-g01501/laws.FnLogReplay" = some 5 by kernel_rfl).symm.trans hf) |>.symm
      obtain rfl : fn = Tryz.f5 := (Option.some.inj (Tryz.func5.symm.trans hfn)).symm
      exact ⟨by kernel_rfl, fun j t ht => by
        have hall : Tryz.f5.params.all (fun t => Tryz.prog.wantsStandIn t == false) = true := by kernel_rfl
        have := Array.all_eq_true.1 hall j (Array.getElem?_eq_some_iff.1 ht).1
        rw [(Array.getElem?_eq_some_iff.1 ht).2] at this
        exact (show Tryz.prog.wantsStandIn t = false by simpa using this)⟩)
    (by as_aux_lemma => kernel_rfl)
#print axioms fnLogReplay_card
end Go.Proofs.YtpfmmbhbmdbmeaaGreatDoor
