/- The law FnLogBroken: the row and the card. -/
import Derived.Test.YtpfmmbhbmdbmeaaGreatDoorCards
import Derived.Test.YtpfmmbhbmdbmeaaGreatDoorTie
import Derived.Test.YtpfmmbhbmdbmeaaGreatDoorGB
import Derived.Test.YtpfmmbhbmdbmeaaGreatDoorWQL
import Derived.Test.YtpfmmbhbmdbmeaaGreatDoorLV
import Derived.Test.YtpfmmbhbmdbmeaaGreatDoorHZ
import Derived.SevenTiedAt
import Derived.LaidMore
import Derived.Stop.Joined
import Derived.ProofKit
import Derived.OpenShut
namespace Go.Proofs.YtpfmmbhbmdbmeaaGreatDoor
open Go.ChangeShapes Go.WideShapes Go.ChangeAt Go.RowKit
set_option linter.unusedVariables false
section
open Go.Proofs.YtpfmmbhbmdbmeaaGreatDoorQ.QL Go.Proofs.YtpfmmbhbmdbmeaaGreatDoorQ.Ext
open Go.Proofs.YtpfmmbhbmdbmeaaGreatDoorW.PrintWords (Kd)
set_option maxRecDepth 100000 in
theorem fnLogBroken_met (os : Os) (args : Array Value) : laidMetH Tryz.prog Rows.fnLogBrokenRow.laid ((World.doorLaid Tryz.prog 176 os).forCall (fun _ _ => 0) ⟨#[], args, []⟩).memory :=
  laidMetH_of_parts3 (fuel := 8) (laidMet_of_run' 8 (by kernel_rfl) (by kernel_rfl)) (by kernel_rfl) (by kernel_rfl)
set_option maxRecDepth 100000 in
theorem fnLogBroken_lifted (os : Os) (started : os.Started) (H : Type) (enc : TypeId × Value → H) :
    ReturnsInHanded {} Tryz.checked os 3 .any (fun w args => (Rows.fnLogBrokenSpec.pre enc Tryz.prog Tryz.f3 Rows.fnLogBrokenRow.domain false w args ∧ laidMetH Tryz.prog Rows.fnLogBrokenRow.laid w) ∧ sizedMet enc Tryz.prog Tryz.f3 (OpenSpec.ofChange Rows.fnLogBrokenSpec) false w args) (Rows.fnLogBrokenSpec.post enc Tryz.prog Tryz.f3 false true false false) := by
  refine returnsInHanded_of_change_and (C := Tryz.checked) (X := fun w _ => laidMetH Tryz.prog Rows.fnLogBrokenRow.laid w) (fun _ _ _ hh h => h.of_heap hh) ownKnob' started (by kernel_rfl) Tryz.func3
    (ChangeSpec.witness_shaped (enc := enc) (C := Tryz.checked) (os := os) (X := fun w _ => laidMetH Tryz.prog Rows.fnLogBrokenRow.laid w) false (World.doorLaid Tryz.prog 176 os) #[.slice none 0 0, .int .u32 0, .int .i64 0, .int .u8 0] 8 rfl (World.shaped_of_RefB (by kernel_rfl) (by kernel_rfl)) (by kernel_rfl) (by kernel_rfl) (by kernel_rfl) (fnLogBroken_met os _)) ?_
  intro W base args ds gs before hval0 hW hcnd hsz0 hL _
  have hval : ∀ (j : Nat) t v, Tryz.f3.params[j]? = some t → args[j]? = some v → Value.okWide Tryz.prog W .any base t v := hval0
  have hW' := hW
  obtain ⟨p, q, hA0, hV0, rfl, hfz, hnd⟩ := hW
  have hA : DataW.TrodAll enc Tryz.prog W 0 (fun _ => true) true Tryz.f3.params.toList args.toList ds p := hA0
  have hV : DataW.TrodVars enc Tryz.prog W (fun _ => true) ["loop.example/pub-g01501/pub/badgerlog.errTruncate", "loop.example/pub-g01501/pub/badgerlog.errStop"] gs q := hV0
  rw [Tryz.params3] at hA hval
  obtain ⟨v0, vs0, d0, ds0, p0, q0, hargs, rfl, rfl, h0, r0⟩ := trodAll_cons hA
  obtain ⟨v1, vs1, d1, ds1, p1, q1, rfl, rfl, rfl, h1, r1⟩ := trodAll_cons r0
  obtain ⟨v2, vs2, d2, ds2, p2, q2, rfl, rfl, rfl, h2, r2⟩ := trodAll_cons r1
  obtain ⟨v3, vs3, d3, ds3, p3, q3, rfl, rfl, rfl, h3, r3⟩ := trodAll_cons r2
  obtain ⟨rfl, rfl, rfl⟩ := trodAll_nil r3
  obtain rfl : args = #[v0, v1, v2, v3] := by cases args; simp_all
  obtain ⟨ae, au, ab, ac, hvb, hvc, hEZ⟩ := errVars hL
  obtain ⟨rfl, rfl⟩ := hV.unique (errReads2 enc hvb hvc _)
  have k0 := h0
  have k1 := h1
  have k2 := h2
  have k3 := h3
  obtain ⟨A0, n0, c0, rfl⟩ := okWide_slice Tryz.underlying22 (hval 0 22 v0 rfl rfl)
  obtain ⟨fu0, hf0⟩ := h0
  obtain ⟨x0, ⟨B0, d0_, he0, hc0, hr0⟩, w0⟩ := ((vw_slice Tryz.underlying22 cz45 vw45) : Vw enc Tryz.prog W 22 (Kd.slice 45 k45) _).go _ _ _ hf0
  simp [Value.cells] at he0
  obtain ⟨rfl, rfl, rfl⟩ := he0
  obtain ⟨a1, rfl, rfl, rfl, w1⟩ := open_int Tryz.underlying23 (hval 1 23 v1 rfl rfl) h1
  obtain ⟨a2, rfl, rfl, rfl, w2⟩ := open_int Tryz.underlying3 (hval 2 3 v2 rfl rfl) h2
  obtain ⟨a3, rfl, rfl, rfl, w3⟩ := open_int Tryz.underlying5 (hval 3 5 v3 rfl rfl) h3
  clear hA0 hV0 hval0 hsz0
  refine (fnLogBroken_walk A0 c0 x0 a1 a2 a3 ae au ab W hr0 hc0 (fun u hu r hr => (w0 u hu).1 r hr) (by have h := w2; simp [Lit.wf, IntKind.min, IntKind.max, IntKind.bits, IntKind.signed] at h; omega) (wf8 w3) hEZ).mono fun e W' ⟨he, bel⟩ => ?_
  subst he
  exact ⟨_, rfl, _, _, _, [], _, _, hW', trodAll_mk1 (shut_bool Tryz.underlying4 _), (trodAll_cons_mk (Below.trod laidOut' (by kernel_rfl) (of_decide_eq_true (by kernel_rfl)) k0 bel (lt_of_trod k0)) (trodAll_cons_mk (Below.trod laidOut' (by kernel_rfl) (of_decide_eq_true (by kernel_rfl)) k1 bel (lt_of_trod k1)) (trodAll_cons_mk (Below.trod laidOut' (by kernel_rfl) (of_decide_eq_true (by kernel_rfl)) k2 bel (lt_of_trod k2)) (trodAll_cons_mk (Below.trod laidOut' (by kernel_rfl) (of_decide_eq_true (by kernel_rfl)) k3 bel (lt_of_trod k3)) trodAll_mk0)))), errReads2 enc (var?_below hvb bel) (var?_below hvc bel) _, bel.frame _, fun h => by cases h⟩
end
set_option maxHeartbeats 8000000 in
theorem fnLogBroken_closed : joinedFacts Tryz.prog 3 Tryz.f3 Rows.fnLogBrokenSpec Rows.fnLogBrokenRow = true := by
  unfold joinedFacts
  repeat' (with_reducible refine and2 ?_ ?_)
  all_goals first | with_reducible exact mayEnter' | (rw [make']; as_aux_lemma => kernel_rfl) | (rw [lifts']; as_aux_lemma => kernel_rfl) | (as_aux_lemma => kernel_rfl)
theorem fnLogBroken_over : Rows.fnLogBrokenRow.holds Tryz.pinned (OpenSpec.ofChange Rows.fnLogBrokenSpec) :=
  OpenClaim.holds_of_wide 3 Tryz.f3 rfl rfl rfl rfl rfl rfl rfl ⟨rfl, rfl, rfl, rfl, rfl⟩ rfl rfl rfl rfl rfl (by as_aux_lemma => kernel_rfl) Tryz.func3 fnLogBroken_closed
    (of_decide_eq_true (by as_aux_lemma => kernel_rfl)) (by unfold Func.isWrapper; first | (rw [if_pos (by decide +kernel)]; kernel_rfl) | (rw [if_neg (by decide +kernel)]; exact ⟨rfl, rfl⟩))
    (fun os started H enc _ => fnLogBroken_lifted os started H enc)
theorem fnLogBroken_card : Rows.FnLogBrokenCardSaid :=
  Claim7.holds_tied_plain_at .later [] [.data, .data, .data, .sentinel, .sentinel, .sentinel, .sentinel, .sentinel, .sentinel, .sentinel, .sentinel] true (true, "dd7c7e293b8b06532c6a8af786ac2eb4923c936e709d14aac09618a87fbb7609") true
    (fnLogBroken_over : Rows.fnLogBrokenRow.holds Tryz.pinned (OpenSpec.ofChange Rows.fnLogBrokenSpec)) (fun _ h => by cases h) (by as_aux_lemma => kernel_rfl) (fun _ h => by cases h) fnLogBroken_row_tie rfl ⟨rfl, rfl⟩ (by as_aux_lemma => kernel_rfl) rfl
    (fun f fn hf hfn => by
      obtain rfl : f = 3 := Option.some.inj ((show Tryz.prog.funcNamed "loop.example/pub-g01501/laws.FnLogBroken" = some 3 by kernel_rfl).symm.trans hf) |>.symm
      obtain rfl : fn = Tryz.f3 := (Option.some.inj (Tryz.func3.symm.trans hfn)).symm
      exact ⟨by kernel_rfl, fun j t ht => by
        have hall : Tryz.f3.params.all (fun t => Tryz.prog.wantsStandIn t == false) = true := by kernel_rfl
        have := Array.all_eq_true.1 hall j (Array.getElem?_eq_some_iff.1 ht).1
        rw [(Array.getElem?_eq_some_iff.1 ht).2] at this
        exact (show Tryz.prog.wantsStandIn t = false by simpa using this)⟩)
    (by as_aux_lemma => kernel_rfl)
#print axioms fnLogBroken_card
end Go.Proofs.YtpfmmbhbmdbmeaaGreatDoor
