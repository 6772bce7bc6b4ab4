/- The law FnManifestCannot: the row of its bounded statement, and the card. -/
import Derived.Test.YtpfmmbhbmdbmeaaDoorCards
import Derived.Test.YtpfmmbhbmdbmeaaDoorTie
import Derived.Test.YtpfmmbhbmdbmeaaDoorGB
import Derived.Test.YtpfmmbhbmdbmeaaDoorVZ
import Derived.Test.YtpfmmbhbmdbmeaaDoorWQT
import Derived.Test.YtpfmmbhbmdbmeaaDoorGV
import Derived.Test.YtpfmmbhbmdbmeaaDoorZQ
import Derived.SevenTiedAt
import Derived.LaidMore
import Derived.Stop.Joined
import Derived.ProofKit
import Derived.OpenShut
import Derived.JoinedCond
import Derived.Deep.DeepHandedRow
import Derived.Deep.DeepWitnessRowRef
namespace Go.Proofs.YtpfmmbhbmdbmeaaDoor
open Go.ChangeShapes Go.WideShapes Go.ChangeAt Go.RowKit
set_option linter.unusedVariables false
section
open Go.Proofs.YtpfmmbhbmdbmeaaDoorQ.QT Go.Proofs.YtpfmmbhbmdbmeaaDoorQ.Ext
open Go.Proofs.YtpfmmbhbmdbmeaaDoorW.PrintWords (Kd)
set_option maxRecDepth 100000 in
theorem fnManifestCannot_met (os : Os) : laidMetH Tryd.prog Rows.fnManifestCannotUptoRow.laid ((World.doorLaid Tryd.prog 104 os).forCall (fun _ _ => 0) ⟨#[], #[.int .u16 0, .slice none 0 0], []⟩).memory :=
  laidMetH_of_parts3 (fuel := 8) (laidMet_of_run' 8 (by kernel_rfl) (by kernel_rfl)) (by kernel_rfl) (by kernel_rfl)
set_option maxRecDepth 100000 in
theorem fnManifestCannot_reads (os : Os) {H : Type} (enc : TypeId × Value → H) : (DataW.whole enc Tryd.prog ((World.doorLaid Tryd.prog 104 os).forCall (fun _ _ => 0) ⟨#[], #[.int .u16 0, .slice none 0 0], []⟩).memory Tryd.f7.params.toList (Rows.OpenSpec.upto Rows.fnManifestCannotSpec).vars false #[Value.int .u16 0, Value.slice none 0 0].toList 8).map (fun x => Rows.uptoSmall H (x.1 ++ x.2.1)) = some true := by kernel_rfl
set_option maxRecDepth 100000 in
theorem fnManifestCannot_lifted (os : Os) (started : os.Started) (H : Type) (enc : TypeId × Value → H) (F : Stop.Interp) :
    ReturnsInHanded {} Tryd.checked os 7 .any ((Rows.OpenSpec.upto Rows.fnManifestCannotSpec).preRow enc Tryd.prog Tryd.f7 Rows.fnManifestCannotUptoRow.domain false Rows.fnManifestCannotUptoRow.laid) (((Rows.OpenSpec.upto Rows.fnManifestCannotSpec).at F).post enc Tryd.prog Tryd.f7 false true false false) := by
  obtain ⟨x, hx, hxk⟩ := Option.map_eq_some_iff.1 (fnManifestCannot_reads os enc)
  refine returnsInHanded_of_row (C := Tryd.checked) (s := Rows.OpenSpec.upto Rows.fnManifestCannotSpec) ownKnob' started (by kernel_rfl) Tryd.func7
    (witness_row_atRef (enc := enc) (C := Tryd.checked) false (World.doorLaid Tryd.prog 104 os) #[.int .u16 0, .slice none 0 0] rfl (by kernel_rfl) (by kernel_rfl) (by kernel_rfl)
      (OpenSpec.preRow_of_cond 8 hx rfl (fun k hk => by cases hk; exact hxk) (by kernel_rfl) (fnManifestCannot_met os))) ?_
  intro W base args ds gs before hval0 hW _ hcond _ hL _ _
  have hk0 := hcond _ rfl
  have hval : ∀ (j : Nat) t v, Tryd.f7.params[j]? = some t → args[j]? = some v → Value.okWide Tryd.prog W .any base t v := hval0
  have hW' := hW
  obtain ⟨p, q, hA0, hV0, rfl, hfz, hnd⟩ := hW
  have hA : DataW.TrodAll enc Tryd.prog W 0 (fun _ => true) true Tryd.f7.params.toList args.toList ds p := hA0
  have hV : DataW.TrodVars enc Tryd.prog W (fun _ => true) ["loop.example/pub-g01501/pub/badgerlog.errBadMagic", "loop.example/pub-g01501/pub/badgerlog.errBadChecksum"] gs q := hV0
  rw [Tryd.params7] at hA hval
  obtain ⟨v0, vs0, d0, ds0, p0, q0, hargs, rfl, rfl, h0, r0⟩ := trodAll_cons hA
  obtain ⟨v1, vs1, d1, ds1, p1, q1, rfl, rfl, rfl, h1, r1⟩ := trodAll_cons r0
  obtain ⟨rfl, rfl, rfl⟩ := trodAll_nil r1
  obtain rfl : args = #[v0, v1] := by cases args; simp_all
  obtain ⟨ae, au, ab, ac, hvb, hvc, hEG⟩ := errVars hL
  obtain ⟨rfl, rfl⟩ := hV.unique (errReads2 enc hvb hvc _)
  have k0 := h0
  have k1 := h1
  obtain ⟨a0, rfl, rfl, rfl, w0⟩ := open_int Tryd.underlying22 (hval 0 22 v0 rfl rfl) h0
  obtain ⟨A1, n1, c1, rfl⟩ := okWide_slice Tryd.underlying23 (hval 1 23 v1 rfl rfl)
  obtain ⟨fu1, hf1⟩ := h1
  obtain ⟨x1, hK1, w1⟩ := ((vw_slice Tryd.underlying23 cz25 (vw_slice Tryd.underlying25 cz45 vw45)) : Vw enc Tryd.prog W 23 (Kd.slice 25 (Kd.slice 45 k45)) _).go _ _ _ hf1
  have hz1 : _ ≤ Rows.uptoBulk d1 := ((vz_slice Tryd.underlying23 cz25 (vz_slice Tryd.underlying25 cz45 vz_one)) : Vz enc Tryd.prog W 23 (Kd.slice 25 (Kd.slice 45 k45)) _).go _ _ _ hf1 _ hK1
  obtain ⟨B1, d1_, he1, hc1, hr1⟩ := hK1
  simp [Value.cells] at he1
  obtain ⟨rfl, rfl, rfl⟩ := he1
  clear hA0 hval0
  have hbk := bulk_bound hk0
  simp only [List.cons_append, List.nil_append, Rows.uptoBulkAll] at hbk
  have hz := sum_lists x1
  have hy := toSets_flat x1
  refine (manifestCannot_walk a0 _ _ x1 ae au W (bounds_u16 w0) hr1 hc1 w1 (by omega) (by omega) hEG).mono fun e W' ⟨he, bel⟩ => ?_
  subst he
  exact ⟨_, rfl, _, _, _, [], _, _, hW', trodAll_mk1 (shut_bool Tryd.underlying4 _), (trodAll_cons_mk (Below.trod laidOut' (by kernel_rfl) (of_decide_eq_true (by kernel_rfl)) k0 bel (lt_of_trod k0)) (trodAll_cons_mk (Below.trod laidOut' (by kernel_rfl) (of_decide_eq_true (by kernel_rfl)) k1 bel (lt_of_trod k1)) trodAll_mk0)), errReads2 enc (var?_below hvb bel) (var?_below hvc bel) _, bel.frame _, fun h => by cases h⟩
end
set_option maxHeartbeats 8000000 in
theorem fnManifestCannot_closed : joinedFacts Tryd.prog 7 Tryd.f7 (Rows.OpenSpec.upto Rows.fnManifestCannotSpec).bare Rows.fnManifestCannotUptoRow = true := by
  unfold joinedFacts
  repeat' (with_reducible refine and2 ?_ ?_)
  all_goals first | with_reducible exact mayEnter' | (rw [make']; as_aux_lemma => kernel_rfl) | (rw [lifts']; as_aux_lemma => kernel_rfl) | (as_aux_lemma => kernel_rfl)
theorem fnManifestCannot_over : Rows.FnManifestCannotUptoSaid :=
  OpenClaim.holds_of_cond 7 Tryd.f7 rfl rfl rfl rfl rfl rfl rfl ⟨rfl, rfl, rfl, rfl, rfl⟩ rfl rfl rfl rfl rfl (by as_aux_lemma => kernel_rfl) Tryd.func7 fnManifestCannot_closed
    (of_decide_eq_true (by as_aux_lemma => kernel_rfl)) (by unfold Func.isWrapper; first | (rw [if_pos (by decide +kernel)]; kernel_rfl) | (rw [if_neg (by decide +kernel)]; exact ⟨rfl, rfl⟩))
    (fun os started H enc _ F => by rw [OpenClaim.pre_eq_preRow]; exact fnManifestCannot_lifted os started H enc F)
theorem fnManifestCannot_card : Rows.FnManifestCannotUptoCardSaid :=
  Claim7.holds_tied_plain_at .later [] _ _ _ _ fnManifestCannot_over (fun _ h => by cases h) (by as_aux_lemma => kernel_rfl) (fun _ h => by cases h) fnManifestCannotUpto_row_tie rfl ⟨rfl, rfl⟩ (by as_aux_lemma => kernel_rfl) rfl
    (fun f fn hf hfn => by
      obtain rfl : f = 7 := Option.some.inj ((show Tryd.prog.funcNamed "loop.example/pub-g01501/laws.FnManifestCannot" = some 7 by kernel_rfl).symm.trans hf) |>.symm
      obtain rfl : fn = Tryd.f7 := (Option.some.inj (Tryd.func7.symm.trans hfn)).symm
      exact ⟨by kernel_rfl, fun j t ht => by
        have hall : Tryd.f7.params.all (fun t => Tryd.prog.wantsStandIn t == false) = true := by kernel_rfl
        have := Array.all_eq_true.1 hall j (Array.getElem?_eq_some_iff.1 ht).1
        rw [(Array.getElem?_eq_some_iff.1 ht).2] at this
        exact (show Tryd.prog.wantsStandIn t = false by simpa using this)⟩)
    (by as_aux_lemma => kernel_rfl)
#print axioms fnManifestCannot_card
end Go.Proofs.YtpfmmbhbmdbmeaaDoor
