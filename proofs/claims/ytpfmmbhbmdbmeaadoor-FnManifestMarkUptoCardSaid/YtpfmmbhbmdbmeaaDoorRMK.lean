/- The law FnManifestMark: the row of its bounded statement, and the card. -/
import Derived.Test.YtpfmmbhbmdbmeaaDoorCards
import Derived.Test.YtpfmmbhbmdbmeaaDoorTie
import Derived.Test.YtpfmmbhbmdbmeaaDoorGB
import Derived.Test.YtpfmmbhbmdbmeaaDoorVZ
import Derived.Test.YtpfmmbhbmdbmeaaDoorWQT
import Derived.Test.YtpfmmbhbmdbmeaaDoorGV
import Derived.Test.YtpfmmbhbmdbmeaaDoorZN
import Derived.SevenTiedAt
import Derived.LaidMore
import Derived.Stop.Joined
import Derived.ProofKit
import Derived.OpenShut
import Derived.JoinedCond
import Derived.Deep.DeepHandedRow
import Derived.Deep.DeepWitnessRowRef
namespace Go.Proofs.YtpfmmbhbmdbmeaaDoor
open Go.ChangeShapes Go.WideShapes Go.ChangeAt Go.RowKit
set_option linter.unusedVariables false
section
open Go.Proofs.YtpfmmbhbmdbmeaaDoorQ.QT Go.Proofs.YtpfmmbhbmdbmeaaDoorQ.Ext
open Go.Proofs.YtpfmmbhbmdbmeaaDoorW.PrintWords (Kd)
set_option maxRecDepth 100000 in
theorem fnManifestMark_met (os : Os) : laidMetH Tryd.prog Rows.fnManifestMarkUptoRow.laid ((World.doorLaid Tryd.prog 104 os).forCall (fun _ _ => 0) ⟨#[], #[.int .u16 0, .int .u16 0, .slice none 0 0], []⟩).memory :=
  laidMetH_of_parts3 (fuel := 8) (laidMet_of_run' 8 (by kernel_rfl) (by kernel_rfl)) (by kernel_rfl) (by kernel_rfl)
set_option maxRecDepth 100000 in
theorem fnManifestMark_reads (os : Os) {H : Type} (enc : TypeId × Value → H) : (DataW.whole enc Tryd.prog ((World.doorLaid Tryd.prog 104 os).forCall (fun _ _ => 0) ⟨#[], #[.int .u16 0, .int .u16 0, .slice none 0 0], []⟩).memory Tryd.f4.params.toList (Rows.OpenSpec.upto Rows.fnManifestMarkSpec).vars false #[Value.int .u16 0, Value.int .u16 0, Value.slice none 0 0].toList 8).map (fun x => Rows.uptoSmall H (x.1 ++ x.2.1)) = some true := by kernel_rfl
set_option maxRecDepth 100000 in
theorem fnManifestMark_lifted (os : Os) (started : os.Started) (H : Type) (enc : TypeId × Value → H) (F : Stop.Interp) :
    ReturnsInHanded {} Tryd.checked os 4 .any ((Rows.OpenSpec.upto Rows.fnManifestMarkSpec).preRow enc Tryd.prog Tryd.f4 Rows.fnManifestMarkUptoRow.domain false Rows.fnManifestMarkUptoRow.laid) (((Rows.OpenSpec.upto Rows.fnManifestMarkSpec).at F).post enc Tryd.prog Tryd.f4 false true false false) := by
  obtain ⟨x, hx, hxk⟩ := Option.map_eq_some_iff.1 (fnManifestMark_reads os enc)
  refine returnsInHanded_of_row (C := Tryd.checked) (s := Rows.OpenSpec.upto Rows.fnManifestMarkSpec) ownKnob' started (by kernel_rfl) Tryd.func4
    (witness_row_atRef (enc := enc) (C := Tryd.checked) false (World.doorLaid Tryd.prog 104 os) #[.int .u16 0, .int .u16 0, .slice none 0 0] rfl (by kernel_rfl) (by kernel_rfl) (by kernel_rfl)
      (OpenSpec.preRow_of_cond 8 hx rfl (fun k hk => by cases hk; exact hxk) (by kernel_rfl) (fnManifestMark_met os))) ?_
  intro W base args ds gs before hval0 hW _ hcond _ hL _ _
  have hk0 := hcond _ rfl
  have hval : ∀ (j : Nat) t v, Tryd.f4.params[j]? = some t → args[j]? = some v → Value.okWide Tryd.prog W .any base t v := hval0
  have hW' := hW
  obtain ⟨p, q, hA0, hV0, rfl, hfz, hnd⟩ := hW
  have hA : DataW.TrodAll enc Tryd.prog W 0 (fun _ => true) true Tryd.f4.params.toList args.toList ds p := hA0
  have hV : DataW.TrodVars enc Tryd.prog W (fun _ => true) ["loop.example/pub-g01501/pub/badgerlog.errBadMagic", "loop.example/pub-g01501/pub/badgerlog.errBadChecksum"] gs q := hV0
  rw [Tryd.params4] at hA hval
  obtain ⟨v0, vs0, d0, ds0, p0, q0, hargs, rfl, rfl, h0, r0⟩ := trodAll_cons hA
  obtain ⟨v1, vs1, d1, ds1, p1, q1, rfl, rfl, rfl, h1, r1⟩ := trodAll_cons r0
  obtain ⟨v2, vs2, d2, ds2, p2, q2, rfl, rfl, rfl, h2, r2⟩ := trodAll_cons r1
  obtain ⟨rfl, rfl, rfl⟩ := trodAll_nil r2
  obtain rfl : args = #[v0, v1, v2] := by cases args; simp_all
  obtain ⟨ae, au, ab, ac, hvb, hvc, hEG⟩ := errVars hL
  obtain ⟨rfl, rfl⟩ := hV.unique (errReads2 enc hvb hvc _)
  have k0 := h0
  have k1 := h1
  have k2 := h2
  obtain ⟨a0, rfl, rfl, rfl, w0⟩ := open_int Tryd.underlying22 (hval 0 22 v0 rfl rfl) h0
  obtain ⟨a1, rfl, rfl, rfl, w1⟩ := open_int Tryd.underlying22 (hval 1 22 v1 rfl rfl) h1
  obtain ⟨A2, n2, c2, rfl⟩ := okWide_slice Tryd.underlying23 (hval 2 23 v2 rfl rfl)
  obtain ⟨fu2, hf2⟩ := h2
  obtain ⟨x2, hK2, w2⟩ := ((vw_slice Tryd.underlying23 cz25 (vw_slice Tryd.underlying25 cz45 vw45)) : Vw enc Tryd.prog W 23 (Kd.slice 25 (Kd.slice 45 k45)) _).go _ _ _ hf2
  have hz2 : _ ≤ Rows.uptoBulk d2 := ((vz_slice Tryd.underlying23 cz25 (vz_slice Tryd.underlying25 cz45 vz_one)) : Vz enc Tryd.prog W 23 (Kd.slice 25 (Kd.slice 45 k45)) _).go _ _ _ hf2 _ hK2
  obtain ⟨B2, d2_, he2, hc2, hr2⟩ := hK2
  simp [Value.cells] at he2
  obtain ⟨rfl, rfl, rfl⟩ := he2
  clear hA0 hval0
  have hbk := bulk_bound hk0
  simp only [List.cons_append, List.nil_append, Rows.uptoBulkAll] at hbk
  have hz := sum_lists x2
  have hy := toSets_flat x2
  refine (manifestMark_walk a0 a1 _ _ x2 ae au W (bounds_u16 w0) (bounds_u16 w1) hr2 hc2 w2 (by omega) (by omega) hEG).mono fun e W' ⟨he, bel⟩ => ?_
  subst he
  exact ⟨_, rfl, _, _, _, [], _, _, hW', trodAll_mk1 (shut_bool Tryd.underlying4 _), (trodAll_cons_mk (Below.trod laidOut' (by kernel_rfl) (of_decide_eq_true (by kernel_rfl)) k0 bel (lt_of_trod k0)) (trodAll_cons_mk (Below.trod laidOut' (by kernel_rfl) (of_decide_eq_true (by kernel_rfl)) k1 bel (lt_of_trod k1)) (trodAll_cons_mk (Below.trod laidOut' (by kernel_rfl) (of_decide_eq_true (by kernel_rfl)) k2 bel (lt_of_trod k2)) trodAll_mk0))), errReads2 enc (var?_below hvb bel) (var?_below hvc bel) _, bel.frame _, fun h => by cases h⟩
end
set_option maxHeartbeats 8000000 in
theorem fnManifestMark_closed : joinedFacts Tryd.prog 4 Tryd.f4 (Rows.OpenSpec.upto Rows.fnManifestMarkSpec).bare Rows.fnManifestMarkUptoRow = true := by
  unfold joinedFacts
  repeat' (with_reducible refine and2 ?_ ?_)
  all_goals first | with_reducible exact mayEnter' | (rw [make']; as_aux_lemma => kernel_rfl) | (rw [lifts']; as_aux_lemma => kernel_rfl) | (as_aux_lemma => kernel_rfl)
theorem fnManifestMark_over : Rows.FnManifestMarkUptoSaid :=
  OpenClaim.holds_of_cond 4 Tryd.f4 rfl rfl rfl rfl rfl rfl rfl ⟨rfl, rfl, rfl, rfl, rfl⟩ rfl rfl rfl rfl rfl (by as_aux_lemma => kernel_rfl) Tryd.func4 fnManifestMark_closed
    (of_decide_eq_true (by as_aux_lemma => kernel_rfl)) (by unfold Func.isWrapper; first | (rw [if_pos (by decide +kernel)]; kernel_rfl) | (rw [if_neg (by decide +kernel)]; exact ⟨rfl, rfl⟩))
    (fun os started H enc _ F => by rw [OpenClaim.pre_eq_preRow]; exact fnManifestMark_lifted os started H enc F)
theorem fnManifestMark_card : Rows.FnManifestMarkUptoCardSaid :=
  Claim7.holds_tied_plain_at .later [] _ _ _ _ fnManifestMark_over (fun _ h => by cases h) (by as_aux_lemma => kernel_rfl) (fun _ h => by cases h) fnManifestMarkUpto_row_tie rfl ⟨rfl, rfl⟩ (by as_aux_lemma => kernel_rfl) rfl
    (fun f fn hf hfn => by
      obtain rfl : f = 4 := Option.some.inj ((show Tryd.prog.funcNamed "loop.example/pub-g01501/laws.FnManifestMark" = some 4 by kernel_rfl).symm.trans hf) |>.symm
      obtain rfl : fn = Tryd.f4 := (Option.some.inj (Tryd.func4.symm.trans hfn)).symm
      exact ⟨by kernel_rfl, fun j t ht => by
        have hall : Tryd.f4.params.all (fun t => Tryd.prog.wantsStandIn t == false) = true := by kernel_rfl
        have := Array.all_eq_true.1 hall j (Array.getElem?_eq_some_iff.1 ht).1
        rw [(Array.getElem?_eq_some_iff.1 ht).2] at this
        exact (show Tryd.prog.wantsStandIn t = false by simpa using this)⟩)
    (by as_aux_lemma => kernel_rfl)
#print axioms fnManifestMark_card
end Go.Proofs.YtpfmmbhbmdbmeaaDoor
