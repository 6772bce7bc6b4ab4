-- Lines that a program has printed for this claim: functions as plain Lean functions, and their walks.
import Derived.Test.YtbbncbjdpopkiaaQE0
import Derived.Test.YtbbncbjdpopkiaaQE1
namespace Go.Proofs.YtbbncbjdpopkiaaQ.QE
open Go.RowKit Go.Proofs.YtbbncbjdpopkiaaQ.Ext Go.Proofs.YtbbncbjdpopkiaaW.PrintWords Go.Proofs.YtbbncbjdpopkiaaW.PrintLast Go.Proofs.YtbbncbjdpopkiaaW.PrintMore
attribute [local go_sem] max2_int min2_int max_two min_two max_three min_three max_four min_four   -- for this text's walks alone
set_option linter.unusedVariables false
set_option linter.unusedSimpArgs false

/-! ### impl_toldRange: function 17 -/
def impl_toldRange.f (l0_0 : List Int) (l0_1 : List Int) (a0_2 : Bool) : Option (Bool × List Int × Int × Bool × List Int × Int × Bool) := (impl_boundOf.f l0_0).bind fun bt142 => ((impl_boundOf.f l0_1).bind fun bt147 => (some (bt142.1, bt142.2.1, bt142.2.2, bt147.1, bt147.2.1, bt147.2.2, a0_2)))
def impl_toldRange.T1 : Bool × List (List Nat × List Nat) := (true, [([], []), ([0], [0]), ([1], [1]), ([], []), ([3], [3]), ([4, 2], [4]), ([], []), ([6], [6]), ([2, 5, 7], [2, 5, 7]), ([8, 5, 0, 1, 2, 3, 4, 5, 6, 7, 8], [8])])
def impl_toldRange.B1 : List Nat := [0, 1, 3, 0, 8, 31, 0, 64, 255, 511]
theorem impl_toldRange.tab1 : rtab .any (opsOf Try.f17 1) = impl_toldRange.T1 := by kernel_rfl
theorem impl_toldRange.bits1 : waitsOk impl_toldRange.T1.2 impl_toldRange.B1 = true := by kernel_rfl
set_option maxHeartbeats 8000000 in
set_option maxRecDepth 100000 in
theorem impl_toldRange.calls (A0_0 : Option Addr) (c0_0 : Nat) (l0_0 : List Int) (A0_1 : Option Addr) (c0_1 : Nat) (l0_1 : List Int) (a0_2 : Bool) (r1 : Bool) (r2 : List Int) (r3 : Int) (r4 : Bool) (r5 : List Int) (r6 : Int) (r7 : Bool) (w : World) (hr0_0 : Kd.C (Kd.int .u8) w A0_0 l0_0.length l0_0) (hc0_0 : l0_0.length ≤ c0_0) (hr0_1 : Kd.C (Kd.int .u8) w A0_1 l0_1.length l0_1) (hc0_1 : l0_1.length ≤ c0_1) (h : impl_toldRange.f l0_0 l0_1 a0_2 = some (r1, r2, r3, r4, r5, r6, r7)) :
    Calls Try.prog 17 #[.agg #[.slice A0_0 l0_0.length c0_0, .slice A0_1 l0_1.length c0_1, .bool a0_2]] w fun e w' => ∃ v1_ v4_ : Value, e = .returned (.agg #[.bool r1, v1_, .int .u64 r3, .bool r4, v4_, .int .u64 r6, .bool r7]) ∧ Kd.R (Kd.int .u8) 5 w' w.heap.size (fun k_ => some k_ ≠ (v4_ : Value).ownBlock) v1_ r2 ∧ Kd.R (Kd.int .u8) 5 w' w.heap.size (fun k_ => some k_ ≠ (v1_ : Value).ownBlock) v4_ r5 ∧ Below w.heap.size w w' := by
  have hu45 := Try.underlying45
  have hu27 := Try.underlying27
  have HR0_0 := Aside0.mk hr0_0
  have HC0_0 := Aside0.mk hc0_0
  clear hr0_0 hc0_0
  have HR0_1 := Aside0.mk hr0_1
  have HC0_1 := Aside0.mk hc0_1
  clear hr0_1 hc0_1
  have HB := Aside0.mk (Below.refl w.heap.size w)
  have H : ((impl_boundOf.f l0_0).bind fun bt142 => ((impl_boundOf.f l0_1).bind fun bt147 => (some (bt142.1, bt142.2.1, bt142.2.2, bt147.1, bt147.2.1, bt147.2.2, a0_2)))) = some (r1, r2, r3, r4, r5, r6, r7) := h
  clear h
  replace H := Option.bind_eq_some_iff.mp H
  obtain ⟨⟨t142, t143, t146⟩, A20, H⟩ := H
  replace H : ((impl_boundOf.f l0_1).bind fun bt147 => (some (t142, t143, t146, bt147.1, bt147.2.1, bt147.2.2, a0_2))) = some (r1, r2, r3, r4, r5, r6, r7) := H
  have A2 := Aside0.mk A20
  clear A20
  replace H := Option.bind_eq_some_iff.mp H
  obtain ⟨⟨t147, t148, t151⟩, A30, H⟩ := H
  replace H : (some (t142, t143, t146, t147, t148, t151, a0_2)) = some (r1, r2, r3, r4, r5, r6, r7) := H
  have A3 := Aside0.mk A30
  clear A30
  simp only [Option.some.injEq, Prod.mk.injEq] at H
  obtain ⟨rfl, rfl, rfl, rfl, rfl, rfl, rfl⟩ := H
  go_enter Try.func17, Try.ntmps17
  try go_wp2_with (first | ((with_reducible refine gate_dst (N := 1) rfl ?_); refine box_event ?hg (N := 1) ?hd (cs := #[.slice A0_0 l0_0.length c0_0, .slice A0_1 l0_1.length c0_1, .bool a0_2]) (t := 45) ?hr ?_; (case hd => rfl); (case hg => rfl); (case hr => first | (go_simp; done) | (go_simp; rfl)); intro gb140 hg w4 hbox hb; have n0_ := Aside0.mk (below_step (by repeat (first | (with_reducible first | exact HB.out | apply below_alloc | apply pw_below_drewN | apply below_drew1) | exact HB.out)) hb); have n1_ := Aside0.mk (hbox); have n2_ := Aside0.mk ((by rw [hg]; exact (below_size (by repeat (first | (with_reducible first | exact HB.out | apply below_alloc | apply pw_below_drewN | apply below_drew1) | exact HB.out))) : w.heap.size ≤ gb140)); have n3_ := Aside0.mk ((by rw [hg]; exact (below_size (by repeat (first | (with_reducible first | exact HB.out | apply below_alloc | apply pw_below_drewN | apply below_drew1) | exact HB.out))) : w.heap.size ≤ gb140)); clear HB; have HB := n0_; have BK140 := n1_; have GW140 := n2_; have GE140 := n3_; clear n0_ n1_ n2_ n3_; clear hb hbox hg) | ((with_reducible refine gate_dst (N := 2) rfl ?_); refine box_event ?hg (N := 2) ?hd (cs := #[.bool false, .slice none 0 0, .int .u64 0, .bool false, .slice none 0 0, .int .u64 0, .bool false]) (t := 27) ?hr ?_; (case hd => rfl); (case hg => rfl); (case hr => first | (go_simp; done) | (go_simp; rfl)); intro gb141 hg w5 hbox hb; have n0_ := Aside0.mk (blk_below (g := gb140) (o := .cells #[.slice A0_0 l0_0.length c0_0, .slice A0_1 l0_1.length c0_1, .bool a0_2] 45 (0, 0)) (by (with_reducible repeat (first | refine blk_drewN ?_ _ | refine blk_drew ?_ | refine blk_alloc ?_ _)); exact BK140.out) hb); have n1_ := Aside0.mk (below_step (by repeat (first | (with_reducible first | exact HB.out | apply below_alloc | apply pw_below_drewN | apply below_drew1 | refine below_set ?_ GE140.out) | exact HB.out)) hb); have n2_ := Aside0.mk (hbox); have n3_ := Aside0.mk ((by rw [hg]; exact (below_size (by repeat (first | (with_reducible first | exact HB.out | apply below_alloc | apply pw_below_drewN | apply below_drew1 | refine below_set ?_ GE140.out) | exact HB.out))) : w.heap.size ≤ gb141)); have n4_ := Aside0.mk ((by rw [hg]; exact (below_size (by repeat (first | (with_reducible first | exact HB.out | apply below_alloc | apply pw_below_drewN | apply below_drew1 | refine below_set ?_ GE140.out) | exact HB.out))) : w.heap.size ≤ gb141)); have n5_ := Aside0.mk ((by rw [hg]; exact Nat.ne_of_lt (blk_lt (g := gb140) (o := .cells #[.slice A0_0 l0_0.length c0_0, .slice A0_1 l0_1.length c0_1, .bool a0_2] 45 (0, 0)) (by (with_reducible repeat (first | refine blk_drewN ?_ _ | refine blk_drew ?_ | refine blk_alloc ?_ _)); exact BK140.out)) : gb140 ≠ gb141)); have n6_ := Aside0.mk ((by rw [hg]; exact Nat.ne_of_gt (blk_lt (g := gb140) (o := .cells #[.slice A0_0 l0_0.length c0_0, .slice A0_1 l0_1.length c0_1, .bool a0_2] 45 (0, 0)) (by (with_reducible repeat (first | refine blk_drewN ?_ _ | refine blk_drew ?_ | refine blk_alloc ?_ _)); exact BK140.out)) : gb141 ≠ gb140)); clear BK140; clear HB; have BK140 := n0_; have HB := n1_; have BK141 := n2_; have GW141 := n3_; have GE141 := n4_; have NB140_141 := n5_; have NB141_140 := n6_; clear n0_ n1_ n2_ n3_ n4_ n5_ n6_; clear hb hbox hg))
  have n0_ := Aside0.mk (blk_drew BK140.out)
  have n1_ := Aside0.mk (blk_drew BK141.out)
  have n2_ := Aside0.mk (below_drew1 HB.out)
  clear BK140
  clear BK141
  clear HB
  have BK140 := n0_
  have BK141 := n1_
  have HB := n2_
  clear n0_ n1_ n2_
  refine start_ (n := 10) (S := fun w' => w'.cell? ⟨gb140, 0, none⟩ = some (.slice A0_0 l0_0.length c0_0) ∧ w'.cell? ⟨gb140, 1, none⟩ = some (.slice A0_1 l0_1.length c0_1) ∧ w'.cell? ⟨gb140, 2, none⟩ = some (.bool a0_2)) (ds := []) #[false, false, false, false, false, false, false, false, false, false] (by kernel_rfl) rfl rfl ⟨(blk_cell BK140.out 0).trans rfl, (blk_cell BK140.out 1).trans rfl, (blk_cell BK140.out 2).trans rfl⟩ (fun hHeld => ?_); refine with_tabW impl_toldRange.tab1 impl_toldRange.bits1 (fun HT_ HW_ => ?_)
  generalize w5.drew = w6 at BK140 BK141 HB hHeld ⊢
  refine pure_ (i := 0) (N := some 3) (v := ?_) (a' := ?_) #[true, false, false, false, false, false, false, false, false, false] rfl rfl (any_of HT_.out (by kernel_rfl)) (fun _ _ _ h => h) (Or.inl ⟨by rfl, ?_⟩) ?_ ?_
  rotate_left
  · intro w'
    go_simp
    with_reducible rfl
  rotate_left
  · simp only [Act.put, List.setIfInBounds_toArray, List.set_cons_zero, List.set_cons_succ, i64_w, i32_w]
    rfl
  refine pure_ (i := 3) (N := some 6) (v := ?_) (a' := ?_) #[true, false, false, true, false, false, false, false, false, false] rfl rfl (any_of HT_.out (by kernel_rfl)) (fun _ _ _ h => h) (Or.inl ⟨by rfl, ?_⟩) ?_ ?_
  rotate_left
  · intro w'
    go_simp
    with_reducible rfl
  rotate_left
  · simp only [Act.put, List.setIfInBounds_toArray, List.set_cons_zero, List.set_cons_succ, i64_w, i32_w]
    rfl
  refine pure_ (i := 6) (N := some 9) (v := ?_) (a' := ?_) #[true, false, false, true, false, false, true, false, false, false] rfl rfl (any_of HT_.out (by kernel_rfl)) (fun _ _ _ h => h) (Or.inl ⟨by rfl, ?_⟩) ?_ ?_
  rotate_left
  · intro w'
    go_simp
    with_reducible rfl
  rotate_left
  · simp only [Act.put, List.setIfInBounds_toArray, List.set_cons_zero, List.set_cons_succ, i64_w, i32_w]
    rfl
  refine take_ (i := 1) (N := some 4) (v := ?_) (a' := ?_) #[true, true, false, true, false, false, true, false, false, false] rfl rfl (take_ofW HT_.out HW_.out (by kernel_rfl)) (fun _ _ _ h => h) (Or.inl ⟨by rfl, ?_⟩) hHeld ?_ ?_
  rotate_left
  · rintro w' ⟨s0, s1, s2⟩
    go_simp
    with_reducible rfl
  rotate_left
  · simp only [Act.put, List.setIfInBounds_toArray, List.set_cons_zero, List.set_cons_succ, i64_w, i32_w]
    rfl
  refine take_ (i := 4) (N := some 7) (v := ?_) (a' := ?_) #[true, true, false, true, true, false, true, false, false, false] rfl rfl (take_ofW HT_.out HW_.out (by kernel_rfl)) (fun _ _ _ h => h) (Or.inl ⟨by rfl, ?_⟩) hHeld ?_ ?_
  rotate_left
  · rintro w' ⟨s0, s1, s2⟩
    go_simp
    with_reducible rfl
  rotate_left
  · simp only [Act.put, List.setIfInBounds_toArray, List.set_cons_zero, List.set_cons_succ, i64_w, i32_w]
    rfl
  refine take_ (i := 7) (N := some 10) (v := ?_) (a' := ?_) #[true, true, false, true, true, false, true, true, false, false] rfl rfl (take_ofW HT_.out HW_.out (by kernel_rfl)) (fun _ _ _ h => h) (Or.inl ⟨by rfl, ?_⟩) hHeld ?_ ?_
  rotate_left
  · rintro w' ⟨s0, s1, s2⟩
    go_simp
    with_reducible rfl
  rotate_left
  · simp only [Act.put, List.setIfInBounds_toArray, List.set_cons_zero, List.set_cons_succ, i64_w, i32_w]
    rfl
  refine one_ (i := 2) (N := some 5) #[true, true, true, true, true, false, true, true, false, false] rfl rfl (one_of HT_.out (by kernel_rfl)) (by decide) (fun K hK => ?_)
  refine goes_ Try.func26 (by kernel_rfl) rfl #[.slice A0_0 l0_0.length c0_0] (by rfl) rfl rfl (by (try simp only [List.map_toArray, List.map_cons, List.map_nil]); first | done | rfl | (simp only [List.length_drop, List.length_take]; rfl)) ?_
  with_reducible refine (impl_boundOf.calls _ _ l0_0 t142 t143 t146 _ ?side1 ?side2 A2.out).mono ?_
  (case side1 => repeat (first | exact (Kd.C_below HR0_0.out HB.out) | (with_reducible refine Kd.C_alloc ?_ _) | (with_reducible refine Kd.C_drewN ?_ _) | (with_reducible refine Kd.C_drew ?_)))
  (case side2 => exact HC0_0.out)
  rintro e w7 ⟨v144, rfl, ho0, hb⟩
  refine ⟨_, rfl, ?_⟩
  have n0_ := Aside0.mk (Kd.R_lower ho0 (below_size (by repeat (first | (with_reducible first | exact HB.out | apply below_alloc | apply pw_below_drewN | apply below_drew1 | refine below_set ?_ GE140.out | refine below_set ?_ GE141.out) | exact HB.out))))
  have n1_ := Aside0.mk (blk_below (g := gb140) (o := .cells #[.slice A0_0 l0_0.length c0_0, .slice A0_1 l0_1.length c0_1, .bool a0_2] 45 (0, 0)) (by (with_reducible repeat (first | refine blk_drewN ?_ _ | refine blk_drew ?_ | refine blk_alloc ?_ _)); exact BK140.out) hb)
  have n2_ := Aside0.mk (blk_below (g := gb141) (o := .cells #[.bool false, .slice none 0 0, .int .u64 0, .bool false, .slice none 0 0, .int .u64 0, .bool false] 27 (0, 0)) (by (with_reducible repeat (first | refine blk_drewN ?_ _ | refine blk_drew ?_ | refine blk_alloc ?_ _)); exact BK141.out) hb)
  have n3_ := Aside0.mk (below_step (by repeat (first | (with_reducible first | exact HB.out | apply below_alloc | apply pw_below_drewN | apply below_drew1 | refine below_set ?_ GE140.out | refine below_set ?_ GE141.out) | exact HB.out)) hb)
  clear BK140
  clear BK141
  clear HB
  have HO145 := n0_
  have BK140 := n1_
  have BK141 := n2_
  have HB := n3_
  clear n0_ n1_ n2_ n3_
  (try clear hb)
  (try clear hb2)
  (try clear hk)
  (try clear hi)
  (try clear ho0)
  refine hK.out _ _ ⟨(blk_cell BK140.out 0).trans rfl, (blk_cell BK140.out 1).trans rfl, (blk_cell BK140.out 2).trans rfl⟩ (fun hHeld => ?_)
  clear hK K
  refine norm_ (a' := ?_) ?_ ?_
  rotate_left
  · show Act.put _ (some 5) _ = _
    simp only [Act.put, List.setIfInBounds_toArray, List.set_cons_zero, List.set_cons_succ, i64_w, i32_w]
    rfl
  refine one_ (i := 5) (N := some 8) #[true, true, true, true, true, true, true, true, false, false] rfl rfl (one_of HT_.out (by kernel_rfl)) (by decide) (fun K hK => ?_)
  refine goes_ Try.func26 (by kernel_rfl) rfl #[.slice A0_1 l0_1.length c0_1] (by rfl) rfl rfl (by (try simp only [List.map_toArray, List.map_cons, List.map_nil]); first | done | rfl | (simp only [List.length_drop, List.length_take]; rfl)) ?_
  with_reducible refine (impl_boundOf.calls _ _ l0_1 t147 t148 t151 _ ?side1 ?side2 A3.out).mono ?_
  (case side1 => repeat (first | exact (Kd.C_below HR0_1.out HB.out) | (with_reducible refine Kd.C_alloc ?_ _) | (with_reducible refine Kd.C_drewN ?_ _) | (with_reducible refine Kd.C_drew ?_)))
  (case side2 => exact HC0_1.out)
  rintro e w8 ⟨v149, rfl, ho0, hb⟩
  refine ⟨_, rfl, ?_⟩
  have n0_ := Aside0.mk (Kd.R_elder' (by (with_reducible repeat (first | apply Kd.R_alloc | apply Kd.R_drewN | apply Kd.R_drew)); exact HO145.out) (Kd.R_base ho0) hb)
  have n1_ := Aside0.mk (Kd.R_lower (Kd.R_new' ho0 (Kd.R_lt (by (with_reducible repeat (first | apply Kd.R_alloc | apply Kd.R_drewN | apply Kd.R_drew)); exact HO145.out))) (below_size (by repeat (first | (with_reducible first | exact HB.out | apply below_alloc | apply pw_below_drewN | apply below_drew1 | refine below_set ?_ GE140.out | refine below_set ?_ GE141.out) | exact HB.out))))
  have n2_ := Aside0.mk (blk_below (g := gb140) (o := .cells #[.slice A0_0 l0_0.length c0_0, .slice A0_1 l0_1.length c0_1, .bool a0_2] 45 (0, 0)) (by (with_reducible repeat (first | refine blk_drewN ?_ _ | refine blk_drew ?_ | refine blk_alloc ?_ _)); exact BK140.out) hb)
  have n3_ := Aside0.mk (blk_below (g := gb141) (o := .cells #[.bool false, .slice none 0 0, .int .u64 0, .bool false, .slice none 0 0, .int .u64 0, .bool false] 27 (0, 0)) (by (with_reducible repeat (first | refine blk_drewN ?_ _ | refine blk_drew ?_ | refine blk_alloc ?_ _)); exact BK141.out) hb)
  have n4_ := Aside0.mk (below_step (by repeat (first | (with_reducible first | exact HB.out | apply below_alloc | apply pw_below_drewN | apply below_drew1 | refine below_set ?_ GE140.out | refine below_set ?_ GE141.out) | exact HB.out)) hb)
  clear HO145
  clear BK140
  clear BK141
  clear HB
  have HO145 := n0_
  have HO150 := n1_
  have BK140 := n2_
  have BK141 := n3_
  have HB := n4_
  clear n0_ n1_ n2_ n3_ n4_
  (try clear hb)
  (try clear hb2)
  (try clear hk)
  (try clear hi)
  (try clear ho0)
  obtain ⟨Ao9, co9, eo9⟩ := Kd.R_slice HO150.out
  (first | subst eo9 | (injection eo9 with f1_ f2_ f3_; have f4_ := f1_.symm; have f5_ := f3_.symm; clear f1_ f2_ f3_; subst f4_; subst f5_))
  obtain ⟨Ao10, co10, eo10⟩ := Kd.R_slice HO145.out
  (first | subst eo10 | (injection eo10 with f1_ f2_ f3_; have f4_ := f1_.symm; have f5_ := f3_.symm; clear f1_ f2_ f3_; subst f4_; subst f5_))
  refine hK.out _ _ ⟨(blk_cell BK140.out 0).trans rfl, (blk_cell BK140.out 1).trans rfl, (blk_cell BK140.out 2).trans rfl⟩ (fun hHeld => ?_)
  clear hK K
  refine norm_ (a' := ?_) ?_ ?_
  rotate_left
  · show Act.put _ (some 8) _ = _
    simp only [Act.put, List.setIfInBounds_toArray, List.set_cons_zero, List.set_cons_succ, i64_w, i32_w]
    rfl
  refine pure_ (i := 8) (N := some 11) (v := ?_) (a' := ?_) #[true, true, true, true, true, true, true, true, true, false] rfl rfl (any_of HT_.out (by kernel_rfl)) (fun _ _ _ h => h) (Or.inl ⟨by rfl, ?_⟩) ?_ ?_
  rotate_left
  · intro w'
    go_simp
    with_reducible rfl
  rotate_left
  · simp only [Act.put, List.setIfInBounds_toArray, List.set_cons_zero, List.set_cons_succ, i64_w, i32_w]
    rfl
  refine one_ (i := 9) (N := none) #[true, true, true, true, true, true, true, true, true, true] rfl rfl (one_of HT_.out (by kernel_rfl)) (by decide) (fun K hK => ?_)
  have hs11 : w8.cell? ⟨gb141, 0, none⟩ = some (.bool false) := (blk_cell BK141.out 0).trans rfl
  have hfs11 := blk_frozen BK141.out 0
  have hns11_0 := NB140_141.out
  have hms11_0 := NB141_140.out
  have hs12 : w8.cell? ⟨gb141, 1, none⟩ = some (.slice none 0 0) := (blk_cell BK141.out 1).trans rfl
  have hfs12 := blk_frozen BK141.out 1
  have hns12_0 := NB140_141.out
  have hms12_0 := NB141_140.out
  have hs13 : w8.cell? ⟨gb141, 2, none⟩ = some (.int .u64 0) := (blk_cell BK141.out 2).trans rfl
  have hfs13 := blk_frozen BK141.out 2
  have hns13_0 := NB140_141.out
  have hms13_0 := NB141_140.out
  have hs14 : w8.cell? ⟨gb141, 3, none⟩ = some (.bool false) := (blk_cell BK141.out 3).trans rfl
  have hfs14 := blk_frozen BK141.out 3
  have hns14_0 := NB140_141.out
  have hms14_0 := NB141_140.out
  have hs15 : w8.cell? ⟨gb141, 4, none⟩ = some (.slice none 0 0) := (blk_cell BK141.out 4).trans rfl
  have hfs15 := blk_frozen BK141.out 4
  have hns15_0 := NB140_141.out
  have hms15_0 := NB141_140.out
  have hs16 : w8.cell? ⟨gb141, 5, none⟩ = some (.int .u64 0) := (blk_cell BK141.out 5).trans rfl
  have hfs16 := blk_frozen BK141.out 5
  have hns16_0 := NB140_141.out
  have hms16_0 := NB141_140.out
  have hs17 : w8.cell? ⟨gb141, 6, none⟩ = some (.bool false) := (blk_cell BK141.out 6).trans rfl
  have hfs17 := blk_frozen BK141.out 6
  have hns17_0 := NB140_141.out
  have hms17_0 := NB141_140.out
  refine skip_ (w1 := ?_) (by rfl) rfl ?_ ?_
  rotate_left
  · go_simp
    rfl
  refine hK.out _ _ ⟨((cell_far (p := ⟨gb141, _, none⟩) NB140_141.out _).trans (((cell_far (p := ⟨gb141, _, none⟩) NB140_141.out _).trans (((cell_far (p := ⟨gb141, _, none⟩) NB140_141.out _).trans (((cell_far (p := ⟨gb141, _, none⟩) NB140_141.out _).trans (((cell_far (p := ⟨gb141, _, none⟩) NB140_141.out _).trans (((cell_far (p := ⟨gb141, _, none⟩) NB140_141.out _).trans (((cell_far (p := ⟨gb141, _, none⟩) NB140_141.out _).trans (hHeld.1)))))))))))))), ((cell_far (p := ⟨gb141, _, none⟩) NB140_141.out _).trans (((cell_far (p := ⟨gb141, _, none⟩) NB140_141.out _).trans (((cell_far (p := ⟨gb141, _, none⟩) NB140_141.out _).trans (((cell_far (p := ⟨gb141, _, none⟩) NB140_141.out _).trans (((cell_far (p := ⟨gb141, _, none⟩) NB140_141.out _).trans (((cell_far (p := ⟨gb141, _, none⟩) NB140_141.out _).trans (((cell_far (p := ⟨gb141, _, none⟩) NB140_141.out _).trans (hHeld.2.1)))))))))))))), ((cell_far (p := ⟨gb141, _, none⟩) NB140_141.out _).trans (((cell_far (p := ⟨gb141, _, none⟩) NB140_141.out _).trans (((cell_far (p := ⟨gb141, _, none⟩) NB140_141.out _).trans (((cell_far (p := ⟨gb141, _, none⟩) NB140_141.out _).trans (((cell_far (p := ⟨gb141, _, none⟩) NB140_141.out _).trans (((cell_far (p := ⟨gb141, _, none⟩) NB140_141.out _).trans (((cell_far (p := ⟨gb141, _, none⟩) NB140_141.out _).trans (hHeld.2.2))))))))))))))⟩ (fun hHeld => ?_)
  clear hK K
  refine done_ (done_of HT_.out (by kernel_rfl)) ?_
  try go_wp2
  refine bodyPost_ret (results_cell_row rfl _ _ gb141 27 #[.bool t142, .slice Ao10 t143.length co10, .int .u64 t146, .bool t147, .slice Ao9 t148.length co9, .int .u64 t151, .bool a0_2] (0, 0) _ rfl (by (with_reducible repeat (first | refine blk_drewN ?_ _ | refine blk_drew ?_ | refine blk_alloc ?_ _)); refine blk_put (cs := #[.bool t142, .slice Ao10 t143.length co10, .int .u64 t146, .bool t147, .slice Ao9 t148.length co9, .int .u64 t151, .bool false]) ?_ 6 _ rfl; (with_reducible repeat (first | refine blk_drewN ?_ _ | refine blk_drew ?_ | refine blk_alloc ?_ _)); refine blk_put (cs := #[.bool t142, .slice Ao10 t143.length co10, .int .u64 t146, .bool t147, .slice Ao9 t148.length co9, .int .u64 0, .bool false]) ?_ 5 _ rfl; (with_reducible repeat (first | refine blk_drewN ?_ _ | refine blk_drew ?_ | refine blk_alloc ?_ _)); refine blk_put (cs := #[.bool t142, .slice Ao10 t143.length co10, .int .u64 t146, .bool t147, .slice none 0 0, .int .u64 0, .bool false]) ?_ 4 _ rfl; (with_reducible repeat (first | refine blk_drewN ?_ _ | refine blk_drew ?_ | refine blk_alloc ?_ _)); refine blk_put (cs := #[.bool t142, .slice Ao10 t143.length co10, .int .u64 t146, .bool false, .slice none 0 0, .int .u64 0, .bool false]) ?_ 3 _ rfl; (with_reducible repeat (first | refine blk_drewN ?_ _ | refine blk_drew ?_ | refine blk_alloc ?_ _)); refine blk_put (cs := #[.bool t142, .slice Ao10 t143.length co10, .int .u64 0, .bool false, .slice none 0 0, .int .u64 0, .bool false]) ?_ 2 _ rfl; (with_reducible repeat (first | refine blk_drewN ?_ _ | refine blk_drew ?_ | refine blk_alloc ?_ _)); refine blk_put (cs := #[.bool t142, .slice none 0 0, .int .u64 0, .bool false, .slice none 0 0, .int .u64 0, .bool false]) ?_ 1 _ rfl; (with_reducible repeat (first | refine blk_drewN ?_ _ | refine blk_drew ?_ | refine blk_alloc ?_ _)); refine blk_put (cs := #[.bool false, .slice none 0 0, .int .u64 0, .bool false, .slice none 0 0, .int .u64 0, .bool false]) ?_ 0 _ rfl; (with_reducible repeat (first | refine blk_drewN ?_ _ | refine blk_drew ?_ | refine blk_alloc ?_ _)); exact BK141.out) Try.underlying27 rfl (by kernel_rfl)) rfl ?_
  exact ⟨_, _, by first | rfl | (simp [errW_none, errW_some] <;> rfl) | (simp [*, errW_none, errW_some] <;> rfl), by (with_reducible repeat (first | apply Kd.R_alloc | apply Kd.R_drewN | apply Kd.R_drew)); exact Kd.R_mono (Kd.R_far (p := ⟨gb141, 6, none⟩) (Kd.R_far (p := ⟨gb141, 5, none⟩) (Kd.R_far (p := ⟨gb141, 4, none⟩) (Kd.R_far (p := ⟨gb141, 3, none⟩) (Kd.R_far (p := ⟨gb141, 2, none⟩) (Kd.R_far (p := ⟨gb141, 1, none⟩) (Kd.R_far (p := ⟨gb141, 0, none⟩) (Kd.R_types HO145.out BK141.out (by decide)) (fun _ hk => hk.2) (.bool t142)) (fun _ hk => hk.2) (.slice Ao10 t143.length co10)) (fun _ hk => hk.2) (.int .u64 t146)) (fun _ hk => hk.2) (.bool t147)) (fun _ hk => hk.2) (.slice Ao9 t148.length co9)) (fun _ hk => hk.2) (.int .u64 t151)) (fun _ hk => hk.2) (.bool a0_2)) (fun _ hk => hk.1.2), by (with_reducible repeat (first | apply Kd.R_alloc | apply Kd.R_drewN | apply Kd.R_drew)); exact Kd.R_mono (Kd.R_far (p := ⟨gb141, 6, none⟩) (Kd.R_far (p := ⟨gb141, 5, none⟩) (Kd.R_far (p := ⟨gb141, 4, none⟩) (Kd.R_far (p := ⟨gb141, 3, none⟩) (Kd.R_far (p := ⟨gb141, 2, none⟩) (Kd.R_far (p := ⟨gb141, 1, none⟩) (Kd.R_far (p := ⟨gb141, 0, none⟩) (Kd.R_types HO150.out BK141.out (by decide)) (fun _ hk => hk.2) (.bool t142)) (fun _ hk => hk.2) (.slice Ao10 t143.length co10)) (fun _ hk => hk.2) (.int .u64 t146)) (fun _ hk => hk.2) (.bool t147)) (fun _ hk => hk.2) (.slice Ao9 t148.length co9)) (fun _ hk => hk.2) (.int .u64 t151)) (fun _ hk => hk.2) (.bool a0_2)) (fun _ hk => hk.1.2), by repeat (first | (with_reducible first | exact HB.out | apply below_alloc | apply pw_below_drewN | apply below_drew1 | refine below_set ?_ GE140.out | refine below_set ?_ GE141.out) | exact HB.out)⟩

/-! ### impl_bytesOf: function 29 -/
def impl_bytesOf.f (a0_0 : Bool) (l0_1 : List Int) (a0_2 : Int) : Option (List Int) := if a0_0 = true then ((impl_own.f l0_1).bind fun t153 => ((badgery_KeyWithTs.f t153 a0_2).bind fun t156 => (some t156))) else (some ([] : List Int))
set_option maxHeartbeats 8000000 in
set_option maxRecDepth 100000 in
theorem impl_bytesOf.calls (a0_0 : Bool) (A0_1 : Option Addr) (c0_1 : Nat) (l0_1 : List Int) (a0_2 : Int) (r : List Int) (w : World) (hr0_1 : Kd.C (Kd.int .u8) w A0_1 l0_1.length l0_1) (hc0_1 : l0_1.length ≤ c0_1) (h : impl_bytesOf.f a0_0 l0_1 a0_2 = some r) :
    Calls Try.prog 29 #[.agg #[.bool a0_0, .slice A0_1 l0_1.length c0_1, .int .u64 a0_2]] w fun e w' => ∃ v0_ : Value, e = .returned (v0_) ∧ Kd.R (Kd.int .u8) 5 w' w.heap.size (fun _ => True) v0_ r ∧ Below w.heap.size w w' := by
  have hu25 := Try.underlying25
  have HR0_1 := Aside0.mk hr0_1
  have HC0_1 := Aside0.mk hc0_1
  clear hr0_1 hc0_1
  have HB := Aside0.mk (Below.refl w.heap.size w)
  have H : (if a0_0 = true then ((impl_own.f l0_1).bind fun t153 => ((badgery_KeyWithTs.f t153 a0_2).bind fun t156 => (some t156))) else (some ([] : List Int))) = some r := h
  clear h
  by_cases c2 : a0_0 = true
  · subst c2
    have H1 : ((impl_own.f l0_1).bind fun t153 => ((badgery_KeyWithTs.f t153 a0_2).bind fun t156 => (some t156))) = some r := by rw [if_pos rfl] at H; exact H
    clear H
    have H := H1
    clear H1
    replace H := Option.bind_eq_some_iff.mp H
    obtain ⟨t153, A30, H⟩ := H
    replace H : ((badgery_KeyWithTs.f t153 a0_2).bind fun t156 => (some t156)) = some r := H
    have A3 := Aside0.mk A30
    clear A30
    replace H := Option.bind_eq_some_iff.mp H
    obtain ⟨t156, A40, H⟩ := H
    replace H : (some t156) = some r := H
    have A4 := Aside0.mk A40
    clear A40
    obtain rfl := Option.some.inj H
    go_enter Try.func29, Try.ntmps29
    try go_wp2_with (first | ((with_reducible refine gate_dst (N := 1) rfl ?_); refine box_event ?hg (N := 1) ?hd (cs := #[.bool true, .slice A0_1 l0_1.length c0_1, .int .u64 a0_2]) (t := 25) ?hr ?_; (case hd => rfl); (case hg => rfl); (case hr => first | (go_simp; done) | (go_simp; rfl)); intro gb152 hg w5 hbox hb; have n0_ := Aside0.mk (below_step (by repeat (first | (with_reducible first | exact HB.out | apply below_alloc | apply pw_below_drewN | apply below_drew1) | exact HB.out)) hb); have n1_ := Aside0.mk (hbox); have n2_ := Aside0.mk ((by rw [hg]; exact (below_size (by repeat (first | (with_reducible first | exact HB.out | apply below_alloc | apply pw_below_drewN | apply below_drew1) | exact HB.out))) : w.heap.size ≤ gb152)); have n3_ := Aside0.mk ((by rw [hg]; exact (below_size (by repeat (first | (with_reducible first | exact HB.out | apply below_alloc | apply pw_below_drewN | apply below_drew1) | exact HB.out))) : w.heap.size ≤ gb152)); clear HB; have HB := n0_; have BK152 := n1_; have GW152 := n2_; have GE152 := n3_; clear n0_ n1_ n2_ n3_; clear hb hbox hg; have hcz6_0 : w5.cell? ⟨gb152, 0, none⟩ = some (.bool true) := (blk_cell BK152.out 0).trans rfl; have hcz6_1 : w5.cell? ⟨gb152, 1, none⟩ = some (.slice A0_1 l0_1.length c0_1) := (blk_cell BK152.out 1).trans rfl; have hcz6_2 : w5.cell? ⟨gb152, 2, none⟩ = some (.int .u64 a0_2) := (blk_cell BK152.out 2).trans rfl; have hfz6_0 := blk_frozen BK152.out 0; have hfz6_1 := blk_frozen BK152.out 1; have hfz6_2 := blk_frozen BK152.out 2))
    have n0_ := Aside0.mk (blk_drew BK152.out)
    have n1_ := Aside0.mk (below_drew1 HB.out)
    clear BK152
    clear HB
    have BK152 := n0_
    have HB := n1_
    clear n0_ n1_
    refine start_ (n := 7) (S := fun w' => w'.cell? ⟨gb152, 0, none⟩ = some (.bool true) ∧ w'.cell? ⟨gb152, 1, none⟩ = some (.slice A0_1 l0_1.length c0_1) ∧ w'.cell? ⟨gb152, 2, none⟩ = some (.int .u64 a0_2)) (ds := []) #[false, false, false, false, false, false, false] (by kernel_rfl) rfl rfl ⟨(blk_cell BK152.out 0).trans rfl, (blk_cell BK152.out 1).trans rfl, (blk_cell BK152.out 2).trans rfl⟩ (fun hHeld => ?_)
    generalize w5.drew = w7 at BK152 HB hHeld ⊢
    refine pure_ (i := 0) (N := some 6) (v := ?_) (a' := ?_) #[true, false, false, false, false, false, false] rfl rfl (by kernel_rfl) (fun _ _ _ h => h) (Or.inl ⟨by rfl, ?_⟩) ?_ ?_
    rotate_left
    · intro w'
      go_simp
      with_reducible rfl
    rotate_left
    · simp only [Act.put, List.setIfInBounds_toArray, List.set_cons_zero, List.set_cons_succ, i64_w, i32_w]
      rfl
    refine pure_ (i := 3) (N := some 9) (v := ?_) (a' := ?_) #[true, false, false, true, false, false, false] rfl rfl (by kernel_rfl) (fun _ _ _ h => h) (Or.inl ⟨by rfl, ?_⟩) ?_ ?_
    rotate_left
    · intro w'
      go_simp
      with_reducible rfl
    rotate_left
    · simp only [Act.put, List.setIfInBounds_toArray, List.set_cons_zero, List.set_cons_succ, i64_w, i32_w]
      rfl
    refine take_ (i := 1) (N := some 7) (v := ?_) (a' := ?_) #[true, true, false, true, false, false, false] rfl rfl (by kernel_rfl) (fun _ _ _ h => h) (Or.inl ⟨by rfl, ?_⟩) hHeld ?_ ?_
    rotate_left
    · rintro w' ⟨s0, s1, s2⟩
      go_simp
      with_reducible rfl
    rotate_left
    · simp only [Act.put, List.setIfInBounds_toArray, List.set_cons_zero, List.set_cons_succ, i64_w, i32_w]
      rfl
    refine take_ (i := 4) (N := some 10) (v := ?_) (a' := ?_) #[true, true, false, true, true, false, false] rfl rfl (by kernel_rfl) (fun _ _ _ h => h) (Or.inl ⟨by rfl, ?_⟩) hHeld ?_ ?_
    rotate_left
    · rintro w' ⟨s0, s1, s2⟩
      go_simp
      with_reducible rfl
    rotate_left
    · simp only [Act.put, List.setIfInBounds_toArray, List.set_cons_zero, List.set_cons_succ, i64_w, i32_w]
      rfl
    refine one_ (i := 2) (N := some 8) #[true, true, true, true, true, false, false] rfl rfl (by kernel_rfl) (by decide) (fun K hK => ?_)
    refine goes_ Try.func21 (by kernel_rfl) rfl #[.slice A0_1 l0_1.length c0_1] (by rfl) rfl rfl (by (try simp only [List.map_toArray, List.map_cons, List.map_nil]); first | done | rfl | (simp only [List.length_drop, List.length_take]; rfl)) ?_
    with_reducible refine (impl_own.calls _ _ l0_1 t153 _ ?side1 ?side2 A3.out).mono ?_
    (case side1 => repeat (first | exact (Kd.C_below HR0_1.out HB.out) | (with_reducible refine Kd.C_alloc ?_ _) | (with_reducible refine Kd.C_drewN ?_ _) | (with_reducible refine Kd.C_drew ?_)))
    (case side2 => exact HC0_1.out)
    rintro e w8 ⟨v154, rfl, ho0, hb⟩
    refine ⟨_, rfl, ?_⟩
    have n0_ := Aside0.mk (Kd.R_lower ho0 (below_size (by repeat (first | (with_reducible first | exact HB.out | apply below_alloc | apply pw_below_drewN | apply below_drew1 | refine below_set ?_ GE152.out) | exact HB.out))))
    have n1_ := Aside0.mk (blk_below (g := gb152) (o := .cells #[.bool true, .slice A0_1 l0_1.length c0_1, .int .u64 a0_2] 25 (0, 0)) (by (with_reducible repeat (first | refine blk_drewN ?_ _ | refine blk_drew ?_ | refine blk_alloc ?_ _)); exact BK152.out) hb)
    have n2_ := Aside0.mk (below_step (by repeat (first | (with_reducible first | exact HB.out | apply below_alloc | apply pw_below_drewN | apply below_drew1 | refine below_set ?_ GE152.out) | exact HB.out)) hb)
    clear BK152
    clear HB
    have HO155 := n0_
    have BK152 := n1_
    have HB := n2_
    clear n0_ n1_ n2_
    (try clear hb)
    (try clear hb2)
    (try clear hk)
    (try clear hi)
    (try clear ho0)
    obtain ⟨Ao9, co9, eo9⟩ := Kd.R_slice HO155.out
    (first | subst eo9 | (injection eo9 with f1_ f2_ f3_; have f4_ := f1_.symm; have f5_ := f3_.symm; clear f1_ f2_ f3_; subst f4_; subst f5_))
    refine hK.out _ _ ⟨(blk_cell BK152.out 0).trans rfl, (blk_cell BK152.out 1).trans rfl, (blk_cell BK152.out 2).trans rfl⟩ (fun hHeld => ?_)
    clear hK K
    refine norm_ (a' := ?_) ?_ ?_
    rotate_left
    · show Act.put _ (some 8) _ = _
      simp only [Act.put, List.setIfInBounds_toArray, List.set_cons_zero, List.set_cons_succ, i64_w, i32_w]
      rfl
    refine one_ (i := 5) (N := some 11) #[true, true, true, true, true, true, false] rfl rfl (by kernel_rfl) (by decide) (fun K hK => ?_)
    refine goes_ Try.func38 (by kernel_rfl) rfl #[.slice Ao9 t153.length co9, .int .u64 a0_2] (by rfl) rfl rfl (by (try simp only [List.map_toArray, List.map_cons, List.map_nil]); first | done | rfl | (simp only [List.length_drop, List.length_take]; rfl)) ?_
    with_reducible refine (badgery_KeyWithTs.calls _ _ t153 a0_2 t156 _ ?side1 ?side2 A4.out).mono ?_
    (case side1 => repeat (first | exact (Kd.R_reads' HO155.out).2.2 | (with_reducible refine Kd.C_alloc ?_ _) | (with_reducible refine Kd.C_drewN ?_ _) | (with_reducible refine Kd.C_drew ?_)))
    (case side2 => exact (Kd.R_reads' HO155.out).2.1)
    rintro e w10 ⟨v157, rfl, ho0, hb⟩
    refine ⟨_, rfl, ?_⟩
    have n0_ := Aside0.mk (Kd.R_elder' (by (with_reducible repeat (first | apply Kd.R_alloc | apply Kd.R_drewN | apply Kd.R_drew)); exact HO155.out) (Kd.R_base ho0) hb)
    have n1_ := Aside0.mk (Kd.R_lower (Kd.R_new' ho0 (Kd.R_lt (by (with_reducible repeat (first | apply Kd.R_alloc | apply Kd.R_drewN | apply Kd.R_drew)); exact HO155.out))) (below_size (by repeat (first | (with_reducible first | exact HB.out | apply below_alloc | apply pw_below_drewN | apply below_drew1 | refine below_set ?_ GE152.out) | exact HB.out))))
    have n2_ := Aside0.mk (blk_below (g := gb152) (o := .cells #[.bool true, .slice A0_1 l0_1.length c0_1, .int .u64 a0_2] 25 (0, 0)) (by (with_reducible repeat (first | refine blk_drewN ?_ _ | refine blk_drew ?_ | refine blk_alloc ?_ _)); exact BK152.out) hb)
    have n3_ := Aside0.mk (below_step (by repeat (first | (with_reducible first | exact HB.out | apply below_alloc | apply pw_below_drewN | apply below_drew1 | refine below_set ?_ GE152.out) | exact HB.out)) hb)
    clear HO155
    clear BK152
    clear HB
    have HO155 := n0_
    have HO158 := n1_
    have BK152 := n2_
    have HB := n3_
    clear n0_ n1_ n2_ n3_
    (try clear hb)
    (try clear hb2)
    (try clear hk)
    (try clear hi)
    (try clear ho0)
    refine hK.out _ _ ⟨(blk_cell BK152.out 0).trans rfl, (blk_cell BK152.out 1).trans rfl, (blk_cell BK152.out 2).trans rfl⟩ (fun hHeld => ?_)
    clear hK K
    refine norm_ (a' := ?_) ?_ ?_
    rotate_left
    · show Act.put _ (some 11) _ = _
      simp only [Act.put, List.setIfInBounds_toArray, List.set_cons_zero, List.set_cons_succ, i64_w, i32_w]
      rfl
    refine pure_ (i := 6) (N := some 2) (v := ?_) (a' := ?_) #[true, true, true, true, true, true, true] rfl rfl (by kernel_rfl) (fun _ _ _ h => h) (Or.inl ⟨by rfl, ?_⟩) ?_ ?_
    rotate_left
    · intro w'
      go_simp
      with_reducible rfl
    rotate_left
    · simp only [Act.put, List.setIfInBounds_toArray, List.set_cons_zero, List.set_cons_succ, i64_w, i32_w]
      rfl
    refine done_ (by kernel_rfl) ?_
    try go_wp2
    go_ret
    exact ⟨_, by first | rfl | (simp [errW_none, errW_some] <;> rfl) | (simp [*, errW_none, errW_some] <;> rfl), by (with_reducible repeat (first | apply Kd.R_alloc | apply Kd.R_drewN | apply Kd.R_drew)); exact Kd.R_mono HO158.out (fun _ hk => trivial), by repeat (first | (with_reducible first | exact HB.out | apply below_alloc | apply pw_below_drewN | apply below_drew1 | refine below_set ?_ GE152.out) | exact HB.out)⟩
  · replace c2 := Bool.eq_false_iff.mpr c2
    subst c2
    have H1 : (some ([] : List Int)) = some r := by rw [if_neg (show ¬ (false = true) by decide)] at H; exact H
    clear H
    have H := H1
    clear H1
    obtain rfl := Option.some.inj H
    go_enter Try.func29, Try.ntmps29
    go_wp2_with (first | ((with_reducible refine gate_dst (N := 1) rfl ?_); refine box_event ?hg (N := 1) ?hd (cs := #[.bool false, .slice A0_1 l0_1.length c0_1, .int .u64 a0_2]) (t := 25) ?hr ?_; (case hd => rfl); (case hg => rfl); (case hr => first | (go_simp; done) | (go_simp; rfl)); intro gb152 hg w11 hbox hb; have n0_ := Aside0.mk (below_step (by repeat (first | (with_reducible first | exact HB.out | apply below_alloc | apply pw_below_drewN | apply below_drew1) | exact HB.out)) hb); have n1_ := Aside0.mk (hbox); have n2_ := Aside0.mk ((by rw [hg]; exact (below_size (by repeat (first | (with_reducible first | exact HB.out | apply below_alloc | apply pw_below_drewN | apply below_drew1) | exact HB.out))) : w.heap.size ≤ gb152)); have n3_ := Aside0.mk ((by rw [hg]; exact (below_size (by repeat (first | (with_reducible first | exact HB.out | apply below_alloc | apply pw_below_drewN | apply below_drew1) | exact HB.out))) : w.heap.size ≤ gb152)); clear HB; have HB := n0_; have BK152 := n1_; have GW152 := n2_; have GE152 := n3_; clear n0_ n1_ n2_ n3_; clear hb hbox hg; have hcz12_0 : w11.cell? ⟨gb152, 0, none⟩ = some (.bool false) := (blk_cell BK152.out 0).trans rfl; have hcz12_1 : w11.cell? ⟨gb152, 1, none⟩ = some (.slice A0_1 l0_1.length c0_1) := (blk_cell BK152.out 1).trans rfl; have hcz12_2 : w11.cell? ⟨gb152, 2, none⟩ = some (.int .u64 a0_2) := (blk_cell BK152.out 2).trans rfl; have hfz12_0 := blk_frozen BK152.out 0; have hfz12_1 := blk_frozen BK152.out 1; have hfz12_2 := blk_frozen BK152.out 2))
    go_ret
    exact ⟨_, by first | rfl | (simp [errW_none, errW_some] <;> rfl) | (simp [*, errW_none, errW_some] <;> rfl), by first | exact Kd.R_nil _ _ _ _ _ | exact Kd.N_nil _ _ _ _ _ | exact Kd.V_nil _ _ _ _ _ | exact Kd.Q_nil _ _ _ _ _ | exact Kd.S_nil _ _ _ _ _, by repeat (first | (with_reducible first | exact HB.out | apply below_alloc | apply pw_below_drewN | apply below_drew1 | refine below_set ?_ GE152.out) | exact HB.out)⟩

/-! ### impl_rangeOf: function 19 -/
def impl_rangeOf.f (a0_0 : Bool) (l0_1 : List Int) (a0_2 : Int) (a0_3 : Bool) (l0_4 : List Int) (a0_5 : Int) (a0_6 : Bool) : Option (List Int × List Int × Bool) := (impl_bytesOf.f a0_0 l0_1 a0_2).bind fun t161 => ((impl_bytesOf.f a0_3 l0_4 a0_5).bind fun t164 => (some (t161, t164, a0_6)))
def impl_rangeOf.T1 : Bool × List (List Nat × List Nat) := (true, [([], []), ([0], [0]), ([1], [1]), ([], []), ([3], [3]), ([4, 2], [4]), ([], []), ([6], [6]), ([2, 5, 7], [2, 5, 7]), ([8, 5, 0, 1, 2, 3, 4, 5, 6, 7, 8], [8])])
def impl_rangeOf.B1 : List Nat := [0, 1, 3, 0, 8, 31, 0, 64, 255, 511]
theorem impl_rangeOf.tab1 : rtab .any (opsOf Try.f19 1) = impl_rangeOf.T1 := by kernel_rfl
theorem impl_rangeOf.bits1 : waitsOk impl_rangeOf.T1.2 impl_rangeOf.B1 = true := by kernel_rfl
set_option maxHeartbeats 8000000 in
set_option maxRecDepth 100000 in
theorem impl_rangeOf.calls (a0_0 : Bool) (A0_1 : Option Addr) (c0_1 : Nat) (l0_1 : List Int) (a0_2 : Int) (a0_3 : Bool) (A0_4 : Option Addr) (c0_4 : Nat) (l0_4 : List Int) (a0_5 : Int) (a0_6 : Bool) (r1 : List Int) (r2 : List Int) (r3 : Bool) (w : World) (hr0_1 : Kd.C (Kd.int .u8) w A0_1 l0_1.length l0_1) (hc0_1 : l0_1.length ≤ c0_1) (hr0_4 : Kd.C (Kd.int .u8) w A0_4 l0_4.length l0_4) (hc0_4 : l0_4.length ≤ c0_4) (h : impl_rangeOf.f a0_0 l0_1 a0_2 a0_3 l0_4 a0_5 a0_6 = some (r1, r2, r3)) :
    Calls Try.prog 19 #[.agg #[.bool a0_0, .slice A0_1 l0_1.length c0_1, .int .u64 a0_2, .bool a0_3, .slice A0_4 l0_4.length c0_4, .int .u64 a0_5, .bool a0_6]] w fun e w' => ∃ v0_ v1_ : Value, e = .returned (.agg #[v0_, v1_, .bool r3]) ∧ Kd.R (Kd.int .u8) 5 w' w.heap.size (fun k_ => some k_ ≠ (v1_ : Value).ownBlock) v0_ r1 ∧ Kd.R (Kd.int .u8) 5 w' w.heap.size (fun k_ => some k_ ≠ (v0_ : Value).ownBlock) v1_ r2 ∧ Below w.heap.size w w' := by
  have hu27 := Try.underlying27
  have hu45 := Try.underlying45
  have hu25 := Try.underlying25
  have HR0_1 := Aside0.mk hr0_1
  have HC0_1 := Aside0.mk hc0_1
  clear hr0_1 hc0_1
  have HR0_4 := Aside0.mk hr0_4
  have HC0_4 := Aside0.mk hc0_4
  clear hr0_4 hc0_4
  have HB := Aside0.mk (Below.refl w.heap.size w)
  have H : ((impl_bytesOf.f a0_0 l0_1 a0_2).bind fun t161 => ((impl_bytesOf.f a0_3 l0_4 a0_5).bind fun t164 => (some (t161, t164, a0_6)))) = some (r1, r2, r3) := h
  clear h
  replace H := Option.bind_eq_some_iff.mp H
  obtain ⟨t161, A20, H⟩ := H
  replace H : ((impl_bytesOf.f a0_3 l0_4 a0_5).bind fun t164 => (some (t161, t164, a0_6))) = some (r1, r2, r3) := H
  have A2 := Aside0.mk A20
  clear A20
  replace H := Option.bind_eq_some_iff.mp H
  obtain ⟨t164, A30, H⟩ := H
  replace H : (some (t161, t164, a0_6)) = some (r1, r2, r3) := H
  have A3 := Aside0.mk A30
  clear A30
  simp only [Option.some.injEq, Prod.mk.injEq] at H
  obtain ⟨rfl, rfl, rfl⟩ := H
  go_enter Try.func19, Try.ntmps19
  try go_wp2_with (first | ((with_reducible refine gate_dst (N := 1) rfl ?_); refine box_event ?hg (N := 1) ?hd (cs := #[.bool a0_0, .slice A0_1 l0_1.length c0_1, .int .u64 a0_2, .bool a0_3, .slice A0_4 l0_4.length c0_4, .int .u64 a0_5, .bool a0_6]) (t := 27) ?hr ?_; (case hd => rfl); (case hg => rfl); (case hr => first | (go_simp; done) | (go_simp; rfl)); intro gb159 hg w4 hbox hb; have n0_ := Aside0.mk (below_step (by repeat (first | (with_reducible first | exact HB.out | apply below_alloc | apply pw_below_drewN | apply below_drew1) | exact HB.out)) hb); have n1_ := Aside0.mk (hbox); have n2_ := Aside0.mk ((by rw [hg]; exact (below_size (by repeat (first | (with_reducible first | exact HB.out | apply below_alloc | apply pw_below_drewN | apply below_drew1) | exact HB.out))) : w.heap.size ≤ gb159)); have n3_ := Aside0.mk ((by rw [hg]; exact (below_size (by repeat (first | (with_reducible first | exact HB.out | apply below_alloc | apply pw_below_drewN | apply below_drew1) | exact HB.out))) : w.heap.size ≤ gb159)); clear HB; have HB := n0_; have BK159 := n1_; have GW159 := n2_; have GE159 := n3_; clear n0_ n1_ n2_ n3_; clear hb hbox hg) | ((with_reducible refine gate_dst (N := 2) rfl ?_); refine box_event ?hg (N := 2) ?hd (cs := #[.slice none 0 0, .slice none 0 0, .bool false]) (t := 45) ?hr ?_; (case hd => rfl); (case hg => rfl); (case hr => first | (go_simp; done) | (go_simp; rfl)); intro gb160 hg w5 hbox hb; have n0_ := Aside0.mk (blk_below (g := gb159) (o := .cells #[.bool a0_0, .slice A0_1 l0_1.length c0_1, .int .u64 a0_2, .bool a0_3, .slice A0_4 l0_4.length c0_4, .int .u64 a0_5, .bool a0_6] 27 (0, 0)) (by (with_reducible repeat (first | refine blk_drewN ?_ _ | refine blk_drew ?_ | refine blk_alloc ?_ _)); exact BK159.out) hb); have n1_ := Aside0.mk (below_step (by repeat (first | (with_reducible first | exact HB.out | apply below_alloc | apply pw_below_drewN | apply below_drew1 | refine below_set ?_ GE159.out) | exact HB.out)) hb); have n2_ := Aside0.mk (hbox); have n3_ := Aside0.mk ((by rw [hg]; exact (below_size (by repeat (first | (with_reducible first | exact HB.out | apply below_alloc | apply pw_below_drewN | apply below_drew1 | refine below_set ?_ GE159.out) | exact HB.out))) : w.heap.size ≤ gb160)); have n4_ := Aside0.mk ((by rw [hg]; exact (below_size (by repeat (first | (with_reducible first | exact HB.out | apply below_alloc | apply pw_below_drewN | apply below_drew1 | refine below_set ?_ GE159.out) | exact HB.out))) : w.heap.size ≤ gb160)); have n5_ := Aside0.mk ((by rw [hg]; exact Nat.ne_of_lt (blk_lt (g := gb159) (o := .cells #[.bool a0_0, .slice A0_1 l0_1.length c0_1, .int .u64 a0_2, .bool a0_3, .slice A0_4 l0_4.length c0_4, .int .u64 a0_5, .bool a0_6] 27 (0, 0)) (by (with_reducible repeat (first | refine blk_drewN ?_ _ | refine blk_drew ?_ | refine blk_alloc ?_ _)); exact BK159.out)) : gb159 ≠ gb160)); have n6_ := Aside0.mk ((by rw [hg]; exact Nat.ne_of_gt (blk_lt (g := gb159) (o := .cells #[.bool a0_0, .slice A0_1 l0_1.length c0_1, .int .u64 a0_2, .bool a0_3, .slice A0_4 l0_4.length c0_4, .int .u64 a0_5, .bool a0_6] 27 (0, 0)) (by (with_reducible repeat (first | refine blk_drewN ?_ _ | refine blk_drew ?_ | refine blk_alloc ?_ _)); exact BK159.out)) : gb160 ≠ gb159)); clear BK159; clear HB; have BK159 := n0_; have HB := n1_; have BK160 := n2_; have GW160 := n3_; have GE160 := n4_; have NB159_160 := n5_; have NB160_159 := n6_; clear n0_ n1_ n2_ n3_ n4_ n5_ n6_; clear hb hbox hg))
  have n0_ := Aside0.mk (blk_drew BK159.out)
  have n1_ := Aside0.mk (blk_drew BK160.out)
  have n2_ := Aside0.mk (below_drew1 HB.out)
  clear BK159
  clear BK160
  clear HB
  have BK159 := n0_
  have BK160 := n1_
  have HB := n2_
  clear n0_ n1_ n2_
  refine start_ (n := 10) (S := fun w' => w'.cell? ⟨gb159, 0, none⟩ = some (.bool a0_0) ∧ w'.cell? ⟨gb159, 1, none⟩ = some (.slice A0_1 l0_1.length c0_1) ∧ w'.cell? ⟨gb159, 2, none⟩ = some (.int .u64 a0_2) ∧ w'.cell? ⟨gb159, 3, none⟩ = some (.bool a0_3) ∧ w'.cell? ⟨gb159, 4, none⟩ = some (.slice A0_4 l0_4.length c0_4) ∧ w'.cell? ⟨gb159, 5, none⟩ = some (.int .u64 a0_5) ∧ w'.cell? ⟨gb159, 6, none⟩ = some (.bool a0_6)) (ds := []) #[false, false, false, false, false, false, false, false, false, false] (by kernel_rfl) rfl rfl ⟨(blk_cell BK159.out 0).trans rfl, (blk_cell BK159.out 1).trans rfl, (blk_cell BK159.out 2).trans rfl, (blk_cell BK159.out 3).trans rfl, (blk_cell BK159.out 4).trans rfl, (blk_cell BK159.out 5).trans rfl, (blk_cell BK159.out 6).trans rfl⟩ (fun hHeld => ?_); refine with_tabW impl_rangeOf.tab1 impl_rangeOf.bits1 (fun HT_ HW_ => ?_)
  generalize w5.drew = w6 at BK159 BK160 HB hHeld ⊢
  refine pure_ (i := 0) (N := some 3) (v := ?_) (a' := ?_) #[true, false, false, false, false, false, false, false, false, false] rfl rfl (any_of HT_.out (by kernel_rfl)) (fun _ _ _ h => h) (Or.inl ⟨by rfl, ?_⟩) ?_ ?_
  rotate_left
  · intro w'
    go_simp
    with_reducible rfl
  rotate_left
  · simp only [Act.put, List.setIfInBounds_toArray, List.set_cons_zero, List.set_cons_succ, i64_w, i32_w]
    rfl
  refine pure_ (i := 3) (N := some 6) (v := ?_) (a' := ?_) #[true, false, false, true, false, false, false, false, false, false] rfl rfl (any_of HT_.out (by kernel_rfl)) (fun _ _ _ h => h) (Or.inl ⟨by rfl, ?_⟩) ?_ ?_
  rotate_left
  · intro w'
    go_simp
    with_reducible rfl
  rotate_left
  · simp only [Act.put, List.setIfInBounds_toArray, List.set_cons_zero, List.set_cons_succ, i64_w, i32_w]
    rfl
  refine pure_ (i := 6) (N := some 9) (v := ?_) (a' := ?_) #[true, false, false, true, false, false, true, false, false, false] rfl rfl (any_of HT_.out (by kernel_rfl)) (fun _ _ _ h => h) (Or.inl ⟨by rfl, ?_⟩) ?_ ?_
  rotate_left
  · intro w'
    go_simp
    with_reducible rfl
  rotate_left
  · simp only [Act.put, List.setIfInBounds_toArray, List.set_cons_zero, List.set_cons_succ, i64_w, i32_w]
    rfl
  refine take_ (i := 1) (N := some 4) (v := ?_) (a' := ?_) #[true, true, false, true, false, false, true, false, false, false] rfl rfl (take_ofW HT_.out HW_.out (by kernel_rfl)) (fun _ _ _ h => h) (Or.inl ⟨by rfl, ?_⟩) hHeld ?_ ?_
  rotate_left
  · rintro w' ⟨s0, s1, s2, s3, s4, s5, s6⟩
    go_simp
    with_reducible rfl
  rotate_left
  · simp only [Act.put, List.setIfInBounds_toArray, List.set_cons_zero, List.set_cons_succ, i64_w, i32_w]
    rfl
  refine take_ (i := 4) (N := some 7) (v := ?_) (a' := ?_) #[true, true, false, true, true, false, true, false, false, false] rfl rfl (take_ofW HT_.out HW_.out (by kernel_rfl)) (fun _ _ _ h => h) (Or.inl ⟨by rfl, ?_⟩) hHeld ?_ ?_
  rotate_left
  · rintro w' ⟨s0, s1, s2, s3, s4, s5, s6⟩
    go_simp
    with_reducible rfl
  rotate_left
  · simp only [Act.put, List.setIfInBounds_toArray, List.set_cons_zero, List.set_cons_succ, i64_w, i32_w]
    rfl
  refine take_ (i := 7) (N := some 10) (v := ?_) (a' := ?_) #[true, true, false, true, true, false, true, true, false, false] rfl rfl (take_ofW HT_.out HW_.out (by kernel_rfl)) (fun _ _ _ h => h) (Or.inl ⟨by rfl, ?_⟩) hHeld ?_ ?_
  rotate_left
  · rintro w' ⟨s0, s1, s2, s3, s4, s5, s6⟩
    go_simp
    with_reducible rfl
  rotate_left
  · simp only [Act.put, List.setIfInBounds_toArray, List.set_cons_zero, List.set_cons_succ, i64_w, i32_w]
    rfl
  refine one_ (i := 2) (N := some 5) #[true, true, true, true, true, false, true, true, false, false] rfl rfl (one_of HT_.out (by kernel_rfl)) (by decide) (fun K hK => ?_)
  refine goes_ Try.func29 (by kernel_rfl) rfl #[.agg #[.bool a0_0, .slice A0_1 l0_1.length c0_1, .int .u64 a0_2]] (by rfl) rfl rfl (by (try simp only [List.map_toArray, List.map_cons, List.map_nil]); first | done | rfl | (simp only [List.length_drop, List.length_take]; rfl)) ?_
  with_reducible refine (impl_bytesOf.calls a0_0 _ _ l0_1 a0_2 t161 _ ?side1 ?side2 A2.out).mono ?_
  (case side1 => repeat (first | exact (Kd.C_below HR0_1.out HB.out) | (with_reducible refine Kd.C_alloc ?_ _) | (with_reducible refine Kd.C_drewN ?_ _) | (with_reducible refine Kd.C_drew ?_)))
  (case side2 => exact HC0_1.out)
  rintro e w7 ⟨v162, rfl, ho0, hb⟩
  refine ⟨_, rfl, ?_⟩
  have n0_ := Aside0.mk (Kd.R_lower ho0 (below_size (by repeat (first | (with_reducible first | exact HB.out | apply below_alloc | apply pw_below_drewN | apply below_drew1 | refine below_set ?_ GE159.out | refine below_set ?_ GE160.out) | exact HB.out))))
  have n1_ := Aside0.mk (blk_below (g := gb159) (o := .cells #[.bool a0_0, .slice A0_1 l0_1.length c0_1, .int .u64 a0_2, .bool a0_3, .slice A0_4 l0_4.length c0_4, .int .u64 a0_5, .bool a0_6] 27 (0, 0)) (by (with_reducible repeat (first | refine blk_drewN ?_ _ | refine blk_drew ?_ | refine blk_alloc ?_ _)); exact BK159.out) hb)
  have n2_ := Aside0.mk (blk_below (g := gb160) (o := .cells #[.slice none 0 0, .slice none 0 0, .bool false] 45 (0, 0)) (by (with_reducible repeat (first | refine blk_drewN ?_ _ | refine blk_drew ?_ | refine blk_alloc ?_ _)); exact BK160.out) hb)
  have n3_ := Aside0.mk (below_step (by repeat (first | (with_reducible first | exact HB.out | apply below_alloc | apply pw_below_drewN | apply below_drew1 | refine below_set ?_ GE159.out | refine below_set ?_ GE160.out) | exact HB.out)) hb)
  clear BK159
  clear BK160
  clear HB
  have HO163 := n0_
  have BK159 := n1_
  have BK160 := n2_
  have HB := n3_
  clear n0_ n1_ n2_ n3_
  (try clear hb)
  (try clear hb2)
  (try clear hk)
  (try clear hi)
  (try clear ho0)
  refine hK.out _ _ ⟨(blk_cell BK159.out 0).trans rfl, (blk_cell BK159.out 1).trans rfl, (blk_cell BK159.out 2).trans rfl, (blk_cell BK159.out 3).trans rfl, (blk_cell BK159.out 4).trans rfl, (blk_cell BK159.out 5).trans rfl, (blk_cell BK159.out 6).trans rfl⟩ (fun hHeld => ?_)
  clear hK K
  refine norm_ (a' := ?_) ?_ ?_
  rotate_left
  · show Act.put _ (some 5) _ = _
    simp only [Act.put, List.setIfInBounds_toArray, List.set_cons_zero, List.set_cons_succ, i64_w, i32_w]
    rfl
  refine one_ (i := 5) (N := some 8) #[true, true, true, true, true, true, true, true, false, false] rfl rfl (one_of HT_.out (by kernel_rfl)) (by decide) (fun K hK => ?_)
  refine goes_ Try.func29 (by kernel_rfl) rfl #[.agg #[.bool a0_3, .slice A0_4 l0_4.length c0_4, .int .u64 a0_5]] (by rfl) rfl rfl (by (try simp only [List.map_toArray, List.map_cons, List.map_nil]); first | done | rfl | (simp only [List.length_drop, List.length_take]; rfl)) ?_
  with_reducible refine (impl_bytesOf.calls a0_3 _ _ l0_4 a0_5 t164 _ ?side1 ?side2 A3.out).mono ?_
  (case side1 => repeat (first | exact (Kd.C_below HR0_4.out HB.out) | (with_reducible refine Kd.C_alloc ?_ _) | (with_reducible refine Kd.C_drewN ?_ _) | (with_reducible refine Kd.C_drew ?_)))
  (case side2 => exact HC0_4.out)
  rintro e w8 ⟨v165, rfl, ho0, hb⟩
  refine ⟨_, rfl, ?_⟩
  have n0_ := Aside0.mk (Kd.R_elder' (by (with_reducible repeat (first | apply Kd.R_alloc | apply Kd.R_drewN | apply Kd.R_drew)); exact HO163.out) (Kd.R_base ho0) hb)
  have n1_ := Aside0.mk (Kd.R_lower (Kd.R_new' ho0 (Kd.R_lt (by (with_reducible repeat (first | apply Kd.R_alloc | apply Kd.R_drewN | apply Kd.R_drew)); exact HO163.out))) (below_size (by repeat (first | (with_reducible first | exact HB.out | apply below_alloc | apply pw_below_drewN | apply below_drew1 | refine below_set ?_ GE159.out | refine below_set ?_ GE160.out) | exact HB.out))))
  have n2_ := Aside0.mk (blk_below (g := gb159) (o := .cells #[.bool a0_0, .slice A0_1 l0_1.length c0_1, .int .u64 a0_2, .bool a0_3, .slice A0_4 l0_4.length c0_4, .int .u64 a0_5, .bool a0_6] 27 (0, 0)) (by (with_reducible repeat (first | refine blk_drewN ?_ _ | refine blk_drew ?_ | refine blk_alloc ?_ _)); exact BK159.out) hb)
  have n3_ := Aside0.mk (blk_below (g := gb160) (o := .cells #[.slice none 0 0, .slice none 0 0, .bool false] 45 (0, 0)) (by (with_reducible repeat (first | refine blk_drewN ?_ _ | refine blk_drew ?_ | refine blk_alloc ?_ _)); exact BK160.out) hb)
  have n4_ := Aside0.mk (below_step (by repeat (first | (with_reducible first | exact HB.out | apply below_alloc | apply pw_below_drewN | apply below_drew1 | refine below_set ?_ GE159.out | refine below_set ?_ GE160.out) | exact HB.out)) hb)
  clear HO163
  clear BK159
  clear BK160
  clear HB
  have HO163 := n0_
  have HO166 := n1_
  have BK159 := n2_
  have BK160 := n3_
  have HB := n4_
  clear n0_ n1_ n2_ n3_ n4_
  (try clear hb)
  (try clear hb2)
  (try clear hk)
  (try clear hi)
  (try clear ho0)
  obtain ⟨Ao9, co9, eo9⟩ := Kd.R_slice HO166.out
  (first | subst eo9 | (injection eo9 with f1_ f2_ f3_; have f4_ := f1_.symm; have f5_ := f3_.symm; clear f1_ f2_ f3_; subst f4_; subst f5_))
  obtain ⟨Ao10, co10, eo10⟩ := Kd.R_slice HO163.out
  (first | subst eo10 | (injection eo10 with f1_ f2_ f3_; have f4_ := f1_.symm; have f5_ := f3_.symm; clear f1_ f2_ f3_; subst f4_; subst f5_))
  refine hK.out _ _ ⟨(blk_cell BK159.out 0).trans rfl, (blk_cell BK159.out 1).trans rfl, (blk_cell BK159.out 2).trans rfl, (blk_cell BK159.out 3).trans rfl, (blk_cell BK159.out 4).trans rfl, (blk_cell BK159.out 5).trans rfl, (blk_cell BK159.out 6).trans rfl⟩ (fun hHeld => ?_)
  clear hK K
  refine norm_ (a' := ?_) ?_ ?_
  rotate_left
  · show Act.put _ (some 8) _ = _
    simp only [Act.put, List.setIfInBounds_toArray, List.set_cons_zero, List.set_cons_succ, i64_w, i32_w]
    rfl
  refine pure_ (i := 8) (N := some 11) (v := ?_) (a' := ?_) #[true, true, true, true, true, true, true, true, true, false] rfl rfl (any_of HT_.out (by kernel_rfl)) (fun _ _ _ h => h) (Or.inl ⟨by rfl, ?_⟩) ?_ ?_
  rotate_left
  · intro w'
    go_simp
    with_reducible rfl
  rotate_left
  · simp only [Act.put, List.setIfInBounds_toArray, List.set_cons_zero, List.set_cons_succ, i64_w, i32_w]
    rfl
  refine one_ (i := 9) (N := none) #[true, true, true, true, true, true, true, true, true, true] rfl rfl (one_of HT_.out (by kernel_rfl)) (by decide) (fun K hK => ?_)
  have hs11 : w8.cell? ⟨gb160, 0, none⟩ = some (.slice none 0 0) := (blk_cell BK160.out 0).trans rfl
  have hfs11 := blk_frozen BK160.out 0
  have hns11_0 := NB159_160.out
  have hms11_0 := NB160_159.out
  have hs12 : w8.cell? ⟨gb160, 1, none⟩ = some (.slice none 0 0) := (blk_cell BK160.out 1).trans rfl
  have hfs12 := blk_frozen BK160.out 1
  have hns12_0 := NB159_160.out
  have hms12_0 := NB160_159.out
  have hs13 : w8.cell? ⟨gb160, 2, none⟩ = some (.bool false) := (blk_cell BK160.out 2).trans rfl
  have hfs13 := blk_frozen BK160.out 2
  have hns13_0 := NB159_160.out
  have hms13_0 := NB160_159.out
  refine skip_ (w1 := ?_) (by rfl) rfl ?_ ?_
  rotate_left
  · go_simp
    rfl
  refine hK.out _ _ ⟨((cell_far (p := ⟨gb160, _, none⟩) NB159_160.out _).trans (((cell_far (p := ⟨gb160, _, none⟩) NB159_160.out _).trans (((cell_far (p := ⟨gb160, _, none⟩) NB159_160.out _).trans (hHeld.1)))))), ((cell_far (p := ⟨gb160, _, none⟩) NB159_160.out _).trans (((cell_far (p := ⟨gb160, _, none⟩) NB159_160.out _).trans (((cell_far (p := ⟨gb160, _, none⟩) NB159_160.out _).trans (hHeld.2.1)))))), ((cell_far (p := ⟨gb160, _, none⟩) NB159_160.out _).trans (((cell_far (p := ⟨gb160, _, none⟩) NB159_160.out _).trans (((cell_far (p := ⟨gb160, _, none⟩) NB159_160.out _).trans (hHeld.2.2.1)))))), ((cell_far (p := ⟨gb160, _, none⟩) NB159_160.out _).trans (((cell_far (p := ⟨gb160, _, none⟩) NB159_160.out _).trans (((cell_far (p := ⟨gb160, _, none⟩) NB159_160.out _).trans (hHeld.2.2.2.1)))))), ((cell_far (p := ⟨gb160, _, none⟩) NB159_160.out _).trans (((cell_far (p := ⟨gb160, _, none⟩) NB159_160.out _).trans (((cell_far (p := ⟨gb160, _, none⟩) NB159_160.out _).trans (hHeld.2.2.2.2.1)))))), ((cell_far (p := ⟨gb160, _, none⟩) NB159_160.out _).trans (((cell_far (p := ⟨gb160, _, none⟩) NB159_160.out _).trans (((cell_far (p := ⟨gb160, _, none⟩) NB159_160.out _).trans (hHeld.2.2.2.2.2.1)))))), ((cell_far (p := ⟨gb160, _, none⟩) NB159_160.out _).trans (((cell_far (p := ⟨gb160, _, none⟩) NB159_160.out _).trans (((cell_far (p := ⟨gb160, _, none⟩) NB159_160.out _).trans (hHeld.2.2.2.2.2.2))))))⟩ (fun hHeld => ?_)
  clear hK K
  refine done_ (done_of HT_.out (by kernel_rfl)) ?_
  try go_wp2
  refine bodyPost_ret (results_cell_row rfl _ _ gb160 45 #[.slice Ao10 t161.length co10, .slice Ao9 t164.length co9, .bool a0_6] (0, 0) _ rfl (by (with_reducible repeat (first | refine blk_drewN ?_ _ | refine blk_drew ?_ | refine blk_alloc ?_ _)); refine blk_put (cs := #[.slice Ao10 t161.length co10, .slice Ao9 t164.length co9, .bool false]) ?_ 2 _ rfl; (with_reducible repeat (first | refine blk_drewN ?_ _ | refine blk_drew ?_ | refine blk_alloc ?_ _)); refine blk_put (cs := #[.slice Ao10 t161.length co10, .slice none 0 0, .bool false]) ?_ 1 _ rfl; (with_reducible repeat (first | refine blk_drewN ?_ _ | refine blk_drew ?_ | refine blk_alloc ?_ _)); refine blk_put (cs := #[.slice none 0 0, .slice none 0 0, .bool false]) ?_ 0 _ rfl; (with_reducible repeat (first | refine blk_drewN ?_ _ | refine blk_drew ?_ | refine blk_alloc ?_ _)); exact BK160.out) Try.underlying45 rfl (by kernel_rfl)) rfl ?_
  exact ⟨_, _, by first | rfl | (simp [errW_none, errW_some] <;> rfl) | (simp [*, errW_none, errW_some] <;> rfl), by (with_reducible repeat (first | apply Kd.R_alloc | apply Kd.R_drewN | apply Kd.R_drew)); exact Kd.R_mono (Kd.R_far (p := ⟨gb160, 2, none⟩) (Kd.R_far (p := ⟨gb160, 1, none⟩) (Kd.R_far (p := ⟨gb160, 0, none⟩) (Kd.R_types HO163.out BK160.out (by decide)) (fun _ hk => hk.2) (.slice Ao10 t161.length co10)) (fun _ hk => hk.2) (.slice Ao9 t164.length co9)) (fun _ hk => hk.2) (.bool a0_6)) (fun _ hk => hk.1.2), by (with_reducible repeat (first | apply Kd.R_alloc | apply Kd.R_drewN | apply Kd.R_drew)); exact Kd.R_mono (Kd.R_far (p := ⟨gb160, 2, none⟩) (Kd.R_far (p := ⟨gb160, 1, none⟩) (Kd.R_far (p := ⟨gb160, 0, none⟩) (Kd.R_types HO166.out BK160.out (by decide)) (fun _ hk => hk.2) (.slice Ao10 t161.length co10)) (fun _ hk => hk.2) (.slice Ao9 t164.length co9)) (fun _ hk => hk.2) (.bool a0_6)) (fun _ hk => hk.1.2), by repeat (first | (with_reducible first | exact HB.out | apply below_alloc | apply pw_below_drewN | apply below_drew1 | refine below_set ?_ GE159.out | refine below_set ?_ GE160.out) | exact HB.out)⟩

end Go.Proofs.YtbbncbjdpopkiaaQ.QE
