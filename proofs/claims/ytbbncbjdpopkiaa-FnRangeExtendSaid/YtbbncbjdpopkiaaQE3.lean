-- Lines that a program has printed for this claim: functions as plain Lean functions, and their walks.
import Derived.Test.YtbbncbjdpopkiaaQE0
import Derived.Test.YtbbncbjdpopkiaaQE1
import Derived.Test.YtbbncbjdpopkiaaQE2
namespace Go.Proofs.YtbbncbjdpopkiaaQ.QE
open Go.RowKit Go.Proofs.YtbbncbjdpopkiaaQ.Ext Go.Proofs.YtbbncbjdpopkiaaW.PrintWords Go.Proofs.YtbbncbjdpopkiaaW.PrintLast Go.Proofs.YtbbncbjdpopkiaaW.PrintMore
attribute [local go_sem] max2_int min2_int max_two min_two max_three min_three max_four min_four   -- for this text's walks alone
set_option linter.unusedVariables false
set_option linter.unusedSimpArgs false

/-! ### impl_Extend: function 8 -/
def impl_Extend.f (a0_0 : Bool) (l0_1 : List Int) (a0_2 : Int) (a0_3 : Bool) (l0_4 : List Int) (a0_5 : Int) (a0_6 : Bool) (a1_0 : Bool) (l1_1 : List Int) (a1_2 : Int) (a1_3 : Bool) (l1_4 : List Int) (a1_5 : Int) (a1_6 : Bool) : Option (Bool × List Int × Int × Bool × List Int × Int × Bool) := (impl_rangeOf.f a0_0 l0_1 a0_2 a0_3 l0_4 a0_5 a0_6).bind fun bt170 => ((impl_rangeOf.f a1_0 l1_1 a1_2 a1_3 l1_4 a1_5 a1_6).bind fun bt177 => ((badgercompact_Extend.f bt170.1 bt170.2.1 bt170.2.2 bt177.1 bt177.2.1 bt177.2.2).bind fun bt184 => ((impl_toldRange.f bt184.1 bt184.2.1 bt184.2.2).bind fun bt191 => (some (bt191.1, bt191.2.1, bt191.2.2.1, bt191.2.2.2.1, bt191.2.2.2.2.1, bt191.2.2.2.2.2.1, bt191.2.2.2.2.2.2)))))
set_option maxHeartbeats 8000000 in
set_option maxRecDepth 100000 in
theorem impl_Extend.calls (a0_0 : Bool) (A0_1 : Option Addr) (c0_1 : Nat) (l0_1 : List Int) (a0_2 : Int) (a0_3 : Bool) (A0_4 : Option Addr) (c0_4 : Nat) (l0_4 : List Int) (a0_5 : Int) (a0_6 : Bool) (a1_0 : Bool) (A1_1 : Option Addr) (c1_1 : Nat) (l1_1 : List Int) (a1_2 : Int) (a1_3 : Bool) (A1_4 : Option Addr) (c1_4 : Nat) (l1_4 : List Int) (a1_5 : Int) (a1_6 : Bool) (r1 : Bool) (r2 : List Int) (r3 : Int) (r4 : Bool) (r5 : List Int) (r6 : Int) (r7 : Bool) (w : World) (hr0_1 : Kd.C (Kd.int .u8) w A0_1 l0_1.length l0_1) (hc0_1 : l0_1.length ≤ c0_1) (hr0_4 : Kd.C (Kd.int .u8) w A0_4 l0_4.length l0_4) (hc0_4 : l0_4.length ≤ c0_4) (hr1_1 : Kd.C (Kd.int .u8) w A1_1 l1_1.length l1_1) (hc1_1 : l1_1.length ≤ c1_1) (hr1_4 : Kd.C (Kd.int .u8) w A1_4 l1_4.length l1_4) (hc1_4 : l1_4.length ≤ c1_4) (h : impl_Extend.f a0_0 l0_1 a0_2 a0_3 l0_4 a0_5 a0_6 a1_0 l1_1 a1_2 a1_3 l1_4 a1_5 a1_6 = some (r1, r2, r3, r4, r5, r6, r7)) :
    Calls Try.prog 8 #[.agg #[.bool a0_0, .slice A0_1 l0_1.length c0_1, .int .u64 a0_2, .bool a0_3, .slice A0_4 l0_4.length c0_4, .int .u64 a0_5, .bool a0_6], .agg #[.bool a1_0, .slice A1_1 l1_1.length c1_1, .int .u64 a1_2, .bool a1_3, .slice A1_4 l1_4.length c1_4, .int .u64 a1_5, .bool a1_6]] w fun e w' => ∃ v1_ v4_ : Value, e = .returned (.agg #[.bool r1, v1_, .int .u64 r3, .bool r4, v4_, .int .u64 r6, .bool r7]) ∧ Kd.R (Kd.int .u8) 5 w' w.heap.size (fun k_ => some k_ ≠ (v4_ : Value).ownBlock) v1_ r2 ∧ Kd.R (Kd.int .u8) 5 w' w.heap.size (fun k_ => some k_ ≠ (v1_ : Value).ownBlock) v4_ r5 ∧ Below w.heap.size w w' := by
  have hu27 := Try.underlying27
  have HR0_1 := Aside0.mk hr0_1
  have HC0_1 := Aside0.mk hc0_1
  clear hr0_1 hc0_1
  have HR0_4 := Aside0.mk hr0_4
  have HC0_4 := Aside0.mk hc0_4
  clear hr0_4 hc0_4
  have HR1_1 := Aside0.mk hr1_1
  have HC1_1 := Aside0.mk hc1_1
  clear hr1_1 hc1_1
  have HR1_4 := Aside0.mk hr1_4
  have HC1_4 := Aside0.mk hc1_4
  clear hr1_4 hc1_4
  have HB := Aside0.mk (Below.refl w.heap.size w)
  have H : ((impl_rangeOf.f a0_0 l0_1 a0_2 a0_3 l0_4 a0_5 a0_6).bind fun bt170 => ((impl_rangeOf.f a1_0 l1_1 a1_2 a1_3 l1_4 a1_5 a1_6).bind fun bt177 => ((badgercompact_Extend.f bt170.1 bt170.2.1 bt170.2.2 bt177.1 bt177.2.1 bt177.2.2).bind fun bt184 => ((impl_toldRange.f bt184.1 bt184.2.1 bt184.2.2).bind fun bt191 => (some (bt191.1, bt191.2.1, bt191.2.2.1, bt191.2.2.2.1, bt191.2.2.2.2.1, bt191.2.2.2.2.2.1, bt191.2.2.2.2.2.2)))))) = some (r1, r2, r3, r4, r5, r6, r7) := h
  clear h
  replace H := Option.bind_eq_some_iff.mp H
  obtain ⟨⟨t170, t173, t176⟩, A30, H⟩ := H
  replace H : ((impl_rangeOf.f a1_0 l1_1 a1_2 a1_3 l1_4 a1_5 a1_6).bind fun bt177 => ((badgercompact_Extend.f t170 t173 t176 bt177.1 bt177.2.1 bt177.2.2).bind fun bt184 => ((impl_toldRange.f bt184.1 bt184.2.1 bt184.2.2).bind fun bt191 => (some (bt191.1, bt191.2.1, bt191.2.2.1, bt191.2.2.2.1, bt191.2.2.2.2.1, bt191.2.2.2.2.2.1, bt191.2.2.2.2.2.2))))) = some (r1, r2, r3, r4, r5, r6, r7) := H
  have A3 := Aside0.mk A30
  clear A30
  replace H := Option.bind_eq_some_iff.mp H
  obtain ⟨⟨t177, t180, t183⟩, A40, H⟩ := H
  replace H : ((badgercompact_Extend.f t170 t173 t176 t177 t180 t183).bind fun bt184 => ((impl_toldRange.f bt184.1 bt184.2.1 bt184.2.2).bind fun bt191 => (some (bt191.1, bt191.2.1, bt191.2.2.1, bt191.2.2.2.1, bt191.2.2.2.2.1, bt191.2.2.2.2.2.1, bt191.2.2.2.2.2.2)))) = some (r1, r2, r3, r4, r5, r6, r7) := H
  have A4 := Aside0.mk A40
  clear A40
  replace H := Option.bind_eq_some_iff.mp H
  obtain ⟨⟨t184, t187, t190⟩, A50, H⟩ := H
  replace H : ((impl_toldRange.f t184 t187 t190).bind fun bt191 => (some (bt191.1, bt191.2.1, bt191.2.2.1, bt191.2.2.2.1, bt191.2.2.2.2.1, bt191.2.2.2.2.2.1, bt191.2.2.2.2.2.2))) = some (r1, r2, r3, r4, r5, r6, r7) := H
  have A5 := Aside0.mk A50
  clear A50
  replace H := Option.bind_eq_some_iff.mp H
  obtain ⟨⟨t191, t192, t195, t196, t197, t200, t201⟩, A60, H⟩ := H
  replace H : (some (t191, t192, t195, t196, t197, t200, t201)) = some (r1, r2, r3, r4, r5, r6, r7) := H
  have A6 := Aside0.mk A60
  clear A60
  simp only [Option.some.injEq, Prod.mk.injEq] at H
  obtain ⟨rfl, rfl, rfl, rfl, rfl, rfl, rfl⟩ := H
  go_enter Try.func8, Try.ntmps8
  try go_wp2_with (first | ((with_reducible refine gate_dst (N := 2) rfl ?_); refine box_event ?hg (N := 2) ?hd (cs := #[.bool a0_0, .slice A0_1 l0_1.length c0_1, .int .u64 a0_2, .bool a0_3, .slice A0_4 l0_4.length c0_4, .int .u64 a0_5, .bool a0_6]) (t := 27) ?hr ?_; (case hd => rfl); (case hg => rfl); (case hr => first | (go_simp; done) | (go_simp; rfl)); intro gb167 hg w7 hbox hb; have n0_ := Aside0.mk (below_step (by repeat (first | (with_reducible first | exact HB.out | apply below_alloc | apply pw_below_drewN | apply below_drew1) | exact HB.out)) hb); have n1_ := Aside0.mk (hbox); have n2_ := Aside0.mk ((by rw [hg]; exact (below_size (by repeat (first | (with_reducible first | exact HB.out | apply below_alloc | apply pw_below_drewN | apply below_drew1) | exact HB.out))) : w.heap.size ≤ gb167)); have n3_ := Aside0.mk ((by rw [hg]; exact (below_size (by repeat (first | (with_reducible first | exact HB.out | apply below_alloc | apply pw_below_drewN | apply below_drew1) | exact HB.out))) : w.heap.size ≤ gb167)); clear HB; have HB := n0_; have BK167 := n1_; have GW167 := n2_; have GE167 := n3_; clear n0_ n1_ n2_ n3_; clear hb hbox hg) | ((with_reducible refine gate_dst (N := 3) rfl ?_); refine box_event ?hg (N := 3) ?hd (cs := #[.bool a1_0, .slice A1_1 l1_1.length c1_1, .int .u64 a1_2, .bool a1_3, .slice A1_4 l1_4.length c1_4, .int .u64 a1_5, .bool a1_6]) (t := 27) ?hr ?_; (case hd => rfl); (case hg => rfl); (case hr => first | (go_simp; done) | (go_simp; rfl)); intro gb168 hg w8 hbox hb; have n0_ := Aside0.mk (blk_below (g := gb167) (o := .cells #[.bool a0_0, .slice A0_1 l0_1.length c0_1, .int .u64 a0_2, .bool a0_3, .slice A0_4 l0_4.length c0_4, .int .u64 a0_5, .bool a0_6] 27 (0, 0)) (by (with_reducible repeat (first | refine blk_drewN ?_ _ | refine blk_drew ?_ | refine blk_alloc ?_ _)); exact BK167.out) hb); have n1_ := Aside0.mk (below_step (by repeat (first | (with_reducible first | exact HB.out | apply below_alloc | apply pw_below_drewN | apply below_drew1 | refine below_set ?_ GE167.out) | exact HB.out)) hb); have n2_ := Aside0.mk (hbox); have n3_ := Aside0.mk ((by rw [hg]; exact (below_size (by repeat (first | (with_reducible first | exact HB.out | apply below_alloc | apply pw_below_drewN | apply below_drew1 | refine below_set ?_ GE167.out) | exact HB.out))) : w.heap.size ≤ gb168)); have n4_ := Aside0.mk ((by rw [hg]; exact (below_size (by repeat (first | (with_reducible first | exact HB.out | apply below_alloc | apply pw_below_drewN | apply below_drew1 | refine below_set ?_ GE167.out) | exact HB.out))) : w.heap.size ≤ gb168)); have n5_ := Aside0.mk ((by rw [hg]; exact Nat.ne_of_lt (blk_lt (g := gb167) (o := .cells #[.bool a0_0, .slice A0_1 l0_1.length c0_1, .int .u64 a0_2, .bool a0_3, .slice A0_4 l0_4.length c0_4, .int .u64 a0_5, .bool a0_6] 27 (0, 0)) (by (with_reducible repeat (first | refine blk_drewN ?_ _ | refine blk_drew ?_ | refine blk_alloc ?_ _)); exact BK167.out)) : gb167 ≠ gb168)); have n6_ := Aside0.mk ((by rw [hg]; exact Nat.ne_of_gt (blk_lt (g := gb167) (o := .cells #[.bool a0_0, .slice A0_1 l0_1.length c0_1, .int .u64 a0_2, .bool a0_3, .slice A0_4 l0_4.length c0_4, .int .u64 a0_5, .bool a0_6] 27 (0, 0)) (by (with_reducible repeat (first | refine blk_drewN ?_ _ | refine blk_drew ?_ | refine blk_alloc ?_ _)); exact BK167.out)) : gb168 ≠ gb167)); clear BK167; clear HB; have BK167 := n0_; have HB := n1_; have BK168 := n2_; have GW168 := n3_; have GE168 := n4_; have NB167_168 := n5_; have NB168_167 := n6_; clear n0_ n1_ n2_ n3_ n4_ n5_ n6_; clear hb hbox hg) | ((with_reducible refine gate_dst (N := 4) rfl ?_); refine box_event ?hg (N := 4) ?hd (cs := #[.bool false, .slice none 0 0, .int .u64 0, .bool false, .slice none 0 0, .int .u64 0, .bool false]) (t := 27) ?hr ?_; (case hd => rfl); (case hg => rfl); (case hr => first | (go_simp; done) | (go_simp; rfl)); intro gb169 hg w9 hbox hb; have n0_ := Aside0.mk (blk_below (g := gb167) (o := .cells #[.bool a0_0, .slice A0_1 l0_1.length c0_1, .int .u64 a0_2, .bool a0_3, .slice A0_4 l0_4.length c0_4, .int .u64 a0_5, .bool a0_6] 27 (0, 0)) (by (with_reducible repeat (first | refine blk_drewN ?_ _ | refine blk_drew ?_ | refine blk_alloc ?_ _)); exact BK167.out) hb); have n1_ := Aside0.mk (blk_below (g := gb168) (o := .cells #[.bool a1_0, .slice A1_1 l1_1.length c1_1, .int .u64 a1_2, .bool a1_3, .slice A1_4 l1_4.length c1_4, .int .u64 a1_5, .bool a1_6] 27 (0, 0)) (by (with_reducible repeat (first | refine blk_drewN ?_ _ | refine blk_drew ?_ | refine blk_alloc ?_ _)); exact BK168.out) hb); have n2_ := Aside0.mk (below_step (by repeat (first | (with_reducible first | exact HB.out | apply below_alloc | apply pw_below_drewN | apply below_drew1 | refine below_set ?_ GE167.out | refine below_set ?_ GE168.out) | exact HB.out)) hb); have n3_ := Aside0.mk (hbox); have n4_ := Aside0.mk ((by rw [hg]; exact (below_size (by repeat (first | (with_reducible first | exact HB.out | apply below_alloc | apply pw_below_drewN | apply below_drew1 | refine below_set ?_ GE167.out | refine below_set ?_ GE168.out) | exact HB.out))) : w.heap.size ≤ gb169)); have n5_ := Aside0.mk ((by rw [hg]; exact (below_size (by repeat (first | (with_reducible first | exact HB.out | apply below_alloc | apply pw_below_drewN | apply below_drew1 | refine below_set ?_ GE167.out | refine below_set ?_ GE168.out) | exact HB.out))) : w.heap.size ≤ gb169)); have n6_ := Aside0.mk ((by rw [hg]; exact Nat.ne_of_lt (blk_lt (g := gb167) (o := .cells #[.bool a0_0, .slice A0_1 l0_1.length c0_1, .int .u64 a0_2, .bool a0_3, .slice A0_4 l0_4.length c0_4, .int .u64 a0_5, .bool a0_6] 27 (0, 0)) (by (with_reducible repeat (first | refine blk_drewN ?_ _ | refine blk_drew ?_ | refine blk_alloc ?_ _)); exact BK167.out)) : gb167 ≠ gb169)); have n7_ := Aside0.mk ((by rw [hg]; exact Nat.ne_of_gt (blk_lt (g := gb167) (o := .cells #[.bool a0_0, .slice A0_1 l0_1.length c0_1, .int .u64 a0_2, .bool a0_3, .slice A0_4 l0_4.length c0_4, .int .u64 a0_5, .bool a0_6] 27 (0, 0)) (by (with_reducible repeat (first | refine blk_drewN ?_ _ | refine blk_drew ?_ | refine blk_alloc ?_ _)); exact BK167.out)) : gb169 ≠ gb167)); have n8_ := Aside0.mk ((by rw [hg]; exact Nat.ne_of_lt (blk_lt (g := gb168) (o := .cells #[.bool a1_0, .slice A1_1 l1_1.length c1_1, .int .u64 a1_2, .bool a1_3, .slice A1_4 l1_4.length c1_4, .int .u64 a1_5, .bool a1_6] 27 (0, 0)) (by (with_reducible repeat (first | refine blk_drewN ?_ _ | refine blk_drew ?_ | refine blk_alloc ?_ _)); exact BK168.out)) : gb168 ≠ gb169)); have n9_ := Aside0.mk ((by rw [hg]; exact Nat.ne_of_gt (blk_lt (g := gb168) (o := .cells #[.bool a1_0, .slice A1_1 l1_1.length c1_1, .int .u64 a1_2, .bool a1_3, .slice A1_4 l1_4.length c1_4, .int .u64 a1_5, .bool a1_6] 27 (0, 0)) (by (with_reducible repeat (first | refine blk_drewN ?_ _ | refine blk_drew ?_ | refine blk_alloc ?_ _)); exact BK168.out)) : gb169 ≠ gb168)); clear BK167; clear BK168; clear HB; have BK167 := n0_; have BK168 := n1_; have HB := n2_; have BK169 := n3_; have GW169 := n4_; have GE169 := n5_; have NB167_169 := n6_; have NB169_167 := n7_; have NB168_169 := n8_; have NB169_168 := n9_; clear n0_ n1_ n2_ n3_ n4_ n5_ n6_ n7_ n8_ n9_; clear hb hbox hg))
  have n0_ := Aside0.mk (blk_drew BK167.out)
  have n1_ := Aside0.mk (blk_drew BK168.out)
  have n2_ := Aside0.mk (blk_drew BK169.out)
  have n3_ := Aside0.mk (below_drew1 HB.out)
  clear BK167
  clear BK168
  clear BK169
  clear HB
  have BK167 := n0_
  have BK168 := n1_
  have BK169 := n2_
  have HB := n3_
  clear n0_ n1_ n2_ n3_
  refine start_ (n := 7) (S := fun w' => w'.cell? ⟨gb167, 0, none⟩ = some (.bool a0_0) ∧ w'.cell? ⟨gb167, 1, none⟩ = some (.slice A0_1 l0_1.length c0_1) ∧ w'.cell? ⟨gb167, 2, none⟩ = some (.int .u64 a0_2) ∧ w'.cell? ⟨gb167, 3, none⟩ = some (.bool a0_3) ∧ w'.cell? ⟨gb167, 4, none⟩ = some (.slice A0_4 l0_4.length c0_4) ∧ w'.cell? ⟨gb167, 5, none⟩ = some (.int .u64 a0_5) ∧ w'.cell? ⟨gb167, 6, none⟩ = some (.bool a0_6) ∧ w'.cell? ⟨gb168, 0, none⟩ = some (.bool a1_0) ∧ w'.cell? ⟨gb168, 1, none⟩ = some (.slice A1_1 l1_1.length c1_1) ∧ w'.cell? ⟨gb168, 2, none⟩ = some (.int .u64 a1_2) ∧ w'.cell? ⟨gb168, 3, none⟩ = some (.bool a1_3) ∧ w'.cell? ⟨gb168, 4, none⟩ = some (.slice A1_4 l1_4.length c1_4) ∧ w'.cell? ⟨gb168, 5, none⟩ = some (.int .u64 a1_5) ∧ w'.cell? ⟨gb168, 6, none⟩ = some (.bool a1_6)) (ds := []) #[false, false, false, false, false, false, false] (by kernel_rfl) rfl rfl ⟨(blk_cell BK167.out 0).trans rfl, (blk_cell BK167.out 1).trans rfl, (blk_cell BK167.out 2).trans rfl, (blk_cell BK167.out 3).trans rfl, (blk_cell BK167.out 4).trans rfl, (blk_cell BK167.out 5).trans rfl, (blk_cell BK167.out 6).trans rfl, (blk_cell BK168.out 0).trans rfl, (blk_cell BK168.out 1).trans rfl, (blk_cell BK168.out 2).trans rfl, (blk_cell BK168.out 3).trans rfl, (blk_cell BK168.out 4).trans rfl, (blk_cell BK168.out 5).trans rfl, (blk_cell BK168.out 6).trans rfl⟩ (fun hHeld => ?_)
  generalize w9.drew = w10 at BK167 BK168 BK169 HB hHeld ⊢
  refine take_ (i := 0) (N := some 5) (v := ?_) (a' := ?_) #[true, false, false, false, false, false, false] rfl rfl (by kernel_rfl) (fun _ _ _ h => h) (Or.inl ⟨by rfl, ?_⟩) hHeld ?_ ?_
  rotate_left
  · rintro w' ⟨s0, s1, s2, s3, s4, s5, s6, s7, s8, s9, s10, s11, s12, s13⟩
    go_simp
    with_reducible rfl
  rotate_left
  · simp only [Act.put, List.setIfInBounds_toArray, List.set_cons_zero, List.set_cons_succ, i64_w, i32_w]
    rfl
  refine take_ (i := 2) (N := some 7) (v := ?_) (a' := ?_) #[true, false, true, false, false, false, false] rfl rfl (by kernel_rfl) (fun _ _ _ h => h) (Or.inl ⟨by rfl, ?_⟩) hHeld ?_ ?_
  rotate_left
  · rintro w' ⟨s0, s1, s2, s3, s4, s5, s6, s7, s8, s9, s10, s11, s12, s13⟩
    go_simp
    with_reducible rfl
  rotate_left
  · simp only [Act.put, List.setIfInBounds_toArray, List.set_cons_zero, List.set_cons_succ, i64_w, i32_w]
    rfl
  refine one_ (i := 1) (N := some 6) #[true, true, true, false, false, false, false] rfl rfl (by kernel_rfl) (by decide) (fun K hK => ?_)
  refine goes_ Try.func19 (by kernel_rfl) rfl #[.agg #[.bool a0_0, .slice A0_1 l0_1.length c0_1, .int .u64 a0_2, .bool a0_3, .slice A0_4 l0_4.length c0_4, .int .u64 a0_5, .bool a0_6]] (by rfl) rfl rfl (by (try simp only [List.map_toArray, List.map_cons, List.map_nil]); first | done | rfl | (simp only [List.length_drop, List.length_take]; rfl)) ?_
  with_reducible refine (impl_rangeOf.calls a0_0 _ _ l0_1 a0_2 a0_3 _ _ l0_4 a0_5 a0_6 t170 t173 t176 _ ?side1 ?side2 ?side3 ?side4 A3.out).mono ?_
  (case side1 => repeat (first | exact (Kd.C_below HR0_1.out HB.out) | (with_reducible refine Kd.C_alloc ?_ _) | (with_reducible refine Kd.C_drewN ?_ _) | (with_reducible refine Kd.C_drew ?_)))
  (case side2 => exact HC0_1.out)
  (case side3 => repeat (first | exact (Kd.C_below HR0_4.out HB.out) | (with_reducible refine Kd.C_alloc ?_ _) | (with_reducible refine Kd.C_drewN ?_ _) | (with_reducible refine Kd.C_drew ?_)))
  (case side4 => exact HC0_4.out)
  rintro e w11 ⟨v171, v174, rfl, ho0, ho1, hb⟩
  refine ⟨_, rfl, ?_⟩
  have n0_ := Aside0.mk (Kd.R_lower ho0 (below_size (by repeat (first | (with_reducible first | exact HB.out | apply below_alloc | apply pw_below_drewN | apply below_drew1 | refine below_set ?_ GE167.out | refine below_set ?_ GE168.out | refine below_set ?_ GE169.out) | exact HB.out))))
  have n1_ := Aside0.mk (Kd.R_lower ho1 (below_size (by repeat (first | (with_reducible first | exact HB.out | apply below_alloc | apply pw_below_drewN | apply below_drew1 | refine below_set ?_ GE167.out | refine below_set ?_ GE168.out | refine below_set ?_ GE169.out) | exact HB.out))))
  have n2_ := Aside0.mk (blk_below (g := gb167) (o := .cells #[.bool a0_0, .slice A0_1 l0_1.length c0_1, .int .u64 a0_2, .bool a0_3, .slice A0_4 l0_4.length c0_4, .int .u64 a0_5, .bool a0_6] 27 (0, 0)) (by (with_reducible repeat (first | refine blk_drewN ?_ _ | refine blk_drew ?_ | refine blk_alloc ?_ _)); exact BK167.out) hb)
  have n3_ := Aside0.mk (blk_below (g := gb168) (o := .cells #[.bool a1_0, .slice A1_1 l1_1.length c1_1, .int .u64 a1_2, .bool a1_3, .slice A1_4 l1_4.length c1_4, .int .u64 a1_5, .bool a1_6] 27 (0, 0)) (by (with_reducible repeat (first | refine blk_drewN ?_ _ | refine blk_drew ?_ | refine blk_alloc ?_ _)); exact BK168.out) hb)
  have n4_ := Aside0.mk (blk_below (g := gb169) (o := .cells #[.bool false, .slice none 0 0, .int .u64 0, .bool false, .slice none 0 0, .int .u64 0, .bool false] 27 (0, 0)) (by (with_reducible repeat (first | refine blk_drewN ?_ _ | refine blk_drew ?_ | refine blk_alloc ?_ _)); exact BK169.out) hb)
  have n5_ := Aside0.mk (below_step (by repeat (first | (with_reducible first | exact HB.out | apply below_alloc | apply pw_below_drewN | apply below_drew1 | refine below_set ?_ GE167.out | refine below_set ?_ GE168.out | refine below_set ?_ GE169.out) | exact HB.out)) hb)
  clear BK167
  clear BK168
  clear BK169
  clear HB
  have HO172 := n0_
  have HO175 := n1_
  have BK167 := n2_
  have BK168 := n3_
  have BK169 := n4_
  have HB := n5_
  clear n0_ n1_ n2_ n3_ n4_ n5_
  (try clear hb)
  (try clear hb2)
  (try clear hk)
  (try clear hi)
  (try clear ho0)
  (try clear ho1)
  refine hK.out _ _ ⟨(blk_cell BK167.out 0).trans rfl, (blk_cell BK167.out 1).trans rfl, (blk_cell BK167.out 2).trans rfl, (blk_cell BK167.out 3).trans rfl, (blk_cell BK167.out 4).trans rfl, (blk_cell BK167.out 5).trans rfl, (blk_cell BK167.out 6).trans rfl, (blk_cell BK168.out 0).trans rfl, (blk_cell BK168.out 1).trans rfl, (blk_cell BK168.out 2).trans rfl, (blk_cell BK168.out 3).trans rfl, (blk_cell BK168.out 4).trans rfl, (blk_cell BK168.out 5).trans rfl, (blk_cell BK168.out 6).trans rfl⟩ (fun hHeld => ?_)
  clear hK K
  refine norm_ (a' := ?_) ?_ ?_
  rotate_left
  · show Act.put _ (some 6) _ = _
    simp only [Act.put, List.setIfInBounds_toArray, List.set_cons_zero, List.set_cons_succ, i64_w, i32_w]
    rfl
  refine one_ (i := 3) (N := some 8) #[true, true, true, true, false, false, false] rfl rfl (by kernel_rfl) (by decide) (fun K hK => ?_)
  refine goes_ Try.func19 (by kernel_rfl) rfl #[.agg #[.bool a1_0, .slice A1_1 l1_1.length c1_1, .int .u64 a1_2, .bool a1_3, .slice A1_4 l1_4.length c1_4, .int .u64 a1_5, .bool a1_6]] (by rfl) rfl rfl (by (try simp only [List.map_toArray, List.map_cons, List.map_nil]); first | done | rfl | (simp only [List.length_drop, List.length_take]; rfl)) ?_
  with_reducible refine (impl_rangeOf.calls a1_0 _ _ l1_1 a1_2 a1_3 _ _ l1_4 a1_5 a1_6 t177 t180 t183 _ ?side1 ?side2 ?side3 ?side4 A4.out).mono ?_
  (case side1 => repeat (first | exact (Kd.C_below HR1_1.out HB.out) | (with_reducible refine Kd.C_alloc ?_ _) | (with_reducible refine Kd.C_drewN ?_ _) | (with_reducible refine Kd.C_drew ?_)))
  (case side2 => exact HC1_1.out)
  (case side3 => repeat (first | exact (Kd.C_below HR1_4.out HB.out) | (with_reducible refine Kd.C_alloc ?_ _) | (with_reducible refine Kd.C_drewN ?_ _) | (with_reducible refine Kd.C_drew ?_)))
  (case side4 => exact HC1_4.out)
  rintro e w12 ⟨v178, v181, rfl, ho0, ho1, hb⟩
  refine ⟨_, rfl, ?_⟩
  have n0_ := Aside0.mk (Kd.R_mono (Kd.R_told (Kd.R_told (Kd.R_old (by (with_reducible repeat (first | apply Kd.R_alloc | apply Kd.R_drewN | apply Kd.R_drew)); exact HO172.out) hb) (Kd.R_base ho0)) (Kd.R_base ho1)) (fun _ h_ => h_.1))
  have n1_ := Aside0.mk (Kd.R_mono (Kd.R_told (Kd.R_told (Kd.R_old (by (with_reducible repeat (first | apply Kd.R_alloc | apply Kd.R_drewN | apply Kd.R_drew)); exact HO175.out) hb) (Kd.R_base ho0)) (Kd.R_base ho1)) (fun _ h_ => h_.1))
  have n2_ := Aside0.mk (Kd.R_lower (Kd.R_new' (Kd.R_new' ho0 (Kd.R_lt (by (with_reducible repeat (first | apply Kd.R_alloc | apply Kd.R_drewN | apply Kd.R_drew)); exact HO172.out))) (Kd.R_lt (by (with_reducible repeat (first | apply Kd.R_alloc | apply Kd.R_drewN | apply Kd.R_drew)); exact HO175.out))) (below_size (by repeat (first | (with_reducible first | exact HB.out | apply below_alloc | apply pw_below_drewN | apply below_drew1 | refine below_set ?_ GE167.out | refine below_set ?_ GE168.out | refine below_set ?_ GE169.out) | exact HB.out))))
  have n3_ := Aside0.mk (Kd.R_lower (Kd.R_new' (Kd.R_new' ho1 (Kd.R_lt (by (with_reducible repeat (first | apply Kd.R_alloc | apply Kd.R_drewN | apply Kd.R_drew)); exact HO172.out))) (Kd.R_lt (by (with_reducible repeat (first | apply Kd.R_alloc | apply Kd.R_drewN | apply Kd.R_drew)); exact HO175.out))) (below_size (by repeat (first | (with_reducible first | exact HB.out | apply below_alloc | apply pw_below_drewN | apply below_drew1 | refine below_set ?_ GE167.out | refine below_set ?_ GE168.out | refine below_set ?_ GE169.out) | exact HB.out))))
  have n4_ := Aside0.mk (blk_below (g := gb167) (o := .cells #[.bool a0_0, .slice A0_1 l0_1.length c0_1, .int .u64 a0_2, .bool a0_3, .slice A0_4 l0_4.length c0_4, .int .u64 a0_5, .bool a0_6] 27 (0, 0)) (by (with_reducible repeat (first | refine blk_drewN ?_ _ | refine blk_drew ?_ | refine blk_alloc ?_ _)); exact BK167.out) hb)
  have n5_ := Aside0.mk (blk_below (g := gb168) (o := .cells #[.bool a1_0, .slice A1_1 l1_1.length c1_1, .int .u64 a1_2, .bool a1_3, .slice A1_4 l1_4.length c1_4, .int .u64 a1_5, .bool a1_6] 27 (0, 0)) (by (with_reducible repeat (first | refine blk_drewN ?_ _ | refine blk_drew ?_ | refine blk_alloc ?_ _)); exact BK168.out) hb)
  have n6_ := Aside0.mk (blk_below (g := gb169) (o := .cells #[.bool false, .slice none 0 0, .int .u64 0, .bool false, .slice none 0 0, .int .u64 0, .bool false] 27 (0, 0)) (by (with_reducible repeat (first | refine blk_drewN ?_ _ | refine blk_drew ?_ | refine blk_alloc ?_ _)); exact BK169.out) hb)
  have n7_ := Aside0.mk (below_step (by repeat (first | (with_reducible first | exact HB.out | apply below_alloc | apply pw_below_drewN | apply below_drew1 | refine below_set ?_ GE167.out | refine below_set ?_ GE168.out | refine below_set ?_ GE169.out) | exact HB.out)) hb)
  clear HO172
  clear HO175
  clear BK167
  clear BK168
  clear BK169
  clear HB
  have HO172 := n0_
  have HO175 := n1_
  have HO179 := n2_
  have HO182 := n3_
  have BK167 := n4_
  have BK168 := n5_
  have BK169 := n6_
  have HB := n7_
  clear n0_ n1_ n2_ n3_ n4_ n5_ n6_ n7_
  (try clear hb)
  (try clear hb2)
  (try clear hk)
  (try clear hi)
  (try clear ho0)
  (try clear ho1)
  obtain ⟨Ao13, co13, eo13⟩ := Kd.R_slice HO172.out
  (first | subst eo13 | (injection eo13 with f1_ f2_ f3_; have f4_ := f1_.symm; have f5_ := f3_.symm; clear f1_ f2_ f3_; subst f4_; subst f5_))
  obtain ⟨Ao14, co14, eo14⟩ := Kd.R_slice HO175.out
  (first | subst eo14 | (injection eo14 with f1_ f2_ f3_; have f4_ := f1_.symm; have f5_ := f3_.symm; clear f1_ f2_ f3_; subst f4_; subst f5_))
  obtain ⟨Ao15, co15, eo15⟩ := Kd.R_slice HO179.out
  (first | subst eo15 | (injection eo15 with f1_ f2_ f3_; have f4_ := f1_.symm; have f5_ := f3_.symm; clear f1_ f2_ f3_; subst f4_; subst f5_))
  obtain ⟨Ao16, co16, eo16⟩ := Kd.R_slice HO182.out
  (first | subst eo16 | (injection eo16 with f1_ f2_ f3_; have f4_ := f1_.symm; have f5_ := f3_.symm; clear f1_ f2_ f3_; subst f4_; subst f5_))
  refine hK.out _ _ ⟨(blk_cell BK167.out 0).trans rfl, (blk_cell BK167.out 1).trans rfl, (blk_cell BK167.out 2).trans rfl, (blk_cell BK167.out 3).trans rfl, (blk_cell BK167.out 4).trans rfl, (blk_cell BK167.out 5).trans rfl, (blk_cell BK167.out 6).trans rfl, (blk_cell BK168.out 0).trans rfl, (blk_cell BK168.out 1).trans rfl, (blk_cell BK168.out 2).trans rfl, (blk_cell BK168.out 3).trans rfl, (blk_cell BK168.out 4).trans rfl, (blk_cell BK168.out 5).trans rfl, (blk_cell BK168.out 6).trans rfl⟩ (fun hHeld => ?_)
  clear hK K
  refine norm_ (a' := ?_) ?_ ?_
  rotate_left
  · show Act.put _ (some 8) _ = _
    simp only [Act.put, List.setIfInBounds_toArray, List.set_cons_zero, List.set_cons_succ, i64_w, i32_w]
    rfl
  refine one_ (i := 4) (N := some 9) #[true, true, true, true, true, false, false] rfl rfl (by kernel_rfl) (by decide) (fun K hK => ?_)
  refine goes_ Try.func18 (by kernel_rfl) rfl #[.agg #[.slice Ao13 t170.length co13, .slice Ao14 t173.length co14, .bool t176], .agg #[.slice Ao15 t177.length co15, .slice Ao16 t180.length co16, .bool t183]] (by rfl) rfl rfl (by (try simp only [List.map_toArray, List.map_cons, List.map_nil]); first | done | rfl | (simp only [List.length_drop, List.length_take]; rfl)) ?_
  with_reducible refine (badgercompact_Extend.told _ _ t170 _ _ t173 t176 _ _ t177 _ _ t180 t183 t184 t187 t190 _ ?side1 ?side2 ?side3 ?side4 ?side5 ?side6 ?side7 ?side8 A5.out).mono ?_
  (case side1 => repeat (first | exact (Kd.R_reads' HO172.out).2.2 | (with_reducible refine Kd.C_alloc ?_ _) | (with_reducible refine Kd.C_drewN ?_ _) | (with_reducible refine Kd.C_drew ?_)))
  (case side2 => exact (Kd.R_reads' HO172.out).2.1)
  (case side3 => repeat (first | exact (Kd.R_reads' HO175.out).2.2 | (with_reducible refine Kd.C_alloc ?_ _) | (with_reducible refine Kd.C_drewN ?_ _) | (with_reducible refine Kd.C_drew ?_)))
  (case side4 => exact (Kd.R_reads' HO175.out).2.1)
  (case side5 => repeat (first | exact (Kd.R_reads' HO179.out).2.2 | (with_reducible refine Kd.C_alloc ?_ _) | (with_reducible refine Kd.C_drewN ?_ _) | (with_reducible refine Kd.C_drew ?_)))
  (case side6 => exact (Kd.R_reads' HO179.out).2.1)
  (case side7 => repeat (first | exact (Kd.R_reads' HO182.out).2.2 | (with_reducible refine Kd.C_alloc ?_ _) | (with_reducible refine Kd.C_drewN ?_ _) | (with_reducible refine Kd.C_drew ?_)))
  (case side8 => exact (Kd.R_reads' HO182.out).2.1)
  rintro e w17 ⟨Ao18, co18, Ao19, co19, rfl, hx1, hx2, hx3, hx4, hb⟩
  have HX1 := Aside0.mk hx1
  have HX2 := Aside0.mk hx2
  have HX3 := Aside0.mk hx3
  have HX4 := Aside0.mk hx4
  clear hx1 hx2 hx3 hx4
  refine ⟨_, rfl, ?_⟩
  have n6_ := Aside0.mk (blk_below (g := gb167) (o := .cells #[.bool a0_0, .slice A0_1 l0_1.length c0_1, .int .u64 a0_2, .bool a0_3, .slice A0_4 l0_4.length c0_4, .int .u64 a0_5, .bool a0_6] 27 (0, 0)) (by (with_reducible repeat (first | refine blk_drewN ?_ _ | refine blk_drew ?_ | refine blk_alloc ?_ _)); exact BK167.out) hb)
  have n7_ := Aside0.mk (blk_below (g := gb168) (o := .cells #[.bool a1_0, .slice A1_1 l1_1.length c1_1, .int .u64 a1_2, .bool a1_3, .slice A1_4 l1_4.length c1_4, .int .u64 a1_5, .bool a1_6] 27 (0, 0)) (by (with_reducible repeat (first | refine blk_drewN ?_ _ | refine blk_drew ?_ | refine blk_alloc ?_ _)); exact BK168.out) hb)
  have n8_ := Aside0.mk (blk_below (g := gb169) (o := .cells #[.bool false, .slice none 0 0, .int .u64 0, .bool false, .slice none 0 0, .int .u64 0, .bool false] 27 (0, 0)) (by (with_reducible repeat (first | refine blk_drewN ?_ _ | refine blk_drew ?_ | refine blk_alloc ?_ _)); exact BK169.out) hb)
  have n9_ := Aside0.mk (below_step (by repeat (first | (with_reducible first | exact HB.out | apply below_alloc | apply pw_below_drewN | apply below_drew1 | refine below_set ?_ GE167.out | refine below_set ?_ GE168.out | refine below_set ?_ GE169.out) | exact HB.out)) hb)
  clear HO172
  clear HO175
  clear HO179
  clear HO182
  clear BK167
  clear BK168
  clear BK169
  clear HB
  have BK167 := n6_
  have BK168 := n7_
  have BK169 := n8_
  have HB := n9_
  clear n6_ n7_ n8_ n9_
  (try clear hb)
  (try clear hb2)
  (try clear hk)
  (try clear hi)
  (try clear ho0)
  (try clear ho1)
  refine hK.out _ _ ⟨(blk_cell BK167.out 0).trans rfl, (blk_cell BK167.out 1).trans rfl, (blk_cell BK167.out 2).trans rfl, (blk_cell BK167.out 3).trans rfl, (blk_cell BK167.out 4).trans rfl, (blk_cell BK167.out 5).trans rfl, (blk_cell BK167.out 6).trans rfl, (blk_cell BK168.out 0).trans rfl, (blk_cell BK168.out 1).trans rfl, (blk_cell BK168.out 2).trans rfl, (blk_cell BK168.out 3).trans rfl, (blk_cell BK168.out 4).trans rfl, (blk_cell BK168.out 5).trans rfl, (blk_cell BK168.out 6).trans rfl⟩ (fun hHeld => ?_)
  clear hK K
  refine norm_ (a' := ?_) ?_ ?_
  rotate_left
  · show Act.put _ (some 9) _ = _
    simp only [Act.put, List.setIfInBounds_toArray, List.set_cons_zero, List.set_cons_succ, i64_w, i32_w]
    rfl
  refine one_ (i := 5) (N := some 10) #[true, true, true, true, true, true, false] rfl rfl (by kernel_rfl) (by decide) (fun K hK => ?_)
  refine goes_ Try.func17 (by kernel_rfl) rfl #[.agg #[.slice Ao18 t184.length co18, .slice Ao19 t187.length co19, .bool t190]] (by rfl) rfl rfl (by (try simp only [List.map_toArray, List.map_cons, List.map_nil]); first | done | rfl | (simp only [List.length_drop, List.length_take]; rfl)) ?_
  with_reducible refine (impl_toldRange.calls _ _ t184 _ _ t187 t190 t191 t192 t195 t196 t197 t200 t201 _ ?side1 ?side2 ?side3 ?side4 A6.out).mono ?_
  (case side1 => repeat (first | exact HX3.out | (with_reducible refine Kd.C_alloc ?_ _) | (with_reducible refine Kd.C_drewN ?_ _) | (with_reducible refine Kd.C_drew ?_)))
  (case side2 => exact HX1.out)
  (case side3 => repeat (first | exact HX4.out | (with_reducible refine Kd.C_alloc ?_ _) | (with_reducible refine Kd.C_drewN ?_ _) | (with_reducible refine Kd.C_drew ?_)))
  (case side4 => exact HX2.out)
  rintro e w20 ⟨v193, v198, rfl, ho0, ho1, hb⟩
  refine ⟨_, rfl, ?_⟩
  have n6_ := Aside0.mk (Kd.R_lower ho0 (below_size (by repeat (first | (with_reducible first | exact HB.out | apply below_alloc | apply pw_below_drewN | apply below_drew1 | refine below_set ?_ GE167.out | refine below_set ?_ GE168.out | refine below_set ?_ GE169.out) | exact HB.out))))
  have n7_ := Aside0.mk (Kd.R_lower ho1 (below_size (by repeat (first | (with_reducible first | exact HB.out | apply below_alloc | apply pw_below_drewN | apply below_drew1 | refine below_set ?_ GE167.out | refine below_set ?_ GE168.out | refine below_set ?_ GE169.out) | exact HB.out))))
  have n8_ := Aside0.mk (blk_below (g := gb167) (o := .cells #[.bool a0_0, .slice A0_1 l0_1.length c0_1, .int .u64 a0_2, .bool a0_3, .slice A0_4 l0_4.length c0_4, .int .u64 a0_5, .bool a0_6] 27 (0, 0)) (by (with_reducible repeat (first | refine blk_drewN ?_ _ | refine blk_drew ?_ | refine blk_alloc ?_ _)); exact BK167.out) hb)
  have n9_ := Aside0.mk (blk_below (g := gb168) (o := .cells #[.bool a1_0, .slice A1_1 l1_1.length c1_1, .int .u64 a1_2, .bool a1_3, .slice A1_4 l1_4.length c1_4, .int .u64 a1_5, .bool a1_6] 27 (0, 0)) (by (with_reducible repeat (first | refine blk_drewN ?_ _ | refine blk_drew ?_ | refine blk_alloc ?_ _)); exact BK168.out) hb)
  have n10_ := Aside0.mk (blk_below (g := gb169) (o := .cells #[.bool false, .slice none 0 0, .int .u64 0, .bool false, .slice none 0 0, .int .u64 0, .bool false] 27 (0, 0)) (by (with_reducible repeat (first | refine blk_drewN ?_ _ | refine blk_drew ?_ | refine blk_alloc ?_ _)); exact BK169.out) hb)
  have n11_ := Aside0.mk (below_step (by repeat (first | (with_reducible first | exact HB.out | apply below_alloc | apply pw_below_drewN | apply below_drew1 | refine below_set ?_ GE167.out | refine below_set ?_ GE168.out | refine below_set ?_ GE169.out) | exact HB.out)) hb)
  clear BK167
  clear BK168
  clear BK169
  clear HB
  have HO194 := n6_
  have HO199 := n7_
  have BK167 := n8_
  have BK168 := n9_
  have BK169 := n10_
  have HB := n11_
  clear n6_ n7_ n8_ n9_ n10_ n11_
  (try clear hb)
  (try clear hb2)
  (try clear hk)
  (try clear hi)
  (try clear ho0)
  (try clear ho1)
  obtain ⟨Ao22, co22, eo22⟩ := Kd.R_slice HO194.out
  (first | subst eo22 | (injection eo22 with f1_ f2_ f3_; have f4_ := f1_.symm; have f5_ := f3_.symm; clear f1_ f2_ f3_; subst f4_; subst f5_))
  obtain ⟨Ao26, co26, eo26⟩ := Kd.R_slice HO199.out
  (first | subst eo26 | (injection eo26 with f1_ f2_ f3_; have f4_ := f1_.symm; have f5_ := f3_.symm; clear f1_ f2_ f3_; subst f4_; subst f5_))
  refine hK.out _ _ ⟨(blk_cell BK167.out 0).trans rfl, (blk_cell BK167.out 1).trans rfl, (blk_cell BK167.out 2).trans rfl, (blk_cell BK167.out 3).trans rfl, (blk_cell BK167.out 4).trans rfl, (blk_cell BK167.out 5).trans rfl, (blk_cell BK167.out 6).trans rfl, (blk_cell BK168.out 0).trans rfl, (blk_cell BK168.out 1).trans rfl, (blk_cell BK168.out 2).trans rfl, (blk_cell BK168.out 3).trans rfl, (blk_cell BK168.out 4).trans rfl, (blk_cell BK168.out 5).trans rfl, (blk_cell BK168.out 6).trans rfl⟩ (fun hHeld => ?_)
  clear hK K
  refine norm_ (a' := ?_) ?_ ?_
  rotate_left
  · show Act.put _ (some 10) _ = _
    simp only [Act.put, List.setIfInBounds_toArray, List.set_cons_zero, List.set_cons_succ, i64_w, i32_w]
    rfl
  refine one_ (i := 6) (N := none) #[true, true, true, true, true, true, true] rfl rfl (by kernel_rfl) (by decide) (fun K hK => ?_)
  have hs21 : w20.cell? ⟨gb169, 0, none⟩ = some (.bool false) := (blk_cell BK169.out 0).trans rfl
  have hfs21 := blk_frozen BK169.out 0
  have hns21_0 := NB167_169.out
  have hns21_1 := NB168_169.out
  have hms21_0 := NB169_167.out
  have hms21_1 := NB169_168.out
  have hs23 : w20.cell? ⟨gb169, 1, none⟩ = some (.slice none 0 0) := (blk_cell BK169.out 1).trans rfl
  have hfs23 := blk_frozen BK169.out 1
  have hns23_0 := NB167_169.out
  have hns23_1 := NB168_169.out
  have hms23_0 := NB169_167.out
  have hms23_1 := NB169_168.out
  have hs24 : w20.cell? ⟨gb169, 2, none⟩ = some (.int .u64 0) := (blk_cell BK169.out 2).trans rfl
  have hfs24 := blk_frozen BK169.out 2
  have hns24_0 := NB167_169.out
  have hns24_1 := NB168_169.out
  have hms24_0 := NB169_167.out
  have hms24_1 := NB169_168.out
  have hs25 : w20.cell? ⟨gb169, 3, none⟩ = some (.bool false) := (blk_cell BK169.out 3).trans rfl
  have hfs25 := blk_frozen BK169.out 3
  have hns25_0 := NB167_169.out
  have hns25_1 := NB168_169.out
  have hms25_0 := NB169_167.out
  have hms25_1 := NB169_168.out
  have hs27 : w20.cell? ⟨gb169, 4, none⟩ = some (.slice none 0 0) := (blk_cell BK169.out 4).trans rfl
  have hfs27 := blk_frozen BK169.out 4
  have hns27_0 := NB167_169.out
  have hns27_1 := NB168_169.out
  have hms27_0 := NB169_167.out
  have hms27_1 := NB169_168.out
  have hs28 : w20.cell? ⟨gb169, 5, none⟩ = some (.int .u64 0) := (blk_cell BK169.out 5).trans rfl
  have hfs28 := blk_frozen BK169.out 5
  have hns28_0 := NB167_169.out
  have hns28_1 := NB168_169.out
  have hms28_0 := NB169_167.out
  have hms28_1 := NB169_168.out
  have hs29 : w20.cell? ⟨gb169, 6, none⟩ = some (.bool false) := (blk_cell BK169.out 6).trans rfl
  have hfs29 := blk_frozen BK169.out 6
  have hns29_0 := NB167_169.out
  have hns29_1 := NB168_169.out
  have hms29_0 := NB169_167.out
  have hms29_1 := NB169_168.out
  refine skip_ (w1 := ?_) (by rfl) rfl ?_ ?_
  rotate_left
  · go_simp
    rfl
  refine hK.out _ _ ⟨((cell_far (p := ⟨gb169, _, none⟩) NB167_169.out _).trans (((cell_far (p := ⟨gb169, _, none⟩) NB167_169.out _).trans (((cell_far (p := ⟨gb169, _, none⟩) NB167_169.out _).trans (((cell_far (p := ⟨gb169, _, none⟩) NB167_169.out _).trans (((cell_far (p := ⟨gb169, _, none⟩) NB167_169.out _).trans (((cell_far (p := ⟨gb169, _, none⟩) NB167_169.out _).trans (((cell_far (p := ⟨gb169, _, none⟩) NB167_169.out _).trans (hHeld.1)))))))))))))), ((cell_far (p := ⟨gb169, _, none⟩) NB167_169.out _).trans (((cell_far (p := ⟨gb169, _, none⟩) NB167_169.out _).trans (((cell_far (p := ⟨gb169, _, none⟩) NB167_169.out _).trans (((cell_far (p := ⟨gb169, _, none⟩) NB167_169.out _).trans (((cell_far (p := ⟨gb169, _, none⟩) NB167_169.out _).trans (((cell_far (p := ⟨gb169, _, none⟩) NB167_169.out _).trans (((cell_far (p := ⟨gb169, _, none⟩) NB167_169.out _).trans (hHeld.2.1)))))))))))))), ((cell_far (p := ⟨gb169, _, none⟩) NB167_169.out _).trans (((cell_far (p := ⟨gb169, _, none⟩) NB167_169.out _).trans (((cell_far (p := ⟨gb169, _, none⟩) NB167_169.out _).trans (((cell_far (p := ⟨gb169, _, none⟩) NB167_169.out _).trans (((cell_far (p := ⟨gb169, _, none⟩) NB167_169.out _).trans (((cell_far (p := ⟨gb169, _, none⟩) NB167_169.out _).trans (((cell_far (p := ⟨gb169, _, none⟩) NB167_169.out _).trans (hHeld.2.2.1)))))))))))))), ((cell_far (p := ⟨gb169, _, none⟩) NB167_169.out _).trans (((cell_far (p := ⟨gb169, _, none⟩) NB167_169.out _).trans (((cell_far (p := ⟨gb169, _, none⟩) NB167_169.out _).trans (((cell_far (p := ⟨gb169, _, none⟩) NB167_169.out _).trans (((cell_far (p := ⟨gb169, _, none⟩) NB167_169.out _).trans (((cell_far (p := ⟨gb169, _, none⟩) NB167_169.out _).trans (((cell_far (p := ⟨gb169, _, none⟩) NB167_169.out _).trans (hHeld.2.2.2.1)))))))))))))), ((cell_far (p := ⟨gb169, _, none⟩) NB167_169.out _).trans (((cell_far (p := ⟨gb169, _, none⟩) NB167_169.out _).trans (((cell_far (p := ⟨gb169, _, none⟩) NB167_169.out _).trans (((cell_far (p := ⟨gb169, _, none⟩) NB167_169.out _).trans (((cell_far (p := ⟨gb169, _, none⟩) NB167_169.out _).trans (((cell_far (p := ⟨gb169, _, none⟩) NB167_169.out _).trans (((cell_far (p := ⟨gb169, _, none⟩) NB167_169.out _).trans (hHeld.2.2.2.2.1)))))))))))))), ((cell_far (p := ⟨gb169, _, none⟩) NB167_169.out _).trans (((cell_far (p := ⟨gb169, _, none⟩) NB167_169.out _).trans (((cell_far (p := ⟨gb169, _, none⟩) NB167_169.out _).trans (((cell_far (p := ⟨gb169, _, none⟩) NB167_169.out _).trans (((cell_far (p := ⟨gb169, _, none⟩) NB167_169.out _).trans (((cell_far (p := ⟨gb169, _, none⟩) NB167_169.out _).trans (((cell_far (p := ⟨gb169, _, none⟩) NB167_169.out _).trans (hHeld.2.2.2.2.2.1)))))))))))))), ((cell_far (p := ⟨gb169, _, none⟩) NB167_169.out _).trans (((cell_far (p := ⟨gb169, _, none⟩) NB167_169.out _).trans (((cell_far (p := ⟨gb169, _, none⟩) NB167_169.out _).trans (((cell_far (p := ⟨gb169, _, none⟩) NB167_169.out _).trans (((cell_far (p := ⟨gb169, _, none⟩) NB167_169.out _).trans (((cell_far (p := ⟨gb169, _, none⟩) NB167_169.out _).trans (((cell_far (p := ⟨gb169, _, none⟩) NB167_169.out _).trans (hHeld.2.2.2.2.2.2.1)))))))))))))), ((cell_far (p := ⟨gb169, _, none⟩) NB168_169.out _).trans (((cell_far (p := ⟨gb169, _, none⟩) NB168_169.out _).trans (((cell_far (p := ⟨gb169, _, none⟩) NB168_169.out _).trans (((cell_far (p := ⟨gb169, _, none⟩) NB168_169.out _).trans (((cell_far (p := ⟨gb169, _, none⟩) NB168_169.out _).trans (((cell_far (p := ⟨gb169, _, none⟩) NB168_169.out _).trans (((cell_far (p := ⟨gb169, _, none⟩) NB168_169.out _).trans (hHeld.2.2.2.2.2.2.2.1)))))))))))))), ((cell_far (p := ⟨gb169, _, none⟩) NB168_169.out _).trans (((cell_far (p := ⟨gb169, _, none⟩) NB168_169.out _).trans (((cell_far (p := ⟨gb169, _, none⟩) NB168_169.out _).trans (((cell_far (p := ⟨gb169, _, none⟩) NB168_169.out _).trans (((cell_far (p := ⟨gb169, _, none⟩) NB168_169.out _).trans (((cell_far (p := ⟨gb169, _, none⟩) NB168_169.out _).trans (((cell_far (p := ⟨gb169, _, none⟩) NB168_169.out _).trans (hHeld.2.2.2.2.2.2.2.2.1)))))))))))))), ((cell_far (p := ⟨gb169, _, none⟩) NB168_169.out _).trans (((cell_far (p := ⟨gb169, _, none⟩) NB168_169.out _).trans (((cell_far (p := ⟨gb169, _, none⟩) NB168_169.out _).trans (((cell_far (p := ⟨gb169, _, none⟩) NB168_169.out _).trans (((cell_far (p := ⟨gb169, _, none⟩) NB168_169.out _).trans (((cell_far (p := ⟨gb169, _, none⟩) NB168_169.out _).trans (((cell_far (p := ⟨gb169, _, none⟩) NB168_169.out _).trans (hHeld.2.2.2.2.2.2.2.2.2.1)))))))))))))), ((cell_far (p := ⟨gb169, _, none⟩) NB168_169.out _).trans (((cell_far (p := ⟨gb169, _, none⟩) NB168_169.out _).trans (((cell_far (p := ⟨gb169, _, none⟩) NB168_169.out _).trans (((cell_far (p := ⟨gb169, _, none⟩) NB168_169.out _).trans (((cell_far (p := ⟨gb169, _, none⟩) NB168_169.out _).trans (((cell_far (p := ⟨gb169, _, none⟩) NB168_169.out _).trans (((cell_far (p := ⟨gb169, _, none⟩) NB168_169.out _).trans (hHeld.2.2.2.2.2.2.2.2.2.2.1)))))))))))))), ((cell_far (p := ⟨gb169, _, none⟩) NB168_169.out _).trans (((cell_far (p := ⟨gb169, _, none⟩) NB168_169.out _).trans (((cell_far (p := ⟨gb169, _, none⟩) NB168_169.out _).trans (((cell_far (p := ⟨gb169, _, none⟩) NB168_169.out _).trans (((cell_far (p := ⟨gb169, _, none⟩) NB168_169.out _).trans (((cell_far (p := ⟨gb169, _, none⟩) NB168_169.out _).trans (((cell_far (p := ⟨gb169, _, none⟩) NB168_169.out _).trans (hHeld.2.2.2.2.2.2.2.2.2.2.2.1)))))))))))))), ((cell_far (p := ⟨gb169, _, none⟩) NB168_169.out _).trans (((cell_far (p := ⟨gb169, _, none⟩) NB168_169.out _).trans (((cell_far (p := ⟨gb169, _, none⟩) NB168_169.out _).trans (((cell_far (p := ⟨gb169, _, none⟩) NB168_169.out _).trans (((cell_far (p := ⟨gb169, _, none⟩) NB168_169.out _).trans (((cell_far (p := ⟨gb169, _, none⟩) NB168_169.out _).trans (((cell_far (p := ⟨gb169, _, none⟩) NB168_169.out _).trans (hHeld.2.2.2.2.2.2.2.2.2.2.2.2.1)))))))))))))), ((cell_far (p := ⟨gb169, _, none⟩) NB168_169.out _).trans (((cell_far (p := ⟨gb169, _, none⟩) NB168_169.out _).trans (((cell_far (p := ⟨gb169, _, none⟩) NB168_169.out _).trans (((cell_far (p := ⟨gb169, _, none⟩) NB168_169.out _).trans (((cell_far (p := ⟨gb169, _, none⟩) NB168_169.out _).trans (((cell_far (p := ⟨gb169, _, none⟩) NB168_169.out _).trans (((cell_far (p := ⟨gb169, _, none⟩) NB168_169.out _).trans (hHeld.2.2.2.2.2.2.2.2.2.2.2.2.2))))))))))))))⟩ (fun hHeld => ?_)
  clear hK K
  refine done_ (by kernel_rfl) ?_
  try go_wp2
  refine bodyPost_ret (results_cell_row rfl _ _ gb169 27 #[.bool t191, .slice Ao22 t192.length co22, .int .u64 t195, .bool t196, .slice Ao26 t197.length co26, .int .u64 t200, .bool t201] (0, 0) _ rfl (by (with_reducible repeat (first | refine blk_drewN ?_ _ | refine blk_drew ?_ | refine blk_alloc ?_ _)); refine blk_put (cs := #[.bool t191, .slice Ao22 t192.length co22, .int .u64 t195, .bool t196, .slice Ao26 t197.length co26, .int .u64 t200, .bool false]) ?_ 6 _ rfl; (with_reducible repeat (first | refine blk_drewN ?_ _ | refine blk_drew ?_ | refine blk_alloc ?_ _)); refine blk_put (cs := #[.bool t191, .slice Ao22 t192.length co22, .int .u64 t195, .bool t196, .slice Ao26 t197.length co26, .int .u64 0, .bool false]) ?_ 5 _ rfl; (with_reducible repeat (first | refine blk_drewN ?_ _ | refine blk_drew ?_ | refine blk_alloc ?_ _)); refine blk_put (cs := #[.bool t191, .slice Ao22 t192.length co22, .int .u64 t195, .bool t196, .slice none 0 0, .int .u64 0, .bool false]) ?_ 4 _ rfl; (with_reducible repeat (first | refine blk_drewN ?_ _ | refine blk_drew ?_ | refine blk_alloc ?_ _)); refine blk_put (cs := #[.bool t191, .slice Ao22 t192.length co22, .int .u64 t195, .bool false, .slice none 0 0, .int .u64 0, .bool false]) ?_ 3 _ rfl; (with_reducible repeat (first | refine blk_drewN ?_ _ | refine blk_drew ?_ | refine blk_alloc ?_ _)); refine blk_put (cs := #[.bool t191, .slice Ao22 t192.length co22, .int .u64 0, .bool false, .slice none 0 0, .int .u64 0, .bool false]) ?_ 2 _ rfl; (with_reducible repeat (first | refine blk_drewN ?_ _ | refine blk_drew ?_ | refine blk_alloc ?_ _)); refine blk_put (cs := #[.bool t191, .slice none 0 0, .int .u64 0, .bool false, .slice none 0 0, .int .u64 0, .bool false]) ?_ 1 _ rfl; (with_reducible repeat (first | refine blk_drewN ?_ _ | refine blk_drew ?_ | refine blk_alloc ?_ _)); refine blk_put (cs := #[.bool false, .slice none 0 0, .int .u64 0, .bool false, .slice none 0 0, .int .u64 0, .bool false]) ?_ 0 _ rfl; (with_reducible repeat (first | refine blk_drewN ?_ _ | refine blk_drew ?_ | refine blk_alloc ?_ _)); exact BK169.out) Try.underlying27 rfl (by kernel_rfl)) rfl ?_
  exact ⟨_, _, by first | rfl | (simp [errW_none, errW_some] <;> rfl) | (simp [*, errW_none, errW_some] <;> rfl), by (with_reducible repeat (first | apply Kd.R_alloc | apply Kd.R_drewN | apply Kd.R_drew)); exact Kd.R_mono (Kd.R_far (p := ⟨gb169, 6, none⟩) (Kd.R_far (p := ⟨gb169, 5, none⟩) (Kd.R_far (p := ⟨gb169, 4, none⟩) (Kd.R_far (p := ⟨gb169, 3, none⟩) (Kd.R_far (p := ⟨gb169, 2, none⟩) (Kd.R_far (p := ⟨gb169, 1, none⟩) (Kd.R_far (p := ⟨gb169, 0, none⟩) (Kd.R_types HO194.out BK169.out (by decide)) (fun _ hk => hk.2) (.bool t191)) (fun _ hk => hk.2) (.slice Ao22 t192.length co22)) (fun _ hk => hk.2) (.int .u64 t195)) (fun _ hk => hk.2) (.bool t196)) (fun _ hk => hk.2) (.slice Ao26 t197.length co26)) (fun _ hk => hk.2) (.int .u64 t200)) (fun _ hk => hk.2) (.bool t201)) (fun _ hk => hk.1), by (with_reducible repeat (first | apply Kd.R_alloc | apply Kd.R_drewN | apply Kd.R_drew)); exact Kd.R_mono (Kd.R_far (p := ⟨gb169, 6, none⟩) (Kd.R_far (p := ⟨gb169, 5, none⟩) (Kd.R_far (p := ⟨gb169, 4, none⟩) (Kd.R_far (p := ⟨gb169, 3, none⟩) (Kd.R_far (p := ⟨gb169, 2, none⟩) (Kd.R_far (p := ⟨gb169, 1, none⟩) (Kd.R_far (p := ⟨gb169, 0, none⟩) (Kd.R_types HO199.out BK169.out (by decide)) (fun _ hk => hk.2) (.bool t191)) (fun _ hk => hk.2) (.slice Ao22 t192.length co22)) (fun _ hk => hk.2) (.int .u64 t195)) (fun _ hk => hk.2) (.bool t196)) (fun _ hk => hk.2) (.slice Ao26 t197.length co26)) (fun _ hk => hk.2) (.int .u64 t200)) (fun _ hk => hk.2) (.bool t201)) (fun _ hk => hk.1), by repeat (first | (with_reducible first | exact HB.out | apply below_alloc | apply pw_below_drewN | apply below_drew1 | refine below_set ?_ GE167.out | refine below_set ?_ GE168.out | refine below_set ?_ GE169.out) | exact HB.out)⟩

/-! ### spec_SameBound: function 9 -/
def spec_SameBound.f (a0_0 : Bool) (l0_1 : List Int) (a0_2 : Int) (a1_0 : Bool) (l1_1 : List Int) (a1_2 : Int) : Option (Bool) := if (a0_0 == a1_0) = true then (if a0_0 = true then ((spec_OrderBounds.f a0_0 l0_1 a0_2 a1_0 l1_1 a1_2).bind fun t204 => (some (t204 == 0))) else (some true)) else (some false)
set_option maxHeartbeats 8000000 in
set_option maxRecDepth 100000 in
theorem spec_SameBound.calls (a0_0 : Bool) (A0_1 : Option Addr) (c0_1 : Nat) (l0_1 : List Int) (a0_2 : Int) (a1_0 : Bool) (A1_1 : Option Addr) (c1_1 : Nat) (l1_1 : List Int) (a1_2 : Int) (r : Bool) (w : World) (hr0_1 : Kd.C (Kd.int .u8) w A0_1 l0_1.length l0_1) (hc0_1 : l0_1.length ≤ c0_1) (hr1_1 : Kd.C (Kd.int .u8) w A1_1 l1_1.length l1_1) (hc1_1 : l1_1.length ≤ c1_1) (h : spec_SameBound.f a0_0 l0_1 a0_2 a1_0 l1_1 a1_2 = some r) :
    Calls Try.prog 9 #[.agg #[.bool a0_0, .slice A0_1 l0_1.length c0_1, .int .u64 a0_2], .agg #[.bool a1_0, .slice A1_1 l1_1.length c1_1, .int .u64 a1_2]] w fun e w' => e = .returned (.bool r) ∧ Below w.heap.size w w' := by
  have hu25 := Try.underlying25
  have HR0_1 := Aside0.mk hr0_1
  have HC0_1 := Aside0.mk hc0_1
  clear hr0_1 hc0_1
  have HR1_1 := Aside0.mk hr1_1
  have HC1_1 := Aside0.mk hc1_1
  clear hr1_1 hc1_1
  have HB := Aside0.mk (Below.refl w.heap.size w)
  have H : (if (a0_0 == a1_0) = true then (if a0_0 = true then ((spec_OrderBounds.f a0_0 l0_1 a0_2 a1_0 l1_1 a1_2).bind fun t204 => (some (t204 == 0))) else (some true)) else (some false)) = some r := h
  clear h
  by_cases c3 : (a0_0 == a1_0) = true
  · rw [if_pos c3] at H
    have c3b0 : (a0_0 == a1_0) = true := c3
    (try (have c3b1 : decide (a0_0 = a1_0) = true := by simpa using c3))
    (try (have c3b2 : (a0_0 == a1_0) = true := by simpa using c3))
    clear c3
    by_cases c4 : a0_0 = true
    · subst c4
      have H1 : ((spec_OrderBounds.f true l0_1 a0_2 a1_0 l1_1 a1_2).bind fun t204 => (some (t204 == 0))) = some r := by rw [if_pos rfl] at H; exact H
      clear H
      have H := H1
      clear H1
      replace H := Option.bind_eq_some_iff.mp H
      obtain ⟨t204, A50, H⟩ := H
      replace H : (some (t204 == 0)) = some r := H
      have A5 := Aside0.mk A50
      clear A50
      obtain rfl := Option.some.inj H
      go_enter Try.func9, Try.ntmps9
      go_wp2_with (first | ((with_reducible refine gate_dst (N := 2) rfl ?_); refine box_event ?hg (N := 2) ?hd (cs := #[.bool true, .slice A0_1 l0_1.length c0_1, .int .u64 a0_2]) (t := 25) ?hr ?_; (case hd => rfl); (case hg => rfl); (case hr => first | (go_simp; done) | (go_simp; rfl)); intro gb202 hg w6 hbox hb; have n0_ := Aside0.mk (below_step (by repeat (first | (with_reducible first | exact HB.out | apply below_alloc | apply pw_below_drewN | apply below_drew1) | exact HB.out)) hb); have n1_ := Aside0.mk (hbox); have n2_ := Aside0.mk ((by rw [hg]; exact (below_size (by repeat (first | (with_reducible first | exact HB.out | apply below_alloc | apply pw_below_drewN | apply below_drew1) | exact HB.out))) : w.heap.size ≤ gb202)); have n3_ := Aside0.mk ((by rw [hg]; exact (below_size (by repeat (first | (with_reducible first | exact HB.out | apply below_alloc | apply pw_below_drewN | apply below_drew1) | exact HB.out))) : w.heap.size ≤ gb202)); clear HB; have HB := n0_; have BK202 := n1_; have GW202 := n2_; have GE202 := n3_; clear n0_ n1_ n2_ n3_; clear hb hbox hg) | ((with_reducible refine gate_dst (N := 3) rfl ?_); refine box_event ?hg (N := 3) ?hd (cs := #[.bool a1_0, .slice A1_1 l1_1.length c1_1, .int .u64 a1_2]) (t := 25) ?hr ?_; (case hd => rfl); (case hg => rfl); (case hr => first | (go_simp; done) | (go_simp; rfl)); intro gb203 hg w7 hbox hb; have n0_ := Aside0.mk (blk_below (g := gb202) (o := .cells #[.bool true, .slice A0_1 l0_1.length c0_1, .int .u64 a0_2] 25 (0, 0)) (by (with_reducible repeat (first | refine blk_drewN ?_ _ | refine blk_drew ?_ | refine blk_alloc ?_ _)); exact BK202.out) hb); have n1_ := Aside0.mk (below_step (by repeat (first | (with_reducible first | exact HB.out | apply below_alloc | apply pw_below_drewN | apply below_drew1 | refine below_set ?_ GE202.out) | exact HB.out)) hb); have n2_ := Aside0.mk (hbox); have n3_ := Aside0.mk ((by rw [hg]; exact (below_size (by repeat (first | (with_reducible first | exact HB.out | apply below_alloc | apply pw_below_drewN | apply below_drew1 | refine below_set ?_ GE202.out) | exact HB.out))) : w.heap.size ≤ gb203)); have n4_ := Aside0.mk ((by rw [hg]; exact (below_size (by repeat (first | (with_reducible first | exact HB.out | apply below_alloc | apply pw_below_drewN | apply below_drew1 | refine below_set ?_ GE202.out) | exact HB.out))) : w.heap.size ≤ gb203)); have n5_ := Aside0.mk ((by rw [hg]; exact Nat.ne_of_lt (blk_lt (g := gb202) (o := .cells #[.bool true, .slice A0_1 l0_1.length c0_1, .int .u64 a0_2] 25 (0, 0)) (by (with_reducible repeat (first | refine blk_drewN ?_ _ | refine blk_drew ?_ | refine blk_alloc ?_ _)); exact BK202.out)) : gb202 ≠ gb203)); have n6_ := Aside0.mk ((by rw [hg]; exact Nat.ne_of_gt (blk_lt (g := gb202) (o := .cells #[.bool true, .slice A0_1 l0_1.length c0_1, .int .u64 a0_2] 25 (0, 0)) (by (with_reducible repeat (first | refine blk_drewN ?_ _ | refine blk_drew ?_ | refine blk_alloc ?_ _)); exact BK202.out)) : gb203 ≠ gb202)); clear BK202; clear HB; have BK202 := n0_; have HB := n1_; have BK203 := n2_; have GW203 := n3_; have GE203 := n4_; have NB202_203 := n5_; have NB203_202 := n6_; clear n0_ n1_ n2_ n3_ n4_ n5_ n6_; clear hb hbox hg; have hnb8 := NB202_203.out; have hnc8 := NB203_202.out; have hcz9_0 : w7.cell? ⟨gb202, 0, none⟩ = some (.bool true) := (blk_cell BK202.out 0).trans rfl; have hcz9_1 : w7.cell? ⟨gb202, 1, none⟩ = some (.slice A0_1 l0_1.length c0_1) := (blk_cell BK202.out 1).trans rfl; have hcz9_2 : w7.cell? ⟨gb202, 2, none⟩ = some (.int .u64 a0_2) := (blk_cell BK202.out 2).trans rfl; have hfz9_0 := blk_frozen BK202.out 0; have hfz9_1 := blk_frozen BK202.out 1; have hfz9_2 := blk_frozen BK202.out 2; have hcz10_0 : w7.cell? ⟨gb203, 0, none⟩ = some (.bool a1_0) := (blk_cell BK203.out 0).trans rfl; have hcz10_1 : w7.cell? ⟨gb203, 1, none⟩ = some (.slice A1_1 l1_1.length c1_1) := (blk_cell BK203.out 1).trans rfl; have hcz10_2 : w7.cell? ⟨gb203, 2, none⟩ = some (.int .u64 a1_2) := (blk_cell BK203.out 2).trans rfl; have hfz10_0 := blk_frozen BK203.out 0; have hfz10_1 := blk_frozen BK203.out 1; have hfz10_2 := blk_frozen BK203.out 2) | (go_at_call 7; (with_reducible refine (spec_OrderBounds.calls true _ _ l0_1 a0_2 a1_0 _ _ l1_1 a1_2 t204 _ ?side1 ?side2 ?side3 ?side4 A5.out).mono ?_); (case side1 => repeat (first | exact (Kd.C_below HR0_1.out HB.out) | (with_reducible refine Kd.C_alloc ?_ _) | (with_reducible refine Kd.C_drewN ?_ _) | (with_reducible refine Kd.C_drew ?_))); (case side2 => exact HC0_1.out); (case side3 => repeat (first | exact (Kd.C_below HR1_1.out HB.out) | (with_reducible refine Kd.C_alloc ?_ _) | (with_reducible refine Kd.C_drewN ?_ _) | (with_reducible refine Kd.C_drew ?_))); (case side4 => exact HC1_1.out); rintro e w11 ⟨rfl, hb⟩; have n0_ := Aside0.mk (blk_below (g := gb202) (o := .cells #[.bool true, .slice A0_1 l0_1.length c0_1, .int .u64 a0_2] 25 (0, 0)) (by (with_reducible repeat (first | refine blk_drewN ?_ _ | refine blk_drew ?_ | refine blk_alloc ?_ _)); exact BK202.out) hb); have n1_ := Aside0.mk (blk_below (g := gb203) (o := .cells #[.bool a1_0, .slice A1_1 l1_1.length c1_1, .int .u64 a1_2] 25 (0, 0)) (by (with_reducible repeat (first | refine blk_drewN ?_ _ | refine blk_drew ?_ | refine blk_alloc ?_ _)); exact BK203.out) hb); have n2_ := Aside0.mk (below_step (by repeat (first | (with_reducible first | exact HB.out | apply below_alloc | apply pw_below_drewN | apply below_drew1 | refine below_set ?_ GE202.out | refine below_set ?_ GE203.out) | exact HB.out)) hb); clear BK202; clear BK203; clear HB; have BK202 := n0_; have BK203 := n1_; have HB := n2_; clear n0_ n1_ n2_; (try clear hb); (try clear hb2); (try clear hk); (try clear hi)))
      go_ret
      exact ⟨by first | rfl | (simp [errW_none, errW_some] <;> rfl) | (simp [*, errW_none, errW_some] <;> rfl), by repeat (first | (with_reducible first | exact HB.out | apply below_alloc | apply pw_below_drewN | apply below_drew1 | refine below_set ?_ GE202.out | refine below_set ?_ GE203.out) | exact HB.out)⟩
    · replace c4 := Bool.eq_false_iff.mpr c4
      subst c4
      have H1 : (some true) = some r := by rw [if_neg (show ¬ (false = true) by decide)] at H; exact H
      clear H
      have H := H1
      clear H1
      obtain rfl := Option.some.inj H
      go_enter Try.func9, Try.ntmps9
      go_wp2_with (first | ((with_reducible refine gate_dst (N := 2) rfl ?_); refine box_event ?hg (N := 2) ?hd (cs := #[.bool false, .slice A0_1 l0_1.length c0_1, .int .u64 a0_2]) (t := 25) ?hr ?_; (case hd => rfl); (case hg => rfl); (case hr => first | (go_simp; done) | (go_simp; rfl)); intro gb202 hg w12 hbox hb; have n0_ := Aside0.mk (below_step (by repeat (first | (with_reducible first | exact HB.out | apply below_alloc | apply pw_below_drewN | apply below_drew1) | exact HB.out)) hb); have n1_ := Aside0.mk (hbox); have n2_ := Aside0.mk ((by rw [hg]; exact (below_size (by repeat (first | (with_reducible first | exact HB.out | apply below_alloc | apply pw_below_drewN | apply below_drew1) | exact HB.out))) : w.heap.size ≤ gb202)); have n3_ := Aside0.mk ((by rw [hg]; exact (below_size (by repeat (first | (with_reducible first | exact HB.out | apply below_alloc | apply pw_below_drewN | apply below_drew1) | exact HB.out))) : w.heap.size ≤ gb202)); clear HB; have HB := n0_; have BK202 := n1_; have GW202 := n2_; have GE202 := n3_; clear n0_ n1_ n2_ n3_; clear hb hbox hg) | ((with_reducible refine gate_dst (N := 3) rfl ?_); refine box_event ?hg (N := 3) ?hd (cs := #[.bool a1_0, .slice A1_1 l1_1.length c1_1, .int .u64 a1_2]) (t := 25) ?hr ?_; (case hd => rfl); (case hg => rfl); (case hr => first | (go_simp; done) | (go_simp; rfl)); intro gb203 hg w13 hbox hb; have n0_ := Aside0.mk (blk_below (g := gb202) (o := .cells #[.bool false, .slice A0_1 l0_1.length c0_1, .int .u64 a0_2] 25 (0, 0)) (by (with_reducible repeat (first | refine blk_drewN ?_ _ | refine blk_drew ?_ | refine blk_alloc ?_ _)); exact BK202.out) hb); have n1_ := Aside0.mk (below_step (by repeat (first | (with_reducible first | exact HB.out | apply below_alloc | apply pw_below_drewN | apply below_drew1 | refine below_set ?_ GE202.out) | exact HB.out)) hb); have n2_ := Aside0.mk (hbox); have n3_ := Aside0.mk ((by rw [hg]; exact (below_size (by repeat (first | (with_reducible first | exact HB.out | apply below_alloc | apply pw_below_drewN | apply below_drew1 | refine below_set ?_ GE202.out) | exact HB.out))) : w.heap.size ≤ gb203)); have n4_ := Aside0.mk ((by rw [hg]; exact (below_size (by repeat (first | (with_reducible first | exact HB.out | apply below_alloc | apply pw_below_drewN | apply below_drew1 | refine below_set ?_ GE202.out) | exact HB.out))) : w.heap.size ≤ gb203)); have n5_ := Aside0.mk ((by rw [hg]; exact Nat.ne_of_lt (blk_lt (g := gb202) (o := .cells #[.bool false, .slice A0_1 l0_1.length c0_1, .int .u64 a0_2] 25 (0, 0)) (by (with_reducible repeat (first | refine blk_drewN ?_ _ | refine blk_drew ?_ | refine blk_alloc ?_ _)); exact BK202.out)) : gb202 ≠ gb203)); have n6_ := Aside0.mk ((by rw [hg]; exact Nat.ne_of_gt (blk_lt (g := gb202) (o := .cells #[.bool false, .slice A0_1 l0_1.length c0_1, .int .u64 a0_2] 25 (0, 0)) (by (with_reducible repeat (first | refine blk_drewN ?_ _ | refine blk_drew ?_ | refine blk_alloc ?_ _)); exact BK202.out)) : gb203 ≠ gb202)); clear BK202; clear HB; have BK202 := n0_; have HB := n1_; have BK203 := n2_; have GW203 := n3_; have GE203 := n4_; have NB202_203 := n5_; have NB203_202 := n6_; clear n0_ n1_ n2_ n3_ n4_ n5_ n6_; clear hb hbox hg; have hnb14 := NB202_203.out; have hnc14 := NB203_202.out; have hcz15_0 : w13.cell? ⟨gb202, 0, none⟩ = some (.bool false) := (blk_cell BK202.out 0).trans rfl; have hcz15_1 : w13.cell? ⟨gb202, 1, none⟩ = some (.slice A0_1 l0_1.length c0_1) := (blk_cell BK202.out 1).trans rfl; have hcz15_2 : w13.cell? ⟨gb202, 2, none⟩ = some (.int .u64 a0_2) := (blk_cell BK202.out 2).trans rfl; have hfz15_0 := blk_frozen BK202.out 0; have hfz15_1 := blk_frozen BK202.out 1; have hfz15_2 := blk_frozen BK202.out 2; have hcz16_0 : w13.cell? ⟨gb203, 0, none⟩ = some (.bool a1_0) := (blk_cell BK203.out 0).trans rfl; have hcz16_1 : w13.cell? ⟨gb203, 1, none⟩ = some (.slice A1_1 l1_1.length c1_1) := (blk_cell BK203.out 1).trans rfl; have hcz16_2 : w13.cell? ⟨gb203, 2, none⟩ = some (.int .u64 a1_2) := (blk_cell BK203.out 2).trans rfl; have hfz16_0 := blk_frozen BK203.out 0; have hfz16_1 := blk_frozen BK203.out 1; have hfz16_2 := blk_frozen BK203.out 2))
      go_ret
      exact ⟨by first | rfl | (simp [errW_none, errW_some] <;> rfl) | (simp [*, errW_none, errW_some] <;> rfl), by repeat (first | (with_reducible first | exact HB.out | apply below_alloc | apply pw_below_drewN | apply below_drew1 | refine below_set ?_ GE202.out | refine below_set ?_ GE203.out) | exact HB.out)⟩
  · rw [if_neg c3] at H
    have c3b0 : (a0_0 == a1_0) = false := by simpa using c3
    (try (have c3b1 : decide (a0_0 = a1_0) = false := by simpa using c3))
    (try (have c3b2 : (a0_0 == a1_0) = false := by simpa using c3))
    (try (have c3b3 : ¬ (a0_0 = a1_0) := by simpa using c3))
    clear c3
    obtain rfl := Option.some.inj H
    go_enter Try.func9, Try.ntmps9
    go_wp2_with (first | ((with_reducible refine gate_dst (N := 2) rfl ?_); refine box_event ?hg (N := 2) ?hd (cs := #[.bool a0_0, .slice A0_1 l0_1.length c0_1, .int .u64 a0_2]) (t := 25) ?hr ?_; (case hd => rfl); (case hg => rfl); (case hr => first | (go_simp; done) | (go_simp; rfl)); intro gb202 hg w17 hbox hb; have n0_ := Aside0.mk (below_step (by repeat (first | (with_reducible first | exact HB.out | apply below_alloc | apply pw_below_drewN | apply below_drew1) | exact HB.out)) hb); have n1_ := Aside0.mk (hbox); have n2_ := Aside0.mk ((by rw [hg]; exact (below_size (by repeat (first | (with_reducible first | exact HB.out | apply below_alloc | apply pw_below_drewN | apply below_drew1) | exact HB.out))) : w.heap.size ≤ gb202)); have n3_ := Aside0.mk ((by rw [hg]; exact (below_size (by repeat (first | (with_reducible first | exact HB.out | apply below_alloc | apply pw_below_drewN | apply below_drew1) | exact HB.out))) : w.heap.size ≤ gb202)); clear HB; have HB := n0_; have BK202 := n1_; have GW202 := n2_; have GE202 := n3_; clear n0_ n1_ n2_ n3_; clear hb hbox hg) | ((with_reducible refine gate_dst (N := 3) rfl ?_); refine box_event ?hg (N := 3) ?hd (cs := #[.bool a1_0, .slice A1_1 l1_1.length c1_1, .int .u64 a1_2]) (t := 25) ?hr ?_; (case hd => rfl); (case hg => rfl); (case hr => first | (go_simp; done) | (go_simp; rfl)); intro gb203 hg w18 hbox hb; have n0_ := Aside0.mk (blk_below (g := gb202) (o := .cells #[.bool a0_0, .slice A0_1 l0_1.length c0_1, .int .u64 a0_2] 25 (0, 0)) (by (with_reducible repeat (first | refine blk_drewN ?_ _ | refine blk_drew ?_ | refine blk_alloc ?_ _)); exact BK202.out) hb); have n1_ := Aside0.mk (below_step (by repeat (first | (with_reducible first | exact HB.out | apply below_alloc | apply pw_below_drewN | apply below_drew1 | refine below_set ?_ GE202.out) | exact HB.out)) hb); have n2_ := Aside0.mk (hbox); have n3_ := Aside0.mk ((by rw [hg]; exact (below_size (by repeat (first | (with_reducible first | exact HB.out | apply below_alloc | apply pw_below_drewN | apply below_drew1 | refine below_set ?_ GE202.out) | exact HB.out))) : w.heap.size ≤ gb203)); have n4_ := Aside0.mk ((by rw [hg]; exact (below_size (by repeat (first | (with_reducible first | exact HB.out | apply below_alloc | apply pw_below_drewN | apply below_drew1 | refine below_set ?_ GE202.out) | exact HB.out))) : w.heap.size ≤ gb203)); have n5_ := Aside0.mk ((by rw [hg]; exact Nat.ne_of_lt (blk_lt (g := gb202) (o := .cells #[.bool a0_0, .slice A0_1 l0_1.length c0_1, .int .u64 a0_2] 25 (0, 0)) (by (with_reducible repeat (first | refine blk_drewN ?_ _ | refine blk_drew ?_ | refine blk_alloc ?_ _)); exact BK202.out)) : gb202 ≠ gb203)); have n6_ := Aside0.mk ((by rw [hg]; exact Nat.ne_of_gt (blk_lt (g := gb202) (o := .cells #[.bool a0_0, .slice A0_1 l0_1.length c0_1, .int .u64 a0_2] 25 (0, 0)) (by (with_reducible repeat (first | refine blk_drewN ?_ _ | refine blk_drew ?_ | refine blk_alloc ?_ _)); exact BK202.out)) : gb203 ≠ gb202)); clear BK202; clear HB; have BK202 := n0_; have HB := n1_; have BK203 := n2_; have GW203 := n3_; have GE203 := n4_; have NB202_203 := n5_; have NB203_202 := n6_; clear n0_ n1_ n2_ n3_ n4_ n5_ n6_; clear hb hbox hg; have hnb19 := NB202_203.out; have hnc19 := NB203_202.out; have hcz20_0 : w18.cell? ⟨gb202, 0, none⟩ = some (.bool a0_0) := (blk_cell BK202.out 0).trans rfl; have hcz20_1 : w18.cell? ⟨gb202, 1, none⟩ = some (.slice A0_1 l0_1.length c0_1) := (blk_cell BK202.out 1).trans rfl; have hcz20_2 : w18.cell? ⟨gb202, 2, none⟩ = some (.int .u64 a0_2) := (blk_cell BK202.out 2).trans rfl; have hfz20_0 := blk_frozen BK202.out 0; have hfz20_1 := blk_frozen BK202.out 1; have hfz20_2 := blk_frozen BK202.out 2; have hcz21_0 : w18.cell? ⟨gb203, 0, none⟩ = some (.bool a1_0) := (blk_cell BK203.out 0).trans rfl; have hcz21_1 : w18.cell? ⟨gb203, 1, none⟩ = some (.slice A1_1 l1_1.length c1_1) := (blk_cell BK203.out 1).trans rfl; have hcz21_2 : w18.cell? ⟨gb203, 2, none⟩ = some (.int .u64 a1_2) := (blk_cell BK203.out 2).trans rfl; have hfz21_0 := blk_frozen BK203.out 0; have hfz21_1 := blk_frozen BK203.out 1; have hfz21_2 := blk_frozen BK203.out 2))
    go_ret
    exact ⟨by first | rfl | (simp [errW_none, errW_some] <;> rfl) | (simp [*, errW_none, errW_some] <;> rfl), by repeat (first | (with_reducible first | exact HB.out | apply below_alloc | apply pw_below_drewN | apply below_drew1 | refine below_set ?_ GE202.out | refine below_set ?_ GE203.out) | exact HB.out)⟩

end Go.Proofs.YtbbncbjdpopkiaaQ.QE
