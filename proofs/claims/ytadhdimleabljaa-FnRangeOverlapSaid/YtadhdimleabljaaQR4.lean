-- Lines that a program has printed for this claim: functions as plain Lean functions, and their walks.
import Derived.Test.YtadhdimleabljaaQR0
import Derived.Test.YtadhdimleabljaaQR1
import Derived.Test.YtadhdimleabljaaQR2
namespace Go.Proofs.YtadhdimleabljaaQ.QR
open Go.RowKit Go.Proofs.YtadhdimleabljaaQ.Ext Go.Proofs.YtadhdimleabljaaW.PrintWords Go.Proofs.YtadhdimleabljaaW.PrintLast Go.Proofs.YtadhdimleabljaaW.PrintMore
attribute [local go_sem] max2_int min2_int max_two min_two max_three min_three max_four min_four   -- for this text's walks alone
set_option linter.unusedVariables false
set_option linter.unusedSimpArgs false

/-! ### badgercompact_keyRange_isEmpty: function 165 -/
def badgercompact_keyRange_isEmpty.f (l0_0 : List Int) (l0_1 : List Int) (a0_2 : Bool) (a0_3 : Int) : Option (Bool) := if (l0_0.length : Int) = 0 then (if (l0_1.length : Int) = 0 then (some (!a0_2)) else (some false)) else (some false)
set_option maxHeartbeats 8000000 in
set_option maxRecDepth 100000 in
theorem badgercompact_keyRange_isEmpty.calls (A0_0 : Option Addr) (c0_0 : Nat) (l0_0 : List Int) (A0_1 : Option Addr) (c0_1 : Nat) (l0_1 : List Int) (a0_2 : Bool) (a0_3 : Int) (r : Bool) (w : World) (hr0_0 : Kd.C (Kd.int .u8) w A0_0 l0_0.length l0_0) (hc0_0 : l0_0.length ≤ c0_0) (hr0_1 : Kd.C (Kd.int .u8) w A0_1 l0_1.length l0_1) (hc0_1 : l0_1.length ≤ c0_1) (h : badgercompact_keyRange_isEmpty.f l0_0 l0_1 a0_2 a0_3 = some r) :
    Calls Try.prog 165 #[.agg #[.slice A0_0 l0_0.length c0_0, .slice A0_1 l0_1.length c0_1, .bool a0_2, .int .i64 a0_3]] w fun e w' => e = .returned (.bool r) ∧ Below w.heap.size w w' := by
  have hu155 := Try.underlying155
  have HR0_0 := Aside0.mk hr0_0
  have HC0_0 := Aside0.mk hc0_0
  clear hr0_0 hc0_0
  have HR0_1 := Aside0.mk hr0_1
  have HC0_1 := Aside0.mk hc0_1
  clear hr0_1 hc0_1
  have HB := Aside0.mk (Below.refl w.heap.size w)
  have H : (if (l0_0.length : Int) = 0 then (if (l0_1.length : Int) = 0 then (some (!a0_2)) else (some false)) else (some false)) = some r := h
  clear h
  by_cases c2 : (l0_0.length : Int) = 0
  · rw [if_pos c2] at H
    have c2b0 : ((l0_0.length : Int) == 0) = true := beq_iff_eq.mpr c2
    have c2b1 : ((l0_0.length : Int) != 0) = false := bne_eq_false_iff_eq.mpr c2
    clear c2
    by_cases c3 : (l0_1.length : Int) = 0
    · rw [if_pos c3] at H
      have c3b0 : ((l0_1.length : Int) == 0) = true := beq_iff_eq.mpr c3
      have c3b1 : ((l0_1.length : Int) != 0) = false := bne_eq_false_iff_eq.mpr c3
      clear c3
      obtain rfl := Option.some.inj H
      go_enter Try.func165, Try.ntmps165
      go_wp2_with (first | ((with_reducible refine gate_dst (N := 1) rfl ?_); (try (refine gate_guard (by rfl) ?_; dsimp only)); refine box_event ?hg (N := 1) ?hd (cs := #[.slice A0_0 l0_0.length c0_0, .slice A0_1 l0_1.length c0_1, .bool a0_2, .int .i64 a0_3]) (t := 155) ?hr ?_; (case hd => rfl); (case hg => rfl); (case hr => first | (go_simp; done) | (go_simp; rfl)); intro gb193 hg w4 hbox hb; have n0_ := Aside0.mk (below_step (by repeat (first | (with_reducible first | exact HB.out | apply below_alloc | apply pw_below_drewN | apply below_drew1) | exact HB.out)) hb); have n1_ := Aside0.mk (hbox); have n2_ := Aside0.mk ((by rw [hg]; exact (below_size (by repeat (first | (with_reducible first | exact HB.out | apply below_alloc | apply pw_below_drewN | apply below_drew1) | exact HB.out))) : w.heap.size ≤ gb193)); have n3_ := Aside0.mk ((by rw [hg]; exact (below_size (by repeat (first | (with_reducible first | exact HB.out | apply below_alloc | apply pw_below_drewN | apply below_drew1) | exact HB.out))) : w.heap.size ≤ gb193)); clear HB; have HB := n0_; have BK193 := n1_; have GW193 := n2_; have GE193 := n3_; clear n0_ n1_ n2_ n3_; clear hb hbox hg; have hcz5_0 : w4.cell? ⟨gb193, 0, none⟩ = some (.slice A0_0 l0_0.length c0_0) := (blk_cell BK193.out 0).trans rfl; have hcz5_1 : w4.cell? ⟨gb193, 1, none⟩ = some (.slice A0_1 l0_1.length c0_1) := (blk_cell BK193.out 1).trans rfl; have hcz5_2 : w4.cell? ⟨gb193, 2, none⟩ = some (.bool a0_2) := (blk_cell BK193.out 2).trans rfl; have hcz5_3 : w4.cell? ⟨gb193, 3, none⟩ = some (.int .i64 a0_3) := (blk_cell BK193.out 3).trans rfl; have hfz5_0 := blk_frozen BK193.out 0; have hfz5_1 := blk_frozen BK193.out 1; have hfz5_2 := blk_frozen BK193.out 2; have hfz5_3 := blk_frozen BK193.out 3))
      go_ret
      exact ⟨by first | rfl | (simp [errW_none, errW_some] <;> rfl) | (simp [*, errW_none, errW_some] <;> rfl), by repeat (first | (with_reducible first | exact HB.out | apply below_alloc | apply pw_below_drewN | apply below_drew1 | refine below_set ?_ GE193.out) | exact HB.out)⟩
    · rw [if_neg c3] at H
      have c3b0 : ((l0_1.length : Int) == 0) = false := beq_eq_false_iff_ne.mpr c3
      have c3b1 : ((l0_1.length : Int) != 0) = true := bne_iff_ne.mpr c3
      have c3b2 : ¬ (l0_1 = []) := fun h_ => c3 (by rw [h_]; rfl)
      obtain rfl := Option.some.inj H
      go_enter Try.func165, Try.ntmps165
      go_wp2_with (first | ((with_reducible refine gate_dst (N := 1) rfl ?_); (try (refine gate_guard (by rfl) ?_; dsimp only)); refine box_event ?hg (N := 1) ?hd (cs := #[.slice A0_0 l0_0.length c0_0, .slice A0_1 l0_1.length c0_1, .bool a0_2, .int .i64 a0_3]) (t := 155) ?hr ?_; (case hd => rfl); (case hg => rfl); (case hr => first | (go_simp; done) | (go_simp; rfl)); intro gb193 hg w6 hbox hb; have n0_ := Aside0.mk (below_step (by repeat (first | (with_reducible first | exact HB.out | apply below_alloc | apply pw_below_drewN | apply below_drew1) | exact HB.out)) hb); have n1_ := Aside0.mk (hbox); have n2_ := Aside0.mk ((by rw [hg]; exact (below_size (by repeat (first | (with_reducible first | exact HB.out | apply below_alloc | apply pw_below_drewN | apply below_drew1) | exact HB.out))) : w.heap.size ≤ gb193)); have n3_ := Aside0.mk ((by rw [hg]; exact (below_size (by repeat (first | (with_reducible first | exact HB.out | apply below_alloc | apply pw_below_drewN | apply below_drew1) | exact HB.out))) : w.heap.size ≤ gb193)); clear HB; have HB := n0_; have BK193 := n1_; have GW193 := n2_; have GE193 := n3_; clear n0_ n1_ n2_ n3_; clear hb hbox hg; have hcz7_0 : w6.cell? ⟨gb193, 0, none⟩ = some (.slice A0_0 l0_0.length c0_0) := (blk_cell BK193.out 0).trans rfl; have hcz7_1 : w6.cell? ⟨gb193, 1, none⟩ = some (.slice A0_1 l0_1.length c0_1) := (blk_cell BK193.out 1).trans rfl; have hcz7_2 : w6.cell? ⟨gb193, 2, none⟩ = some (.bool a0_2) := (blk_cell BK193.out 2).trans rfl; have hcz7_3 : w6.cell? ⟨gb193, 3, none⟩ = some (.int .i64 a0_3) := (blk_cell BK193.out 3).trans rfl; have hfz7_0 := blk_frozen BK193.out 0; have hfz7_1 := blk_frozen BK193.out 1; have hfz7_2 := blk_frozen BK193.out 2; have hfz7_3 := blk_frozen BK193.out 3))
      go_ret
      exact ⟨by first | rfl | (simp [errW_none, errW_some] <;> rfl) | (simp [*, errW_none, errW_some] <;> rfl), by repeat (first | (with_reducible first | exact HB.out | apply below_alloc | apply pw_below_drewN | apply below_drew1 | refine below_set ?_ GE193.out) | exact HB.out)⟩
  · rw [if_neg c2] at H
    have c2b0 : ((l0_0.length : Int) == 0) = false := beq_eq_false_iff_ne.mpr c2
    have c2b1 : ((l0_0.length : Int) != 0) = true := bne_iff_ne.mpr c2
    have c2b2 : ¬ (l0_0 = []) := fun h_ => c2 (by rw [h_]; rfl)
    obtain rfl := Option.some.inj H
    go_enter Try.func165, Try.ntmps165
    go_wp2_with (first | ((with_reducible refine gate_dst (N := 1) rfl ?_); (try (refine gate_guard (by rfl) ?_; dsimp only)); refine box_event ?hg (N := 1) ?hd (cs := #[.slice A0_0 l0_0.length c0_0, .slice A0_1 l0_1.length c0_1, .bool a0_2, .int .i64 a0_3]) (t := 155) ?hr ?_; (case hd => rfl); (case hg => rfl); (case hr => first | (go_simp; done) | (go_simp; rfl)); intro gb193 hg w8 hbox hb; have n0_ := Aside0.mk (below_step (by repeat (first | (with_reducible first | exact HB.out | apply below_alloc | apply pw_below_drewN | apply below_drew1) | exact HB.out)) hb); have n1_ := Aside0.mk (hbox); have n2_ := Aside0.mk ((by rw [hg]; exact (below_size (by repeat (first | (with_reducible first | exact HB.out | apply below_alloc | apply pw_below_drewN | apply below_drew1) | exact HB.out))) : w.heap.size ≤ gb193)); have n3_ := Aside0.mk ((by rw [hg]; exact (below_size (by repeat (first | (with_reducible first | exact HB.out | apply below_alloc | apply pw_below_drewN | apply below_drew1) | exact HB.out))) : w.heap.size ≤ gb193)); clear HB; have HB := n0_; have BK193 := n1_; have GW193 := n2_; have GE193 := n3_; clear n0_ n1_ n2_ n3_; clear hb hbox hg; have hcz9_0 : w8.cell? ⟨gb193, 0, none⟩ = some (.slice A0_0 l0_0.length c0_0) := (blk_cell BK193.out 0).trans rfl; have hcz9_1 : w8.cell? ⟨gb193, 1, none⟩ = some (.slice A0_1 l0_1.length c0_1) := (blk_cell BK193.out 1).trans rfl; have hcz9_2 : w8.cell? ⟨gb193, 2, none⟩ = some (.bool a0_2) := (blk_cell BK193.out 2).trans rfl; have hcz9_3 : w8.cell? ⟨gb193, 3, none⟩ = some (.int .i64 a0_3) := (blk_cell BK193.out 3).trans rfl; have hfz9_0 := blk_frozen BK193.out 0; have hfz9_1 := blk_frozen BK193.out 1; have hfz9_2 := blk_frozen BK193.out 2; have hfz9_3 := blk_frozen BK193.out 3))
    go_ret
    exact ⟨by first | rfl | (simp [errW_none, errW_some] <;> rfl) | (simp [*, errW_none, errW_some] <;> rfl), by repeat (first | (with_reducible first | exact HB.out | apply below_alloc | apply pw_below_drewN | apply below_drew1 | refine below_set ?_ GE193.out) | exact HB.out)⟩

/-! ### badgercompact_keyRange_overlapsWith: function 158 -/
def badgercompact_keyRange_overlapsWith.j0 : Nat → Bool → List Int → List Int → Bool → Int → List Int → List Int → Bool → Int → Option (Bool)
  | 0, _, _, _, _, _, _, _, _, _ => none
  | k + 1, x14, x195000, x195001, x195002, x195003, x196000, x196001, x196002, x196003 => if x14 = true then (some true) else ((badgery_CompareKeys.f x195000 x196001).bind fun t198 => (if t198 > 0 then (some false) else ((badgery_CompareKeys.f x195001 x196000).bind fun t199 => (if t199 < 0 then (some false) else (some true)))))
def badgercompact_keyRange_overlapsWith.f (k : Nat) (l0_0 : List Int) (l0_1 : List Int) (a0_2 : Bool) (a0_3 : Int) (l1_0 : List Int) (l1_1 : List Int) (a1_2 : Bool) (a1_3 : Int) : Option (Bool) := (badgercompact_keyRange_isEmpty.f l0_0 l0_1 a0_2 a0_3).bind fun t196 => (if t196 = true then (some true) else ((badgercompact_keyRange_isEmpty.f l1_0 l1_1 a1_2 a1_3).bind fun t197 => (if t197 = true then (some false) else (if a0_2 = true then (badgercompact_keyRange_overlapsWith.j0 k true l0_0 l0_1 a0_2 a0_3 l1_0 l1_1 a1_2 a1_3) else (badgercompact_keyRange_overlapsWith.j0 k a1_2 l0_0 l0_1 a0_2 a0_3 l1_0 l1_1 a1_2 a1_3)))))
theorem badgercompact_keyRange_overlapsWith.mono_l : ∀ k, (∀ y0 y1 y2 y3 y4 y5 y6 y7 y8, LeO (badgercompact_keyRange_overlapsWith.j0 k y0 y1 y2 y3 y4 y5 y6 y7 y8) (badgercompact_keyRange_overlapsWith.j0 (k + 1) y0 y1 y2 y3 y4 y5 y6 y7 y8))
  | 0 => fun _ _ _ _ _ _ _ _ _ r h => by simp [badgercompact_keyRange_overlapsWith.j0] at h
  | k + 1 => by
    have ih0 := badgercompact_keyRange_overlapsWith.mono_l k
    · intro y0 y1 y2 y3 y4 y5 y6 y7 y8
      unfold badgercompact_keyRange_overlapsWith.j0
      repeat' first
      | (with_reducible exact ih0 _ _ _ _ _ _ _ _ _)
      | (with_reducible exact LeO.refl _)
      | (with_reducible exact LeO.none _)
      | (with_reducible refine LeO.ite ?_ ?_)
      | (with_reducible refine LeO.bind ?_ (fun _ => ?_))
      | exact ih0 _ _ _ _ _ _ _ _ _
      | exact LeO.none _
      | refine LeO.ite ?_ ?_
      | refine LeO.bind ?_ (fun _ => ?_)
theorem badgercompact_keyRange_overlapsWith.mono : ∀ a0 a1 a2 a3 a4 a5 a6 a7 k, LeO (badgercompact_keyRange_overlapsWith.f k a0 a1 a2 a3 a4 a5 a6 a7) (badgercompact_keyRange_overlapsWith.f (k + 1) a0 a1 a2 a3 a4 a5 a6 a7) := by
  intro a0 a1 a2 a3 a4 a5 a6 a7 k
  have ih0 := badgercompact_keyRange_overlapsWith.mono_l k
  unfold badgercompact_keyRange_overlapsWith.f
  repeat' first
      | (with_reducible exact ih0 _ _ _ _ _ _ _ _ _)
      | (with_reducible exact LeO.refl _)
      | (with_reducible exact LeO.none _)
      | (with_reducible refine LeO.ite ?_ ?_)
      | (with_reducible refine LeO.bind ?_ (fun _ => ?_))
      | exact ih0 _ _ _ _ _ _ _ _ _
      | exact LeO.none _
      | refine LeO.ite ?_ ?_
      | refine LeO.bind ?_ (fun _ => ?_)
set_option maxHeartbeats 8000000 in
set_option maxRecDepth 100000 in
theorem badgercompact_keyRange_overlapsWith.calls (k : Nat) (A0_0 : Option Addr) (c0_0 : Nat) (l0_0 : List Int) (A0_1 : Option Addr) (c0_1 : Nat) (l0_1 : List Int) (a0_2 : Bool) (a0_3 : Int) (A1_0 : Option Addr) (c1_0 : Nat) (l1_0 : List Int) (A1_1 : Option Addr) (c1_1 : Nat) (l1_1 : List Int) (a1_2 : Bool) (a1_3 : Int) (r : Bool) (w : World) (hr0_0 : Kd.C (Kd.int .u8) w A0_0 l0_0.length l0_0) (hc0_0 : l0_0.length ≤ c0_0) (hr0_1 : Kd.C (Kd.int .u8) w A0_1 l0_1.length l0_1) (hc0_1 : l0_1.length ≤ c0_1) (hr1_0 : Kd.C (Kd.int .u8) w A1_0 l1_0.length l1_0) (hc1_0 : l1_0.length ≤ c1_0) (hr1_1 : Kd.C (Kd.int .u8) w A1_1 l1_1.length l1_1) (hc1_1 : l1_1.length ≤ c1_1) (h : badgercompact_keyRange_overlapsWith.f k l0_0 l0_1 a0_2 a0_3 l1_0 l1_1 a1_2 a1_3 = some r) :
    Calls Try.prog 158 #[.agg #[.slice A0_0 l0_0.length c0_0, .slice A0_1 l0_1.length c0_1, .bool a0_2, .int .i64 a0_3], .agg #[.slice A1_0 l1_0.length c1_0, .slice A1_1 l1_1.length c1_1, .bool a1_2, .int .i64 a1_3]] w fun e w' => e = .returned (.bool r) ∧ Below w.heap.size w w' := by
  have hu155 := Try.underlying155
  have HR0_0 := Aside0.mk hr0_0
  have HC0_0 := Aside0.mk hc0_0
  clear hr0_0 hc0_0
  have HR0_1 := Aside0.mk hr0_1
  have HC0_1 := Aside0.mk hc0_1
  clear hr0_1 hc0_1
  have HR1_0 := Aside0.mk hr1_0
  have HC1_0 := Aside0.mk hc1_0
  clear hr1_0 hc1_0
  have HR1_1 := Aside0.mk hr1_1
  have HC1_1 := Aside0.mk hc1_1
  clear hr1_1 hc1_1
  have HB := Aside0.mk (Below.refl w.heap.size w)
  have H : ((badgercompact_keyRange_isEmpty.f l0_0 l0_1 a0_2 a0_3).bind fun t196 => (if t196 = true then (some true) else ((badgercompact_keyRange_isEmpty.f l1_0 l1_1 a1_2 a1_3).bind fun t197 => (if t197 = true then (some false) else (if a0_2 = true then (badgercompact_keyRange_overlapsWith.j0 k true l0_0 l0_1 a0_2 a0_3 l1_0 l1_1 a1_2 a1_3) else (badgercompact_keyRange_overlapsWith.j0 k a1_2 l0_0 l0_1 a0_2 a0_3 l1_0 l1_1 a1_2 a1_3)))))) = some r := h
  clear h
  replace H := Option.bind_eq_some_iff.mp H
  obtain ⟨t196, A30, H⟩ := H
  replace H : (if t196 = true then (some true) else ((badgercompact_keyRange_isEmpty.f l1_0 l1_1 a1_2 a1_3).bind fun t197 => (if t197 = true then (some false) else (if a0_2 = true then (badgercompact_keyRange_overlapsWith.j0 k true l0_0 l0_1 a0_2 a0_3 l1_0 l1_1 a1_2 a1_3) else (badgercompact_keyRange_overlapsWith.j0 k a1_2 l0_0 l0_1 a0_2 a0_3 l1_0 l1_1 a1_2 a1_3))))) = some r := H
  have A3 := Aside0.mk A30
  clear A30
  by_cases c4 : t196 = true
  · subst c4
    have H1 : (some true) = some r := by rw [if_pos rfl] at H; exact H
    clear H
    have H := H1
    clear H1
    obtain rfl := Option.some.inj H
    go_enter Try.func158, Try.ntmps158
    go_wp2_with (first | ((with_reducible refine gate_dst (N := 2) rfl ?_); refine box_event ?hg (N := 2) ?hd (cs := #[.slice A0_0 l0_0.length c0_0, .slice A0_1 l0_1.length c0_1, .bool a0_2, .int .i64 a0_3]) (t := 155) ?hr ?_; (case hd => rfl); (case hg => rfl); (case hr => first | (go_simp; done) | (go_simp; rfl)); intro gb194 hg w5 hbox hb; have n0_ := Aside0.mk (below_step (by repeat (first | (with_reducible first | exact HB.out | apply below_alloc | apply pw_below_drewN | apply below_drew1) | exact HB.out)) hb); have n1_ := Aside0.mk (hbox); have n2_ := Aside0.mk ((by rw [hg]; exact (below_size (by repeat (first | (with_reducible first | exact HB.out | apply below_alloc | apply pw_below_drewN | apply below_drew1) | exact HB.out))) : w.heap.size ≤ gb194)); have n3_ := Aside0.mk ((by rw [hg]; exact (below_size (by repeat (first | (with_reducible first | exact HB.out | apply below_alloc | apply pw_below_drewN | apply below_drew1) | exact HB.out))) : w.heap.size ≤ gb194)); clear HB; have HB := n0_; have BK194 := n1_; have GW194 := n2_; have GE194 := n3_; clear n0_ n1_ n2_ n3_; clear hb hbox hg) | ((with_reducible refine gate_dst (N := 3) rfl ?_); refine box_event ?hg (N := 3) ?hd (cs := #[.slice A1_0 l1_0.length c1_0, .slice A1_1 l1_1.length c1_1, .bool a1_2, .int .i64 a1_3]) (t := 155) ?hr ?_; (case hd => rfl); (case hg => rfl); (case hr => first | (go_simp; done) | (go_simp; rfl)); intro gb195 hg w6 hbox hb; have n0_ := Aside0.mk (blk_below (g := gb194) (o := .cells #[.slice A0_0 l0_0.length c0_0, .slice A0_1 l0_1.length c0_1, .bool a0_2, .int .i64 a0_3] 155 (0, 0)) (by (with_reducible repeat (first | refine blk_drewN ?_ _ | refine blk_drew ?_ | refine blk_alloc ?_ _)); exact BK194.out) hb); have n1_ := Aside0.mk (below_step (by repeat (first | (with_reducible first | exact HB.out | apply below_alloc | apply pw_below_drewN | apply below_drew1 | refine below_set ?_ GE194.out) | exact HB.out)) hb); have n2_ := Aside0.mk (hbox); have n3_ := Aside0.mk ((by rw [hg]; exact (below_size (by repeat (first | (with_reducible first | exact HB.out | apply below_alloc | apply pw_below_drewN | apply below_drew1 | refine below_set ?_ GE194.out) | exact HB.out))) : w.heap.size ≤ gb195)); have n4_ := Aside0.mk ((by rw [hg]; exact (below_size (by repeat (first | (with_reducible first | exact HB.out | apply below_alloc | apply pw_below_drewN | apply below_drew1 | refine below_set ?_ GE194.out) | exact HB.out))) : w.heap.size ≤ gb195)); have n5_ := Aside0.mk ((by rw [hg]; exact Nat.ne_of_lt (blk_lt (g := gb194) (o := .cells #[.slice A0_0 l0_0.length c0_0, .slice A0_1 l0_1.length c0_1, .bool a0_2, .int .i64 a0_3] 155 (0, 0)) (by (with_reducible repeat (first | refine blk_drewN ?_ _ | refine blk_drew ?_ | refine blk_alloc ?_ _)); exact BK194.out)) : gb194 ≠ gb195)); have n6_ := Aside0.mk ((by rw [hg]; exact Nat.ne_of_gt (blk_lt (g := gb194) (o := .cells #[.slice A0_0 l0_0.length c0_0, .slice A0_1 l0_1.length c0_1, .bool a0_2, .int .i64 a0_3] 155 (0, 0)) (by (with_reducible repeat (first | refine blk_drewN ?_ _ | refine blk_drew ?_ | refine blk_alloc ?_ _)); exact BK194.out)) : gb195 ≠ gb194)); clear BK194; clear HB; have BK194 := n0_; have HB := n1_; have BK195 := n2_; have GW195 := n3_; have GE195 := n4_; have NB194_195 := n5_; have NB195_194 := n6_; clear n0_ n1_ n2_ n3_ n4_ n5_ n6_; clear hb hbox hg; have hnb7 := NB194_195.out; have hnc7 := NB195_194.out; have hcz8_0 : w6.cell? ⟨gb194, 0, none⟩ = some (.slice A0_0 l0_0.length c0_0) := (blk_cell BK194.out 0).trans rfl; have hcz8_1 : w6.cell? ⟨gb194, 1, none⟩ = some (.slice A0_1 l0_1.length c0_1) := (blk_cell BK194.out 1).trans rfl; have hcz8_2 : w6.cell? ⟨gb194, 2, none⟩ = some (.bool a0_2) := (blk_cell BK194.out 2).trans rfl; have hcz8_3 : w6.cell? ⟨gb194, 3, none⟩ = some (.int .i64 a0_3) := (blk_cell BK194.out 3).trans rfl; have hfz8_0 := blk_frozen BK194.out 0; have hfz8_1 := blk_frozen BK194.out 1; have hfz8_2 := blk_frozen BK194.out 2; have hfz8_3 := blk_frozen BK194.out 3) | ((with_reducible refine gate_callee (f := 165) rfl ?_); refine goesL_ (some 6) rfl rfl Try.func165 (by kernel_rfl) rfl #[.agg #[.slice A0_0 l0_0.length c0_0, .slice A0_1 l0_1.length c0_1, .bool a0_2, .int .i64 a0_3]] rfl (by (try simp only [List.map_toArray, List.map_cons, List.map_nil]); first | done | rfl | (simp only [List.length_drop, List.length_take]; rfl)) ?_; (with_reducible refine (badgercompact_keyRange_isEmpty.calls _ _ l0_0 _ _ l0_1 a0_2 a0_3 true _ ?side1 ?side2 ?side3 ?side4 A3.out).mono ?_); (case side1 => repeat (first | exact (Kd.C_below HR0_0.out HB.out) | (with_reducible refine Kd.C_alloc ?_ _) | (with_reducible refine Kd.C_drewN ?_ _) | (with_reducible refine Kd.C_drew ?_))); (case side2 => exact HC0_0.out); (case side3 => repeat (first | exact (Kd.C_below HR0_1.out HB.out) | (with_reducible refine Kd.C_alloc ?_ _) | (with_reducible refine Kd.C_drewN ?_ _) | (with_reducible refine Kd.C_drew ?_))); (case side4 => exact HC0_1.out); rintro e w9 ⟨rfl, hb⟩; refine ⟨_, rfl, ?_⟩; have n0_ := Aside0.mk (blk_below (g := gb194) (o := .cells #[.slice A0_0 l0_0.length c0_0, .slice A0_1 l0_1.length c0_1, .bool a0_2, .int .i64 a0_3] 155 (0, 0)) (by (with_reducible repeat (first | refine blk_drewN ?_ _ | refine blk_drew ?_ | refine blk_alloc ?_ _)); exact BK194.out) hb); have n1_ := Aside0.mk (blk_below (g := gb195) (o := .cells #[.slice A1_0 l1_0.length c1_0, .slice A1_1 l1_1.length c1_1, .bool a1_2, .int .i64 a1_3] 155 (0, 0)) (by (with_reducible repeat (first | refine blk_drewN ?_ _ | refine blk_drew ?_ | refine blk_alloc ?_ _)); exact BK195.out) hb); have n2_ := Aside0.mk (below_step (by repeat (first | (with_reducible first | exact HB.out | apply below_alloc | apply pw_below_drewN | apply below_drew1 | refine below_set ?_ GE194.out | refine below_set ?_ GE195.out) | exact HB.out)) hb); clear BK194; clear BK195; clear HB; have BK194 := n0_; have BK195 := n1_; have HB := n2_; clear n0_ n1_ n2_; (try clear hb); (try clear hb2); (try clear hk); (try clear hi)))
    go_ret
    exact ⟨by first | rfl | (simp [errW_none, errW_some] <;> rfl) | (simp [*, errW_none, errW_some] <;> rfl), by repeat (first | (with_reducible first | exact HB.out | apply below_alloc | apply pw_below_drewN | apply below_drew1 | refine below_set ?_ GE194.out | refine below_set ?_ GE195.out) | exact HB.out)⟩
  · replace c4 := Bool.eq_false_iff.mpr c4
    subst c4
    have H1 : ((badgercompact_keyRange_isEmpty.f l1_0 l1_1 a1_2 a1_3).bind fun t197 => (if t197 = true then (some false) else (if a0_2 = true then (badgercompact_keyRange_overlapsWith.j0 k true l0_0 l0_1 a0_2 a0_3 l1_0 l1_1 a1_2 a1_3) else (badgercompact_keyRange_overlapsWith.j0 k a1_2 l0_0 l0_1 a0_2 a0_3 l1_0 l1_1 a1_2 a1_3)))) = some r := by rw [if_neg (show ¬ (false = true) by decide)] at H; exact H
    clear H
    have H := H1
    clear H1
    replace H := Option.bind_eq_some_iff.mp H
    obtain ⟨t197, A100, H⟩ := H
    replace H : (if t197 = true then (some false) else (if a0_2 = true then (badgercompact_keyRange_overlapsWith.j0 k true l0_0 l0_1 a0_2 a0_3 l1_0 l1_1 a1_2 a1_3) else (badgercompact_keyRange_overlapsWith.j0 k a1_2 l0_0 l0_1 a0_2 a0_3 l1_0 l1_1 a1_2 a1_3))) = some r := H
    have A10 := Aside0.mk A100
    clear A100
    by_cases c11 : t197 = true
    · subst c11
      have H1 : (some false) = some r := by rw [if_pos rfl] at H; exact H
      clear H
      have H := H1
      clear H1
      obtain rfl := Option.some.inj H
      go_enter Try.func158, Try.ntmps158
      go_wp2_with (first | ((with_reducible refine gate_dst (N := 2) rfl ?_); refine box_event ?hg (N := 2) ?hd (cs := #[.slice A0_0 l0_0.length c0_0, .slice A0_1 l0_1.length c0_1, .bool a0_2, .int .i64 a0_3]) (t := 155) ?hr ?_; (case hd => rfl); (case hg => rfl); (case hr => first | (go_simp; done) | (go_simp; rfl)); intro gb194 hg w12 hbox hb; have n0_ := Aside0.mk (below_step (by repeat (first | (with_reducible first | exact HB.out | apply below_alloc | apply pw_below_drewN | apply below_drew1) | exact HB.out)) hb); have n1_ := Aside0.mk (hbox); have n2_ := Aside0.mk ((by rw [hg]; exact (below_size (by repeat (first | (with_reducible first | exact HB.out | apply below_alloc | apply pw_below_drewN | apply below_drew1) | exact HB.out))) : w.heap.size ≤ gb194)); have n3_ := Aside0.mk ((by rw [hg]; exact (below_size (by repeat (first | (with_reducible first | exact HB.out | apply below_alloc | apply pw_below_drewN | apply below_drew1) | exact HB.out))) : w.heap.size ≤ gb194)); clear HB; have HB := n0_; have BK194 := n1_; have GW194 := n2_; have GE194 := n3_; clear n0_ n1_ n2_ n3_; clear hb hbox hg) | ((with_reducible refine gate_dst (N := 3) rfl ?_); refine box_event ?hg (N := 3) ?hd (cs := #[.slice A1_0 l1_0.length c1_0, .slice A1_1 l1_1.length c1_1, .bool a1_2, .int .i64 a1_3]) (t := 155) ?hr ?_; (case hd => rfl); (case hg => rfl); (case hr => first | (go_simp; done) | (go_simp; rfl)); intro gb195 hg w13 hbox hb; have n0_ := Aside0.mk (blk_below (g := gb194) (o := .cells #[.slice A0_0 l0_0.length c0_0, .slice A0_1 l0_1.length c0_1, .bool a0_2, .int .i64 a0_3] 155 (0, 0)) (by (with_reducible repeat (first | refine blk_drewN ?_ _ | refine blk_drew ?_ | refine blk_alloc ?_ _)); exact BK194.out) hb); have n1_ := Aside0.mk (below_step (by repeat (first | (with_reducible first | exact HB.out | apply below_alloc | apply pw_below_drewN | apply below_drew1 | refine below_set ?_ GE194.out) | exact HB.out)) hb); have n2_ := Aside0.mk (hbox); have n3_ := Aside0.mk ((by rw [hg]; exact (below_size (by repeat (first | (with_reducible first | exact HB.out | apply below_alloc | apply pw_below_drewN | apply below_drew1 | refine below_set ?_ GE194.out) | exact HB.out))) : w.heap.size ≤ gb195)); have n4_ := Aside0.mk ((by rw [hg]; exact (below_size (by repeat (first | (with_reducible first | exact HB.out | apply below_alloc | apply pw_below_drewN | apply below_drew1 | refine below_set ?_ GE194.out) | exact HB.out))) : w.heap.size ≤ gb195)); have n5_ := Aside0.mk ((by rw [hg]; exact Nat.ne_of_lt (blk_lt (g := gb194) (o := .cells #[.slice A0_0 l0_0.length c0_0, .slice A0_1 l0_1.length c0_1, .bool a0_2, .int .i64 a0_3] 155 (0, 0)) (by (with_reducible repeat (first | refine blk_drewN ?_ _ | refine blk_drew ?_ | refine blk_alloc ?_ _)); exact BK194.out)) : gb194 ≠ gb195)); have n6_ := Aside0.mk ((by rw [hg]; exact Nat.ne_of_gt (blk_lt (g := gb194) (o := .cells #[.slice A0_0 l0_0.length c0_0, .slice A0_1 l0_1.length c0_1, .bool a0_2, .int .i64 a0_3] 155 (0, 0)) (by (with_reducible repeat (first | refine blk_drewN ?_ _ | refine blk_drew ?_ | refine blk_alloc ?_ _)); exact BK194.out)) : gb195 ≠ gb194)); clear BK194; clear HB; have BK194 := n0_; have HB := n1_; have BK195 := n2_; have GW195 := n3_; have GE195 := n4_; have NB194_195 := n5_; have NB195_194 := n6_; clear n0_ n1_ n2_ n3_ n4_ n5_ n6_; clear hb hbox hg; have hnb14 := NB194_195.out; have hnc14 := NB195_194.out; have hcz15_0 : w13.cell? ⟨gb194, 0, none⟩ = some (.slice A0_0 l0_0.length c0_0) := (blk_cell BK194.out 0).trans rfl; have hcz15_1 : w13.cell? ⟨gb194, 1, none⟩ = some (.slice A0_1 l0_1.length c0_1) := (blk_cell BK194.out 1).trans rfl; have hcz15_2 : w13.cell? ⟨gb194, 2, none⟩ = some (.bool a0_2) := (blk_cell BK194.out 2).trans rfl; have hcz15_3 : w13.cell? ⟨gb194, 3, none⟩ = some (.int .i64 a0_3) := (blk_cell BK194.out 3).trans rfl; have hfz15_0 := blk_frozen BK194.out 0; have hfz15_1 := blk_frozen BK194.out 1; have hfz15_2 := blk_frozen BK194.out 2; have hfz15_3 := blk_frozen BK194.out 3) | ((with_reducible refine gate_callee (f := 165) rfl ?_); refine goesL_ (some 6) rfl rfl Try.func165 (by kernel_rfl) rfl #[.agg #[.slice A0_0 l0_0.length c0_0, .slice A0_1 l0_1.length c0_1, .bool a0_2, .int .i64 a0_3]] rfl (by (try simp only [List.map_toArray, List.map_cons, List.map_nil]); first | done | rfl | (simp only [List.length_drop, List.length_take]; rfl)) ?_; (with_reducible refine (badgercompact_keyRange_isEmpty.calls _ _ l0_0 _ _ l0_1 a0_2 a0_3 false _ ?side1 ?side2 ?side3 ?side4 A3.out).mono ?_); (case side1 => repeat (first | exact (Kd.C_below HR0_0.out HB.out) | (with_reducible refine Kd.C_alloc ?_ _) | (with_reducible refine Kd.C_drewN ?_ _) | (with_reducible refine Kd.C_drew ?_))); (case side2 => exact HC0_0.out); (case side3 => repeat (first | exact (Kd.C_below HR0_1.out HB.out) | (with_reducible refine Kd.C_alloc ?_ _) | (with_reducible refine Kd.C_drewN ?_ _) | (with_reducible refine Kd.C_drew ?_))); (case side4 => exact HC0_1.out); rintro e w16 ⟨rfl, hb⟩; refine ⟨_, rfl, ?_⟩; have n0_ := Aside0.mk (blk_below (g := gb194) (o := .cells #[.slice A0_0 l0_0.length c0_0, .slice A0_1 l0_1.length c0_1, .bool a0_2, .int .i64 a0_3] 155 (0, 0)) (by (with_reducible repeat (first | refine blk_drewN ?_ _ | refine blk_drew ?_ | refine blk_alloc ?_ _)); exact BK194.out) hb); have n1_ := Aside0.mk (blk_below (g := gb195) (o := .cells #[.slice A1_0 l1_0.length c1_0, .slice A1_1 l1_1.length c1_1, .bool a1_2, .int .i64 a1_3] 155 (0, 0)) (by (with_reducible repeat (first | refine blk_drewN ?_ _ | refine blk_drew ?_ | refine blk_alloc ?_ _)); exact BK195.out) hb); have n2_ := Aside0.mk (below_step (by repeat (first | (with_reducible first | exact HB.out | apply below_alloc | apply pw_below_drewN | apply below_drew1 | refine below_set ?_ GE194.out | refine below_set ?_ GE195.out) | exact HB.out)) hb); clear BK194; clear BK195; clear HB; have BK194 := n0_; have BK195 := n1_; have HB := n2_; clear n0_ n1_ n2_; (try clear hb); (try clear hb2); (try clear hk); (try clear hi); have hcz17_0 : w16.cell? ⟨gb195, 0, none⟩ = some (.slice A1_0 l1_0.length c1_0) := (blk_cell BK195.out 0).trans rfl; have hcz17_1 : w16.cell? ⟨gb195, 1, none⟩ = some (.slice A1_1 l1_1.length c1_1) := (blk_cell BK195.out 1).trans rfl; have hcz17_2 : w16.cell? ⟨gb195, 2, none⟩ = some (.bool a1_2) := (blk_cell BK195.out 2).trans rfl; have hcz17_3 : w16.cell? ⟨gb195, 3, none⟩ = some (.int .i64 a1_3) := (blk_cell BK195.out 3).trans rfl; have hfz17_0 := blk_frozen BK195.out 0; have hfz17_1 := blk_frozen BK195.out 1; have hfz17_2 := blk_frozen BK195.out 2; have hfz17_3 := blk_frozen BK195.out 3) | ((with_reducible refine gate_callee (f := 165) rfl ?_); refine goesL_ (some 8) rfl rfl Try.func165 (by kernel_rfl) rfl #[.agg #[.slice A1_0 l1_0.length c1_0, .slice A1_1 l1_1.length c1_1, .bool a1_2, .int .i64 a1_3]] rfl (by (try simp only [List.map_toArray, List.map_cons, List.map_nil]); first | done | rfl | (simp only [List.length_drop, List.length_take]; rfl)) ?_; (with_reducible refine (badgercompact_keyRange_isEmpty.calls _ _ l1_0 _ _ l1_1 a1_2 a1_3 true _ ?side1 ?side2 ?side3 ?side4 A10.out).mono ?_); (case side1 => repeat (first | exact (Kd.C_below HR1_0.out HB.out) | (with_reducible refine Kd.C_alloc ?_ _) | (with_reducible refine Kd.C_drewN ?_ _) | (with_reducible refine Kd.C_drew ?_))); (case side2 => exact HC1_0.out); (case side3 => repeat (first | exact (Kd.C_below HR1_1.out HB.out) | (with_reducible refine Kd.C_alloc ?_ _) | (with_reducible refine Kd.C_drewN ?_ _) | (with_reducible refine Kd.C_drew ?_))); (case side4 => exact HC1_1.out); rintro e w18 ⟨rfl, hb⟩; refine ⟨_, rfl, ?_⟩; have n0_ := Aside0.mk (blk_below (g := gb194) (o := .cells #[.slice A0_0 l0_0.length c0_0, .slice A0_1 l0_1.length c0_1, .bool a0_2, .int .i64 a0_3] 155 (0, 0)) (by (with_reducible repeat (first | refine blk_drewN ?_ _ | refine blk_drew ?_ | refine blk_alloc ?_ _)); exact BK194.out) hb); have n1_ := Aside0.mk (blk_below (g := gb195) (o := .cells #[.slice A1_0 l1_0.length c1_0, .slice A1_1 l1_1.length c1_1, .bool a1_2, .int .i64 a1_3] 155 (0, 0)) (by (with_reducible repeat (first | refine blk_drewN ?_ _ | refine blk_drew ?_ | refine blk_alloc ?_ _)); exact BK195.out) hb); have n2_ := Aside0.mk (below_step (by repeat (first | (with_reducible first | exact HB.out | apply below_alloc | apply pw_below_drewN | apply below_drew1 | refine below_set ?_ GE194.out | refine below_set ?_ GE195.out) | exact HB.out)) hb); clear BK194; clear BK195; clear HB; have BK194 := n0_; have BK195 := n1_; have HB := n2_; clear n0_ n1_ n2_; (try clear hb); (try clear hb2); (try clear hk); (try clear hi)))
      go_ret
      exact ⟨by first | rfl | (simp [errW_none, errW_some] <;> rfl) | (simp [*, errW_none, errW_some] <;> rfl), by repeat (first | (with_reducible first | exact HB.out | apply below_alloc | apply pw_below_drewN | apply below_drew1 | refine below_set ?_ GE194.out | refine below_set ?_ GE195.out) | exact HB.out)⟩
    · replace c11 := Bool.eq_false_iff.mpr c11
      subst c11
      have H1 : (if a0_2 = true then (badgercompact_keyRange_overlapsWith.j0 k true l0_0 l0_1 a0_2 a0_3 l1_0 l1_1 a1_2 a1_3) else (badgercompact_keyRange_overlapsWith.j0 k a1_2 l0_0 l0_1 a0_2 a0_3 l1_0 l1_1 a1_2 a1_3)) = some r := by rw [if_neg (show ¬ (false = true) by decide)] at H; exact H
      clear H
      have H := H1
      clear H1
      have HC19 := Aside0.mk H
      clear H
      go_enter Try.func158, Try.ntmps158
      go_upto_region 5 with (first | ((with_reducible refine gate_dst (N := 2) rfl ?_); refine box_event ?hg (N := 2) ?hd (cs := #[.slice A0_0 l0_0.length c0_0, .slice A0_1 l0_1.length c0_1, .bool a0_2, .int .i64 a0_3]) (t := 155) ?hr ?_; (case hd => rfl); (case hg => rfl); (case hr => first | (go_simp; done) | (go_simp; rfl)); intro gb194 hg w20 hbox hb; have n0_ := Aside0.mk (below_step (by repeat (first | (with_reducible first | exact HB.out | apply below_alloc | apply pw_below_drewN | apply below_drew1) | exact HB.out)) hb); have n1_ := Aside0.mk (hbox); have n2_ := Aside0.mk ((by rw [hg]; exact (below_size (by repeat (first | (with_reducible first | exact HB.out | apply below_alloc | apply pw_below_drewN | apply below_drew1) | exact HB.out))) : w.heap.size ≤ gb194)); have n3_ := Aside0.mk ((by rw [hg]; exact (below_size (by repeat (first | (with_reducible first | exact HB.out | apply below_alloc | apply pw_below_drewN | apply below_drew1) | exact HB.out))) : w.heap.size ≤ gb194)); clear HB; have HB := n0_; have BK194 := n1_; have GW194 := n2_; have GE194 := n3_; clear n0_ n1_ n2_ n3_; clear hb hbox hg) | ((with_reducible refine gate_dst (N := 3) rfl ?_); refine box_event ?hg (N := 3) ?hd (cs := #[.slice A1_0 l1_0.length c1_0, .slice A1_1 l1_1.length c1_1, .bool a1_2, .int .i64 a1_3]) (t := 155) ?hr ?_; (case hd => rfl); (case hg => rfl); (case hr => first | (go_simp; done) | (go_simp; rfl)); intro gb195 hg w21 hbox hb; have n0_ := Aside0.mk (blk_below (g := gb194) (o := .cells #[.slice A0_0 l0_0.length c0_0, .slice A0_1 l0_1.length c0_1, .bool a0_2, .int .i64 a0_3] 155 (0, 0)) (by (with_reducible repeat (first | refine blk_drewN ?_ _ | refine blk_drew ?_ | refine blk_alloc ?_ _)); exact BK194.out) hb); have n1_ := Aside0.mk (below_step (by repeat (first | (with_reducible first | exact HB.out | apply below_alloc | apply pw_below_drewN | apply below_drew1 | refine below_set ?_ GE194.out) | exact HB.out)) hb); have n2_ := Aside0.mk (hbox); have n3_ := Aside0.mk ((by rw [hg]; exact (below_size (by repeat (first | (with_reducible first | exact HB.out | apply below_alloc | apply pw_below_drewN | apply below_drew1 | refine below_set ?_ GE194.out) | exact HB.out))) : w.heap.size ≤ gb195)); have n4_ := Aside0.mk ((by rw [hg]; exact (below_size (by repeat (first | (with_reducible first | exact HB.out | apply below_alloc | apply pw_below_drewN | apply below_drew1 | refine below_set ?_ GE194.out) | exact HB.out))) : w.heap.size ≤ gb195)); have n5_ := Aside0.mk ((by rw [hg]; exact Nat.ne_of_lt (blk_lt (g := gb194) (o := .cells #[.slice A0_0 l0_0.length c0_0, .slice A0_1 l0_1.length c0_1, .bool a0_2, .int .i64 a0_3] 155 (0, 0)) (by (with_reducible repeat (first | refine blk_drewN ?_ _ | refine blk_drew ?_ | refine blk_alloc ?_ _)); exact BK194.out)) : gb194 ≠ gb195)); have n6_ := Aside0.mk ((by rw [hg]; exact Nat.ne_of_gt (blk_lt (g := gb194) (o := .cells #[.slice A0_0 l0_0.length c0_0, .slice A0_1 l0_1.length c0_1, .bool a0_2, .int .i64 a0_3] 155 (0, 0)) (by (with_reducible repeat (first | refine blk_drewN ?_ _ | refine blk_drew ?_ | refine blk_alloc ?_ _)); exact BK194.out)) : gb195 ≠ gb194)); clear BK194; clear HB; have BK194 := n0_; have HB := n1_; have BK195 := n2_; have GW195 := n3_; have GE195 := n4_; have NB194_195 := n5_; have NB195_194 := n6_; clear n0_ n1_ n2_ n3_ n4_ n5_ n6_; clear hb hbox hg; have hnb22 := NB194_195.out; have hnc22 := NB195_194.out; have hcz23_0 : w21.cell? ⟨gb194, 0, none⟩ = some (.slice A0_0 l0_0.length c0_0) := (blk_cell BK194.out 0).trans rfl; have hcz23_1 : w21.cell? ⟨gb194, 1, none⟩ = some (.slice A0_1 l0_1.length c0_1) := (blk_cell BK194.out 1).trans rfl; have hcz23_2 : w21.cell? ⟨gb194, 2, none⟩ = some (.bool a0_2) := (blk_cell BK194.out 2).trans rfl; have hcz23_3 : w21.cell? ⟨gb194, 3, none⟩ = some (.int .i64 a0_3) := (blk_cell BK194.out 3).trans rfl; have hfz23_0 := blk_frozen BK194.out 0; have hfz23_1 := blk_frozen BK194.out 1; have hfz23_2 := blk_frozen BK194.out 2; have hfz23_3 := blk_frozen BK194.out 3) | ((with_reducible refine gate_callee (f := 165) rfl ?_); refine goesL_ (some 6) rfl rfl Try.func165 (by kernel_rfl) rfl #[.agg #[.slice A0_0 l0_0.length c0_0, .slice A0_1 l0_1.length c0_1, .bool a0_2, .int .i64 a0_3]] rfl (by (try simp only [List.map_toArray, List.map_cons, List.map_nil]); first | done | rfl | (simp only [List.length_drop, List.length_take]; rfl)) ?_; (with_reducible refine (badgercompact_keyRange_isEmpty.calls _ _ l0_0 _ _ l0_1 a0_2 a0_3 false _ ?side1 ?side2 ?side3 ?side4 A3.out).mono ?_); (case side1 => repeat (first | exact (Kd.C_below HR0_0.out HB.out) | (with_reducible refine Kd.C_alloc ?_ _) | (with_reducible refine Kd.C_drewN ?_ _) | (with_reducible refine Kd.C_drew ?_))); (case side2 => exact HC0_0.out); (case side3 => repeat (first | exact (Kd.C_below HR0_1.out HB.out) | (with_reducible refine Kd.C_alloc ?_ _) | (with_reducible refine Kd.C_drewN ?_ _) | (with_reducible refine Kd.C_drew ?_))); (case side4 => exact HC0_1.out); rintro e w24 ⟨rfl, hb⟩; refine ⟨_, rfl, ?_⟩; have n0_ := Aside0.mk (blk_below (g := gb194) (o := .cells #[.slice A0_0 l0_0.length c0_0, .slice A0_1 l0_1.length c0_1, .bool a0_2, .int .i64 a0_3] 155 (0, 0)) (by (with_reducible repeat (first | refine blk_drewN ?_ _ | refine blk_drew ?_ | refine blk_alloc ?_ _)); exact BK194.out) hb); have n1_ := Aside0.mk (blk_below (g := gb195) (o := .cells #[.slice A1_0 l1_0.length c1_0, .slice A1_1 l1_1.length c1_1, .bool a1_2, .int .i64 a1_3] 155 (0, 0)) (by (with_reducible repeat (first | refine blk_drewN ?_ _ | refine blk_drew ?_ | refine blk_alloc ?_ _)); exact BK195.out) hb); have n2_ := Aside0.mk (below_step (by repeat (first | (with_reducible first | exact HB.out | apply below_alloc | apply pw_below_drewN | apply below_drew1 | refine below_set ?_ GE194.out | refine below_set ?_ GE195.out) | exact HB.out)) hb); clear BK194; clear BK195; clear HB; have BK194 := n0_; have BK195 := n1_; have HB := n2_; clear n0_ n1_ n2_; (try clear hb); (try clear hb2); (try clear hk); (try clear hi); have hcz25_0 : w24.cell? ⟨gb195, 0, none⟩ = some (.slice A1_0 l1_0.length c1_0) := (blk_cell BK195.out 0).trans rfl; have hcz25_1 : w24.cell? ⟨gb195, 1, none⟩ = some (.slice A1_1 l1_1.length c1_1) := (blk_cell BK195.out 1).trans rfl; have hcz25_2 : w24.cell? ⟨gb195, 2, none⟩ = some (.bool a1_2) := (blk_cell BK195.out 2).trans rfl; have hcz25_3 : w24.cell? ⟨gb195, 3, none⟩ = some (.int .i64 a1_3) := (blk_cell BK195.out 3).trans rfl; have hfz25_0 := blk_frozen BK195.out 0; have hfz25_1 := blk_frozen BK195.out 1; have hfz25_2 := blk_frozen BK195.out 2; have hfz25_3 := blk_frozen BK195.out 3) | ((with_reducible refine gate_callee (f := 165) rfl ?_); refine goesL_ (some 8) rfl rfl Try.func165 (by kernel_rfl) rfl #[.agg #[.slice A1_0 l1_0.length c1_0, .slice A1_1 l1_1.length c1_1, .bool a1_2, .int .i64 a1_3]] rfl (by (try simp only [List.map_toArray, List.map_cons, List.map_nil]); first | done | rfl | (simp only [List.length_drop, List.length_take]; rfl)) ?_; (with_reducible refine (badgercompact_keyRange_isEmpty.calls _ _ l1_0 _ _ l1_1 a1_2 a1_3 false _ ?side1 ?side2 ?side3 ?side4 A10.out).mono ?_); (case side1 => repeat (first | exact (Kd.C_below HR1_0.out HB.out) | (with_reducible refine Kd.C_alloc ?_ _) | (with_reducible refine Kd.C_drewN ?_ _) | (with_reducible refine Kd.C_drew ?_))); (case side2 => exact HC1_0.out); (case side3 => repeat (first | exact (Kd.C_below HR1_1.out HB.out) | (with_reducible refine Kd.C_alloc ?_ _) | (with_reducible refine Kd.C_drewN ?_ _) | (with_reducible refine Kd.C_drew ?_))); (case side4 => exact HC1_1.out); rintro e w26 ⟨rfl, hb⟩; refine ⟨_, rfl, ?_⟩; have n0_ := Aside0.mk (blk_below (g := gb194) (o := .cells #[.slice A0_0 l0_0.length c0_0, .slice A0_1 l0_1.length c0_1, .bool a0_2, .int .i64 a0_3] 155 (0, 0)) (by (with_reducible repeat (first | refine blk_drewN ?_ _ | refine blk_drew ?_ | refine blk_alloc ?_ _)); exact BK194.out) hb); have n1_ := Aside0.mk (blk_below (g := gb195) (o := .cells #[.slice A1_0 l1_0.length c1_0, .slice A1_1 l1_1.length c1_1, .bool a1_2, .int .i64 a1_3] 155 (0, 0)) (by (with_reducible repeat (first | refine blk_drewN ?_ _ | refine blk_drew ?_ | refine blk_alloc ?_ _)); exact BK195.out) hb); have n2_ := Aside0.mk (below_step (by repeat (first | (with_reducible first | exact HB.out | apply below_alloc | apply pw_below_drewN | apply below_drew1 | refine below_set ?_ GE194.out | refine below_set ?_ GE195.out) | exact HB.out)) hb); clear BK194; clear BK195; clear HB; have BK194 := n0_; have BK195 := n1_; have HB := n2_; clear n0_ n1_ n2_; (try clear hb); (try clear hb2); (try clear hk); (try clear hi)))
      (try simp only [Act.put, List.setIfInBounds_toArray, List.set_cons_zero, List.set_cons_succ])
      go_cut [14] (fun v14 wc => ∃ (kq : Nat) (x14_18 : Bool), v14 = .bool x14_18 ∧ Aside0 (badgercompact_keyRange_overlapsWith.j0 kq x14_18 l0_0 l0_1 a0_2 a0_3 l1_0 l1_1 a1_2 a1_3 = some r) ∧ Aside0 (kq ≤ k) ∧ Aside0 (wc.heap[gb194]? = some (.cells #[(.slice A0_0 l0_0.length c0_0), (.slice A0_1 l0_1.length c0_1), .bool a0_2, .int .i64 a0_3] 155 (0, 0))) ∧ Aside0 (wc.heap[gb195]? = some (.cells #[(.slice A1_0 l1_0.length c1_0), (.slice A1_1 l1_1.length c1_1), .bool a1_2, .int .i64 a1_3] 155 (0, 0))) ∧ Aside0 (Below w.heap.size w wc))
      case first =>
        have H := HC19.out
        clear HC19
        by_cases c27 : a0_2 = true
        · subst c27
          have H1 : (badgercompact_keyRange_overlapsWith.j0 k true l0_0 l0_1 true a0_3 l1_0 l1_1 a1_2 a1_3) = some r := by rw [if_pos rfl] at H; exact H
          clear H
          have H := H1
          clear H1
          have H' := Aside0.mk H
          clear H
          have hnb28 := NB194_195.out
          have hnc28 := NB195_194.out
          have hcz29_0 : w26.cell? ⟨gb194, 0, none⟩ = some (.slice A0_0 l0_0.length c0_0) := (blk_cell BK194.out 0).trans rfl
          have hcz29_1 : w26.cell? ⟨gb194, 1, none⟩ = some (.slice A0_1 l0_1.length c0_1) := (blk_cell BK194.out 1).trans rfl
          have hcz29_2 : w26.cell? ⟨gb194, 2, none⟩ = some (.bool true) := (blk_cell BK194.out 2).trans rfl
          have hcz29_3 : w26.cell? ⟨gb194, 3, none⟩ = some (.int .i64 a0_3) := (blk_cell BK194.out 3).trans rfl
          have hfz29_0 := blk_frozen BK194.out 0
          have hfz29_1 := blk_frozen BK194.out 1
          have hfz29_2 := blk_frozen BK194.out 2
          have hfz29_3 := blk_frozen BK194.out 3
          go_wp2
          go_meet
          case rel => exact ⟨_, (true), (by first | rfl | (simp; done) | (simp [*]; done)), H', ⟨by first | omega | exact Nat.le_refl _⟩, ⟨by (with_reducible repeat (first | refine blk_drewN ?_ _ | refine blk_drew ?_ | refine blk_alloc ?_ _)); exact BK194.out⟩, ⟨by (with_reducible repeat (first | refine blk_drewN ?_ _ | refine blk_drew ?_ | refine blk_alloc ?_ _)); exact BK195.out⟩, ⟨by repeat (first | (with_reducible first | exact HB.out | apply below_alloc | apply pw_below_drewN | apply below_drew1 | refine below_set ?_ GE194.out | refine below_set ?_ GE195.out) | exact HB.out)⟩⟩
        · replace c27 := Bool.eq_false_iff.mpr c27
          subst c27
          have H1 : (badgercompact_keyRange_overlapsWith.j0 k a1_2 l0_0 l0_1 false a0_3 l1_0 l1_1 a1_2 a1_3) = some r := by rw [if_neg (show ¬ (false = true) by decide)] at H; exact H
          clear H
          have H := H1
          clear H1
          have H' := Aside0.mk H
          clear H
          have hnb30 := NB194_195.out
          have hnc30 := NB195_194.out
          have hcz31_0 : w26.cell? ⟨gb194, 0, none⟩ = some (.slice A0_0 l0_0.length c0_0) := (blk_cell BK194.out 0).trans rfl
          have hcz31_1 : w26.cell? ⟨gb194, 1, none⟩ = some (.slice A0_1 l0_1.length c0_1) := (blk_cell BK194.out 1).trans rfl
          have hcz31_2 : w26.cell? ⟨gb194, 2, none⟩ = some (.bool false) := (blk_cell BK194.out 2).trans rfl
          have hcz31_3 : w26.cell? ⟨gb194, 3, none⟩ = some (.int .i64 a0_3) := (blk_cell BK194.out 3).trans rfl
          have hfz31_0 := blk_frozen BK194.out 0
          have hfz31_1 := blk_frozen BK194.out 1
          have hfz31_2 := blk_frozen BK194.out 2
          have hfz31_3 := blk_frozen BK194.out 3
          have hcz32_0 : w26.cell? ⟨gb195, 0, none⟩ = some (.slice A1_0 l1_0.length c1_0) := (blk_cell BK195.out 0).trans rfl
          have hcz32_1 : w26.cell? ⟨gb195, 1, none⟩ = some (.slice A1_1 l1_1.length c1_1) := (blk_cell BK195.out 1).trans rfl
          have hcz32_2 : w26.cell? ⟨gb195, 2, none⟩ = some (.bool a1_2) := (blk_cell BK195.out 2).trans rfl
          have hcz32_3 : w26.cell? ⟨gb195, 3, none⟩ = some (.int .i64 a1_3) := (blk_cell BK195.out 3).trans rfl
          have hfz32_0 := blk_frozen BK195.out 0
          have hfz32_1 := blk_frozen BK195.out 1
          have hfz32_2 := blk_frozen BK195.out 2
          have hfz32_3 := blk_frozen BK195.out 3
          go_wp2
          go_meet
          case rel => exact ⟨_, (a1_2), (by first | rfl | (simp; done) | (simp [*]; done)), H', ⟨by first | omega | exact Nat.le_refl _⟩, ⟨by (with_reducible repeat (first | refine blk_drewN ?_ _ | refine blk_drew ?_ | refine blk_alloc ?_ _)); exact BK194.out⟩, ⟨by (with_reducible repeat (first | refine blk_drewN ?_ _ | refine blk_drew ?_ | refine blk_alloc ?_ _)); exact BK195.out⟩, ⟨by repeat (first | (with_reducible first | exact HB.out | apply below_alloc | apply pw_below_drewN | apply below_drew1 | refine below_set ?_ GE194.out | refine below_set ?_ GE195.out) | exact HB.out)⟩⟩
      case rest =>
        clear HC19
        try clear c1
        try clear c2
        try clear p2
        try clear c3
        try clear c4
        try clear c7
        try clear c11
        try clear c14
        try clear c15
        try clear c16
        try clear c22
        try clear c27
        try clear c28
        try clear c30
        try clear hcz15_0
        try clear hcz15_1
        try clear hcz15_2
        try clear hcz15_3
        try clear hcz17_0
        try clear hcz17_1
        try clear hcz17_2
        try clear hcz17_3
        try clear hcz23_0
        try clear hcz23_1
        try clear hcz23_2
        try clear hcz23_3
        try clear hcz25_0
        try clear hcz25_1
        try clear hcz25_2
        try clear hcz25_3
        try clear hcz29_0
        try clear hcz29_1
        try clear hcz29_2
        try clear hcz29_3
        try clear hcz31_0
        try clear hcz31_1
        try clear hcz31_2
        try clear hcz31_3
        try clear hcz32_0
        try clear hcz32_1
        try clear hcz32_2
        try clear hcz32_3
        try clear hcz8_0
        try clear hcz8_1
        try clear hcz8_2
        try clear hcz8_3
        try clear hfz15_0
        try clear hfz15_1
        try clear hfz15_2
        try clear hfz15_3
        try clear hfz17_0
        try clear hfz17_1
        try clear hfz17_2
        try clear hfz17_3
        try clear hfz23_0
        try clear hfz23_1
        try clear hfz23_2
        try clear hfz23_3
        try clear hfz25_0
        try clear hfz25_1
        try clear hfz25_2
        try clear hfz25_3
        try clear hfz29_0
        try clear hfz29_1
        try clear hfz29_2
        try clear hfz29_3
        try clear hfz31_0
        try clear hfz31_1
        try clear hfz31_2
        try clear hfz31_3
        try clear hfz32_0
        try clear hfz32_1
        try clear hfz32_2
        try clear hfz32_3
        try clear hfz8_0
        try clear hfz8_1
        try clear hfz8_2
        try clear hfz8_3
        obtain ⟨kq, x14_18, rfl, HA, HJ18, BK194, BK195, HB⟩ := hcut
        cases kq with
        | zero => exact absurd HA.out (by simp [badgercompact_keyRange_overlapsWith.j0])
        | succ kj18 =>
          have H := HA.out
          clear HA
          simp only [badgercompact_keyRange_overlapsWith.j0] at H
          by_cases c33 : x14_18 = true
          · subst c33
            have H1 : (some true) = some r := by rw [if_pos rfl] at H; exact H
            clear H
            have H := H1
            clear H1
            obtain rfl := Option.some.inj H
            go_wp2
            go_ret
            exact ⟨by first | rfl | (simp [errW_none, errW_some] <;> rfl) | (simp [*, errW_none, errW_some] <;> rfl), by repeat (first | (with_reducible first | exact HB.out | apply below_alloc | apply pw_below_drewN | apply below_drew1 | refine below_set ?_ GE194.out | refine below_set ?_ GE195.out) | exact HB.out)⟩
          · replace c33 := Bool.eq_false_iff.mpr c33
            subst c33
            have H1 : ((badgery_CompareKeys.f l0_0 l1_1).bind fun t198 => (if t198 > 0 then (some false) else ((badgery_CompareKeys.f l0_1 l1_0).bind fun t199 => (if t199 < 0 then (some false) else (some true))))) = some r := by rw [if_neg (show ¬ (false = true) by decide)] at H; exact H
            clear H
            have H := H1
            clear H1
            replace H := Option.bind_eq_some_iff.mp H
            obtain ⟨t198, A340, H⟩ := H
            replace H : (if t198 > 0 then (some false) else ((badgery_CompareKeys.f l0_1 l1_0).bind fun t199 => (if t199 < 0 then (some false) else (some true)))) = some r := H
            have A34 := Aside0.mk A340
            clear A340
            by_cases c35 : t198 > 0
            · rw [if_pos c35] at H
              have c35b0 : decide (0 < t198) = true := decide_eq_true c35
              clear c35
              obtain rfl := Option.some.inj H
              have hnb36 := NB194_195.out
              have hnc36 := NB195_194.out
              have hcz37_0 : wc.cell? ⟨gb194, 0, none⟩ = some (.slice A0_0 l0_0.length c0_0) := (blk_cell BK194.out 0).trans rfl
              have hcz37_1 : wc.cell? ⟨gb194, 1, none⟩ = some (.slice A0_1 l0_1.length c0_1) := (blk_cell BK194.out 1).trans rfl
              have hcz37_2 : wc.cell? ⟨gb194, 2, none⟩ = some (.bool a0_2) := (blk_cell BK194.out 2).trans rfl
              have hcz37_3 : wc.cell? ⟨gb194, 3, none⟩ = some (.int .i64 a0_3) := (blk_cell BK194.out 3).trans rfl
              have hfz37_0 := blk_frozen BK194.out 0
              have hfz37_1 := blk_frozen BK194.out 1
              have hfz37_2 := blk_frozen BK194.out 2
              have hfz37_3 := blk_frozen BK194.out 3
              have hcz38_0 : wc.cell? ⟨gb195, 0, none⟩ = some (.slice A1_0 l1_0.length c1_0) := (blk_cell BK195.out 0).trans rfl
              have hcz38_1 : wc.cell? ⟨gb195, 1, none⟩ = some (.slice A1_1 l1_1.length c1_1) := (blk_cell BK195.out 1).trans rfl
              have hcz38_2 : wc.cell? ⟨gb195, 2, none⟩ = some (.bool a1_2) := (blk_cell BK195.out 2).trans rfl
              have hcz38_3 : wc.cell? ⟨gb195, 3, none⟩ = some (.int .i64 a1_3) := (blk_cell BK195.out 3).trans rfl
              have hfz38_0 := blk_frozen BK195.out 0
              have hfz38_1 := blk_frozen BK195.out 1
              have hfz38_2 := blk_frozen BK195.out 2
              have hfz38_3 := blk_frozen BK195.out 3
              go_wp2_with (first | ((with_reducible refine gate_callee (f := 97) rfl ?_); refine goesL_ (some 19) rfl rfl Try.func97 (by kernel_rfl) rfl #[.slice A0_0 l0_0.length c0_0, .slice A1_1 l1_1.length c1_1] rfl (by (try simp only [List.map_toArray, List.map_cons, List.map_nil]); first | done | rfl | (simp only [List.length_drop, List.length_take]; rfl)) ?_; (with_reducible refine (badgery_CompareKeys.calls _ _ l0_0 _ _ l1_1 t198 _ ?side1 ?side2 ?side3 ?side4 A34.out).mono ?_); (case side1 => repeat (first | exact (Kd.C_below HR0_0.out HB.out) | (with_reducible refine Kd.C_alloc ?_ _) | (with_reducible refine Kd.C_drewN ?_ _) | (with_reducible refine Kd.C_drew ?_))); (case side2 => exact HC0_0.out); (case side3 => repeat (first | exact (Kd.C_below HR1_1.out HB.out) | (with_reducible refine Kd.C_alloc ?_ _) | (with_reducible refine Kd.C_drewN ?_ _) | (with_reducible refine Kd.C_drew ?_))); (case side4 => exact HC1_1.out); rintro e w39 ⟨rfl, hb⟩; refine ⟨_, rfl, ?_⟩; have n0_ := Aside0.mk (blk_below (g := gb194) (o := .cells #[.slice A0_0 l0_0.length c0_0, .slice A0_1 l0_1.length c0_1, .bool a0_2, .int .i64 a0_3] 155 (0, 0)) (by (with_reducible repeat (first | refine blk_drewN ?_ _ | refine blk_drew ?_ | refine blk_alloc ?_ _)); exact BK194.out) hb); have n1_ := Aside0.mk (blk_below (g := gb195) (o := .cells #[.slice A1_0 l1_0.length c1_0, .slice A1_1 l1_1.length c1_1, .bool a1_2, .int .i64 a1_3] 155 (0, 0)) (by (with_reducible repeat (first | refine blk_drewN ?_ _ | refine blk_drew ?_ | refine blk_alloc ?_ _)); exact BK195.out) hb); have n2_ := Aside0.mk (below_step (by repeat (first | (with_reducible first | exact HB.out | apply below_alloc | apply pw_below_drewN | apply below_drew1 | refine below_set ?_ GE194.out | refine below_set ?_ GE195.out) | exact HB.out)) hb); clear BK194; clear BK195; clear HB; have BK194 := n0_; have BK195 := n1_; have HB := n2_; clear n0_ n1_ n2_; (try clear hb); (try clear hb2); (try clear hk); (try clear hi)))
              go_ret
              exact ⟨by first | rfl | (simp [errW_none, errW_some] <;> rfl) | (simp [*, errW_none, errW_some] <;> rfl), by repeat (first | (with_reducible first | exact HB.out | apply below_alloc | apply pw_below_drewN | apply below_drew1 | refine below_set ?_ GE194.out | refine below_set ?_ GE195.out) | exact HB.out)⟩
            · rw [if_neg c35] at H
              have c35b0 : decide (0 < t198) = false := decide_eq_false c35
              clear c35
              replace H := Option.bind_eq_some_iff.mp H
              obtain ⟨t199, A400, H⟩ := H
              replace H : (if t199 < 0 then (some false) else (some true)) = some r := H
              have A40 := Aside0.mk A400
              clear A400
              by_cases c41 : t199 < 0
              · rw [if_pos c41] at H
                have c41b0 : decide (t199 < 0) = true := decide_eq_true c41
                clear c41
                obtain rfl := Option.some.inj H
                have hnb42 := NB194_195.out
                have hnc42 := NB195_194.out
                have hcz43_0 : wc.cell? ⟨gb194, 0, none⟩ = some (.slice A0_0 l0_0.length c0_0) := (blk_cell BK194.out 0).trans rfl
                have hcz43_1 : wc.cell? ⟨gb194, 1, none⟩ = some (.slice A0_1 l0_1.length c0_1) := (blk_cell BK194.out 1).trans rfl
                have hcz43_2 : wc.cell? ⟨gb194, 2, none⟩ = some (.bool a0_2) := (blk_cell BK194.out 2).trans rfl
                have hcz43_3 : wc.cell? ⟨gb194, 3, none⟩ = some (.int .i64 a0_3) := (blk_cell BK194.out 3).trans rfl
                have hfz43_0 := blk_frozen BK194.out 0
                have hfz43_1 := blk_frozen BK194.out 1
                have hfz43_2 := blk_frozen BK194.out 2
                have hfz43_3 := blk_frozen BK194.out 3
                have hcz44_0 : wc.cell? ⟨gb195, 0, none⟩ = some (.slice A1_0 l1_0.length c1_0) := (blk_cell BK195.out 0).trans rfl
                have hcz44_1 : wc.cell? ⟨gb195, 1, none⟩ = some (.slice A1_1 l1_1.length c1_1) := (blk_cell BK195.out 1).trans rfl
                have hcz44_2 : wc.cell? ⟨gb195, 2, none⟩ = some (.bool a1_2) := (blk_cell BK195.out 2).trans rfl
                have hcz44_3 : wc.cell? ⟨gb195, 3, none⟩ = some (.int .i64 a1_3) := (blk_cell BK195.out 3).trans rfl
                have hfz44_0 := blk_frozen BK195.out 0
                have hfz44_1 := blk_frozen BK195.out 1
                have hfz44_2 := blk_frozen BK195.out 2
                have hfz44_3 := blk_frozen BK195.out 3
                go_wp2_with (first | ((with_reducible refine gate_callee (f := 97) rfl ?_); refine goesL_ (some 19) rfl rfl Try.func97 (by kernel_rfl) rfl #[.slice A0_0 l0_0.length c0_0, .slice A1_1 l1_1.length c1_1] rfl (by (try simp only [List.map_toArray, List.map_cons, List.map_nil]); first | done | rfl | (simp only [List.length_drop, List.length_take]; rfl)) ?_; (with_reducible refine (badgery_CompareKeys.calls _ _ l0_0 _ _ l1_1 t198 _ ?side1 ?side2 ?side3 ?side4 A34.out).mono ?_); (case side1 => repeat (first | exact (Kd.C_below HR0_0.out HB.out) | (with_reducible refine Kd.C_alloc ?_ _) | (with_reducible refine Kd.C_drewN ?_ _) | (with_reducible refine Kd.C_drew ?_))); (case side2 => exact HC0_0.out); (case side3 => repeat (first | exact (Kd.C_below HR1_1.out HB.out) | (with_reducible refine Kd.C_alloc ?_ _) | (with_reducible refine Kd.C_drewN ?_ _) | (with_reducible refine Kd.C_drew ?_))); (case side4 => exact HC1_1.out); rintro e w45 ⟨rfl, hb⟩; refine ⟨_, rfl, ?_⟩; have n0_ := Aside0.mk (blk_below (g := gb194) (o := .cells #[.slice A0_0 l0_0.length c0_0, .slice A0_1 l0_1.length c0_1, .bool a0_2, .int .i64 a0_3] 155 (0, 0)) (by (with_reducible repeat (first | refine blk_drewN ?_ _ | refine blk_drew ?_ | refine blk_alloc ?_ _)); exact BK194.out) hb); have n1_ := Aside0.mk (blk_below (g := gb195) (o := .cells #[.slice A1_0 l1_0.length c1_0, .slice A1_1 l1_1.length c1_1, .bool a1_2, .int .i64 a1_3] 155 (0, 0)) (by (with_reducible repeat (first | refine blk_drewN ?_ _ | refine blk_drew ?_ | refine blk_alloc ?_ _)); exact BK195.out) hb); have n2_ := Aside0.mk (below_step (by repeat (first | (with_reducible first | exact HB.out | apply below_alloc | apply pw_below_drewN | apply below_drew1 | refine below_set ?_ GE194.out | refine below_set ?_ GE195.out) | exact HB.out)) hb); clear BK194; clear BK195; clear HB; have BK194 := n0_; have BK195 := n1_; have HB := n2_; clear n0_ n1_ n2_; (try clear hb); (try clear hb2); (try clear hk); (try clear hi); have hcz46_0 : w45.cell? ⟨gb194, 0, none⟩ = some (.slice A0_0 l0_0.length c0_0) := (blk_cell BK194.out 0).trans rfl; have hcz46_1 : w45.cell? ⟨gb194, 1, none⟩ = some (.slice A0_1 l0_1.length c0_1) := (blk_cell BK194.out 1).trans rfl; have hcz46_2 : w45.cell? ⟨gb194, 2, none⟩ = some (.bool a0_2) := (blk_cell BK194.out 2).trans rfl; have hcz46_3 : w45.cell? ⟨gb194, 3, none⟩ = some (.int .i64 a0_3) := (blk_cell BK194.out 3).trans rfl; have hfz46_0 := blk_frozen BK194.out 0; have hfz46_1 := blk_frozen BK194.out 1; have hfz46_2 := blk_frozen BK194.out 2; have hfz46_3 := blk_frozen BK194.out 3; have hcz47_0 : w45.cell? ⟨gb195, 0, none⟩ = some (.slice A1_0 l1_0.length c1_0) := (blk_cell BK195.out 0).trans rfl; have hcz47_1 : w45.cell? ⟨gb195, 1, none⟩ = some (.slice A1_1 l1_1.length c1_1) := (blk_cell BK195.out 1).trans rfl; have hcz47_2 : w45.cell? ⟨gb195, 2, none⟩ = some (.bool a1_2) := (blk_cell BK195.out 2).trans rfl; have hcz47_3 : w45.cell? ⟨gb195, 3, none⟩ = some (.int .i64 a1_3) := (blk_cell BK195.out 3).trans rfl; have hfz47_0 := blk_frozen BK195.out 0; have hfz47_1 := blk_frozen BK195.out 1; have hfz47_2 := blk_frozen BK195.out 2; have hfz47_3 := blk_frozen BK195.out 3) | ((with_reducible refine gate_callee (f := 97) rfl ?_); refine goesL_ (some 25) rfl rfl Try.func97 (by kernel_rfl) rfl #[.slice A0_1 l0_1.length c0_1, .slice A1_0 l1_0.length c1_0] rfl (by (try simp only [List.map_toArray, List.map_cons, List.map_nil]); first | done | rfl | (simp only [List.length_drop, List.length_take]; rfl)) ?_; (with_reducible refine (badgery_CompareKeys.calls _ _ l0_1 _ _ l1_0 t199 _ ?side1 ?side2 ?side3 ?side4 A40.out).mono ?_); (case side1 => repeat (first | exact (Kd.C_below HR0_1.out HB.out) | (with_reducible refine Kd.C_alloc ?_ _) | (with_reducible refine Kd.C_drewN ?_ _) | (with_reducible refine Kd.C_drew ?_))); (case side2 => exact HC0_1.out); (case side3 => repeat (first | exact (Kd.C_below HR1_0.out HB.out) | (with_reducible refine Kd.C_alloc ?_ _) | (with_reducible refine Kd.C_drewN ?_ _) | (with_reducible refine Kd.C_drew ?_))); (case side4 => exact HC1_0.out); rintro e w48 ⟨rfl, hb⟩; refine ⟨_, rfl, ?_⟩; have n0_ := Aside0.mk (blk_below (g := gb194) (o := .cells #[.slice A0_0 l0_0.length c0_0, .slice A0_1 l0_1.length c0_1, .bool a0_2, .int .i64 a0_3] 155 (0, 0)) (by (with_reducible repeat (first | refine blk_drewN ?_ _ | refine blk_drew ?_ | refine blk_alloc ?_ _)); exact BK194.out) hb); have n1_ := Aside0.mk (blk_below (g := gb195) (o := .cells #[.slice A1_0 l1_0.length c1_0, .slice A1_1 l1_1.length c1_1, .bool a1_2, .int .i64 a1_3] 155 (0, 0)) (by (with_reducible repeat (first | refine blk_drewN ?_ _ | refine blk_drew ?_ | refine blk_alloc ?_ _)); exact BK195.out) hb); have n2_ := Aside0.mk (below_step (by repeat (first | (with_reducible first | exact HB.out | apply below_alloc | apply pw_below_drewN | apply below_drew1 | refine below_set ?_ GE194.out | refine below_set ?_ GE195.out) | exact HB.out)) hb); clear BK194; clear BK195; clear HB; have BK194 := n0_; have BK195 := n1_; have HB := n2_; clear n0_ n1_ n2_; (try clear hb); (try clear hb2); (try clear hk); (try clear hi)))
                go_ret
                exact ⟨by first | rfl | (simp [errW_none, errW_some] <;> rfl) | (simp [*, errW_none, errW_some] <;> rfl), by repeat (first | (with_reducible first | exact HB.out | apply below_alloc | apply pw_below_drewN | apply below_drew1 | refine below_set ?_ GE194.out | refine below_set ?_ GE195.out) | exact HB.out)⟩
              · rw [if_neg c41] at H
                have c41b0 : decide (t199 < 0) = false := decide_eq_false c41
                clear c41
                obtain rfl := Option.some.inj H
                have hnb49 := NB194_195.out
                have hnc49 := NB195_194.out
                have hcz50_0 : wc.cell? ⟨gb194, 0, none⟩ = some (.slice A0_0 l0_0.length c0_0) := (blk_cell BK194.out 0).trans rfl
                have hcz50_1 : wc.cell? ⟨gb194, 1, none⟩ = some (.slice A0_1 l0_1.length c0_1) := (blk_cell BK194.out 1).trans rfl
                have hcz50_2 : wc.cell? ⟨gb194, 2, none⟩ = some (.bool a0_2) := (blk_cell BK194.out 2).trans rfl
                have hcz50_3 : wc.cell? ⟨gb194, 3, none⟩ = some (.int .i64 a0_3) := (blk_cell BK194.out 3).trans rfl
                have hfz50_0 := blk_frozen BK194.out 0
                have hfz50_1 := blk_frozen BK194.out 1
                have hfz50_2 := blk_frozen BK194.out 2
                have hfz50_3 := blk_frozen BK194.out 3
                have hcz51_0 : wc.cell? ⟨gb195, 0, none⟩ = some (.slice A1_0 l1_0.length c1_0) := (blk_cell BK195.out 0).trans rfl
                have hcz51_1 : wc.cell? ⟨gb195, 1, none⟩ = some (.slice A1_1 l1_1.length c1_1) := (blk_cell BK195.out 1).trans rfl
                have hcz51_2 : wc.cell? ⟨gb195, 2, none⟩ = some (.bool a1_2) := (blk_cell BK195.out 2).trans rfl
                have hcz51_3 : wc.cell? ⟨gb195, 3, none⟩ = some (.int .i64 a1_3) := (blk_cell BK195.out 3).trans rfl
                have hfz51_0 := blk_frozen BK195.out 0
                have hfz51_1 := blk_frozen BK195.out 1
                have hfz51_2 := blk_frozen BK195.out 2
                have hfz51_3 := blk_frozen BK195.out 3
                go_wp2_with (first | ((with_reducible refine gate_callee (f := 97) rfl ?_); refine goesL_ (some 19) rfl rfl Try.func97 (by kernel_rfl) rfl #[.slice A0_0 l0_0.length c0_0, .slice A1_1 l1_1.length c1_1] rfl (by (try simp only [List.map_toArray, List.map_cons, List.map_nil]); first | done | rfl | (simp only [List.length_drop, List.length_take]; rfl)) ?_; (with_reducible refine (badgery_CompareKeys.calls _ _ l0_0 _ _ l1_1 t198 _ ?side1 ?side2 ?side3 ?side4 A34.out).mono ?_); (case side1 => repeat (first | exact (Kd.C_below HR0_0.out HB.out) | (with_reducible refine Kd.C_alloc ?_ _) | (with_reducible refine Kd.C_drewN ?_ _) | (with_reducible refine Kd.C_drew ?_))); (case side2 => exact HC0_0.out); (case side3 => repeat (first | exact (Kd.C_below HR1_1.out HB.out) | (with_reducible refine Kd.C_alloc ?_ _) | (with_reducible refine Kd.C_drewN ?_ _) | (with_reducible refine Kd.C_drew ?_))); (case side4 => exact HC1_1.out); rintro e w52 ⟨rfl, hb⟩; refine ⟨_, rfl, ?_⟩; have n0_ := Aside0.mk (blk_below (g := gb194) (o := .cells #[.slice A0_0 l0_0.length c0_0, .slice A0_1 l0_1.length c0_1, .bool a0_2, .int .i64 a0_3] 155 (0, 0)) (by (with_reducible repeat (first | refine blk_drewN ?_ _ | refine blk_drew ?_ | refine blk_alloc ?_ _)); exact BK194.out) hb); have n1_ := Aside0.mk (blk_below (g := gb195) (o := .cells #[.slice A1_0 l1_0.length c1_0, .slice A1_1 l1_1.length c1_1, .bool a1_2, .int .i64 a1_3] 155 (0, 0)) (by (with_reducible repeat (first | refine blk_drewN ?_ _ | refine blk_drew ?_ | refine blk_alloc ?_ _)); exact BK195.out) hb); have n2_ := Aside0.mk (below_step (by repeat (first | (with_reducible first | exact HB.out | apply below_alloc | apply pw_below_drewN | apply below_drew1 | refine below_set ?_ GE194.out | refine below_set ?_ GE195.out) | exact HB.out)) hb); clear BK194; clear BK195; clear HB; have BK194 := n0_; have BK195 := n1_; have HB := n2_; clear n0_ n1_ n2_; (try clear hb); (try clear hb2); (try clear hk); (try clear hi); have hcz53_0 : w52.cell? ⟨gb194, 0, none⟩ = some (.slice A0_0 l0_0.length c0_0) := (blk_cell BK194.out 0).trans rfl; have hcz53_1 : w52.cell? ⟨gb194, 1, none⟩ = some (.slice A0_1 l0_1.length c0_1) := (blk_cell BK194.out 1).trans rfl; have hcz53_2 : w52.cell? ⟨gb194, 2, none⟩ = some (.bool a0_2) := (blk_cell BK194.out 2).trans rfl; have hcz53_3 : w52.cell? ⟨gb194, 3, none⟩ = some (.int .i64 a0_3) := (blk_cell BK194.out 3).trans rfl; have hfz53_0 := blk_frozen BK194.out 0; have hfz53_1 := blk_frozen BK194.out 1; have hfz53_2 := blk_frozen BK194.out 2; have hfz53_3 := blk_frozen BK194.out 3; have hcz54_0 : w52.cell? ⟨gb195, 0, none⟩ = some (.slice A1_0 l1_0.length c1_0) := (blk_cell BK195.out 0).trans rfl; have hcz54_1 : w52.cell? ⟨gb195, 1, none⟩ = some (.slice A1_1 l1_1.length c1_1) := (blk_cell BK195.out 1).trans rfl; have hcz54_2 : w52.cell? ⟨gb195, 2, none⟩ = some (.bool a1_2) := (blk_cell BK195.out 2).trans rfl; have hcz54_3 : w52.cell? ⟨gb195, 3, none⟩ = some (.int .i64 a1_3) := (blk_cell BK195.out 3).trans rfl; have hfz54_0 := blk_frozen BK195.out 0; have hfz54_1 := blk_frozen BK195.out 1; have hfz54_2 := blk_frozen BK195.out 2; have hfz54_3 := blk_frozen BK195.out 3) | ((with_reducible refine gate_callee (f := 97) rfl ?_); refine goesL_ (some 25) rfl rfl Try.func97 (by kernel_rfl) rfl #[.slice A0_1 l0_1.length c0_1, .slice A1_0 l1_0.length c1_0] rfl (by (try simp only [List.map_toArray, List.map_cons, List.map_nil]); first | done | rfl | (simp only [List.length_drop, List.length_take]; rfl)) ?_; (with_reducible refine (badgery_CompareKeys.calls _ _ l0_1 _ _ l1_0 t199 _ ?side1 ?side2 ?side3 ?side4 A40.out).mono ?_); (case side1 => repeat (first | exact (Kd.C_below HR0_1.out HB.out) | (with_reducible refine Kd.C_alloc ?_ _) | (with_reducible refine Kd.C_drewN ?_ _) | (with_reducible refine Kd.C_drew ?_))); (case side2 => exact HC0_1.out); (case side3 => repeat (first | exact (Kd.C_below HR1_0.out HB.out) | (with_reducible refine Kd.C_alloc ?_ _) | (with_reducible refine Kd.C_drewN ?_ _) | (with_reducible refine Kd.C_drew ?_))); (case side4 => exact HC1_0.out); rintro e w55 ⟨rfl, hb⟩; refine ⟨_, rfl, ?_⟩; have n0_ := Aside0.mk (blk_below (g := gb194) (o := .cells #[.slice A0_0 l0_0.length c0_0, .slice A0_1 l0_1.length c0_1, .bool a0_2, .int .i64 a0_3] 155 (0, 0)) (by (with_reducible repeat (first | refine blk_drewN ?_ _ | refine blk_drew ?_ | refine blk_alloc ?_ _)); exact BK194.out) hb); have n1_ := Aside0.mk (blk_below (g := gb195) (o := .cells #[.slice A1_0 l1_0.length c1_0, .slice A1_1 l1_1.length c1_1, .bool a1_2, .int .i64 a1_3] 155 (0, 0)) (by (with_reducible repeat (first | refine blk_drewN ?_ _ | refine blk_drew ?_ | refine blk_alloc ?_ _)); exact BK195.out) hb); have n2_ := Aside0.mk (below_step (by repeat (first | (with_reducible first | exact HB.out | apply below_alloc | apply pw_below_drewN | apply below_drew1 | refine below_set ?_ GE194.out | refine below_set ?_ GE195.out) | exact HB.out)) hb); clear BK194; clear BK195; clear HB; have BK194 := n0_; have BK195 := n1_; have HB := n2_; clear n0_ n1_ n2_; (try clear hb); (try clear hb2); (try clear hk); (try clear hi)))
                go_ret
                exact ⟨by first | rfl | (simp [errW_none, errW_some] <;> rfl) | (simp [*, errW_none, errW_some] <;> rfl), by repeat (first | (with_reducible first | exact HB.out | apply below_alloc | apply pw_below_drewN | apply below_drew1 | refine below_set ?_ GE194.out | refine below_set ?_ GE195.out) | exact HB.out)⟩

/-! ### badgercompact_Overlaps: function 123 -/
def badgercompact_Overlaps.f (k : Nat) (l0_0 : List Int) (l0_1 : List Int) (a0_2 : Bool) (l1_0 : List Int) (l1_1 : List Int) (a1_2 : Bool) : Option (Bool) := (badgercompact_Range_key.f l0_0 l0_1 a0_2).bind fun bt202 => ((badgercompact_Range_key.f l1_0 l1_1 a1_2).bind fun bt210 => ((badgercompact_keyRange_overlapsWith.f k bt202.1 bt202.2.1 bt202.2.2.1 bt202.2.2.2 bt210.1 bt210.2.1 bt210.2.2.1 bt210.2.2.2).bind fun t218 => (some t218)))
theorem badgercompact_Overlaps.mono : ∀ a0 a1 a2 a3 a4 a5 k, LeO (badgercompact_Overlaps.f k a0 a1 a2 a3 a4 a5) (badgercompact_Overlaps.f (k + 1) a0 a1 a2 a3 a4 a5) := by
  intro a0 a1 a2 a3 a4 a5 k
  unfold badgercompact_Overlaps.f
  repeat' first
      | (with_reducible exact badgercompact_keyRange_overlapsWith.mono _ _ _ _ _ _ _ _ _)
      | (with_reducible exact LeO.refl _)
      | (with_reducible exact LeO.none _)
      | (with_reducible refine LeO.ite ?_ ?_)
      | (with_reducible refine LeO.bind ?_ (fun _ => ?_))
      | exact badgercompact_keyRange_overlapsWith.mono _ _ _ _ _ _ _ _ _
      | exact LeO.none _
      | refine LeO.ite ?_ ?_
      | refine LeO.bind ?_ (fun _ => ?_)
set_option maxHeartbeats 8000000 in
set_option maxRecDepth 100000 in
theorem badgercompact_Overlaps.calls (k : Nat) (A0_0 : Option Addr) (c0_0 : Nat) (l0_0 : List Int) (A0_1 : Option Addr) (c0_1 : Nat) (l0_1 : List Int) (a0_2 : Bool) (A1_0 : Option Addr) (c1_0 : Nat) (l1_0 : List Int) (A1_1 : Option Addr) (c1_1 : Nat) (l1_1 : List Int) (a1_2 : Bool) (r : Bool) (w : World) (hr0_0 : Kd.C (Kd.int .u8) w A0_0 l0_0.length l0_0) (hc0_0 : l0_0.length ≤ c0_0) (hr0_1 : Kd.C (Kd.int .u8) w A0_1 l0_1.length l0_1) (hc0_1 : l0_1.length ≤ c0_1) (hr1_0 : Kd.C (Kd.int .u8) w A1_0 l1_0.length l1_0) (hc1_0 : l1_0.length ≤ c1_0) (hr1_1 : Kd.C (Kd.int .u8) w A1_1 l1_1.length l1_1) (hc1_1 : l1_1.length ≤ c1_1) (h : badgercompact_Overlaps.f k l0_0 l0_1 a0_2 l1_0 l1_1 a1_2 = some r) :
    Calls Try.prog 123 #[.agg #[.slice A0_0 l0_0.length c0_0, .slice A0_1 l0_1.length c0_1, .bool a0_2], .agg #[.slice A1_0 l1_0.length c1_0, .slice A1_1 l1_1.length c1_1, .bool a1_2]] w fun e w' => e = .returned (.bool r) ∧ Below w.heap.size w w' := by
  have hu117 := Try.underlying117
  have HR0_0 := Aside0.mk hr0_0
  have HC0_0 := Aside0.mk hc0_0
  clear hr0_0 hc0_0
  have HR0_1 := Aside0.mk hr0_1
  have HC0_1 := Aside0.mk hc0_1
  clear hr0_1 hc0_1
  have HR1_0 := Aside0.mk hr1_0
  have HC1_0 := Aside0.mk hc1_0
  clear hr1_0 hc1_0
  have HR1_1 := Aside0.mk hr1_1
  have HC1_1 := Aside0.mk hc1_1
  clear hr1_1 hc1_1
  have HB := Aside0.mk (Below.refl w.heap.size w)
  have H : ((badgercompact_Range_key.f l0_0 l0_1 a0_2).bind fun bt202 => ((badgercompact_Range_key.f l1_0 l1_1 a1_2).bind fun bt210 => ((badgercompact_keyRange_overlapsWith.f k bt202.1 bt202.2.1 bt202.2.2.1 bt202.2.2.2 bt210.1 bt210.2.1 bt210.2.2.1 bt210.2.2.2).bind fun t218 => (some t218)))) = some r := h
  clear h
  replace H := Option.bind_eq_some_iff.mp H
  obtain ⟨⟨t202, t205, t208, t209⟩, A30, H⟩ := H
  replace H : ((badgercompact_Range_key.f l1_0 l1_1 a1_2).bind fun bt210 => ((badgercompact_keyRange_overlapsWith.f k t202 t205 t208 t209 bt210.1 bt210.2.1 bt210.2.2.1 bt210.2.2.2).bind fun t218 => (some t218))) = some r := H
  have A3 := Aside0.mk A30
  clear A30
  replace H := Option.bind_eq_some_iff.mp H
  obtain ⟨⟨t210, t213, t216, t217⟩, A40, H⟩ := H
  replace H : ((badgercompact_keyRange_overlapsWith.f k t202 t205 t208 t209 t210 t213 t216 t217).bind fun t218 => (some t218)) = some r := H
  have A4 := Aside0.mk A40
  clear A40
  replace H := Option.bind_eq_some_iff.mp H
  obtain ⟨t218, A50, H⟩ := H
  replace H : (some t218) = some r := H
  have A5 := Aside0.mk A50
  clear A50
  obtain rfl := Option.some.inj H
  go_enter Try.func123, Try.ntmps123
  try go_wp2_with (first | ((with_reducible refine gate_dst (N := 2) rfl ?_); refine box_event ?hg (N := 2) ?hd (cs := #[.slice A0_0 l0_0.length c0_0, .slice A0_1 l0_1.length c0_1, .bool a0_2]) (t := 117) ?hr ?_; (case hd => rfl); (case hg => rfl); (case hr => first | (go_simp; done) | (go_simp; rfl)); intro gb200 hg w6 hbox hb; have n0_ := Aside0.mk (below_step (by repeat (first | (with_reducible first | exact HB.out | apply below_alloc | apply pw_below_drewN | apply below_drew1) | exact HB.out)) hb); have n1_ := Aside0.mk (hbox); have n2_ := Aside0.mk ((by rw [hg]; exact (below_size (by repeat (first | (with_reducible first | exact HB.out | apply below_alloc | apply pw_below_drewN | apply below_drew1) | exact HB.out))) : w.heap.size ≤ gb200)); have n3_ := Aside0.mk ((by rw [hg]; exact (below_size (by repeat (first | (with_reducible first | exact HB.out | apply below_alloc | apply pw_below_drewN | apply below_drew1) | exact HB.out))) : w.heap.size ≤ gb200)); clear HB; have HB := n0_; have BK200 := n1_; have GW200 := n2_; have GE200 := n3_; clear n0_ n1_ n2_ n3_; clear hb hbox hg) | ((with_reducible refine gate_dst (N := 3) rfl ?_); refine box_event ?hg (N := 3) ?hd (cs := #[.slice A1_0 l1_0.length c1_0, .slice A1_1 l1_1.length c1_1, .bool a1_2]) (t := 117) ?hr ?_; (case hd => rfl); (case hg => rfl); (case hr => first | (go_simp; done) | (go_simp; rfl)); intro gb201 hg w7 hbox hb; have n0_ := Aside0.mk (blk_below (g := gb200) (o := .cells #[.slice A0_0 l0_0.length c0_0, .slice A0_1 l0_1.length c0_1, .bool a0_2] 117 (0, 0)) (by (with_reducible repeat (first | refine blk_drewN ?_ _ | refine blk_drew ?_ | refine blk_alloc ?_ _)); exact BK200.out) hb); have n1_ := Aside0.mk (below_step (by repeat (first | (with_reducible first | exact HB.out | apply below_alloc | apply pw_below_drewN | apply below_drew1 | refine below_set ?_ GE200.out) | exact HB.out)) hb); have n2_ := Aside0.mk (hbox); have n3_ := Aside0.mk ((by rw [hg]; exact (below_size (by repeat (first | (with_reducible first | exact HB.out | apply below_alloc | apply pw_below_drewN | apply below_drew1 | refine below_set ?_ GE200.out) | exact HB.out))) : w.heap.size ≤ gb201)); have n4_ := Aside0.mk ((by rw [hg]; exact (below_size (by repeat (first | (with_reducible first | exact HB.out | apply below_alloc | apply pw_below_drewN | apply below_drew1 | refine below_set ?_ GE200.out) | exact HB.out))) : w.heap.size ≤ gb201)); have n5_ := Aside0.mk ((by rw [hg]; exact Nat.ne_of_lt (blk_lt (g := gb200) (o := .cells #[.slice A0_0 l0_0.length c0_0, .slice A0_1 l0_1.length c0_1, .bool a0_2] 117 (0, 0)) (by (with_reducible repeat (first | refine blk_drewN ?_ _ | refine blk_drew ?_ | refine blk_alloc ?_ _)); exact BK200.out)) : gb200 ≠ gb201)); have n6_ := Aside0.mk ((by rw [hg]; exact Nat.ne_of_gt (blk_lt (g := gb200) (o := .cells #[.slice A0_0 l0_0.length c0_0, .slice A0_1 l0_1.length c0_1, .bool a0_2] 117 (0, 0)) (by (with_reducible repeat (first | refine blk_drewN ?_ _ | refine blk_drew ?_ | refine blk_alloc ?_ _)); exact BK200.out)) : gb201 ≠ gb200)); clear BK200; clear HB; have BK200 := n0_; have HB := n1_; have BK201 := n2_; have GW201 := n3_; have GE201 := n4_; have NB200_201 := n5_; have NB201_200 := n6_; clear n0_ n1_ n2_ n3_ n4_ n5_ n6_; clear hb hbox hg))
  have n0_ := Aside0.mk (blk_drew BK200.out)
  have n1_ := Aside0.mk (blk_drew BK201.out)
  have n2_ := Aside0.mk (below_drew1 HB.out)
  clear BK200
  clear BK201
  clear HB
  have BK200 := n0_
  have BK201 := n1_
  have HB := n2_
  clear n0_ n1_ n2_
  refine start_ (n := 6) (S := fun w' => w'.cell? ⟨gb200, 0, none⟩ = some (.slice A0_0 l0_0.length c0_0) ∧ w'.cell? ⟨gb200, 1, none⟩ = some (.slice A0_1 l0_1.length c0_1) ∧ w'.cell? ⟨gb200, 2, none⟩ = some (.bool a0_2) ∧ w'.cell? ⟨gb201, 0, none⟩ = some (.slice A1_0 l1_0.length c1_0) ∧ w'.cell? ⟨gb201, 1, none⟩ = some (.slice A1_1 l1_1.length c1_1) ∧ w'.cell? ⟨gb201, 2, none⟩ = some (.bool a1_2)) (ds := []) #[false, false, false, false, false, false] (by kernel_rfl) rfl rfl ⟨(blk_cell BK200.out 0).trans rfl, (blk_cell BK200.out 1).trans rfl, (blk_cell BK200.out 2).trans rfl, (blk_cell BK201.out 0).trans rfl, (blk_cell BK201.out 1).trans rfl, (blk_cell BK201.out 2).trans rfl⟩ (fun hHeld => ?_)
  generalize w7.drew = w8 at BK200 BK201 HB hHeld ⊢
  refine take_ (i := 0) (N := some 5) (v := ?_) (a' := ?_) #[true, false, false, false, false, false] rfl rfl (by kernel_rfl) (fun _ _ _ h => h) (Or.inl ⟨by rfl, ?_⟩) hHeld ?_ ?_
  rotate_left
  · rintro w' ⟨s0, s1, s2, s3, s4, s5⟩
    go_simp
    with_reducible rfl
  rotate_left
  · simp only [Act.put, List.setIfInBounds_toArray, List.set_cons_zero, List.set_cons_succ, i64_w, i32_w]
    rfl
  refine take_ (i := 2) (N := some 7) (v := ?_) (a' := ?_) #[true, false, true, false, false, false] rfl rfl (by kernel_rfl) (fun _ _ _ h => h) (Or.inl ⟨by rfl, ?_⟩) hHeld ?_ ?_
  rotate_left
  · rintro w' ⟨s0, s1, s2, s3, s4, s5⟩
    go_simp
    with_reducible rfl
  rotate_left
  · simp only [Act.put, List.setIfInBounds_toArray, List.set_cons_zero, List.set_cons_succ, i64_w, i32_w]
    rfl
  refine one_ (i := 1) (N := some 6) #[true, true, true, false, false, false] rfl rfl (by kernel_rfl) (by decide) (fun K hK => ?_)
  refine goes_ Try.func146 (by kernel_rfl) rfl #[.agg #[.slice A0_0 l0_0.length c0_0, .slice A0_1 l0_1.length c0_1, .bool a0_2]] (by rfl) rfl rfl (by (try simp only [List.map_toArray, List.map_cons, List.map_nil]); first | done | rfl | (simp only [List.length_drop, List.length_take]; rfl)) ?_
  with_reducible refine (badgercompact_Range_key.calls (fun k_ => k_ < w.heap.size) _ _ l0_0 (fun k_ => k_ < w.heap.size) _ _ l0_1 a0_2 t202 t205 t208 t209 _ ?side1 ?side2 A3.out).mono ?_
  (case side1 => exact Kd.V_mk HC0_0.out (Kd.F_below (Kd.C_F (Kd.heap_int .u8) HR0_0.out) (by repeat (first | (with_reducible first | exact HB.out | apply below_alloc | apply pw_below_drewN | apply below_drew1 | refine below_set ?_ GE200.out | refine below_set ?_ GE201.out) | exact HB.out))))
  (case side2 => exact Kd.V_mk HC0_1.out (Kd.F_below (Kd.C_F (Kd.heap_int .u8) HR0_1.out) (by repeat (first | (with_reducible first | exact HB.out | apply below_alloc | apply pw_below_drewN | apply below_drew1 | refine below_set ?_ GE200.out | refine below_set ?_ GE201.out) | exact HB.out))))
  rintro e w9 ⟨v203, v206, rfl, ho0, ho1, hb⟩
  refine ⟨_, rfl, ?_⟩
  have n0_ := Aside0.mk (Kd.V_lower (Kd.V_mono (ok' := fun k_ => k_ ≠ gb200 ∧ k_ ≠ gb201) ho0 (fun k_ hk_ => ⟨Or.elim hk_ (fun hs_ => Or.elim hs_ (fun hs_ => fun e_ => Nat.not_le.2 hs_ (by rw [e_]; exact GW200.out)) (fun hs_ => fun e_ => Nat.not_le.2 hs_ (by rw [e_]; exact GW200.out))) (fun hn_ => (Kd.freshB (g := gb200) (o := .cells #[.slice A0_0 l0_0.length c0_0, .slice A0_1 l0_1.length c0_1, .bool a0_2] 117 (0, 0)) (by (with_reducible repeat (first | refine blk_drewN ?_ _ | refine blk_drew ?_ | refine blk_alloc ?_ _)); exact BK200.out) k_ hn_)), Or.elim hk_ (fun hs_ => Or.elim hs_ (fun hs_ => fun e_ => Nat.not_le.2 hs_ (by rw [e_]; exact GW201.out)) (fun hs_ => fun e_ => Nat.not_le.2 hs_ (by rw [e_]; exact GW201.out))) (fun hn_ => (Kd.freshB (g := gb201) (o := .cells #[.slice A1_0 l1_0.length c1_0, .slice A1_1 l1_1.length c1_1, .bool a1_2] 117 (0, 0)) (by (with_reducible repeat (first | refine blk_drewN ?_ _ | refine blk_drew ?_ | refine blk_alloc ?_ _)); exact BK201.out) k_ hn_))⟩)) (below_size (by repeat (first | (with_reducible first | exact HB.out | apply below_alloc | apply pw_below_drewN | apply below_drew1 | refine below_set ?_ GE200.out | refine below_set ?_ GE201.out) | exact HB.out))))
  have n1_ := Aside0.mk (Kd.V_lower (Kd.V_mono (ok' := fun k_ => k_ ≠ gb200 ∧ k_ ≠ gb201) ho1 (fun k_ hk_ => ⟨Or.elim hk_ (fun hs_ => Or.elim hs_ (fun hs_ => fun e_ => Nat.not_le.2 hs_ (by rw [e_]; exact GW200.out)) (fun hs_ => fun e_ => Nat.not_le.2 hs_ (by rw [e_]; exact GW200.out))) (fun hn_ => (Kd.freshB (g := gb200) (o := .cells #[.slice A0_0 l0_0.length c0_0, .slice A0_1 l0_1.length c0_1, .bool a0_2] 117 (0, 0)) (by (with_reducible repeat (first | refine blk_drewN ?_ _ | refine blk_drew ?_ | refine blk_alloc ?_ _)); exact BK200.out) k_ hn_)), Or.elim hk_ (fun hs_ => Or.elim hs_ (fun hs_ => fun e_ => Nat.not_le.2 hs_ (by rw [e_]; exact GW201.out)) (fun hs_ => fun e_ => Nat.not_le.2 hs_ (by rw [e_]; exact GW201.out))) (fun hn_ => (Kd.freshB (g := gb201) (o := .cells #[.slice A1_0 l1_0.length c1_0, .slice A1_1 l1_1.length c1_1, .bool a1_2] 117 (0, 0)) (by (with_reducible repeat (first | refine blk_drewN ?_ _ | refine blk_drew ?_ | refine blk_alloc ?_ _)); exact BK201.out) k_ hn_))⟩)) (below_size (by repeat (first | (with_reducible first | exact HB.out | apply below_alloc | apply pw_below_drewN | apply below_drew1 | refine below_set ?_ GE200.out | refine below_set ?_ GE201.out) | exact HB.out))))
  have n2_ := Aside0.mk (blk_below (g := gb200) (o := .cells #[.slice A0_0 l0_0.length c0_0, .slice A0_1 l0_1.length c0_1, .bool a0_2] 117 (0, 0)) (by (with_reducible repeat (first | refine blk_drewN ?_ _ | refine blk_drew ?_ | refine blk_alloc ?_ _)); exact BK200.out) hb)
  have n3_ := Aside0.mk (blk_below (g := gb201) (o := .cells #[.slice A1_0 l1_0.length c1_0, .slice A1_1 l1_1.length c1_1, .bool a1_2] 117 (0, 0)) (by (with_reducible repeat (first | refine blk_drewN ?_ _ | refine blk_drew ?_ | refine blk_alloc ?_ _)); exact BK201.out) hb)
  have n4_ := Aside0.mk (below_step (by repeat (first | (with_reducible first | exact HB.out | apply below_alloc | apply pw_below_drewN | apply below_drew1 | refine below_set ?_ GE200.out | refine below_set ?_ GE201.out) | exact HB.out)) hb)
  clear BK200
  clear BK201
  clear HB
  have HO204 := n0_
  have HO207 := n1_
  have BK200 := n2_
  have BK201 := n3_
  have HB := n4_
  clear n0_ n1_ n2_ n3_ n4_
  (try clear hb)
  (try clear hb2)
  (try clear hk)
  (try clear hi)
  (try clear ho0)
  (try clear ho1)
  refine hK.out _ _ ⟨(blk_cell BK200.out 0).trans rfl, (blk_cell BK200.out 1).trans rfl, (blk_cell BK200.out 2).trans rfl, (blk_cell BK201.out 0).trans rfl, (blk_cell BK201.out 1).trans rfl, (blk_cell BK201.out 2).trans rfl⟩ (fun hHeld => ?_)
  clear hK K
  refine norm_ (a' := ?_) ?_ ?_
  rotate_left
  · show Act.put _ (some 6) _ = _
    simp only [Act.put, List.setIfInBounds_toArray, List.set_cons_zero, List.set_cons_succ, i64_w, i32_w]
    rfl
  refine one_ (i := 3) (N := some 8) #[true, true, true, true, false, false] rfl rfl (by kernel_rfl) (by decide) (fun K hK => ?_)
  refine goes_ Try.func146 (by kernel_rfl) rfl #[.agg #[.slice A1_0 l1_0.length c1_0, .slice A1_1 l1_1.length c1_1, .bool a1_2]] (by rfl) rfl rfl (by (try simp only [List.map_toArray, List.map_cons, List.map_nil]); first | done | rfl | (simp only [List.length_drop, List.length_take]; rfl)) ?_
  with_reducible refine (badgercompact_Range_key.calls (fun k_ => k_ < w.heap.size) _ _ l1_0 (fun k_ => k_ < w.heap.size) _ _ l1_1 a1_2 t210 t213 t216 t217 _ ?side1 ?side2 A4.out).mono ?_
  (case side1 => exact Kd.V_mk HC1_0.out (Kd.F_below (Kd.C_F (Kd.heap_int .u8) HR1_0.out) (by repeat (first | (with_reducible first | exact HB.out | apply below_alloc | apply pw_below_drewN | apply below_drew1 | refine below_set ?_ GE200.out | refine below_set ?_ GE201.out) | exact HB.out))))
  (case side2 => exact Kd.V_mk HC1_1.out (Kd.F_below (Kd.C_F (Kd.heap_int .u8) HR1_1.out) (by repeat (first | (with_reducible first | exact HB.out | apply below_alloc | apply pw_below_drewN | apply below_drew1 | refine below_set ?_ GE200.out | refine below_set ?_ GE201.out) | exact HB.out))))
  rintro e w10 ⟨v211, v214, rfl, ho0, ho1, hb⟩
  refine ⟨_, rfl, ?_⟩
  have n0_ := Aside0.mk (Kd.V_below (by (with_reducible repeat (first | apply Kd.V_alloc | apply Kd.V_drewN | apply Kd.V_drew)); exact HO204.out) hb)
  have n1_ := Aside0.mk (Kd.V_below (by (with_reducible repeat (first | apply Kd.V_alloc | apply Kd.V_drewN | apply Kd.V_drew)); exact HO207.out) hb)
  have n2_ := Aside0.mk (Kd.V_lower (Kd.V_mono (ok' := fun k_ => k_ ≠ gb200 ∧ k_ ≠ gb201) ho0 (fun k_ hk_ => ⟨Or.elim hk_ (fun hs_ => Or.elim hs_ (fun hs_ => fun e_ => Nat.not_le.2 hs_ (by rw [e_]; exact GW200.out)) (fun hs_ => fun e_ => Nat.not_le.2 hs_ (by rw [e_]; exact GW200.out))) (fun hn_ => (Kd.freshB (g := gb200) (o := .cells #[.slice A0_0 l0_0.length c0_0, .slice A0_1 l0_1.length c0_1, .bool a0_2] 117 (0, 0)) (by (with_reducible repeat (first | refine blk_drewN ?_ _ | refine blk_drew ?_ | refine blk_alloc ?_ _)); exact BK200.out) k_ hn_)), Or.elim hk_ (fun hs_ => Or.elim hs_ (fun hs_ => fun e_ => Nat.not_le.2 hs_ (by rw [e_]; exact GW201.out)) (fun hs_ => fun e_ => Nat.not_le.2 hs_ (by rw [e_]; exact GW201.out))) (fun hn_ => (Kd.freshB (g := gb201) (o := .cells #[.slice A1_0 l1_0.length c1_0, .slice A1_1 l1_1.length c1_1, .bool a1_2] 117 (0, 0)) (by (with_reducible repeat (first | refine blk_drewN ?_ _ | refine blk_drew ?_ | refine blk_alloc ?_ _)); exact BK201.out) k_ hn_))⟩)) (below_size (by repeat (first | (with_reducible first | exact HB.out | apply below_alloc | apply pw_below_drewN | apply below_drew1 | refine below_set ?_ GE200.out | refine below_set ?_ GE201.out) | exact HB.out))))
  have n3_ := Aside0.mk (Kd.V_lower (Kd.V_mono (ok' := fun k_ => k_ ≠ gb200 ∧ k_ ≠ gb201) ho1 (fun k_ hk_ => ⟨Or.elim hk_ (fun hs_ => Or.elim hs_ (fun hs_ => fun e_ => Nat.not_le.2 hs_ (by rw [e_]; exact GW200.out)) (fun hs_ => fun e_ => Nat.not_le.2 hs_ (by rw [e_]; exact GW200.out))) (fun hn_ => (Kd.freshB (g := gb200) (o := .cells #[.slice A0_0 l0_0.length c0_0, .slice A0_1 l0_1.length c0_1, .bool a0_2] 117 (0, 0)) (by (with_reducible repeat (first | refine blk_drewN ?_ _ | refine blk_drew ?_ | refine blk_alloc ?_ _)); exact BK200.out) k_ hn_)), Or.elim hk_ (fun hs_ => Or.elim hs_ (fun hs_ => fun e_ => Nat.not_le.2 hs_ (by rw [e_]; exact GW201.out)) (fun hs_ => fun e_ => Nat.not_le.2 hs_ (by rw [e_]; exact GW201.out))) (fun hn_ => (Kd.freshB (g := gb201) (o := .cells #[.slice A1_0 l1_0.length c1_0, .slice A1_1 l1_1.length c1_1, .bool a1_2] 117 (0, 0)) (by (with_reducible repeat (first | refine blk_drewN ?_ _ | refine blk_drew ?_ | refine blk_alloc ?_ _)); exact BK201.out) k_ hn_))⟩)) (below_size (by repeat (first | (with_reducible first | exact HB.out | apply below_alloc | apply pw_below_drewN | apply below_drew1 | refine below_set ?_ GE200.out | refine below_set ?_ GE201.out) | exact HB.out))))
  have n4_ := Aside0.mk (blk_below (g := gb200) (o := .cells #[.slice A0_0 l0_0.length c0_0, .slice A0_1 l0_1.length c0_1, .bool a0_2] 117 (0, 0)) (by (with_reducible repeat (first | refine blk_drewN ?_ _ | refine blk_drew ?_ | refine blk_alloc ?_ _)); exact BK200.out) hb)
  have n5_ := Aside0.mk (blk_below (g := gb201) (o := .cells #[.slice A1_0 l1_0.length c1_0, .slice A1_1 l1_1.length c1_1, .bool a1_2] 117 (0, 0)) (by (with_reducible repeat (first | refine blk_drewN ?_ _ | refine blk_drew ?_ | refine blk_alloc ?_ _)); exact BK201.out) hb)
  have n6_ := Aside0.mk (below_step (by repeat (first | (with_reducible first | exact HB.out | apply below_alloc | apply pw_below_drewN | apply below_drew1 | refine below_set ?_ GE200.out | refine below_set ?_ GE201.out) | exact HB.out)) hb)
  clear HO204
  clear HO207
  clear BK200
  clear BK201
  clear HB
  have HO204 := n0_
  have HO207 := n1_
  have HO212 := n2_
  have HO215 := n3_
  have BK200 := n4_
  have BK201 := n5_
  have HB := n6_
  clear n0_ n1_ n2_ n3_ n4_ n5_ n6_
  (try clear hb)
  (try clear hb2)
  (try clear hk)
  (try clear hi)
  (try clear ho0)
  (try clear ho1)
  obtain ⟨Ao11, co11, eo11⟩ := Kd.V_slice HO204.out
  (first | subst eo11 | (injection eo11 with f1_ f2_ f3_; have f4_ := f1_.symm; have f5_ := f3_.symm; clear f1_ f2_ f3_; subst f4_; subst f5_))
  obtain ⟨Ao12, co12, eo12⟩ := Kd.V_slice HO207.out
  (first | subst eo12 | (injection eo12 with f1_ f2_ f3_; have f4_ := f1_.symm; have f5_ := f3_.symm; clear f1_ f2_ f3_; subst f4_; subst f5_))
  obtain ⟨Ao13, co13, eo13⟩ := Kd.V_slice HO212.out
  (first | subst eo13 | (injection eo13 with f1_ f2_ f3_; have f4_ := f1_.symm; have f5_ := f3_.symm; clear f1_ f2_ f3_; subst f4_; subst f5_))
  obtain ⟨Ao14, co14, eo14⟩ := Kd.V_slice HO215.out
  (first | subst eo14 | (injection eo14 with f1_ f2_ f3_; have f4_ := f1_.symm; have f5_ := f3_.symm; clear f1_ f2_ f3_; subst f4_; subst f5_))
  refine hK.out _ _ ⟨(blk_cell BK200.out 0).trans rfl, (blk_cell BK200.out 1).trans rfl, (blk_cell BK200.out 2).trans rfl, (blk_cell BK201.out 0).trans rfl, (blk_cell BK201.out 1).trans rfl, (blk_cell BK201.out 2).trans rfl⟩ (fun hHeld => ?_)
  clear hK K
  refine norm_ (a' := ?_) ?_ ?_
  rotate_left
  · show Act.put _ (some 8) _ = _
    simp only [Act.put, List.setIfInBounds_toArray, List.set_cons_zero, List.set_cons_succ, i64_w, i32_w]
    rfl
  refine one_ (i := 4) (N := some 9) #[true, true, true, true, true, false] rfl rfl (by kernel_rfl) (by decide) (fun K hK => ?_)
  refine goes_ Try.func158 (by kernel_rfl) rfl #[.agg #[.slice Ao11 t202.length co11, .slice Ao12 t205.length co12, .bool t208, .int .i64 t209], .agg #[.slice Ao13 t210.length co13, .slice Ao14 t213.length co14, .bool t216, .int .i64 t217]] (by rfl) rfl rfl (by (try simp only [List.map_toArray, List.map_cons, List.map_nil]); first | done | rfl | (simp only [List.length_drop, List.length_take]; rfl)) ?_
  with_reducible refine (badgercompact_keyRange_overlapsWith.calls k _ _ t202 _ _ t205 t208 t209 _ _ t210 _ _ t213 t216 t217 t218 _ ?side1 ?side2 ?side3 ?side4 ?side5 ?side6 ?side7 ?side8 A5.out).mono ?_
  (case side1 => repeat (first | exact (Kd.V_reads' HO204.out).2.2 | (with_reducible refine Kd.C_alloc ?_ _) | (with_reducible refine Kd.C_drewN ?_ _) | (with_reducible refine Kd.C_drew ?_)))
  (case side2 => exact (Kd.V_reads' HO204.out).2.1)
  (case side3 => repeat (first | exact (Kd.V_reads' HO207.out).2.2 | (with_reducible refine Kd.C_alloc ?_ _) | (with_reducible refine Kd.C_drewN ?_ _) | (with_reducible refine Kd.C_drew ?_)))
  (case side4 => exact (Kd.V_reads' HO207.out).2.1)
  (case side5 => repeat (first | exact (Kd.V_reads' HO212.out).2.2 | (with_reducible refine Kd.C_alloc ?_ _) | (with_reducible refine Kd.C_drewN ?_ _) | (with_reducible refine Kd.C_drew ?_)))
  (case side6 => exact (Kd.V_reads' HO212.out).2.1)
  (case side7 => repeat (first | exact (Kd.V_reads' HO215.out).2.2 | (with_reducible refine Kd.C_alloc ?_ _) | (with_reducible refine Kd.C_drewN ?_ _) | (with_reducible refine Kd.C_drew ?_)))
  (case side8 => exact (Kd.V_reads' HO215.out).2.1)
  rintro e w15 ⟨rfl, hb⟩
  refine ⟨_, rfl, ?_⟩
  have n0_ := Aside0.mk (Kd.V_below (by (with_reducible repeat (first | apply Kd.V_alloc | apply Kd.V_drewN | apply Kd.V_drew)); exact HO204.out) hb)
  have n1_ := Aside0.mk (Kd.V_below (by (with_reducible repeat (first | apply Kd.V_alloc | apply Kd.V_drewN | apply Kd.V_drew)); exact HO207.out) hb)
  have n2_ := Aside0.mk (Kd.V_below (by (with_reducible repeat (first | apply Kd.V_alloc | apply Kd.V_drewN | apply Kd.V_drew)); exact HO212.out) hb)
  have n3_ := Aside0.mk (Kd.V_below (by (with_reducible repeat (first | apply Kd.V_alloc | apply Kd.V_drewN | apply Kd.V_drew)); exact HO215.out) hb)
  have n4_ := Aside0.mk (blk_below (g := gb200) (o := .cells #[.slice A0_0 l0_0.length c0_0, .slice A0_1 l0_1.length c0_1, .bool a0_2] 117 (0, 0)) (by (with_reducible repeat (first | refine blk_drewN ?_ _ | refine blk_drew ?_ | refine blk_alloc ?_ _)); exact BK200.out) hb)
  have n5_ := Aside0.mk (blk_below (g := gb201) (o := .cells #[.slice A1_0 l1_0.length c1_0, .slice A1_1 l1_1.length c1_1, .bool a1_2] 117 (0, 0)) (by (with_reducible repeat (first | refine blk_drewN ?_ _ | refine blk_drew ?_ | refine blk_alloc ?_ _)); exact BK201.out) hb)
  have n6_ := Aside0.mk (below_step (by repeat (first | (with_reducible first | exact HB.out | apply below_alloc | apply pw_below_drewN | apply below_drew1 | refine below_set ?_ GE200.out | refine below_set ?_ GE201.out) | exact HB.out)) hb)
  clear HO204
  clear HO207
  clear HO212
  clear HO215
  clear BK200
  clear BK201
  clear HB
  have HO204 := n0_
  have HO207 := n1_
  have HO212 := n2_
  have HO215 := n3_
  have BK200 := n4_
  have BK201 := n5_
  have HB := n6_
  clear n0_ n1_ n2_ n3_ n4_ n5_ n6_
  (try clear hb)
  (try clear hb2)
  (try clear hk)
  (try clear hi)
  refine hK.out _ _ ⟨(blk_cell BK200.out 0).trans rfl, (blk_cell BK200.out 1).trans rfl, (blk_cell BK200.out 2).trans rfl, (blk_cell BK201.out 0).trans rfl, (blk_cell BK201.out 1).trans rfl, (blk_cell BK201.out 2).trans rfl⟩ (fun hHeld => ?_)
  clear hK K
  refine norm_ (a' := ?_) ?_ ?_
  rotate_left
  · show Act.put _ (some 9) _ = _
    simp only [Act.put, List.setIfInBounds_toArray, List.set_cons_zero, List.set_cons_succ, i64_w, i32_w]
    rfl
  refine pure_ (i := 5) (N := some 4) (v := ?_) (a' := ?_) #[true, true, true, true, true, true] rfl rfl (by kernel_rfl) (fun _ _ _ h => h) (Or.inl ⟨by rfl, ?_⟩) ?_ ?_
  rotate_left
  · intro w'
    go_simp
    with_reducible rfl
  rotate_left
  · simp only [Act.put, List.setIfInBounds_toArray, List.set_cons_zero, List.set_cons_succ, i64_w, i32_w]
    rfl
  refine done_ (by kernel_rfl) ?_
  try go_wp2
  go_ret
  exact ⟨by first | rfl | (simp [errW_none, errW_some] <;> rfl) | (simp [*, errW_none, errW_some] <;> rfl), by repeat (first | (with_reducible first | exact HB.out | apply below_alloc | apply pw_below_drewN | apply below_drew1 | refine below_set ?_ GE200.out | refine below_set ?_ GE201.out) | exact HB.out)⟩

/-! ### impl_Overlap: function 71 -/
def impl_Overlap.f (k : Nat) (a0_0 : Bool) (l0_1 : List Int) (a0_2 : Int) (a0_3 : Bool) (l0_4 : List Int) (a0_5 : Int) (a0_6 : Bool) (a1_0 : Bool) (l1_1 : List Int) (a1_2 : Int) (a1_3 : Bool) (l1_4 : List Int) (a1_5 : Int) (a1_6 : Bool) : Option (Bool) := (impl_rangeOf.f a0_0 l0_1 a0_2 a0_3 l0_4 a0_5 a0_6).bind fun bt221 => ((impl_rangeOf.f a1_0 l1_1 a1_2 a1_3 l1_4 a1_5 a1_6).bind fun bt228 => ((badgercompact_Overlaps.f k bt221.1 bt221.2.1 bt221.2.2 bt228.1 bt228.2.1 bt228.2.2).bind fun t235 => (some t235)))
theorem impl_Overlap.mono : ∀ a0 a1 a2 a3 a4 a5 a6 a7 a8 a9 a10 a11 a12 a13 k, LeO (impl_Overlap.f k a0 a1 a2 a3 a4 a5 a6 a7 a8 a9 a10 a11 a12 a13) (impl_Overlap.f (k + 1) a0 a1 a2 a3 a4 a5 a6 a7 a8 a9 a10 a11 a12 a13) := by
  intro a0 a1 a2 a3 a4 a5 a6 a7 a8 a9 a10 a11 a12 a13 k
  unfold impl_Overlap.f
  repeat' first
      | (with_reducible exact badgercompact_Overlaps.mono _ _ _ _ _ _ _)
      | (with_reducible exact LeO.refl _)
      | (with_reducible exact LeO.none _)
      | (with_reducible refine LeO.ite ?_ ?_)
      | (with_reducible refine LeO.bind ?_ (fun _ => ?_))
      | exact badgercompact_Overlaps.mono _ _ _ _ _ _ _
      | exact LeO.none _
      | refine LeO.ite ?_ ?_
      | refine LeO.bind ?_ (fun _ => ?_)
set_option maxHeartbeats 8000000 in
set_option maxRecDepth 100000 in
theorem impl_Overlap.calls (k : Nat) (a0_0 : Bool) (A0_1 : Option Addr) (c0_1 : Nat) (l0_1 : List Int) (a0_2 : Int) (a0_3 : Bool) (A0_4 : Option Addr) (c0_4 : Nat) (l0_4 : List Int) (a0_5 : Int) (a0_6 : Bool) (a1_0 : Bool) (A1_1 : Option Addr) (c1_1 : Nat) (l1_1 : List Int) (a1_2 : Int) (a1_3 : Bool) (A1_4 : Option Addr) (c1_4 : Nat) (l1_4 : List Int) (a1_5 : Int) (a1_6 : Bool) (r : Bool) (w : World) (hr0_1 : Kd.C (Kd.int .u8) w A0_1 l0_1.length l0_1) (hc0_1 : l0_1.length ≤ c0_1) (hr0_4 : Kd.C (Kd.int .u8) w A0_4 l0_4.length l0_4) (hc0_4 : l0_4.length ≤ c0_4) (hr1_1 : Kd.C (Kd.int .u8) w A1_1 l1_1.length l1_1) (hc1_1 : l1_1.length ≤ c1_1) (hr1_4 : Kd.C (Kd.int .u8) w A1_4 l1_4.length l1_4) (hc1_4 : l1_4.length ≤ c1_4) (h : impl_Overlap.f k a0_0 l0_1 a0_2 a0_3 l0_4 a0_5 a0_6 a1_0 l1_1 a1_2 a1_3 l1_4 a1_5 a1_6 = some r) :
    Calls Try.prog 71 #[.agg #[.bool a0_0, .slice A0_1 l0_1.length c0_1, .int .u64 a0_2, .bool a0_3, .slice A0_4 l0_4.length c0_4, .int .u64 a0_5, .bool a0_6], .agg #[.bool a1_0, .slice A1_1 l1_1.length c1_1, .int .u64 a1_2, .bool a1_3, .slice A1_4 l1_4.length c1_4, .int .u64 a1_5, .bool a1_6]] w fun e w' => e = .returned (.bool r) ∧ Below w.heap.size w w' := by
  have hu63 := Try.underlying63
  have HR0_1 := Aside0.mk hr0_1
  have HC0_1 := Aside0.mk hc0_1
  clear hr0_1 hc0_1
  have HR0_4 := Aside0.mk hr0_4
  have HC0_4 := Aside0.mk hc0_4
  clear hr0_4 hc0_4
  have HR1_1 := Aside0.mk hr1_1
  have HC1_1 := Aside0.mk hc1_1
  clear hr1_1 hc1_1
  have HR1_4 := Aside0.mk hr1_4
  have HC1_4 := Aside0.mk hc1_4
  clear hr1_4 hc1_4
  have HB := Aside0.mk (Below.refl w.heap.size w)
  have H : ((impl_rangeOf.f a0_0 l0_1 a0_2 a0_3 l0_4 a0_5 a0_6).bind fun bt221 => ((impl_rangeOf.f a1_0 l1_1 a1_2 a1_3 l1_4 a1_5 a1_6).bind fun bt228 => ((badgercompact_Overlaps.f k bt221.1 bt221.2.1 bt221.2.2 bt228.1 bt228.2.1 bt228.2.2).bind fun t235 => (some t235)))) = some r := h
  clear h
  replace H := Option.bind_eq_some_iff.mp H
  obtain ⟨⟨t221, t224, t227⟩, A30, H⟩ := H
  replace H : ((impl_rangeOf.f a1_0 l1_1 a1_2 a1_3 l1_4 a1_5 a1_6).bind fun bt228 => ((badgercompact_Overlaps.f k t221 t224 t227 bt228.1 bt228.2.1 bt228.2.2).bind fun t235 => (some t235))) = some r := H
  have A3 := Aside0.mk A30
  clear A30
  replace H := Option.bind_eq_some_iff.mp H
  obtain ⟨⟨t228, t231, t234⟩, A40, H⟩ := H
  replace H : ((badgercompact_Overlaps.f k t221 t224 t227 t228 t231 t234).bind fun t235 => (some t235)) = some r := H
  have A4 := Aside0.mk A40
  clear A40
  replace H := Option.bind_eq_some_iff.mp H
  obtain ⟨t235, A50, H⟩ := H
  replace H : (some t235) = some r := H
  have A5 := Aside0.mk A50
  clear A50
  obtain rfl := Option.some.inj H
  go_enter Try.func71, Try.ntmps71
  try go_wp2_with (first | ((with_reducible refine gate_dst (N := 2) rfl ?_); refine box_event ?hg (N := 2) ?hd (cs := #[.bool a0_0, .slice A0_1 l0_1.length c0_1, .int .u64 a0_2, .bool a0_3, .slice A0_4 l0_4.length c0_4, .int .u64 a0_5, .bool a0_6]) (t := 63) ?hr ?_; (case hd => rfl); (case hg => rfl); (case hr => first | (go_simp; done) | (go_simp; rfl)); intro gb219 hg w6 hbox hb; have n0_ := Aside0.mk (below_step (by repeat (first | (with_reducible first | exact HB.out | apply below_alloc | apply pw_below_drewN | apply below_drew1) | exact HB.out)) hb); have n1_ := Aside0.mk (hbox); have n2_ := Aside0.mk ((by rw [hg]; exact (below_size (by repeat (first | (with_reducible first | exact HB.out | apply below_alloc | apply pw_below_drewN | apply below_drew1) | exact HB.out))) : w.heap.size ≤ gb219)); have n3_ := Aside0.mk ((by rw [hg]; exact (below_size (by repeat (first | (with_reducible first | exact HB.out | apply below_alloc | apply pw_below_drewN | apply below_drew1) | exact HB.out))) : w.heap.size ≤ gb219)); clear HB; have HB := n0_; have BK219 := n1_; have GW219 := n2_; have GE219 := n3_; clear n0_ n1_ n2_ n3_; clear hb hbox hg) | ((with_reducible refine gate_dst (N := 3) rfl ?_); refine box_event ?hg (N := 3) ?hd (cs := #[.bool a1_0, .slice A1_1 l1_1.length c1_1, .int .u64 a1_2, .bool a1_3, .slice A1_4 l1_4.length c1_4, .int .u64 a1_5, .bool a1_6]) (t := 63) ?hr ?_; (case hd => rfl); (case hg => rfl); (case hr => first | (go_simp; done) | (go_simp; rfl)); intro gb220 hg w7 hbox hb; have n0_ := Aside0.mk (blk_below (g := gb219) (o := .cells #[.bool a0_0, .slice A0_1 l0_1.length c0_1, .int .u64 a0_2, .bool a0_3, .slice A0_4 l0_4.length c0_4, .int .u64 a0_5, .bool a0_6] 63 (0, 0)) (by (with_reducible repeat (first | refine blk_drewN ?_ _ | refine blk_drew ?_ | refine blk_alloc ?_ _)); exact BK219.out) hb); have n1_ := Aside0.mk (below_step (by repeat (first | (with_reducible first | exact HB.out | apply below_alloc | apply pw_below_drewN | apply below_drew1 | refine below_set ?_ GE219.out) | exact HB.out)) hb); have n2_ := Aside0.mk (hbox); have n3_ := Aside0.mk ((by rw [hg]; exact (below_size (by repeat (first | (with_reducible first | exact HB.out | apply below_alloc | apply pw_below_drewN | apply below_drew1 | refine below_set ?_ GE219.out) | exact HB.out))) : w.heap.size ≤ gb220)); have n4_ := Aside0.mk ((by rw [hg]; exact (below_size (by repeat (first | (with_reducible first | exact HB.out | apply below_alloc | apply pw_below_drewN | apply below_drew1 | refine below_set ?_ GE219.out) | exact HB.out))) : w.heap.size ≤ gb220)); have n5_ := Aside0.mk ((by rw [hg]; exact Nat.ne_of_lt (blk_lt (g := gb219) (o := .cells #[.bool a0_0, .slice A0_1 l0_1.length c0_1, .int .u64 a0_2, .bool a0_3, .slice A0_4 l0_4.length c0_4, .int .u64 a0_5, .bool a0_6] 63 (0, 0)) (by (with_reducible repeat (first | refine blk_drewN ?_ _ | refine blk_drew ?_ | refine blk_alloc ?_ _)); exact BK219.out)) : gb219 ≠ gb220)); have n6_ := Aside0.mk ((by rw [hg]; exact Nat.ne_of_gt (blk_lt (g := gb219) (o := .cells #[.bool a0_0, .slice A0_1 l0_1.length c0_1, .int .u64 a0_2, .bool a0_3, .slice A0_4 l0_4.length c0_4, .int .u64 a0_5, .bool a0_6] 63 (0, 0)) (by (with_reducible repeat (first | refine blk_drewN ?_ _ | refine blk_drew ?_ | refine blk_alloc ?_ _)); exact BK219.out)) : gb220 ≠ gb219)); clear BK219; clear HB; have BK219 := n0_; have HB := n1_; have BK220 := n2_; have GW220 := n3_; have GE220 := n4_; have NB219_220 := n5_; have NB220_219 := n6_; clear n0_ n1_ n2_ n3_ n4_ n5_ n6_; clear hb hbox hg))
  have n0_ := Aside0.mk (blk_drew BK219.out)
  have n1_ := Aside0.mk (blk_drew BK220.out)
  have n2_ := Aside0.mk (below_drew1 HB.out)
  clear BK219
  clear BK220
  clear HB
  have BK219 := n0_
  have BK220 := n1_
  have HB := n2_
  clear n0_ n1_ n2_
  refine start_ (n := 6) (S := fun w' => w'.cell? ⟨gb219, 0, none⟩ = some (.bool a0_0) ∧ w'.cell? ⟨gb219, 1, none⟩ = some (.slice A0_1 l0_1.length c0_1) ∧ w'.cell? ⟨gb219, 2, none⟩ = some (.int .u64 a0_2) ∧ w'.cell? ⟨gb219, 3, none⟩ = some (.bool a0_3) ∧ w'.cell? ⟨gb219, 4, none⟩ = some (.slice A0_4 l0_4.length c0_4) ∧ w'.cell? ⟨gb219, 5, none⟩ = some (.int .u64 a0_5) ∧ w'.cell? ⟨gb219, 6, none⟩ = some (.bool a0_6) ∧ w'.cell? ⟨gb220, 0, none⟩ = some (.bool a1_0) ∧ w'.cell? ⟨gb220, 1, none⟩ = some (.slice A1_1 l1_1.length c1_1) ∧ w'.cell? ⟨gb220, 2, none⟩ = some (.int .u64 a1_2) ∧ w'.cell? ⟨gb220, 3, none⟩ = some (.bool a1_3) ∧ w'.cell? ⟨gb220, 4, none⟩ = some (.slice A1_4 l1_4.length c1_4) ∧ w'.cell? ⟨gb220, 5, none⟩ = some (.int .u64 a1_5) ∧ w'.cell? ⟨gb220, 6, none⟩ = some (.bool a1_6)) (ds := []) #[false, false, false, false, false, false] (by kernel_rfl) rfl rfl ⟨(blk_cell BK219.out 0).trans rfl, (blk_cell BK219.out 1).trans rfl, (blk_cell BK219.out 2).trans rfl, (blk_cell BK219.out 3).trans rfl, (blk_cell BK219.out 4).trans rfl, (blk_cell BK219.out 5).trans rfl, (blk_cell BK219.out 6).trans rfl, (blk_cell BK220.out 0).trans rfl, (blk_cell BK220.out 1).trans rfl, (blk_cell BK220.out 2).trans rfl, (blk_cell BK220.out 3).trans rfl, (blk_cell BK220.out 4).trans rfl, (blk_cell BK220.out 5).trans rfl, (blk_cell BK220.out 6).trans rfl⟩ (fun hHeld => ?_)
  generalize w7.drew = w8 at BK219 BK220 HB hHeld ⊢
  refine take_ (i := 0) (N := some 5) (v := ?_) (a' := ?_) #[true, false, false, false, false, false] rfl rfl (by kernel_rfl) (fun _ _ _ h => h) (Or.inl ⟨by rfl, ?_⟩) hHeld ?_ ?_
  rotate_left
  · rintro w' ⟨s0, s1, s2, s3, s4, s5, s6, s7, s8, s9, s10, s11, s12, s13⟩
    go_simp
    with_reducible rfl
  rotate_left
  · simp only [Act.put, List.setIfInBounds_toArray, List.set_cons_zero, List.set_cons_succ, i64_w, i32_w]
    rfl
  refine take_ (i := 2) (N := some 7) (v := ?_) (a' := ?_) #[true, false, true, false, false, false] rfl rfl (by kernel_rfl) (fun _ _ _ h => h) (Or.inl ⟨by rfl, ?_⟩) hHeld ?_ ?_
  rotate_left
  · rintro w' ⟨s0, s1, s2, s3, s4, s5, s6, s7, s8, s9, s10, s11, s12, s13⟩
    go_simp
    with_reducible rfl
  rotate_left
  · simp only [Act.put, List.setIfInBounds_toArray, List.set_cons_zero, List.set_cons_succ, i64_w, i32_w]
    rfl
  refine one_ (i := 1) (N := some 6) #[true, true, true, false, false, false] rfl rfl (by kernel_rfl) (by decide) (fun K hK => ?_)
  refine goes_ Try.func108 (by kernel_rfl) rfl #[.agg #[.bool a0_0, .slice A0_1 l0_1.length c0_1, .int .u64 a0_2, .bool a0_3, .slice A0_4 l0_4.length c0_4, .int .u64 a0_5, .bool a0_6]] (by rfl) rfl rfl (by (try simp only [List.map_toArray, List.map_cons, List.map_nil]); first | done | rfl | (simp only [List.length_drop, List.length_take]; rfl)) ?_
  with_reducible refine (impl_rangeOf.calls a0_0 _ _ l0_1 a0_2 a0_3 _ _ l0_4 a0_5 a0_6 t221 t224 t227 _ ?side1 ?side2 ?side3 ?side4 A3.out).mono ?_
  (case side1 => repeat (first | exact (Kd.C_below HR0_1.out HB.out) | (with_reducible refine Kd.C_alloc ?_ _) | (with_reducible refine Kd.C_drewN ?_ _) | (with_reducible refine Kd.C_drew ?_)))
  (case side2 => exact HC0_1.out)
  (case side3 => repeat (first | exact (Kd.C_below HR0_4.out HB.out) | (with_reducible refine Kd.C_alloc ?_ _) | (with_reducible refine Kd.C_drewN ?_ _) | (with_reducible refine Kd.C_drew ?_)))
  (case side4 => exact HC0_4.out)
  rintro e w9 ⟨v222, v225, rfl, ho0, ho1, hb⟩
  refine ⟨_, rfl, ?_⟩
  have n0_ := Aside0.mk (Kd.R_lower ho0 (below_size (by repeat (first | (with_reducible first | exact HB.out | apply below_alloc | apply pw_below_drewN | apply below_drew1 | refine below_set ?_ GE219.out | refine below_set ?_ GE220.out) | exact HB.out))))
  have n1_ := Aside0.mk (Kd.R_lower ho1 (below_size (by repeat (first | (with_reducible first | exact HB.out | apply below_alloc | apply pw_below_drewN | apply below_drew1 | refine below_set ?_ GE219.out | refine below_set ?_ GE220.out) | exact HB.out))))
  have n2_ := Aside0.mk (blk_below (g := gb219) (o := .cells #[.bool a0_0, .slice A0_1 l0_1.length c0_1, .int .u64 a0_2, .bool a0_3, .slice A0_4 l0_4.length c0_4, .int .u64 a0_5, .bool a0_6] 63 (0, 0)) (by (with_reducible repeat (first | refine blk_drewN ?_ _ | refine blk_drew ?_ | refine blk_alloc ?_ _)); exact BK219.out) hb)
  have n3_ := Aside0.mk (blk_below (g := gb220) (o := .cells #[.bool a1_0, .slice A1_1 l1_1.length c1_1, .int .u64 a1_2, .bool a1_3, .slice A1_4 l1_4.length c1_4, .int .u64 a1_5, .bool a1_6] 63 (0, 0)) (by (with_reducible repeat (first | refine blk_drewN ?_ _ | refine blk_drew ?_ | refine blk_alloc ?_ _)); exact BK220.out) hb)
  have n4_ := Aside0.mk (below_step (by repeat (first | (with_reducible first | exact HB.out | apply below_alloc | apply pw_below_drewN | apply below_drew1 | refine below_set ?_ GE219.out | refine below_set ?_ GE220.out) | exact HB.out)) hb)
  clear BK219
  clear BK220
  clear HB
  have HO223 := n0_
  have HO226 := n1_
  have BK219 := n2_
  have BK220 := n3_
  have HB := n4_
  clear n0_ n1_ n2_ n3_ n4_
  (try clear hb)
  (try clear hb2)
  (try clear hk)
  (try clear hi)
  (try clear ho0)
  (try clear ho1)
  refine hK.out _ _ ⟨(blk_cell BK219.out 0).trans rfl, (blk_cell BK219.out 1).trans rfl, (blk_cell BK219.out 2).trans rfl, (blk_cell BK219.out 3).trans rfl, (blk_cell BK219.out 4).trans rfl, (blk_cell BK219.out 5).trans rfl, (blk_cell BK219.out 6).trans rfl, (blk_cell BK220.out 0).trans rfl, (blk_cell BK220.out 1).trans rfl, (blk_cell BK220.out 2).trans rfl, (blk_cell BK220.out 3).trans rfl, (blk_cell BK220.out 4).trans rfl, (blk_cell BK220.out 5).trans rfl, (blk_cell BK220.out 6).trans rfl⟩ (fun hHeld => ?_)
  clear hK K
  refine norm_ (a' := ?_) ?_ ?_
  rotate_left
  · show Act.put _ (some 6) _ = _
    simp only [Act.put, List.setIfInBounds_toArray, List.set_cons_zero, List.set_cons_succ, i64_w, i32_w]
    rfl
  refine one_ (i := 3) (N := some 8) #[true, true, true, true, false, false] rfl rfl (by kernel_rfl) (by decide) (fun K hK => ?_)
  refine goes_ Try.func108 (by kernel_rfl) rfl #[.agg #[.bool a1_0, .slice A1_1 l1_1.length c1_1, .int .u64 a1_2, .bool a1_3, .slice A1_4 l1_4.length c1_4, .int .u64 a1_5, .bool a1_6]] (by rfl) rfl rfl (by (try simp only [List.map_toArray, List.map_cons, List.map_nil]); first | done | rfl | (simp only [List.length_drop, List.length_take]; rfl)) ?_
  with_reducible refine (impl_rangeOf.calls a1_0 _ _ l1_1 a1_2 a1_3 _ _ l1_4 a1_5 a1_6 t228 t231 t234 _ ?side1 ?side2 ?side3 ?side4 A4.out).mono ?_
  (case side1 => repeat (first | exact (Kd.C_below HR1_1.out HB.out) | (with_reducible refine Kd.C_alloc ?_ _) | (with_reducible refine Kd.C_drewN ?_ _) | (with_reducible refine Kd.C_drew ?_)))
  (case side2 => exact HC1_1.out)
  (case side3 => repeat (first | exact (Kd.C_below HR1_4.out HB.out) | (with_reducible refine Kd.C_alloc ?_ _) | (with_reducible refine Kd.C_drewN ?_ _) | (with_reducible refine Kd.C_drew ?_)))
  (case side4 => exact HC1_4.out)
  rintro e w10 ⟨v229, v232, rfl, ho0, ho1, hb⟩
  refine ⟨_, rfl, ?_⟩
  have n0_ := Aside0.mk (Kd.R_mono (Kd.R_told (Kd.R_told (Kd.R_old (by (with_reducible repeat (first | apply Kd.R_alloc | apply Kd.R_drewN | apply Kd.R_drew)); exact HO223.out) hb) (Kd.R_base ho0)) (Kd.R_base ho1)) (fun _ h_ => h_.1))
  have n1_ := Aside0.mk (Kd.R_mono (Kd.R_told (Kd.R_told (Kd.R_old (by (with_reducible repeat (first | apply Kd.R_alloc | apply Kd.R_drewN | apply Kd.R_drew)); exact HO226.out) hb) (Kd.R_base ho0)) (Kd.R_base ho1)) (fun _ h_ => h_.1))
  have n2_ := Aside0.mk (Kd.R_lower (Kd.R_new' (Kd.R_new' ho0 (Kd.R_lt (by (with_reducible repeat (first | apply Kd.R_alloc | apply Kd.R_drewN | apply Kd.R_drew)); exact HO223.out))) (Kd.R_lt (by (with_reducible repeat (first | apply Kd.R_alloc | apply Kd.R_drewN | apply Kd.R_drew)); exact HO226.out))) (below_size (by repeat (first | (with_reducible first | exact HB.out | apply below_alloc | apply pw_below_drewN | apply below_drew1 | refine below_set ?_ GE219.out | refine below_set ?_ GE220.out) | exact HB.out))))
  have n3_ := Aside0.mk (Kd.R_lower (Kd.R_new' (Kd.R_new' ho1 (Kd.R_lt (by (with_reducible repeat (first | apply Kd.R_alloc | apply Kd.R_drewN | apply Kd.R_drew)); exact HO223.out))) (Kd.R_lt (by (with_reducible repeat (first | apply Kd.R_alloc | apply Kd.R_drewN | apply Kd.R_drew)); exact HO226.out))) (below_size (by repeat (first | (with_reducible first | exact HB.out | apply below_alloc | apply pw_below_drewN | apply below_drew1 | refine below_set ?_ GE219.out | refine below_set ?_ GE220.out) | exact HB.out))))
  have n4_ := Aside0.mk (blk_below (g := gb219) (o := .cells #[.bool a0_0, .slice A0_1 l0_1.length c0_1, .int .u64 a0_2, .bool a0_3, .slice A0_4 l0_4.length c0_4, .int .u64 a0_5, .bool a0_6] 63 (0, 0)) (by (with_reducible repeat (first | refine blk_drewN ?_ _ | refine blk_drew ?_ | refine blk_alloc ?_ _)); exact BK219.out) hb)
  have n5_ := Aside0.mk (blk_below (g := gb220) (o := .cells #[.bool a1_0, .slice A1_1 l1_1.length c1_1, .int .u64 a1_2, .bool a1_3, .slice A1_4 l1_4.length c1_4, .int .u64 a1_5, .bool a1_6] 63 (0, 0)) (by (with_reducible repeat (first | refine blk_drewN ?_ _ | refine blk_drew ?_ | refine blk_alloc ?_ _)); exact BK220.out) hb)
  have n6_ := Aside0.mk (below_step (by repeat (first | (with_reducible first | exact HB.out | apply below_alloc | apply pw_below_drewN | apply below_drew1 | refine below_set ?_ GE219.out | refine below_set ?_ GE220.out) | exact HB.out)) hb)
  clear HO223
  clear HO226
  clear BK219
  clear BK220
  clear HB
  have HO223 := n0_
  have HO226 := n1_
  have HO230 := n2_
  have HO233 := n3_
  have BK219 := n4_
  have BK220 := n5_
  have HB := n6_
  clear n0_ n1_ n2_ n3_ n4_ n5_ n6_
  (try clear hb)
  (try clear hb2)
  (try clear hk)
  (try clear hi)
  (try clear ho0)
  (try clear ho1)
  obtain ⟨Ao11, co11, eo11⟩ := Kd.R_slice HO223.out
  (first | subst eo11 | (injection eo11 with f1_ f2_ f3_; have f4_ := f1_.symm; have f5_ := f3_.symm; clear f1_ f2_ f3_; subst f4_; subst f5_))
  obtain ⟨Ao12, co12, eo12⟩ := Kd.R_slice HO226.out
  (first | subst eo12 | (injection eo12 with f1_ f2_ f3_; have f4_ := f1_.symm; have f5_ := f3_.symm; clear f1_ f2_ f3_; subst f4_; subst f5_))
  obtain ⟨Ao13, co13, eo13⟩ := Kd.R_slice HO230.out
  (first | subst eo13 | (injection eo13 with f1_ f2_ f3_; have f4_ := f1_.symm; have f5_ := f3_.symm; clear f1_ f2_ f3_; subst f4_; subst f5_))
  obtain ⟨Ao14, co14, eo14⟩ := Kd.R_slice HO233.out
  (first | subst eo14 | (injection eo14 with f1_ f2_ f3_; have f4_ := f1_.symm; have f5_ := f3_.symm; clear f1_ f2_ f3_; subst f4_; subst f5_))
  refine hK.out _ _ ⟨(blk_cell BK219.out 0).trans rfl, (blk_cell BK219.out 1).trans rfl, (blk_cell BK219.out 2).trans rfl, (blk_cell BK219.out 3).trans rfl, (blk_cell BK219.out 4).trans rfl, (blk_cell BK219.out 5).trans rfl, (blk_cell BK219.out 6).trans rfl, (blk_cell BK220.out 0).trans rfl, (blk_cell BK220.out 1).trans rfl, (blk_cell BK220.out 2).trans rfl, (blk_cell BK220.out 3).trans rfl, (blk_cell BK220.out 4).trans rfl, (blk_cell BK220.out 5).trans rfl, (blk_cell BK220.out 6).trans rfl⟩ (fun hHeld => ?_)
  clear hK K
  refine norm_ (a' := ?_) ?_ ?_
  rotate_left
  · show Act.put _ (some 8) _ = _
    simp only [Act.put, List.setIfInBounds_toArray, List.set_cons_zero, List.set_cons_succ, i64_w, i32_w]
    rfl
  refine one_ (i := 4) (N := some 9) #[true, true, true, true, true, false] rfl rfl (by kernel_rfl) (by decide) (fun K hK => ?_)
  refine goes_ Try.func123 (by kernel_rfl) rfl #[.agg #[.slice Ao11 t221.length co11, .slice Ao12 t224.length co12, .bool t227], .agg #[.slice Ao13 t228.length co13, .slice Ao14 t231.length co14, .bool t234]] (by rfl) rfl rfl (by (try simp only [List.map_toArray, List.map_cons, List.map_nil]); first | done | rfl | (simp only [List.length_drop, List.length_take]; rfl)) ?_
  with_reducible refine (badgercompact_Overlaps.calls k _ _ t221 _ _ t224 t227 _ _ t228 _ _ t231 t234 t235 _ ?side1 ?side2 ?side3 ?side4 ?side5 ?side6 ?side7 ?side8 A5.out).mono ?_
  (case side1 => repeat (first | exact (Kd.R_reads' HO223.out).2.2 | (with_reducible refine Kd.C_alloc ?_ _) | (with_reducible refine Kd.C_drewN ?_ _) | (with_reducible refine Kd.C_drew ?_)))
  (case side2 => exact (Kd.R_reads' HO223.out).2.1)
  (case side3 => repeat (first | exact (Kd.R_reads' HO226.out).2.2 | (with_reducible refine Kd.C_alloc ?_ _) | (with_reducible refine Kd.C_drewN ?_ _) | (with_reducible refine Kd.C_drew ?_)))
  (case side4 => exact (Kd.R_reads' HO226.out).2.1)
  (case side5 => repeat (first | exact (Kd.R_reads' HO230.out).2.2 | (with_reducible refine Kd.C_alloc ?_ _) | (with_reducible refine Kd.C_drewN ?_ _) | (with_reducible refine Kd.C_drew ?_)))
  (case side6 => exact (Kd.R_reads' HO230.out).2.1)
  (case side7 => repeat (first | exact (Kd.R_reads' HO233.out).2.2 | (with_reducible refine Kd.C_alloc ?_ _) | (with_reducible refine Kd.C_drewN ?_ _) | (with_reducible refine Kd.C_drew ?_)))
  (case side8 => exact (Kd.R_reads' HO233.out).2.1)
  rintro e w15 ⟨rfl, hb⟩
  refine ⟨_, rfl, ?_⟩
  have n0_ := Aside0.mk (Kd.R_below (by (with_reducible repeat (first | apply Kd.R_alloc | apply Kd.R_drewN | apply Kd.R_drew)); exact HO223.out) hb)
  have n1_ := Aside0.mk (Kd.R_below (by (with_reducible repeat (first | apply Kd.R_alloc | apply Kd.R_drewN | apply Kd.R_drew)); exact HO226.out) hb)
  have n2_ := Aside0.mk (Kd.R_below (by (with_reducible repeat (first | apply Kd.R_alloc | apply Kd.R_drewN | apply Kd.R_drew)); exact HO230.out) hb)
  have n3_ := Aside0.mk (Kd.R_below (by (with_reducible repeat (first | apply Kd.R_alloc | apply Kd.R_drewN | apply Kd.R_drew)); exact HO233.out) hb)
  have n4_ := Aside0.mk (blk_below (g := gb219) (o := .cells #[.bool a0_0, .slice A0_1 l0_1.length c0_1, .int .u64 a0_2, .bool a0_3, .slice A0_4 l0_4.length c0_4, .int .u64 a0_5, .bool a0_6] 63 (0, 0)) (by (with_reducible repeat (first | refine blk_drewN ?_ _ | refine blk_drew ?_ | refine blk_alloc ?_ _)); exact BK219.out) hb)
  have n5_ := Aside0.mk (blk_below (g := gb220) (o := .cells #[.bool a1_0, .slice A1_1 l1_1.length c1_1, .int .u64 a1_2, .bool a1_3, .slice A1_4 l1_4.length c1_4, .int .u64 a1_5, .bool a1_6] 63 (0, 0)) (by (with_reducible repeat (first | refine blk_drewN ?_ _ | refine blk_drew ?_ | refine blk_alloc ?_ _)); exact BK220.out) hb)
  have n6_ := Aside0.mk (below_step (by repeat (first | (with_reducible first | exact HB.out | apply below_alloc | apply pw_below_drewN | apply below_drew1 | refine below_set ?_ GE219.out | refine below_set ?_ GE220.out) | exact HB.out)) hb)
  clear HO223
  clear HO226
  clear HO230
  clear HO233
  clear BK219
  clear BK220
  clear HB
  have HO223 := n0_
  have HO226 := n1_
  have HO230 := n2_
  have HO233 := n3_
  have BK219 := n4_
  have BK220 := n5_
  have HB := n6_
  clear n0_ n1_ n2_ n3_ n4_ n5_ n6_
  (try clear hb)
  (try clear hb2)
  (try clear hk)
  (try clear hi)
  refine hK.out _ _ ⟨(blk_cell BK219.out 0).trans rfl, (blk_cell BK219.out 1).trans rfl, (blk_cell BK219.out 2).trans rfl, (blk_cell BK219.out 3).trans rfl, (blk_cell BK219.out 4).trans rfl, (blk_cell BK219.out 5).trans rfl, (blk_cell BK219.out 6).trans rfl, (blk_cell BK220.out 0).trans rfl, (blk_cell BK220.out 1).trans rfl, (blk_cell BK220.out 2).trans rfl, (blk_cell BK220.out 3).trans rfl, (blk_cell BK220.out 4).trans rfl, (blk_cell BK220.out 5).trans rfl, (blk_cell BK220.out 6).trans rfl⟩ (fun hHeld => ?_)
  clear hK K
  refine norm_ (a' := ?_) ?_ ?_
  rotate_left
  · show Act.put _ (some 9) _ = _
    simp only [Act.put, List.setIfInBounds_toArray, List.set_cons_zero, List.set_cons_succ, i64_w, i32_w]
    rfl
  refine pure_ (i := 5) (N := some 4) (v := ?_) (a' := ?_) #[true, true, true, true, true, true] rfl rfl (by kernel_rfl) (fun _ _ _ h => h) (Or.inl ⟨by rfl, ?_⟩) ?_ ?_
  rotate_left
  · intro w'
    go_simp
    with_reducible rfl
  rotate_left
  · simp only [Act.put, List.setIfInBounds_toArray, List.set_cons_zero, List.set_cons_succ, i64_w, i32_w]
    rfl
  refine done_ (by kernel_rfl) ?_
  try go_wp2
  go_ret
  exact ⟨by first | rfl | (simp [errW_none, errW_some] <;> rfl) | (simp [*, errW_none, errW_some] <;> rfl), by repeat (first | (with_reducible first | exact HB.out | apply below_alloc | apply pw_below_drewN | apply below_drew1 | refine below_set ?_ GE219.out | refine below_set ?_ GE220.out) | exact HB.out)⟩

end Go.Proofs.YtadhdimleabljaaQ.QR
