-- Lines that a program has printed for this claim: functions as plain Lean functions, and their walks.
import Derived.Test.YtadhdimleabljaaQS0
namespace Go.Proofs.YtadhdimleabljaaQ.QS
open Go.RowKit Go.Proofs.YtadhdimleabljaaQ.Ext Go.Proofs.YtadhdimleabljaaW.PrintWords Go.Proofs.YtadhdimleabljaaW.PrintLast Go.Proofs.YtadhdimleabljaaW.PrintMore
attribute [local go_sem] max2_int min2_int max_two min_two max_three min_three max_four min_four   -- for this text's walks alone
set_option linter.unusedVariables false
set_option linter.unusedSimpArgs false

/-! ### impl_givenSpot: function 87 -/
def impl_givenSpot.f (a0_0 : Int) (a0_1 : Int) (a0_2 : Int) : Option (Int × Int × Int) := some (a0_0, a0_1, a0_2)
set_option maxHeartbeats 8000000 in
set_option maxRecDepth 100000 in
theorem impl_givenSpot.calls (a0_0 : Int) (a0_1 : Int) (a0_2 : Int) (r1 : Int) (r2 : Int) (r3 : Int) (w : World) (h : impl_givenSpot.f a0_0 a0_1 a0_2 = some (r1, r2, r3)) :
    Calls Try.prog 87 #[.agg #[.int .u32 a0_0, .int .u32 a0_1, .int .u32 a0_2]] w fun e w' => e = .returned (.agg #[.int .u32 r1, .int .u32 r2, .int .u32 r3]) ∧ Below w.heap.size w w' := by
  have hu24 := Try.underlying24
  have hu104 := Try.underlying104
  have HB := Aside0.mk (Below.refl w.heap.size w)
  have H : (some (a0_0, a0_1, a0_2)) = some (r1, r2, r3) := h
  clear h
  simp only [Option.some.injEq, Prod.mk.injEq] at H
  obtain ⟨rfl, rfl, rfl⟩ := H
  go_enter Try.func87, Try.ntmps87
  go_wp2_with (first | ((with_reducible refine gate_dst (N := 1) rfl ?_); refine box_event ?hg (N := 1) ?hd (cs := #[.int .u32 a0_0, .int .u32 a0_1, .int .u32 a0_2]) (t := 24) ?hr ?_; (case hd => rfl); (case hg => rfl); (case hr => first | (go_simp; done) | (go_simp; rfl)); intro gb101 hg w2 hbox hb; have n0_ := Aside0.mk (below_step (by repeat (first | (with_reducible first | exact HB.out | apply below_alloc | apply pw_below_drewN | apply below_drew1) | exact HB.out)) hb); have n1_ := Aside0.mk (hbox); have n2_ := Aside0.mk ((by rw [hg]; exact (below_size (by repeat (first | (with_reducible first | exact HB.out | apply below_alloc | apply pw_below_drewN | apply below_drew1) | exact HB.out))) : w.heap.size ≤ gb101)); have n3_ := Aside0.mk ((by rw [hg]; exact (below_size (by repeat (first | (with_reducible first | exact HB.out | apply below_alloc | apply pw_below_drewN | apply below_drew1) | exact HB.out))) : w.heap.size ≤ gb101)); clear HB; have HB := n0_; have BK101 := n1_; have GW101 := n2_; have GE101 := n3_; clear n0_ n1_ n2_ n3_; clear hb hbox hg) | ((with_reducible refine gate_dst (N := 2) rfl ?_); refine box_event ?hg (N := 2) ?hd (cs := #[.int .u32 0, .int .u32 0, .int .u32 0]) (t := 104) ?hr ?_; (case hd => rfl); (case hg => rfl); (case hr => first | (go_simp; done) | (go_simp; rfl)); intro gb102 hg w3 hbox hb; have n0_ := Aside0.mk (blk_below (g := gb101) (o := .cells #[.int .u32 a0_0, .int .u32 a0_1, .int .u32 a0_2] 24 (0, 0)) (by (with_reducible repeat (first | refine blk_drewN ?_ _ | refine blk_drew ?_ | refine blk_alloc ?_ _)); exact BK101.out) hb); have n1_ := Aside0.mk (below_step (by repeat (first | (with_reducible first | exact HB.out | apply below_alloc | apply pw_below_drewN | apply below_drew1 | refine below_set ?_ GE101.out) | exact HB.out)) hb); have n2_ := Aside0.mk (hbox); have n3_ := Aside0.mk ((by rw [hg]; exact (below_size (by repeat (first | (with_reducible first | exact HB.out | apply below_alloc | apply pw_below_drewN | apply below_drew1 | refine below_set ?_ GE101.out) | exact HB.out))) : w.heap.size ≤ gb102)); have n4_ := Aside0.mk ((by rw [hg]; exact (below_size (by repeat (first | (with_reducible first | exact HB.out | apply below_alloc | apply pw_below_drewN | apply below_drew1 | refine below_set ?_ GE101.out) | exact HB.out))) : w.heap.size ≤ gb102)); have n5_ := Aside0.mk ((by rw [hg]; exact Nat.ne_of_lt (blk_lt (g := gb101) (o := .cells #[.int .u32 a0_0, .int .u32 a0_1, .int .u32 a0_2] 24 (0, 0)) (by (with_reducible repeat (first | refine blk_drewN ?_ _ | refine blk_drew ?_ | refine blk_alloc ?_ _)); exact BK101.out)) : gb101 ≠ gb102)); have n6_ := Aside0.mk ((by rw [hg]; exact Nat.ne_of_gt (blk_lt (g := gb101) (o := .cells #[.int .u32 a0_0, .int .u32 a0_1, .int .u32 a0_2] 24 (0, 0)) (by (with_reducible repeat (first | refine blk_drewN ?_ _ | refine blk_drew ?_ | refine blk_alloc ?_ _)); exact BK101.out)) : gb102 ≠ gb101)); clear BK101; clear HB; have BK101 := n0_; have HB := n1_; have BK102 := n2_; have GW102 := n3_; have GE102 := n4_; have NB101_102 := n5_; have NB102_101 := n6_; clear n0_ n1_ n2_ n3_ n4_ n5_ n6_; clear hb hbox hg; have hnb4 := NB101_102.out; have hnc4 := NB102_101.out; have hcz5_0 : w3.cell? ⟨gb101, 0, none⟩ = some (.int .u32 a0_0) := (blk_cell BK101.out 0).trans rfl; have hcz5_1 : w3.cell? ⟨gb101, 1, none⟩ = some (.int .u32 a0_1) := (blk_cell BK101.out 1).trans rfl; have hcz5_2 : w3.cell? ⟨gb101, 2, none⟩ = some (.int .u32 a0_2) := (blk_cell BK101.out 2).trans rfl; have hfz5_0 := blk_frozen BK101.out 0; have hfz5_1 := blk_frozen BK101.out 1; have hfz5_2 := blk_frozen BK101.out 2; have hcz6_0 : w3.cell? ⟨gb102, 0, none⟩ = some (.int .u32 0) := (blk_cell BK102.out 0).trans rfl; have hcz6_1 : w3.cell? ⟨gb102, 1, none⟩ = some (.int .u32 0) := (blk_cell BK102.out 1).trans rfl; have hcz6_2 : w3.cell? ⟨gb102, 2, none⟩ = some (.int .u32 0) := (blk_cell BK102.out 2).trans rfl; have hfz6_0 := blk_frozen BK102.out 0; have hfz6_1 := blk_frozen BK102.out 1; have hfz6_2 := blk_frozen BK102.out 2))
  refine bodyPost_ret (results_cell_row rfl _ _ gb102 104 #[.int .u32 a0_0, .int .u32 a0_1, .int .u32 a0_2] (0, 0) _ rfl (by (with_reducible repeat (first | refine blk_drewN ?_ _ | refine blk_drew ?_ | refine blk_alloc ?_ _)); refine blk_put (cs := #[.int .u32 a0_0, .int .u32 a0_1, .int .u32 0]) ?_ 2 _ rfl; (with_reducible repeat (first | refine blk_drewN ?_ _ | refine blk_drew ?_ | refine blk_alloc ?_ _)); refine blk_put (cs := #[.int .u32 a0_0, .int .u32 0, .int .u32 0]) ?_ 1 _ rfl; (with_reducible repeat (first | refine blk_drewN ?_ _ | refine blk_drew ?_ | refine blk_alloc ?_ _)); refine blk_put (cs := #[.int .u32 0, .int .u32 0, .int .u32 0]) ?_ 0 _ rfl; (with_reducible repeat (first | refine blk_drewN ?_ _ | refine blk_drew ?_ | refine blk_alloc ?_ _)); exact BK102.out) Try.underlying104 rfl (by kernel_rfl)) rfl ?_
  exact ⟨by first | rfl | (simp [errW_none, errW_some] <;> rfl) | (simp [*, errW_none, errW_some] <;> rfl), by repeat (first | (with_reducible first | exact HB.out | apply below_alloc | apply pw_below_drewN | apply below_drew1 | refine below_set ?_ GE101.out | refine below_set ?_ GE102.out) | exact HB.out)⟩

/-! ### badgerlog_y32: function 164 -/
def badgerlog_y32.f (a0 : Int) : Option (List Int) := some (([(a0) % 256, (a0 / 256) % 256, (a0 / 65536) % 256, (a0 / 16777216) % 256] : List Int))
set_option maxHeartbeats 8000000 in
set_option maxRecDepth 100000 in
theorem badgerlog_y32.calls (a0 : Int) (r : List Int) (w : World) (h : badgerlog_y32.f a0 = some r) :
    Calls Try.prog 164 #[.int .u32 a0] w fun e w' => ∃ v0_ : Value, e = .returned (v0_) ∧ Kd.R (Kd.int .u8) 5 w' w.heap.size (fun _ => True) v0_ r ∧ Below w.heap.size w w' := by
  have HB := Aside0.mk (Below.refl w.heap.size w)
  have H : (some (([(a0) % 256, (a0 / 256) % 256, (a0 / 65536) % 256, (a0 / 16777216) % 256] : List Int))) = some r := h
  clear h
  obtain ⟨y103, hy103⟩ : ∃ y_ : List Int, y_ = (([(a0) % 256, (a0 / 256) % 256, (a0 / 65536) % 256, (a0 / 16777216) % 256] : List Int)) := ⟨_, rfl⟩
  replace H : (some y103) = some r := by first | (rw [hy103]; with_reducible exact H) | (have H2_ := (Option.bind_some _ _).symm.trans H; rw [hy103]; with_reducible exact H2_) | (have H2_ := (Option.bind_some _ _).symm.trans H; with_reducible exact H2_) | with_reducible exact H | (rw [hy103]; exact H) | exact H
  have Ny103 := Aside0.mk hy103
  clear hy103
  obtain rfl := Option.some.inj H
  go_enter Try.func164, Try.ntmps164
  go_wp2_with (first | ((with_reducible refine gate_dst (N := 14) rfl ?_); refine Kd.R_lit (Kd.int .u8) _ 5 ?hg (N := 14) ?hd (xs := ([(a0) % 256, (a0 / 256) % 256, (a0 / 65536) % 256, (a0 / 16777216) % 256] : List Int)) (inner := [.int .u8 ((a0) % 256), .int .u8 ((a0 / 256) % 256), .int .u8 ((a0 / 65536) % 256), .int .u8 ((a0 / 16777216) % 256)]) (ok := fun _ => True) (okp := fun _ => True) ?hr ?hp (fun _ hk => hk) trivial (Below.refl _ _) (Nat.le_refl _) (by simp) ?_; (case hd => rfl); (case hg => rfl); (case hr => first | (go_simp; done) | (go_simp; rfl)); (case hp => exact (Reps.one (show Kd.M (Kd.int .u8) _ _ _ ((a0) % 256) [.int .u8 ((a0) % 256)] from rfl) (Reps.one (show Kd.M (Kd.int .u8) _ _ _ ((a0 / 256) % 256) [.int .u8 ((a0 / 256) % 256)] from rfl) (Reps.one (show Kd.M (Kd.int .u8) _ _ _ ((a0 / 65536) % 256) [.int .u8 ((a0 / 65536) % 256)] from rfl) (Reps.one (show Kd.M (Kd.int .u8) _ _ _ ((a0 / 16777216) % 256) [.int .u8 ((a0 / 16777216) % 256)] from rfl) (Reps.none _ _)))))); intro v104 w2 ho3 hb hg_ hnew_; clear hg_ hnew_; (first | rw [← Ny103.out] at ho3 | (simp only [Int.reduceToNat] at ho3; rw [← Ny103.out] at ho3)); have n0_ := Aside0.mk (Kd.R_lower ho3 (below_size (by repeat (first | (with_reducible first | exact HB.out | apply below_alloc | apply pw_below_drewN | apply below_drew1) | exact HB.out)))); have n1_ := Aside0.mk (below_step (by repeat (first | (with_reducible first | exact HB.out | apply below_alloc | apply pw_below_drewN | apply below_drew1) | exact HB.out)) hb); clear HB; have HO105 := n0_; have HB := n1_; clear n0_ n1_; clear hb ho3))
  go_ret
  exact ⟨_, by first | rfl | (simp [errW_none, errW_some] <;> rfl) | (simp [*, errW_none, errW_some] <;> rfl), by (with_reducible repeat (first | apply Kd.R_alloc | apply Kd.R_drewN | apply Kd.R_drew)); exact HO105.out, by repeat (first | (with_reducible first | exact HB.out | apply below_alloc | apply pw_below_drewN | apply below_drew1) | exact HB.out)⟩

/-! ### badgerlog_valuePointer_Encode: function 143 -/
def badgerlog_valuePointer_Encode.f (a0_0 : Int) (a0_1 : Int) (a0_2 : Int) : Option (List Int) := (badgerlog_y32.f a0_0).bind fun t107 => ((badgerlog_y32.f a0_1).bind fun t110 => (if t107.length + t110.length < 140737488355328 then ((some (t107 ++ t110 : List Int)).bind fun y113 => ((badgerlog_y32.f a0_2).bind fun t116 => (if y113.length + t116.length < 140737488355328 then (some (y113 ++ t116)) else (none)))) else (none)))
def badgerlog_valuePointer_Encode.T1 : Bool × List (List Nat × List Nat) := (true, [([], []), ([0], [0]), ([1], [1]), ([], []), ([3], [3]), ([4, 2], [4]), ([2, 5, 5], [2, 5]), ([], []), ([7], [7]), ([8, 6], [8]), ([6, 9, 9], [6, 9]), ([10, 10, 0, 1, 2, 3, 4, 5, 6, 7, 8, 9, 10], [10])])
def badgerlog_valuePointer_Encode.B1 : List Nat := [0, 1, 3, 0, 8, 31, 63, 0, 128, 511, 1023, 2047]
theorem badgerlog_valuePointer_Encode.tab1 : rtab .any (opsOf Try.f143 1) = badgerlog_valuePointer_Encode.T1 := by kernel_rfl
theorem badgerlog_valuePointer_Encode.bits1 : waitsOk badgerlog_valuePointer_Encode.T1.2 badgerlog_valuePointer_Encode.B1 = true := by kernel_rfl
set_option maxHeartbeats 8000000 in
set_option maxRecDepth 100000 in
theorem badgerlog_valuePointer_Encode.calls (a0_0 : Int) (a0_1 : Int) (a0_2 : Int) (r : List Int) (w : World) (h : badgerlog_valuePointer_Encode.f a0_0 a0_1 a0_2 = some r) :
    Calls Try.prog 143 #[.agg #[.int .u32 a0_0, .int .u32 a0_1, .int .u32 a0_2]] w fun e w' => ∃ v0_ : Value, e = .returned (v0_) ∧ Kd.R (Kd.int .u8) 5 w' w.heap.size (fun _ => True) v0_ r ∧ Below w.heap.size w w' := by
  have hu147 := Try.underlying147
  have HB := Aside0.mk (Below.refl w.heap.size w)
  have H : ((badgerlog_y32.f a0_0).bind fun t107 => ((badgerlog_y32.f a0_1).bind fun t110 => (if t107.length + t110.length < 140737488355328 then ((some (t107 ++ t110 : List Int)).bind fun y113 => ((badgerlog_y32.f a0_2).bind fun t116 => (if y113.length + t116.length < 140737488355328 then (some (y113 ++ t116)) else (none)))) else (none)))) = some r := h
  clear h
  replace H := Option.bind_eq_some_iff.mp H
  obtain ⟨t107, A20, H⟩ := H
  replace H : ((badgerlog_y32.f a0_1).bind fun t110 => (if t107.length + t110.length < 140737488355328 then ((some (t107 ++ t110 : List Int)).bind fun y113 => ((badgerlog_y32.f a0_2).bind fun t116 => (if y113.length + t116.length < 140737488355328 then (some (y113 ++ t116)) else (none)))) else (none))) = some r := H
  have A2 := Aside0.mk A20
  clear A20
  replace H := Option.bind_eq_some_iff.mp H
  obtain ⟨t110, A30, H⟩ := H
  replace H : (if t107.length + t110.length < 140737488355328 then ((some (t107 ++ t110 : List Int)).bind fun y113 => ((badgerlog_y32.f a0_2).bind fun t116 => (if y113.length + t116.length < 140737488355328 then (some (y113 ++ t116)) else (none)))) else (none)) = some r := H
  have A3 := Aside0.mk A30
  clear A30
  by_cases c4 : t107.length + t110.length < 140737488355328
  · rw [if_pos c4] at H
    have LMc4 := Aside0.mk c4
    clear c4
    obtain ⟨y113, hy113⟩ : ∃ y_ : List Int, y_ = (t107 ++ t110) := ⟨_, rfl⟩
    replace H : ((badgerlog_y32.f a0_2).bind fun t116 => (if y113.length + t116.length < 140737488355328 then (some (y113 ++ t116)) else (none))) = some r := by first | (rw [hy113]; with_reducible exact H) | (have H2_ := (Option.bind_some _ _).symm.trans H; rw [hy113]; with_reducible exact H2_) | (have H2_ := (Option.bind_some _ _).symm.trans H; with_reducible exact H2_) | with_reducible exact H | (rw [hy113]; exact H) | exact H
    have Ny113 := Aside0.mk hy113
    clear hy113
    replace H := Option.bind_eq_some_iff.mp H
    obtain ⟨t116, A50, H⟩ := H
    replace H : (if y113.length + t116.length < 140737488355328 then (some (y113 ++ t116)) else (none)) = some r := H
    have A5 := Aside0.mk A50
    clear A50
    by_cases c6 : y113.length + t116.length < 140737488355328
    · rw [if_pos c6] at H
      have LMc6 := Aside0.mk c6
      clear c6
      obtain ⟨y119, hy119⟩ : ∃ y_ : List Int, y_ = (y113 ++ t116) := ⟨_, rfl⟩
      replace H : (some y119) = some r := by first | (rw [hy119]; with_reducible exact H) | (have H2_ := (Option.bind_some _ _).symm.trans H; rw [hy119]; with_reducible exact H2_) | (have H2_ := (Option.bind_some _ _).symm.trans H; with_reducible exact H2_) | with_reducible exact H | (rw [hy119]; exact H) | exact H
      have Ny119 := Aside0.mk hy119
      clear hy119
      obtain rfl := Option.some.inj H
      go_enter Try.func143, Try.ntmps143
      try go_wp2_with (first | ((with_reducible refine gate_dst (N := 1) rfl ?_); refine box_event ?hg (N := 1) ?hd (cs := #[.int .u32 a0_0, .int .u32 a0_1, .int .u32 a0_2]) (t := 147) ?hr ?_; (case hd => rfl); (case hg => rfl); (case hr => first | (go_simp; done) | (go_simp; rfl)); intro gb106 hg w7 hbox hb; have n0_ := Aside0.mk (below_step (by repeat (first | (with_reducible first | exact HB.out | apply below_alloc | apply pw_below_drewN | apply below_drew1) | exact HB.out)) hb); have n1_ := Aside0.mk (hbox); have n2_ := Aside0.mk ((by rw [hg]; exact (below_size (by repeat (first | (with_reducible first | exact HB.out | apply below_alloc | apply pw_below_drewN | apply below_drew1) | exact HB.out))) : w.heap.size ≤ gb106)); have n3_ := Aside0.mk ((by rw [hg]; exact (below_size (by repeat (first | (with_reducible first | exact HB.out | apply below_alloc | apply pw_below_drewN | apply below_drew1) | exact HB.out))) : w.heap.size ≤ gb106)); clear HB; have HB := n0_; have BK106 := n1_; have GW106 := n2_; have GE106 := n3_; clear n0_ n1_ n2_ n3_; clear hb hbox hg))
      have n0_ := Aside0.mk (blk_drew BK106.out)
      have n1_ := Aside0.mk (below_drew1 HB.out)
      clear BK106
      clear HB
      have BK106 := n0_
      have HB := n1_
      clear n0_ n1_
      refine start_ (n := 12) (S := fun w' => w'.cell? ⟨gb106, 0, none⟩ = some (.int .u32 a0_0) ∧ w'.cell? ⟨gb106, 1, none⟩ = some (.int .u32 a0_1) ∧ w'.cell? ⟨gb106, 2, none⟩ = some (.int .u32 a0_2)) (ds := []) #[false, false, false, false, false, false, false, false, false, false, false, false] (by kernel_rfl) rfl rfl ⟨(blk_cell BK106.out 0).trans rfl, (blk_cell BK106.out 1).trans rfl, (blk_cell BK106.out 2).trans rfl⟩ (fun hHeld => ?_); refine with_tabW badgerlog_valuePointer_Encode.tab1 badgerlog_valuePointer_Encode.bits1 (fun HT_ HW_ => ?_)
      generalize w7.drew = w8 at BK106 HB hHeld ⊢
      refine pure_ (i := 0) (N := some 3) (v := ?_) (a' := ?_) #[true, false, false, false, false, false, false, false, false, false, false, false] rfl rfl (any_of HT_.out (by kernel_rfl)) (fun _ _ _ h => h) (Or.inl ⟨by rfl, ?_⟩) ?_ ?_
      rotate_left
      · intro w'
        go_simp
        with_reducible rfl
      rotate_left
      · simp only [Act.put, List.setIfInBounds_toArray, List.set_cons_zero, List.set_cons_succ, i64_w, i32_w]
        rfl
      refine pure_ (i := 3) (N := some 6) (v := ?_) (a' := ?_) #[true, false, false, true, false, false, false, false, false, false, false, false] rfl rfl (any_of HT_.out (by kernel_rfl)) (fun _ _ _ h => h) (Or.inl ⟨by rfl, ?_⟩) ?_ ?_
      rotate_left
      · intro w'
        go_simp
        with_reducible rfl
      rotate_left
      · simp only [Act.put, List.setIfInBounds_toArray, List.set_cons_zero, List.set_cons_succ, i64_w, i32_w]
        rfl
      refine pure_ (i := 7) (N := some 10) (v := ?_) (a' := ?_) #[true, false, false, true, false, false, false, true, false, false, false, false] rfl rfl (any_of HT_.out (by kernel_rfl)) (fun _ _ _ h => h) (Or.inl ⟨by rfl, ?_⟩) ?_ ?_
      rotate_left
      · intro w'
        go_simp
        with_reducible rfl
      rotate_left
      · simp only [Act.put, List.setIfInBounds_toArray, List.set_cons_zero, List.set_cons_succ, i64_w, i32_w]
        rfl
      refine take_ (i := 1) (N := some 4) (v := ?_) (a' := ?_) #[true, true, false, true, false, false, false, true, false, false, false, false] rfl rfl (take_ofW HT_.out HW_.out (by kernel_rfl)) (fun _ _ _ h => h) (Or.inl ⟨by rfl, ?_⟩) hHeld ?_ ?_
      rotate_left
      · rintro w' ⟨s0, s1, s2⟩
        go_simp
        with_reducible rfl
      rotate_left
      · simp only [Act.put, List.setIfInBounds_toArray, List.set_cons_zero, List.set_cons_succ, i64_w, i32_w]
        rfl
      refine take_ (i := 4) (N := some 7) (v := ?_) (a' := ?_) #[true, true, false, true, true, false, false, true, false, false, false, false] rfl rfl (take_ofW HT_.out HW_.out (by kernel_rfl)) (fun _ _ _ h => h) (Or.inl ⟨by rfl, ?_⟩) hHeld ?_ ?_
      rotate_left
      · rintro w' ⟨s0, s1, s2⟩
        go_simp
        with_reducible rfl
      rotate_left
      · simp only [Act.put, List.setIfInBounds_toArray, List.set_cons_zero, List.set_cons_succ, i64_w, i32_w]
        rfl
      refine take_ (i := 8) (N := some 11) (v := ?_) (a' := ?_) #[true, true, false, true, true, false, false, true, true, false, false, false] rfl rfl (take_ofW HT_.out HW_.out (by kernel_rfl)) (fun _ _ _ h => h) (Or.inl ⟨by rfl, ?_⟩) hHeld ?_ ?_
      rotate_left
      · rintro w' ⟨s0, s1, s2⟩
        go_simp
        with_reducible rfl
      rotate_left
      · simp only [Act.put, List.setIfInBounds_toArray, List.set_cons_zero, List.set_cons_succ, i64_w, i32_w]
        rfl
      refine one_ (i := 2) (N := some 5) #[true, true, true, true, true, false, false, true, true, false, false, false] rfl rfl (one_of HT_.out (by kernel_rfl)) (by decide) (fun K hK => ?_)
      refine goes_ Try.func164 (by kernel_rfl) rfl #[.int .u32 a0_0] (by rfl) rfl rfl (by (try simp only [List.map_toArray, List.map_cons, List.map_nil]); first | done | rfl | (simp only [List.length_drop, List.length_take]; rfl)) ?_
      with_reducible refine (badgerlog_y32.calls a0_0 t107 _ A2.out).mono ?_
      rintro e w9 ⟨v108, rfl, ho0, hb⟩
      refine ⟨_, rfl, ?_⟩
      have n0_ := Aside0.mk (Kd.R_lower ho0 (below_size (by repeat (first | (with_reducible first | exact HB.out | apply below_alloc | apply pw_below_drewN | apply below_drew1 | refine below_set ?_ GE106.out) | exact HB.out))))
      have n1_ := Aside0.mk (blk_below (g := gb106) (o := .cells #[.int .u32 a0_0, .int .u32 a0_1, .int .u32 a0_2] 147 (0, 0)) (by (with_reducible repeat (first | refine blk_drewN ?_ _ | refine blk_drew ?_ | refine blk_alloc ?_ _)); exact BK106.out) hb)
      have n2_ := Aside0.mk (below_step (by repeat (first | (with_reducible first | exact HB.out | apply below_alloc | apply pw_below_drewN | apply below_drew1 | refine below_set ?_ GE106.out) | exact HB.out)) hb)
      clear BK106
      clear HB
      have HO109 := n0_
      have BK106 := n1_
      have HB := n2_
      clear n0_ n1_ n2_
      (try clear hb)
      (try clear hb2)
      (try clear hk)
      (try clear hi)
      (try clear ho0)
      refine hK.out _ _ ⟨(blk_cell BK106.out 0).trans rfl, (blk_cell BK106.out 1).trans rfl, (blk_cell BK106.out 2).trans rfl⟩ (fun hHeld => ?_)
      clear hK K
      refine norm_ (a' := ?_) ?_ ?_
      rotate_left
      · show Act.put _ (some 5) _ = _
        simp only [Act.put, List.setIfInBounds_toArray, List.set_cons_zero, List.set_cons_succ, i64_w, i32_w]
        rfl
      refine one_ (i := 5) (N := some 8) #[true, true, true, true, true, true, false, true, true, false, false, false] rfl rfl (one_of HT_.out (by kernel_rfl)) (by decide) (fun K hK => ?_)
      refine goes_ Try.func164 (by kernel_rfl) rfl #[.int .u32 a0_1] (by rfl) rfl rfl (by (try simp only [List.map_toArray, List.map_cons, List.map_nil]); first | done | rfl | (simp only [List.length_drop, List.length_take]; rfl)) ?_
      with_reducible refine (badgerlog_y32.calls a0_1 t110 _ A3.out).mono ?_
      rintro e w10 ⟨v111, rfl, ho0, hb⟩
      refine ⟨_, rfl, ?_⟩
      have n0_ := Aside0.mk (Kd.R_elder' (by (with_reducible repeat (first | apply Kd.R_alloc | apply Kd.R_drewN | apply Kd.R_drew)); exact HO109.out) (Kd.R_base ho0) hb)
      have n1_ := Aside0.mk (Kd.R_lower (Kd.R_new' ho0 (Kd.R_lt (by (with_reducible repeat (first | apply Kd.R_alloc | apply Kd.R_drewN | apply Kd.R_drew)); exact HO109.out))) (below_size (by repeat (first | (with_reducible first | exact HB.out | apply below_alloc | apply pw_below_drewN | apply below_drew1 | refine below_set ?_ GE106.out) | exact HB.out))))
      have n2_ := Aside0.mk (blk_below (g := gb106) (o := .cells #[.int .u32 a0_0, .int .u32 a0_1, .int .u32 a0_2] 147 (0, 0)) (by (with_reducible repeat (first | refine blk_drewN ?_ _ | refine blk_drew ?_ | refine blk_alloc ?_ _)); exact BK106.out) hb)
      have n3_ := Aside0.mk (below_step (by repeat (first | (with_reducible first | exact HB.out | apply below_alloc | apply pw_below_drewN | apply below_drew1 | refine below_set ?_ GE106.out) | exact HB.out)) hb)
      clear HO109
      clear BK106
      clear HB
      have HO109 := n0_
      have HO112 := n1_
      have BK106 := n2_
      have HB := n3_
      clear n0_ n1_ n2_ n3_
      (try clear hb)
      (try clear hb2)
      (try clear hk)
      (try clear hi)
      (try clear ho0)
      obtain ⟨Ao12, co12, eo12⟩ := Kd.R_slice HO112.out
      (first | subst eo12 | (injection eo12 with f1_ f2_ f3_; have f4_ := f1_.symm; have f5_ := f3_.symm; clear f1_ f2_ f3_; subst f4_; subst f5_))
      refine hK.out _ _ ⟨(blk_cell BK106.out 0).trans rfl, (blk_cell BK106.out 1).trans rfl, (blk_cell BK106.out 2).trans rfl⟩ (fun hHeld => ?_)
      clear hK K
      refine norm_ (a' := ?_) ?_ ?_
      rotate_left
      · show Act.put _ (some 8) _ = _
        simp only [Act.put, List.setIfInBounds_toArray, List.set_cons_zero, List.set_cons_succ, i64_w, i32_w]
        rfl
      refine one_ (i := 6) (N := some 9) #[true, true, true, true, true, true, true, true, true, false, false, false] rfl rfl (one_of HT_.out (by kernel_rfl)) (by decide) (fun K hK => ?_)
      refine Kd.R_append_rows_step (Kd.int .u8) (w0 := w) w.heap.size (by rfl) (.tmp 5) (.tmp 8) 26 5 (.int .u8 0) 1 rfl Try.underlying26 info5 rfl (by decide) (by omega) v108 t107 t110 _ _ _ (fun k_ => some k_ ≠ (.slice Ao12 t110.length co12 : Value).ownBlock) (fun _ => False) rfl rfl ?aO ?aR (fun _ _ h => h) (fun _ h => h.elim) ?aF ?aB ?aS ?aL ?_
      (case aR => repeat (first | exact (Kd.R_reads' HO112.out).2.2 | (with_reducible refine Kd.C_alloc ?_ _) | (with_reducible refine Kd.C_drewN ?_ _) | (with_reducible refine Kd.C_drew ?_)))
      (case aB => exact (by repeat (first | (with_reducible first | exact HB.out | apply below_alloc | apply pw_below_drewN | apply below_drew1 | refine below_set ?_ GE106.out) | exact HB.out)))
      (case aF => exact (fun k_ hk => Kd.fresh' (Kd.R_lt (by (with_reducible repeat (first | apply Kd.R_alloc | apply Kd.R_drewN | apply Kd.R_drew)); exact HO112.out)) k_ hk))
      (case aO => exact (by (with_reducible repeat (first | apply Kd.R_alloc | apply Kd.R_drewN | apply Kd.R_drew)); exact Kd.R_mono HO109.out (fun _ hk => hk.2)))
      (case aS => exact (below_size (by repeat (first | (with_reducible first | exact HB.out | apply below_alloc | apply pw_below_drewN | apply below_drew1 | refine below_set ?_ GE106.out) | exact HB.out))))
      (case aL => have := LMc4.out; omega)
      intro v114 w11 ho hb hg hat
      rw [← Ny113.out] at ho
      have n0_ := Aside0.mk (blk_grown (g := gb106) (o := .cells #[.int .u32 a0_0, .int .u32 a0_1, .int .u32 a0_2] 147 (0, 0)) (by (with_reducible repeat (first | refine blk_drewN ?_ _ | refine blk_drew ?_ | refine blk_alloc ?_ _)); exact BK106.out) hg (Kd.R_ne HO109.out BK106.out (by decide)))
      have n1_ := Aside0.mk (Kd.R_after (ok := (fun _ => True)) (by (with_reducible repeat (first | apply Kd.R_alloc | apply Kd.R_drewN | apply Kd.R_drew)); exact HO112.out) hg hat)
      have n2_ := Aside0.mk (hb)
      have n3_ := Aside0.mk (ho)
      clear BK106
      clear HO112
      clear HB
      clear HO109
      have BK106 := n0_
      have HO112 := n1_
      have HB := n2_
      have HO115 := n3_
      clear n0_ n1_ n2_ n3_
      clear ho hb hg hat
      refine hK.out _ _ ⟨(blk_cell BK106.out 0).trans rfl, (blk_cell BK106.out 1).trans rfl, (blk_cell BK106.out 2).trans rfl⟩ (fun hHeld => ?_)
      clear hK K
      refine norm_ (a' := ?_) ?_ ?_
      rotate_left
      · show Act.put _ (some 9) _ = _
        simp only [Act.put, List.setIfInBounds_toArray, List.set_cons_zero, List.set_cons_succ, i64_w, i32_w]
        rfl
      refine one_ (i := 9) (N := some 12) #[true, true, true, true, true, true, true, true, true, true, false, false] rfl rfl (one_of HT_.out (by kernel_rfl)) (by decide) (fun K hK => ?_)
      refine goes_ Try.func164 (by kernel_rfl) rfl #[.int .u32 a0_2] (by rfl) rfl rfl (by (try simp only [List.map_toArray, List.map_cons, List.map_nil]); first | done | rfl | (simp only [List.length_drop, List.length_take]; rfl)) ?_
      with_reducible refine (badgerlog_y32.calls a0_2 t116 _ A5.out).mono ?_
      rintro e w13 ⟨v117, rfl, ho0, hb⟩
      refine ⟨_, rfl, ?_⟩
      have n0_ := Aside0.mk (Kd.R_elder' (by (with_reducible repeat (first | apply Kd.R_alloc | apply Kd.R_drewN | apply Kd.R_drew)); exact HO112.out) (Kd.R_base ho0) hb)
      have n1_ := Aside0.mk (Kd.R_elder' (by (with_reducible repeat (first | apply Kd.R_alloc | apply Kd.R_drewN | apply Kd.R_drew)); exact HO115.out) (Kd.R_base ho0) hb)
      have n2_ := Aside0.mk (Kd.R_lower (Kd.R_new' (Kd.R_new' ho0 (Kd.R_lt (by (with_reducible repeat (first | apply Kd.R_alloc | apply Kd.R_drewN | apply Kd.R_drew)); exact HO112.out))) (Kd.R_lt (by (with_reducible repeat (first | apply Kd.R_alloc | apply Kd.R_drewN | apply Kd.R_drew)); exact HO115.out))) (below_size (by repeat (first | (with_reducible first | exact HB.out | apply below_alloc | apply pw_below_drewN | apply below_drew1 | refine below_set ?_ GE106.out) | exact HB.out))))
      have n3_ := Aside0.mk (blk_below (g := gb106) (o := .cells #[.int .u32 a0_0, .int .u32 a0_1, .int .u32 a0_2] 147 (0, 0)) (by (with_reducible repeat (first | refine blk_drewN ?_ _ | refine blk_drew ?_ | refine blk_alloc ?_ _)); exact BK106.out) hb)
      have n4_ := Aside0.mk (below_step (by repeat (first | (with_reducible first | exact HB.out | apply below_alloc | apply pw_below_drewN | apply below_drew1 | refine below_set ?_ GE106.out) | exact HB.out)) hb)
      clear HO112
      clear HO115
      clear BK106
      clear HB
      have HO112 := n0_
      have HO115 := n1_
      have HO118 := n2_
      have BK106 := n3_
      have HB := n4_
      clear n0_ n1_ n2_ n3_ n4_
      (try clear hb)
      (try clear hb2)
      (try clear hk)
      (try clear hi)
      (try clear ho0)
      obtain ⟨Ao15, co15, eo15⟩ := Kd.R_slice HO118.out
      (first | subst eo15 | (injection eo15 with f1_ f2_ f3_; have f4_ := f1_.symm; have f5_ := f3_.symm; clear f1_ f2_ f3_; subst f4_; subst f5_))
      refine hK.out _ _ ⟨(blk_cell BK106.out 0).trans rfl, (blk_cell BK106.out 1).trans rfl, (blk_cell BK106.out 2).trans rfl⟩ (fun hHeld => ?_)
      clear hK K
      refine norm_ (a' := ?_) ?_ ?_
      rotate_left
      · show Act.put _ (some 12) _ = _
        simp only [Act.put, List.setIfInBounds_toArray, List.set_cons_zero, List.set_cons_succ, i64_w, i32_w]
        rfl
      refine one_ (i := 10) (N := some 13) #[true, true, true, true, true, true, true, true, true, true, true, false] rfl rfl (one_of HT_.out (by kernel_rfl)) (by decide) (fun K hK => ?_)
      refine Kd.R_append_rows_step (Kd.int .u8) (w0 := w) w.heap.size (by rfl) (.tmp 9) (.tmp 12) 26 5 (.int .u8 0) 1 rfl Try.underlying26 info5 rfl (by decide) (by omega) v114 y113 t116 _ _ _ (fun k_ => some k_ ≠ (.slice Ao12 t110.length co12 : Value).ownBlock ∧ some k_ ≠ (.slice Ao15 t116.length co15 : Value).ownBlock) (fun _ => False) rfl rfl ?aO ?aR (fun _ _ h => h) (fun _ h => h.elim) ?aF ?aB ?aS ?aL ?_
      (case aR => repeat (first | exact (Kd.R_reads' HO118.out).2.2 | (with_reducible refine Kd.C_alloc ?_ _) | (with_reducible refine Kd.C_drewN ?_ _) | (with_reducible refine Kd.C_drew ?_)))
      (case aB => exact (by repeat (first | (with_reducible first | exact HB.out | apply below_alloc | apply pw_below_drewN | apply below_drew1 | refine below_set ?_ GE106.out) | exact HB.out)))
      (case aF => exact (fun k_ hk => ⟨Kd.fresh' (Kd.R_lt (by (with_reducible repeat (first | apply Kd.R_alloc | apply Kd.R_drewN | apply Kd.R_drew)); exact HO112.out)) k_ hk, Kd.fresh' (Kd.R_lt (by (with_reducible repeat (first | apply Kd.R_alloc | apply Kd.R_drewN | apply Kd.R_drew)); exact HO118.out)) k_ hk⟩))
      (case aO => exact (by (with_reducible repeat (first | apply Kd.R_alloc | apply Kd.R_drewN | apply Kd.R_drew)); exact HO115.out))
      (case aS => exact (below_size (by repeat (first | (with_reducible first | exact HB.out | apply below_alloc | apply pw_below_drewN | apply below_drew1 | refine below_set ?_ GE106.out) | exact HB.out))))
      (case aL => have := LMc6.out; omega)
      intro v120 w14 ho hb hg hat
      rw [← Ny119.out] at ho
      have n0_ := Aside0.mk (blk_grown (g := gb106) (o := .cells #[.int .u32 a0_0, .int .u32 a0_1, .int .u32 a0_2] 147 (0, 0)) (by (with_reducible repeat (first | refine blk_drewN ?_ _ | refine blk_drew ?_ | refine blk_alloc ?_ _)); exact BK106.out) hg (Kd.R_ne HO115.out BK106.out (by decide)))
      have n1_ := Aside0.mk (Kd.R_after (ok := (fun k_ => some k_ ≠ (.slice Ao15 t116.length co15 : Value).ownBlock)) (by (with_reducible repeat (first | apply Kd.R_alloc | apply Kd.R_drewN | apply Kd.R_drew)); exact Kd.R_mono HO112.out (fun _ hk => ⟨hk.2, hk.1.2⟩)) hg hat)
      have n2_ := Aside0.mk (Kd.R_after (ok := (fun k_ => some k_ ≠ (.slice Ao12 t110.length co12 : Value).ownBlock)) (by (with_reducible repeat (first | apply Kd.R_alloc | apply Kd.R_drewN | apply Kd.R_drew)); exact Kd.R_mono HO118.out (fun _ hk => ⟨hk.1.2, hk.2⟩)) hg hat)
      have n3_ := Aside0.mk (hb)
      have n4_ := Aside0.mk (ho)
      clear BK106
      clear HO112
      clear HO118
      clear HB
      clear HO115
      have BK106 := n0_
      have HO112 := n1_
      have HO118 := n2_
      have HB := n3_
      have HO121 := n4_
      clear n0_ n1_ n2_ n3_ n4_
      clear ho hb hg hat
      refine hK.out _ _ ⟨(blk_cell BK106.out 0).trans rfl, (blk_cell BK106.out 1).trans rfl, (blk_cell BK106.out 2).trans rfl⟩ (fun hHeld => ?_)
      clear hK K
      refine norm_ (a' := ?_) ?_ ?_
      rotate_left
      · show Act.put _ (some 13) _ = _
        simp only [Act.put, List.setIfInBounds_toArray, List.set_cons_zero, List.set_cons_succ, i64_w, i32_w]
        rfl
      refine pure_ (i := 11) (N := some 2) (v := ?_) (a' := ?_) #[true, true, true, true, true, true, true, true, true, true, true, true] rfl rfl (any_of HT_.out (by kernel_rfl)) (fun _ _ _ h => h) (Or.inl ⟨by rfl, ?_⟩) ?_ ?_
      rotate_left
      · intro w'
        go_simp
        with_reducible rfl
      rotate_left
      · simp only [Act.put, List.setIfInBounds_toArray, List.set_cons_zero, List.set_cons_succ, i64_w, i32_w]
        rfl
      refine done_ (done_of HT_.out (by kernel_rfl)) ?_
      try go_wp2
      go_ret
      exact ⟨_, by first | rfl | (simp [errW_none, errW_some] <;> rfl) | (simp [*, errW_none, errW_some] <;> rfl), by (with_reducible repeat (first | apply Kd.R_alloc | apply Kd.R_drewN | apply Kd.R_drew)); exact Kd.R_mono HO121.out (fun _ hk => trivial), by repeat (first | (with_reducible first | exact HB.out | apply below_alloc | apply pw_below_drewN | apply below_drew1 | refine below_set ?_ GE106.out) | exact HB.out)⟩
    · rw [if_neg c6] at H
      exact absurd H (by simp)
  · rw [if_neg c4] at H
    exact absurd H (by simp)

/-! ### badgerlog_EncodePlace: function 101 -/
def badgerlog_EncodePlace.f (a0_0 : Int) (a0_1 : Int) (a0_2 : Int) : Option (List Int) := (badgerlog_valuePointer_Encode.f a0_0 a0_1 a0_2).bind fun t123 => (some t123)
set_option maxHeartbeats 8000000 in
set_option maxRecDepth 100000 in
theorem badgerlog_EncodePlace.calls (a0_0 : Int) (a0_1 : Int) (a0_2 : Int) (r : List Int) (w : World) (h : badgerlog_EncodePlace.f a0_0 a0_1 a0_2 = some r) :
    Calls Try.prog 101 #[.agg #[.int .u32 a0_0, .int .u32 a0_1, .int .u32 a0_2]] w fun e w' => ∃ v0_ : Value, e = .returned (v0_) ∧ Kd.R (Kd.int .u8) 5 w' w.heap.size (fun _ => True) v0_ r ∧ Below w.heap.size w w' := by
  have hu104 := Try.underlying104
  have hu147 := Try.underlying147
  have HB := Aside0.mk (Below.refl w.heap.size w)
  have H : ((badgerlog_valuePointer_Encode.f a0_0 a0_1 a0_2).bind fun t123 => (some t123)) = some r := h
  clear h
  replace H := Option.bind_eq_some_iff.mp H
  obtain ⟨t123, A20, H⟩ := H
  replace H : (some t123) = some r := H
  have A2 := Aside0.mk A20
  clear A20
  obtain rfl := Option.some.inj H
  go_enter Try.func101, Try.ntmps101
  go_wp2_with (first | ((with_reducible refine gate_dst (N := 1) rfl ?_); refine box_event ?hg (N := 1) ?hd (cs := #[.int .u32 a0_0, .int .u32 a0_1, .int .u32 a0_2]) (t := 104) ?hr ?_; (case hd => rfl); (case hg => rfl); (case hr => first | (go_simp; done) | (go_simp; rfl)); intro gb122 hg w3 hbox hb; have n0_ := Aside0.mk (below_step (by repeat (first | (with_reducible first | exact HB.out | apply below_alloc | apply pw_below_drewN | apply below_drew1) | exact HB.out)) hb); have n1_ := Aside0.mk (hbox); have n2_ := Aside0.mk ((by rw [hg]; exact (below_size (by repeat (first | (with_reducible first | exact HB.out | apply below_alloc | apply pw_below_drewN | apply below_drew1) | exact HB.out))) : w.heap.size ≤ gb122)); have n3_ := Aside0.mk ((by rw [hg]; exact (below_size (by repeat (first | (with_reducible first | exact HB.out | apply below_alloc | apply pw_below_drewN | apply below_drew1) | exact HB.out))) : w.heap.size ≤ gb122)); clear HB; have HB := n0_; have BK122 := n1_; have GW122 := n2_; have GE122 := n3_; clear n0_ n1_ n2_ n3_; clear hb hbox hg; have hcz4_0 : w3.cell? ⟨gb122, 0, none⟩ = some (.int .u32 a0_0) := (blk_cell BK122.out 0).trans rfl; have hcz4_1 : w3.cell? ⟨gb122, 1, none⟩ = some (.int .u32 a0_1) := (blk_cell BK122.out 1).trans rfl; have hcz4_2 : w3.cell? ⟨gb122, 2, none⟩ = some (.int .u32 a0_2) := (blk_cell BK122.out 2).trans rfl; have hfz4_0 := blk_frozen BK122.out 0; have hfz4_1 := blk_frozen BK122.out 1; have hfz4_2 := blk_frozen BK122.out 2) | ((with_reducible refine gate_callee (f := 143) rfl ?_); refine goesL_ (some 10) rfl rfl Try.func143 (by kernel_rfl) rfl #[.agg #[.int .u32 a0_0, .int .u32 a0_1, .int .u32 a0_2]] rfl (by (try simp only [List.map_toArray, List.map_cons, List.map_nil]); first | done | rfl | (simp only [List.length_drop, List.length_take]; rfl)) ?_; (with_reducible refine (badgerlog_valuePointer_Encode.calls a0_0 a0_1 a0_2 t123 _ A2.out).mono ?_); rintro e w5 ⟨v124, rfl, ho0, hb⟩; refine ⟨_, rfl, ?_⟩; have n0_ := Aside0.mk (Kd.R_lower ho0 (below_size (by repeat (first | (with_reducible first | exact HB.out | apply below_alloc | apply pw_below_drewN | apply below_drew1 | refine below_set ?_ GE122.out) | exact HB.out)))); have n1_ := Aside0.mk (blk_below (g := gb122) (o := .cells #[.int .u32 a0_0, .int .u32 a0_1, .int .u32 a0_2] 104 (0, 0)) (by (with_reducible repeat (first | refine blk_drewN ?_ _ | refine blk_drew ?_ | refine blk_alloc ?_ _)); exact BK122.out) hb); have n2_ := Aside0.mk (below_step (by repeat (first | (with_reducible first | exact HB.out | apply below_alloc | apply pw_below_drewN | apply below_drew1 | refine below_set ?_ GE122.out) | exact HB.out)) hb); clear BK122; clear HB; have HO125 := n0_; have BK122 := n1_; have HB := n2_; clear n0_ n1_ n2_; (try clear hb); (try clear hb2); (try clear hk); (try clear hi); (try clear ho0)))
  go_ret
  exact ⟨_, by first | rfl | (simp [errW_none, errW_some] <;> rfl) | (simp [*, errW_none, errW_some] <;> rfl), by (with_reducible repeat (first | apply Kd.R_alloc | apply Kd.R_drewN | apply Kd.R_drew)); exact HO125.out, by repeat (first | (with_reducible first | exact HB.out | apply below_alloc | apply pw_below_drewN | apply below_drew1 | refine below_set ?_ GE122.out) | exact HB.out)⟩

/-! ### impl_EncodeSpot: function 49 -/
def impl_EncodeSpot.f (a0_0 : Int) (a0_1 : Int) (a0_2 : Int) : Option (List Int) := (impl_givenSpot.f a0_0 a0_1 a0_2).bind fun bt127 => ((badgerlog_EncodePlace.f bt127.1 bt127.2.1 bt127.2.2).bind fun t130 => ((impl_own.f t130).bind fun t133 => (some t133)))
set_option maxHeartbeats 8000000 in
set_option maxRecDepth 100000 in
theorem impl_EncodeSpot.calls (a0_0 : Int) (a0_1 : Int) (a0_2 : Int) (r : List Int) (w : World) (h : impl_EncodeSpot.f a0_0 a0_1 a0_2 = some r) :
    Calls Try.prog 49 #[.agg #[.int .u32 a0_0, .int .u32 a0_1, .int .u32 a0_2]] w fun e w' => ∃ v0_ : Value, e = .returned (v0_) ∧ Kd.R (Kd.int .u8) 5 w' w.heap.size (fun _ => True) v0_ r ∧ Below w.heap.size w w' := by
  have hu24 := Try.underlying24
  have HB := Aside0.mk (Below.refl w.heap.size w)
  have H : ((impl_givenSpot.f a0_0 a0_1 a0_2).bind fun bt127 => ((badgerlog_EncodePlace.f bt127.1 bt127.2.1 bt127.2.2).bind fun t130 => ((impl_own.f t130).bind fun t133 => (some t133)))) = some r := h
  clear h
  replace H := Option.bind_eq_some_iff.mp H
  obtain ⟨⟨t127, t128, t129⟩, A20, H⟩ := H
  replace H : ((badgerlog_EncodePlace.f t127 t128 t129).bind fun t130 => ((impl_own.f t130).bind fun t133 => (some t133))) = some r := H
  have A2 := Aside0.mk A20
  clear A20
  replace H := Option.bind_eq_some_iff.mp H
  obtain ⟨t130, A30, H⟩ := H
  replace H : ((impl_own.f t130).bind fun t133 => (some t133)) = some r := H
  have A3 := Aside0.mk A30
  clear A30
  replace H := Option.bind_eq_some_iff.mp H
  obtain ⟨t133, A40, H⟩ := H
  replace H : (some t133) = some r := H
  have A4 := Aside0.mk A40
  clear A40
  obtain rfl := Option.some.inj H
  go_enter Try.func49, Try.ntmps49
  go_wp2_with (first | ((with_reducible refine gate_dst (N := 1) rfl ?_); refine box_event ?hg (N := 1) ?hd (cs := #[.int .u32 a0_0, .int .u32 a0_1, .int .u32 a0_2]) (t := 24) ?hr ?_; (case hd => rfl); (case hg => rfl); (case hr => first | (go_simp; done) | (go_simp; rfl)); intro gb126 hg w5 hbox hb; have n0_ := Aside0.mk (below_step (by repeat (first | (with_reducible first | exact HB.out | apply below_alloc | apply pw_below_drewN | apply below_drew1) | exact HB.out)) hb); have n1_ := Aside0.mk (hbox); have n2_ := Aside0.mk ((by rw [hg]; exact (below_size (by repeat (first | (with_reducible first | exact HB.out | apply below_alloc | apply pw_below_drewN | apply below_drew1) | exact HB.out))) : w.heap.size ≤ gb126)); have n3_ := Aside0.mk ((by rw [hg]; exact (below_size (by repeat (first | (with_reducible first | exact HB.out | apply below_alloc | apply pw_below_drewN | apply below_drew1) | exact HB.out))) : w.heap.size ≤ gb126)); clear HB; have HB := n0_; have BK126 := n1_; have GW126 := n2_; have GE126 := n3_; clear n0_ n1_ n2_ n3_; clear hb hbox hg; have hcz6_0 : w5.cell? ⟨gb126, 0, none⟩ = some (.int .u32 a0_0) := (blk_cell BK126.out 0).trans rfl; have hcz6_1 : w5.cell? ⟨gb126, 1, none⟩ = some (.int .u32 a0_1) := (blk_cell BK126.out 1).trans rfl; have hcz6_2 : w5.cell? ⟨gb126, 2, none⟩ = some (.int .u32 a0_2) := (blk_cell BK126.out 2).trans rfl; have hfz6_0 := blk_frozen BK126.out 0; have hfz6_1 := blk_frozen BK126.out 1; have hfz6_2 := blk_frozen BK126.out 2) | ((with_reducible refine gate_callee (f := 87) rfl ?_); refine goesL_ (some 4) rfl rfl Try.func87 (by kernel_rfl) rfl #[.agg #[.int .u32 a0_0, .int .u32 a0_1, .int .u32 a0_2]] rfl (by (try simp only [List.map_toArray, List.map_cons, List.map_nil]); first | done | rfl | (simp only [List.length_drop, List.length_take]; rfl)) ?_; (with_reducible refine (impl_givenSpot.calls a0_0 a0_1 a0_2 t127 t128 t129 _ A2.out).mono ?_); rintro e w7 ⟨rfl, hb⟩; refine ⟨_, rfl, ?_⟩; have n0_ := Aside0.mk (blk_below (g := gb126) (o := .cells #[.int .u32 a0_0, .int .u32 a0_1, .int .u32 a0_2] 24 (0, 0)) (by (with_reducible repeat (first | refine blk_drewN ?_ _ | refine blk_drew ?_ | refine blk_alloc ?_ _)); exact BK126.out) hb); have n1_ := Aside0.mk (below_step (by repeat (first | (with_reducible first | exact HB.out | apply below_alloc | apply pw_below_drewN | apply below_drew1 | refine below_set ?_ GE126.out) | exact HB.out)) hb); clear BK126; clear HB; have BK126 := n0_; have HB := n1_; clear n0_ n1_; (try clear hb); (try clear hb2); (try clear hk); (try clear hi)) | ((with_reducible refine gate_callee (f := 101) rfl ?_); refine goesL_ (some 5) rfl rfl Try.func101 (by kernel_rfl) rfl #[.agg #[.int .u32 t127, .int .u32 t128, .int .u32 t129]] rfl (by (try simp only [List.map_toArray, List.map_cons, List.map_nil]); first | done | rfl | (simp only [List.length_drop, List.length_take]; rfl)) ?_; (with_reducible refine (badgerlog_EncodePlace.calls t127 t128 t129 t130 _ A3.out).mono ?_); rintro e w8 ⟨v131, rfl, ho0, hb⟩; refine ⟨_, rfl, ?_⟩; have n0_ := Aside0.mk (Kd.R_lower ho0 (below_size (by repeat (first | (with_reducible first | exact HB.out | apply below_alloc | apply pw_below_drewN | apply below_drew1 | refine below_set ?_ GE126.out) | exact HB.out)))); have n1_ := Aside0.mk (blk_below (g := gb126) (o := .cells #[.int .u32 a0_0, .int .u32 a0_1, .int .u32 a0_2] 24 (0, 0)) (by (with_reducible repeat (first | refine blk_drewN ?_ _ | refine blk_drew ?_ | refine blk_alloc ?_ _)); exact BK126.out) hb); have n2_ := Aside0.mk (below_step (by repeat (first | (with_reducible first | exact HB.out | apply below_alloc | apply pw_below_drewN | apply below_drew1 | refine below_set ?_ GE126.out) | exact HB.out)) hb); clear BK126; clear HB; have HO132 := n0_; have BK126 := n1_; have HB := n2_; clear n0_ n1_ n2_; (try clear hb); (try clear hb2); (try clear hk); (try clear hi); (try clear ho0); obtain ⟨Ao9, co9, eo9⟩ := Kd.R_slice HO132.out; subst eo9) | ((with_reducible refine gate_callee (f := 89) rfl ?_); refine goesL_ (some 6) rfl rfl Try.func89 (by kernel_rfl) rfl #[.slice Ao9 t130.length co9] rfl (by (try simp only [List.map_toArray, List.map_cons, List.map_nil]); first | done | rfl | (simp only [List.length_drop, List.length_take]; rfl)) ?_; (with_reducible refine (impl_own.calls _ _ t130 t133 _ ?side1 ?side2 A4.out).mono ?_); (case side1 => repeat (first | exact (Kd.R_reads' HO132.out).2.2 | (with_reducible refine Kd.C_alloc ?_ _) | (with_reducible refine Kd.C_drewN ?_ _) | (with_reducible refine Kd.C_drew ?_))); (case side2 => exact (Kd.R_reads' HO132.out).2.1); rintro e w10 ⟨v134, rfl, ho0, hb⟩; refine ⟨_, rfl, ?_⟩; have n0_ := Aside0.mk (Kd.R_elder' (by (with_reducible repeat (first | apply Kd.R_alloc | apply Kd.R_drewN | apply Kd.R_drew)); exact HO132.out) (Kd.R_base ho0) hb); have n1_ := Aside0.mk (Kd.R_lower (Kd.R_new' ho0 (Kd.R_lt (by (with_reducible repeat (first | apply Kd.R_alloc | apply Kd.R_drewN | apply Kd.R_drew)); exact HO132.out))) (below_size (by repeat (first | (with_reducible first | exact HB.out | apply below_alloc | apply pw_below_drewN | apply below_drew1 | refine below_set ?_ GE126.out) | exact HB.out)))); have n2_ := Aside0.mk (blk_below (g := gb126) (o := .cells #[.int .u32 a0_0, .int .u32 a0_1, .int .u32 a0_2] 24 (0, 0)) (by (with_reducible repeat (first | refine blk_drewN ?_ _ | refine blk_drew ?_ | refine blk_alloc ?_ _)); exact BK126.out) hb); have n3_ := Aside0.mk (below_step (by repeat (first | (with_reducible first | exact HB.out | apply below_alloc | apply pw_below_drewN | apply below_drew1 | refine below_set ?_ GE126.out) | exact HB.out)) hb); clear HO132; clear BK126; clear HB; have HO132 := n0_; have HO135 := n1_; have BK126 := n2_; have HB := n3_; clear n0_ n1_ n2_ n3_; (try clear hb); (try clear hb2); (try clear hk); (try clear hi); (try clear ho0)))
  go_ret
  exact ⟨_, by first | rfl | (simp [errW_none, errW_some] <;> rfl) | (simp [*, errW_none, errW_some] <;> rfl), by (with_reducible repeat (first | apply Kd.R_alloc | apply Kd.R_drewN | apply Kd.R_drew)); exact Kd.R_mono HO135.out (fun _ hk => trivial), by repeat (first | (with_reducible first | exact HB.out | apply below_alloc | apply pw_below_drewN | apply below_drew1 | refine below_set ?_ GE126.out) | exact HB.out)⟩

end Go.Proofs.YtadhdimleabljaaQ.QS
