-- Lines that a program has printed for this claim: functions as plain Lean functions, and their walks.
import Derived.Test.YtadhdimleabljaaQR0
import Derived.Test.YtadhdimleabljaaQR1
import Derived.Test.YtadhdimleabljaaQR4
import Derived.Test.YtadhdimleabljaaQR5
namespace Go.Proofs.YtadhdimleabljaaQ.QR
open Go.RowKit Go.Proofs.YtadhdimleabljaaQ.Ext Go.Proofs.YtadhdimleabljaaW.PrintWords Go.Proofs.YtadhdimleabljaaW.PrintLast Go.Proofs.YtadhdimleabljaaW.PrintMore
attribute [local go_sem] max2_int min2_int max_two min_two max_three min_three max_four min_four   -- for this text's walks alone
set_option linter.unusedVariables false
set_option linter.unusedSimpArgs false

/-! ### laws_FnRangeOverlap: function 21 -/
def laws_FnRangeOverlap.j0 : Nat → Bool → Bool → List Int → Int → Bool → List Int → Int → Bool → Bool → List Int → Int → Bool → List Int → Int → Bool → Option (Bool)
  | 0, _, _, _, _, _, _, _, _, _, _, _, _, _, _, _ => none
  | k + 1, x12, x241000, x241001, x241002, x241003, x241004, x241005, x241006, x242000, x242001, x242002, x242003, x242004, x242005, x242006 => if x12 = true then (some true) else ((laws_rangesOk.f k (([(⟨(⟨x241000, x241001, x241002⟩ : S61), (⟨x241003, x241004, x241005⟩ : S61), x241006⟩ : S63), (⟨(⟨x242000, x242001, x242002⟩ : S61), (⟨x242003, x242004, x242005⟩ : S61), x242006⟩ : S63)] : List (S63)))).bind fun t247 => (if t247 = true then ((impl_Overlap.f k x241000 x241001 x241002 x241003 x241004 x241005 x241006 x242000 x242001 x242002 x242003 x242004 x242005 x242006).bind fun t248 => ((spec_Meet.f x241000 x241001 x241002 x241003 x241004 x241005 x241006 x242000 x242001 x242002 x242003 x242004 x242005 x242006).bind fun t249 => (if (t248 == t249) = true then ((impl_Overlap.f k x242000 x242001 x242002 x242003 x242004 x242005 x242006 x241000 x241001 x241002 x241003 x241004 x241005 x241006).bind fun t250 => ((spec_Meet.f x241000 x241001 x241002 x241003 x241004 x241005 x241006 x242000 x242001 x242002 x242003 x242004 x242005 x242006).bind fun t251 => (some (t250 == t251)))) else (some false)))) else (some true)))
def laws_FnRangeOverlap.f (k : Nat) (a0_0 : Bool) (l0_1 : List Int) (a0_2 : Int) (a0_3 : Bool) (l0_4 : List Int) (a0_5 : Int) (a0_6 : Bool) (a1_0 : Bool) (l1_1 : List Int) (a1_2 : Int) (a1_3 : Bool) (l1_4 : List Int) (a1_5 : Int) (a1_6 : Bool) : Option (Bool) := (laws_zzFits9.f a0_0 l0_1 a0_2 a0_3 l0_4 a0_5 a0_6).bind fun t242 => (if t242 = true then ((laws_zzFits9.f a1_0 l1_1 a1_2 a1_3 l1_4 a1_5 a1_6).bind fun t243 => (laws_FnRangeOverlap.j0 k (!t243) a0_0 l0_1 a0_2 a0_3 l0_4 a0_5 a0_6 a1_0 l1_1 a1_2 a1_3 l1_4 a1_5 a1_6)) else (laws_FnRangeOverlap.j0 k true a0_0 l0_1 a0_2 a0_3 l0_4 a0_5 a0_6 a1_0 l1_1 a1_2 a1_3 l1_4 a1_5 a1_6))
theorem laws_FnRangeOverlap.mono_l : ∀ k, (∀ y0 y1 y2 y3 y4 y5 y6 y7 y8 y9 y10 y11 y12 y13 y14, LeO (laws_FnRangeOverlap.j0 k y0 y1 y2 y3 y4 y5 y6 y7 y8 y9 y10 y11 y12 y13 y14) (laws_FnRangeOverlap.j0 (k + 1) y0 y1 y2 y3 y4 y5 y6 y7 y8 y9 y10 y11 y12 y13 y14))
  | 0 => fun _ _ _ _ _ _ _ _ _ _ _ _ _ _ _ r h => by simp [laws_FnRangeOverlap.j0] at h
  | k + 1 => by
    have ih0 := laws_FnRangeOverlap.mono_l k
    · intro y0 y1 y2 y3 y4 y5 y6 y7 y8 y9 y10 y11 y12 y13 y14
      unfold laws_FnRangeOverlap.j0
      repeat' first
      | (with_reducible exact ih0 _ _ _ _ _ _ _ _ _ _ _ _ _ _ _)
      | (with_reducible exact impl_Overlap.mono _ _ _ _ _ _ _ _ _ _ _ _ _ _ _)
      | (with_reducible exact laws_rangesOk.mono _ _)
      | (with_reducible exact LeO.refl _)
      | (with_reducible exact LeO.none _)
      | (with_reducible refine LeO.ite ?_ ?_)
      | (with_reducible refine LeO.bind ?_ (fun _ => ?_))
      | exact ih0 _ _ _ _ _ _ _ _ _ _ _ _ _ _ _
      | exact impl_Overlap.mono _ _ _ _ _ _ _ _ _ _ _ _ _ _ _
      | exact laws_rangesOk.mono _ _
      | exact LeO.none _
      | refine LeO.ite ?_ ?_
      | refine LeO.bind ?_ (fun _ => ?_)
theorem laws_FnRangeOverlap.mono : ∀ a0 a1 a2 a3 a4 a5 a6 a7 a8 a9 a10 a11 a12 a13 k, LeO (laws_FnRangeOverlap.f k a0 a1 a2 a3 a4 a5 a6 a7 a8 a9 a10 a11 a12 a13) (laws_FnRangeOverlap.f (k + 1) a0 a1 a2 a3 a4 a5 a6 a7 a8 a9 a10 a11 a12 a13) := by
  intro a0 a1 a2 a3 a4 a5 a6 a7 a8 a9 a10 a11 a12 a13 k
  have ih0 := laws_FnRangeOverlap.mono_l k
  unfold laws_FnRangeOverlap.f
  repeat' first
      | (with_reducible exact ih0 _ _ _ _ _ _ _ _ _ _ _ _ _ _ _)
      | (with_reducible exact impl_Overlap.mono _ _ _ _ _ _ _ _ _ _ _ _ _ _ _)
      | (with_reducible exact laws_rangesOk.mono _ _)
      | (with_reducible exact LeO.refl _)
      | (with_reducible exact LeO.none _)
      | (with_reducible refine LeO.ite ?_ ?_)
      | (with_reducible refine LeO.bind ?_ (fun _ => ?_))
      | exact ih0 _ _ _ _ _ _ _ _ _ _ _ _ _ _ _
      | exact impl_Overlap.mono _ _ _ _ _ _ _ _ _ _ _ _ _ _ _
      | exact laws_rangesOk.mono _ _
      | exact LeO.none _
      | refine LeO.ite ?_ ?_
      | refine LeO.bind ?_ (fun _ => ?_)
def laws_FnRangeOverlap.T3 : Bool × List (List Nat × List Nat) := (true, [([], []), ([], []), ([0, 1], [0, 1]), ([2], [2]), ([3], [3]), ([4, 3], [4]), ([5], [5]), ([5], [5]), ([6, 7, 5, 5], [5, 6, 7]), ([5], [5]), ([5], [5]), ([9, 10, 8, 5], [5, 9, 10]), ([8, 11, 5], [5, 8, 11]), ([12, 11, 5], [5, 12]), ([13], [13]), ([13], [13]), ([14, 15, 13, 13], [13, 14, 15]), ([13], [13]), ([13], [13]), ([17, 18, 16, 13], [13, 17, 18]), ([16, 19, 13], [13, 16, 19]), ([13, 20, 5], [5, 13, 20]), ([5, 21], [5, 21]), ([22, 19, 0, 1, 2, 3, 4, 5, 6, 7, 8, 9, 10, 11, 12, 13, 14, 15, 16, 17, 18, 19, 20, 21, 22], [22])])
def laws_FnRangeOverlap.B3 : List Nat := [0, 0, 3, 7, 15, 31, 63, 63, 255, 63, 63, 2047, 4095, 8191, 16383, 16383, 65535, 16383, 16383, 524287, 1048575, 2097151, 4194303, 8388607]
theorem laws_FnRangeOverlap.tab3 : rtab .any (opsOf Try.f21 3) = laws_FnRangeOverlap.T3 := by kernel_rfl
theorem laws_FnRangeOverlap.bits3 : waitsOk laws_FnRangeOverlap.T3.2 laws_FnRangeOverlap.B3 = true := by kernel_rfl
set_option maxHeartbeats 8000000 in
set_option maxRecDepth 100000 in
theorem laws_FnRangeOverlap.calls (k : Nat) (a0_0 : Bool) (P0_1_ : Nat → Prop) (A0_1 : Option Addr) (c0_1 : Nat) (l0_1 : List Int) (a0_2 : Int) (a0_3 : Bool) (P0_4_ : Nat → Prop) (A0_4 : Option Addr) (c0_4 : Nat) (l0_4 : List Int) (a0_5 : Int) (a0_6 : Bool) (a1_0 : Bool) (P1_1_ : Nat → Prop) (A1_1 : Option Addr) (c1_1 : Nat) (l1_1 : List Int) (a1_2 : Int) (a1_3 : Bool) (P1_4_ : Nat → Prop) (A1_4 : Option Addr) (c1_4 : Nat) (l1_4 : List Int) (a1_5 : Int) (a1_6 : Bool) (r : Bool) (w : World) (hs0_1 : Kd.V (Kd.int .u8) 5 w w.heap.size (fun k_ => P0_1_ k_) (.slice A0_1 l0_1.length c0_1) l0_1) (hs0_4 : Kd.V (Kd.int .u8) 5 w w.heap.size (fun k_ => P0_4_ k_) (.slice A0_4 l0_4.length c0_4) l0_4) (hs1_1 : Kd.V (Kd.int .u8) 5 w w.heap.size (fun k_ => P1_1_ k_) (.slice A1_1 l1_1.length c1_1) l1_1) (hs1_4 : Kd.V (Kd.int .u8) 5 w w.heap.size (fun k_ => P1_4_ k_) (.slice A1_4 l1_4.length c1_4) l1_4) (h : laws_FnRangeOverlap.f k a0_0 l0_1 a0_2 a0_3 l0_4 a0_5 a0_6 a1_0 l1_1 a1_2 a1_3 l1_4 a1_5 a1_6 = some r) :
    Calls Try.prog 21 #[.agg #[.bool a0_0, .slice A0_1 l0_1.length c0_1, .int .u64 a0_2, .bool a0_3, .slice A0_4 l0_4.length c0_4, .int .u64 a0_5, .bool a0_6], .agg #[.bool a1_0, .slice A1_1 l1_1.length c1_1, .int .u64 a1_2, .bool a1_3, .slice A1_4 l1_4.length c1_4, .int .u64 a1_5, .bool a1_6]] w fun e w' => e = .returned (.bool r) ∧ Below w.heap.size w w' := by
  have hu63 := Try.underlying63
  have HO0_1 := Aside0.mk (show Kd.V (Kd.int .u8) 5 w w.heap.size (fun k_ => ((P0_1_ k_ ∨ P0_4_ k_ ∨ P1_1_ k_ ∨ P1_4_ k_) ∨ w.heap.size ≤ k_)) (.slice A0_1 l0_1.length c0_1) l0_1 from Kd.V_mono hs0_1 (fun k_ hk => .inl (.inl hk)))
  have HO0_4 := Aside0.mk (show Kd.V (Kd.int .u8) 5 w w.heap.size (fun k_ => ((P0_1_ k_ ∨ P0_4_ k_ ∨ P1_1_ k_ ∨ P1_4_ k_) ∨ w.heap.size ≤ k_)) (.slice A0_4 l0_4.length c0_4) l0_4 from Kd.V_mono hs0_4 (fun k_ hk => .inl (.inr (.inl hk))))
  have HO1_1 := Aside0.mk (show Kd.V (Kd.int .u8) 5 w w.heap.size (fun k_ => ((P0_1_ k_ ∨ P0_4_ k_ ∨ P1_1_ k_ ∨ P1_4_ k_) ∨ w.heap.size ≤ k_)) (.slice A1_1 l1_1.length c1_1) l1_1 from Kd.V_mono hs1_1 (fun k_ hk => .inl (.inr (.inr (.inl hk)))))
  have HO1_4 := Aside0.mk (show Kd.V (Kd.int .u8) 5 w w.heap.size (fun k_ => ((P0_1_ k_ ∨ P0_4_ k_ ∨ P1_1_ k_ ∨ P1_4_ k_) ∨ w.heap.size ≤ k_)) (.slice A1_4 l1_4.length c1_4) l1_4 from Kd.V_mono hs1_4 (fun k_ hk => .inl (.inr (.inr (.inr hk)))))
  have HB := Aside0.mk (Below.refl w.heap.size w)
  have H : ((laws_zzFits9.f a0_0 l0_1 a0_2 a0_3 l0_4 a0_5 a0_6).bind fun t242 => (if t242 = true then ((laws_zzFits9.f a1_0 l1_1 a1_2 a1_3 l1_4 a1_5 a1_6).bind fun t243 => (laws_FnRangeOverlap.j0 k (!t243) a0_0 l0_1 a0_2 a0_3 l0_4 a0_5 a0_6 a1_0 l1_1 a1_2 a1_3 l1_4 a1_5 a1_6)) else (laws_FnRangeOverlap.j0 k true a0_0 l0_1 a0_2 a0_3 l0_4 a0_5 a0_6 a1_0 l1_1 a1_2 a1_3 l1_4 a1_5 a1_6))) = some r := h
  clear h
  have HC3 := Aside0.mk H
  clear H
  go_enter Try.func21, Try.ntmps21
  go_upto_region 1 with (first | ((with_reducible refine gate_dst (N := 2) rfl ?_); refine box_event ?hg (N := 2) ?hd (cs := #[.bool a0_0, .slice A0_1 l0_1.length c0_1, .int .u64 a0_2, .bool a0_3, .slice A0_4 l0_4.length c0_4, .int .u64 a0_5, .bool a0_6]) (t := 63) ?hr ?_; (case hd => rfl); (case hg => rfl); (case hr => first | (go_simp; done) | (go_simp; rfl)); intro gb240 hg w4 hbox hb; have n0_ := Aside0.mk (Kd.V_below (Kd.V_elderB (by (with_reducible repeat (first | apply Kd.V_alloc | apply Kd.V_drewN | apply Kd.V_drew)); exact HO0_1.out) gb240 (Nat.le_of_eq hg.symm)) hb); have n1_ := Aside0.mk (Kd.V_below (Kd.V_elderB (by (with_reducible repeat (first | apply Kd.V_alloc | apply Kd.V_drewN | apply Kd.V_drew)); exact HO0_4.out) gb240 (Nat.le_of_eq hg.symm)) hb); have n2_ := Aside0.mk (Kd.V_below (Kd.V_elderB (by (with_reducible repeat (first | apply Kd.V_alloc | apply Kd.V_drewN | apply Kd.V_drew)); exact HO1_1.out) gb240 (Nat.le_of_eq hg.symm)) hb); have n3_ := Aside0.mk (Kd.V_below (Kd.V_elderB (by (with_reducible repeat (first | apply Kd.V_alloc | apply Kd.V_drewN | apply Kd.V_drew)); exact HO1_4.out) gb240 (Nat.le_of_eq hg.symm)) hb); have n4_ := Aside0.mk (below_step (by repeat (first | (with_reducible first | exact HB.out | apply below_alloc | apply pw_below_drewN | apply below_drew1) | exact HB.out)) hb); have n5_ := Aside0.mk (hbox); have n6_ := Aside0.mk ((by rw [hg]; exact (below_size (by repeat (first | (with_reducible first | exact HB.out | apply below_alloc | apply pw_below_drewN | apply below_drew1) | exact HB.out))) : w.heap.size ≤ gb240)); have n7_ := Aside0.mk ((by rw [hg]; exact (below_size (by repeat (first | (with_reducible first | exact HB.out | apply below_alloc | apply pw_below_drewN | apply below_drew1) | exact HB.out))) : w.heap.size ≤ gb240)); clear HO0_1; clear HO0_4; clear HO1_1; clear HO1_4; clear HB; have HO0_1 := n0_; have HO0_4 := n1_; have HO1_1 := n2_; have HO1_4 := n3_; have HB := n4_; have BK240 := n5_; have GW240 := n6_; have GE240 := n7_; clear n0_ n1_ n2_ n3_ n4_ n5_ n6_ n7_; clear hb hbox hg) | ((with_reducible refine gate_dst (N := 3) rfl ?_); refine box_event ?hg (N := 3) ?hd (cs := #[.bool a1_0, .slice A1_1 l1_1.length c1_1, .int .u64 a1_2, .bool a1_3, .slice A1_4 l1_4.length c1_4, .int .u64 a1_5, .bool a1_6]) (t := 63) ?hr ?_; (case hd => rfl); (case hg => rfl); (case hr => first | (go_simp; done) | (go_simp; rfl)); intro gb241 hg w5 hbox hb; have n0_ := Aside0.mk (Kd.V_below (Kd.V_elderB (by (with_reducible repeat (first | apply Kd.V_alloc | apply Kd.V_drewN | apply Kd.V_drew)); exact HO0_1.out) gb241 (Nat.le_of_eq hg.symm)) hb); have n1_ := Aside0.mk (Kd.V_below (Kd.V_elderB (by (with_reducible repeat (first | apply Kd.V_alloc | apply Kd.V_drewN | apply Kd.V_drew)); exact HO0_4.out) gb241 (Nat.le_of_eq hg.symm)) hb); have n2_ := Aside0.mk (Kd.V_below (Kd.V_elderB (by (with_reducible repeat (first | apply Kd.V_alloc | apply Kd.V_drewN | apply Kd.V_drew)); exact HO1_1.out) gb241 (Nat.le_of_eq hg.symm)) hb); have n3_ := Aside0.mk (Kd.V_below (Kd.V_elderB (by (with_reducible repeat (first | apply Kd.V_alloc | apply Kd.V_drewN | apply Kd.V_drew)); exact HO1_4.out) gb241 (Nat.le_of_eq hg.symm)) hb); have n4_ := Aside0.mk (blk_below (g := gb240) (o := .cells #[.bool a0_0, .slice A0_1 l0_1.length c0_1, .int .u64 a0_2, .bool a0_3, .slice A0_4 l0_4.length c0_4, .int .u64 a0_5, .bool a0_6] 63 (0, 0)) (by (with_reducible repeat (first | refine blk_drewN ?_ _ | refine blk_drew ?_ | refine blk_alloc ?_ _)); exact BK240.out) hb); have n5_ := Aside0.mk (below_step (by repeat (first | (with_reducible first | exact HB.out | apply below_alloc | apply pw_below_drewN | apply below_drew1 | refine below_set ?_ GE240.out) | exact HB.out)) hb); have n6_ := Aside0.mk (hbox); have n7_ := Aside0.mk ((by rw [hg]; exact (below_size (by repeat (first | (with_reducible first | exact HB.out | apply below_alloc | apply pw_below_drewN | apply below_drew1 | refine below_set ?_ GE240.out) | exact HB.out))) : w.heap.size ≤ gb241)); have n8_ := Aside0.mk ((by rw [hg]; exact (below_size (by repeat (first | (with_reducible first | exact HB.out | apply below_alloc | apply pw_below_drewN | apply below_drew1 | refine below_set ?_ GE240.out) | exact HB.out))) : w.heap.size ≤ gb241)); have n9_ := Aside0.mk ((by rw [hg]; exact Nat.ne_of_lt (blk_lt (g := gb240) (o := .cells #[.bool a0_0, .slice A0_1 l0_1.length c0_1, .int .u64 a0_2, .bool a0_3, .slice A0_4 l0_4.length c0_4, .int .u64 a0_5, .bool a0_6] 63 (0, 0)) (by (with_reducible repeat (first | refine blk_drewN ?_ _ | refine blk_drew ?_ | refine blk_alloc ?_ _)); exact BK240.out)) : gb240 ≠ gb241)); have n10_ := Aside0.mk ((by rw [hg]; exact Nat.ne_of_gt (blk_lt (g := gb240) (o := .cells #[.bool a0_0, .slice A0_1 l0_1.length c0_1, .int .u64 a0_2, .bool a0_3, .slice A0_4 l0_4.length c0_4, .int .u64 a0_5, .bool a0_6] 63 (0, 0)) (by (with_reducible repeat (first | refine blk_drewN ?_ _ | refine blk_drew ?_ | refine blk_alloc ?_ _)); exact BK240.out)) : gb241 ≠ gb240)); clear HO0_1; clear HO0_4; clear HO1_1; clear HO1_4; clear BK240; clear HB; have HO0_1 := n0_; have HO0_4 := n1_; have HO1_1 := n2_; have HO1_4 := n3_; have BK240 := n4_; have HB := n5_; have BK241 := n6_; have GW241 := n7_; have GE241 := n8_; have NB240_241 := n9_; have NB241_240 := n10_; clear n0_ n1_ n2_ n3_ n4_ n5_ n6_ n7_ n8_ n9_ n10_; clear hb hbox hg))
  (try simp only [Act.put, List.setIfInBounds_toArray, List.set_cons_zero, List.set_cons_succ])
  go_cut [12] (fun v12 wc => ∃ (kq : Nat) (x12_2 : Bool), v12 = .bool x12_2 ∧ Aside0 (laws_FnRangeOverlap.j0 kq x12_2 a0_0 l0_1 a0_2 a0_3 l0_4 a0_5 a0_6 a1_0 l1_1 a1_2 a1_3 l1_4 a1_5 a1_6 = some r) ∧ Aside0 (kq ≤ k) ∧ Aside0 (Kd.V (Kd.int .u8) 5 wc w.heap.size (fun k_ => ((P0_1_ k_ ∨ P0_4_ k_ ∨ P1_1_ k_ ∨ P1_4_ k_) ∨ w.heap.size ≤ k_) ∧ k_ ≠ gb240 ∧ k_ ≠ gb241) (.slice A0_1 l0_1.length c0_1) l0_1) ∧ Aside0 (Kd.V (Kd.int .u8) 5 wc w.heap.size (fun k_ => ((P0_1_ k_ ∨ P0_4_ k_ ∨ P1_1_ k_ ∨ P1_4_ k_) ∨ w.heap.size ≤ k_) ∧ k_ ≠ gb240 ∧ k_ ≠ gb241) (.slice A0_4 l0_4.length c0_4) l0_4) ∧ Aside0 (Kd.V (Kd.int .u8) 5 wc w.heap.size (fun k_ => ((P0_1_ k_ ∨ P0_4_ k_ ∨ P1_1_ k_ ∨ P1_4_ k_) ∨ w.heap.size ≤ k_) ∧ k_ ≠ gb240 ∧ k_ ≠ gb241) (.slice A1_1 l1_1.length c1_1) l1_1) ∧ Aside0 (Kd.V (Kd.int .u8) 5 wc w.heap.size (fun k_ => ((P0_1_ k_ ∨ P0_4_ k_ ∨ P1_1_ k_ ∨ P1_4_ k_) ∨ w.heap.size ≤ k_) ∧ k_ ≠ gb240 ∧ k_ ≠ gb241) (.slice A1_4 l1_4.length c1_4) l1_4) ∧ Aside0 (wc.heap[gb240]? = some (.cells #[.bool a0_0, (.slice A0_1 l0_1.length c0_1), .int .u64 a0_2, .bool a0_3, (.slice A0_4 l0_4.length c0_4), .int .u64 a0_5, .bool a0_6] 63 (0, 0))) ∧ Aside0 (wc.heap[gb241]? = some (.cells #[.bool a1_0, (.slice A1_1 l1_1.length c1_1), .int .u64 a1_2, .bool a1_3, (.slice A1_4 l1_4.length c1_4), .int .u64 a1_5, .bool a1_6] 63 (0, 0))) ∧ Aside0 (Below w.heap.size w wc))
  case first =>
    have H := HC3.out
    clear HC3
    replace H := Option.bind_eq_some_iff.mp H
    obtain ⟨t242, A60, H⟩ := H
    replace H : (if t242 = true then ((laws_zzFits9.f a1_0 l1_1 a1_2 a1_3 l1_4 a1_5 a1_6).bind fun t243 => (laws_FnRangeOverlap.j0 k (!t243) a0_0 l0_1 a0_2 a0_3 l0_4 a0_5 a0_6 a1_0 l1_1 a1_2 a1_3 l1_4 a1_5 a1_6)) else (laws_FnRangeOverlap.j0 k true a0_0 l0_1 a0_2 a0_3 l0_4 a0_5 a0_6 a1_0 l1_1 a1_2 a1_3 l1_4 a1_5 a1_6)) = some r := H
    have A6 := Aside0.mk A60
    clear A60
    by_cases c7 : t242 = true
    · subst c7
      have H1 : ((laws_zzFits9.f a1_0 l1_1 a1_2 a1_3 l1_4 a1_5 a1_6).bind fun t243 => (laws_FnRangeOverlap.j0 k (!t243) a0_0 l0_1 a0_2 a0_3 l0_4 a0_5 a0_6 a1_0 l1_1 a1_2 a1_3 l1_4 a1_5 a1_6)) = some r := by rw [if_pos rfl] at H; exact H
      clear H
      have H := H1
      clear H1
      replace H := Option.bind_eq_some_iff.mp H
      obtain ⟨t243, A80, H⟩ := H
      replace H : (laws_FnRangeOverlap.j0 k (!t243) a0_0 l0_1 a0_2 a0_3 l0_4 a0_5 a0_6 a1_0 l1_1 a1_2 a1_3 l1_4 a1_5 a1_6) = some r := H
      have A8 := Aside0.mk A80
      clear A80
      have H' := Aside0.mk H
      clear H
      have hnb9 := NB240_241.out
      have hnc9 := NB241_240.out
      have hcz10_0 : w5.cell? ⟨gb240, 0, none⟩ = some (.bool a0_0) := (blk_cell BK240.out 0).trans rfl
      have hcz10_1 : w5.cell? ⟨gb240, 1, none⟩ = some (.slice A0_1 l0_1.length c0_1) := (blk_cell BK240.out 1).trans rfl
      have hcz10_2 : w5.cell? ⟨gb240, 2, none⟩ = some (.int .u64 a0_2) := (blk_cell BK240.out 2).trans rfl
      have hcz10_3 : w5.cell? ⟨gb240, 3, none⟩ = some (.bool a0_3) := (blk_cell BK240.out 3).trans rfl
      have hcz10_4 : w5.cell? ⟨gb240, 4, none⟩ = some (.slice A0_4 l0_4.length c0_4) := (blk_cell BK240.out 4).trans rfl
      have hcz10_5 : w5.cell? ⟨gb240, 5, none⟩ = some (.int .u64 a0_5) := (blk_cell BK240.out 5).trans rfl
      have hcz10_6 : w5.cell? ⟨gb240, 6, none⟩ = some (.bool a0_6) := (blk_cell BK240.out 6).trans rfl
      have hfz10_0 := blk_frozen BK240.out 0
      have hfz10_1 := blk_frozen BK240.out 1
      have hfz10_2 := blk_frozen BK240.out 2
      have hfz10_3 := blk_frozen BK240.out 3
      have hfz10_4 := blk_frozen BK240.out 4
      have hfz10_5 := blk_frozen BK240.out 5
      have hfz10_6 := blk_frozen BK240.out 6
      go_wp2_with (first | ((with_reducible refine gate_callee (f := 52) rfl ?_); refine goesL_ (some 6) rfl rfl Try.func52 (by kernel_rfl) rfl #[.agg #[.bool a0_0, .slice A0_1 l0_1.length c0_1, .int .u64 a0_2, .bool a0_3, .slice A0_4 l0_4.length c0_4, .int .u64 a0_5, .bool a0_6]] rfl (by (try simp only [List.map_toArray, List.map_cons, List.map_nil]); first | done | rfl | (simp only [List.length_drop, List.length_take]; rfl)) ?_; (with_reducible refine (laws_zzFits9.calls a0_0 _ _ l0_1 a0_2 a0_3 _ _ l0_4 a0_5 a0_6 true _ ?side1 ?side2 ?side3 ?side4 A6.out).mono ?_); (case side1 => repeat (first | exact (Kd.V_reads' HO0_1.out).2.2 | (with_reducible refine Kd.C_alloc ?_ _) | (with_reducible refine Kd.C_drewN ?_ _) | (with_reducible refine Kd.C_drew ?_))); (case side2 => exact (Kd.V_reads' HO0_1.out).2.1); (case side3 => repeat (first | exact (Kd.V_reads' HO0_4.out).2.2 | (with_reducible refine Kd.C_alloc ?_ _) | (with_reducible refine Kd.C_drewN ?_ _) | (with_reducible refine Kd.C_drew ?_))); (case side4 => exact (Kd.V_reads' HO0_4.out).2.1); rintro e w11 ⟨rfl, hb⟩; refine ⟨_, rfl, ?_⟩; have n0_ := Aside0.mk (Kd.V_below (by (with_reducible repeat (first | apply Kd.V_alloc | apply Kd.V_drewN | apply Kd.V_drew)); exact HO0_1.out) hb); have n1_ := Aside0.mk (Kd.V_below (by (with_reducible repeat (first | apply Kd.V_alloc | apply Kd.V_drewN | apply Kd.V_drew)); exact HO0_4.out) hb); have n2_ := Aside0.mk (Kd.V_below (by (with_reducible repeat (first | apply Kd.V_alloc | apply Kd.V_drewN | apply Kd.V_drew)); exact HO1_1.out) hb); have n3_ := Aside0.mk (Kd.V_below (by (with_reducible repeat (first | apply Kd.V_alloc | apply Kd.V_drewN | apply Kd.V_drew)); exact HO1_4.out) hb); have n4_ := Aside0.mk (blk_below (g := gb240) (o := .cells #[.bool a0_0, .slice A0_1 l0_1.length c0_1, .int .u64 a0_2, .bool a0_3, .slice A0_4 l0_4.length c0_4, .int .u64 a0_5, .bool a0_6] 63 (0, 0)) (by (with_reducible repeat (first | refine blk_drewN ?_ _ | refine blk_drew ?_ | refine blk_alloc ?_ _)); exact BK240.out) hb); have n5_ := Aside0.mk (blk_below (g := gb241) (o := .cells #[.bool a1_0, .slice A1_1 l1_1.length c1_1, .int .u64 a1_2, .bool a1_3, .slice A1_4 l1_4.length c1_4, .int .u64 a1_5, .bool a1_6] 63 (0, 0)) (by (with_reducible repeat (first | refine blk_drewN ?_ _ | refine blk_drew ?_ | refine blk_alloc ?_ _)); exact BK241.out) hb); have n6_ := Aside0.mk (below_step (by repeat (first | (with_reducible first | exact HB.out | apply below_alloc | apply pw_below_drewN | apply below_drew1 | refine below_set ?_ GE240.out | refine below_set ?_ GE241.out) | exact HB.out)) hb); clear HO0_1; clear HO0_4; clear HO1_1; clear HO1_4; clear BK240; clear BK241; clear HB; have HO0_1 := n0_; have HO0_4 := n1_; have HO1_1 := n2_; have HO1_4 := n3_; have BK240 := n4_; have BK241 := n5_; have HB := n6_; clear n0_ n1_ n2_ n3_ n4_ n5_ n6_; (try clear hb); (try clear hb2); (try clear hk); (try clear hi); have hcz12_0 : w11.cell? ⟨gb241, 0, none⟩ = some (.bool a1_0) := (blk_cell BK241.out 0).trans rfl; have hcz12_1 : w11.cell? ⟨gb241, 1, none⟩ = some (.slice A1_1 l1_1.length c1_1) := (blk_cell BK241.out 1).trans rfl; have hcz12_2 : w11.cell? ⟨gb241, 2, none⟩ = some (.int .u64 a1_2) := (blk_cell BK241.out 2).trans rfl; have hcz12_3 : w11.cell? ⟨gb241, 3, none⟩ = some (.bool a1_3) := (blk_cell BK241.out 3).trans rfl; have hcz12_4 : w11.cell? ⟨gb241, 4, none⟩ = some (.slice A1_4 l1_4.length c1_4) := (blk_cell BK241.out 4).trans rfl; have hcz12_5 : w11.cell? ⟨gb241, 5, none⟩ = some (.int .u64 a1_5) := (blk_cell BK241.out 5).trans rfl; have hcz12_6 : w11.cell? ⟨gb241, 6, none⟩ = some (.bool a1_6) := (blk_cell BK241.out 6).trans rfl; have hfz12_0 := blk_frozen BK241.out 0; have hfz12_1 := blk_frozen BK241.out 1; have hfz12_2 := blk_frozen BK241.out 2; have hfz12_3 := blk_frozen BK241.out 3; have hfz12_4 := blk_frozen BK241.out 4; have hfz12_5 := blk_frozen BK241.out 5; have hfz12_6 := blk_frozen BK241.out 6) | (go_at_call 52; (with_reducible refine (laws_zzFits9.calls a1_0 _ _ l1_1 a1_2 a1_3 _ _ l1_4 a1_5 a1_6 t243 _ ?side1 ?side2 ?side3 ?side4 A8.out).mono ?_); (case side1 => repeat (first | exact (Kd.V_reads' HO1_1.out).2.2 | (with_reducible refine Kd.C_alloc ?_ _) | (with_reducible refine Kd.C_drewN ?_ _) | (with_reducible refine Kd.C_drew ?_))); (case side2 => exact (Kd.V_reads' HO1_1.out).2.1); (case side3 => repeat (first | exact (Kd.V_reads' HO1_4.out).2.2 | (with_reducible refine Kd.C_alloc ?_ _) | (with_reducible refine Kd.C_drewN ?_ _) | (with_reducible refine Kd.C_drew ?_))); (case side4 => exact (Kd.V_reads' HO1_4.out).2.1); rintro e w13 ⟨rfl, hb⟩; have n0_ := Aside0.mk (Kd.V_below (by (with_reducible repeat (first | apply Kd.V_alloc | apply Kd.V_drewN | apply Kd.V_drew)); exact HO0_1.out) hb); have n1_ := Aside0.mk (Kd.V_below (by (with_reducible repeat (first | apply Kd.V_alloc | apply Kd.V_drewN | apply Kd.V_drew)); exact HO0_4.out) hb); have n2_ := Aside0.mk (Kd.V_below (by (with_reducible repeat (first | apply Kd.V_alloc | apply Kd.V_drewN | apply Kd.V_drew)); exact HO1_1.out) hb); have n3_ := Aside0.mk (Kd.V_below (by (with_reducible repeat (first | apply Kd.V_alloc | apply Kd.V_drewN | apply Kd.V_drew)); exact HO1_4.out) hb); have n4_ := Aside0.mk (blk_below (g := gb240) (o := .cells #[.bool a0_0, .slice A0_1 l0_1.length c0_1, .int .u64 a0_2, .bool a0_3, .slice A0_4 l0_4.length c0_4, .int .u64 a0_5, .bool a0_6] 63 (0, 0)) (by (with_reducible repeat (first | refine blk_drewN ?_ _ | refine blk_drew ?_ | refine blk_alloc ?_ _)); exact BK240.out) hb); have n5_ := Aside0.mk (blk_below (g := gb241) (o := .cells #[.bool a1_0, .slice A1_1 l1_1.length c1_1, .int .u64 a1_2, .bool a1_3, .slice A1_4 l1_4.length c1_4, .int .u64 a1_5, .bool a1_6] 63 (0, 0)) (by (with_reducible repeat (first | refine blk_drewN ?_ _ | refine blk_drew ?_ | refine blk_alloc ?_ _)); exact BK241.out) hb); have n6_ := Aside0.mk (below_step (by repeat (first | (with_reducible first | exact HB.out | apply below_alloc | apply pw_below_drewN | apply below_drew1 | refine below_set ?_ GE240.out | refine below_set ?_ GE241.out) | exact HB.out)) hb); clear HO0_1; clear HO0_4; clear HO1_1; clear HO1_4; clear BK240; clear BK241; clear HB; have HO0_1 := n0_; have HO0_4 := n1_; have HO1_1 := n2_; have HO1_4 := n3_; have BK240 := n4_; have BK241 := n5_; have HB := n6_; clear n0_ n1_ n2_ n3_ n4_ n5_ n6_; (try clear hb); (try clear hb2); (try clear hk); (try clear hi)))
      go_meet
      case rel => exact ⟨_, (!t243), (by first | rfl | (simp; done) | (simp [*]; done)), H', ⟨by first | omega | exact Nat.le_refl _⟩, ⟨by (with_reducible repeat (first | apply Kd.V_alloc | apply Kd.V_drewN | apply Kd.V_drew)); exact Kd.V_mono HO0_1.out (fun _ hk => ⟨hk.1.1, ⟨hk.1.2, hk.2⟩⟩)⟩, ⟨by (with_reducible repeat (first | apply Kd.V_alloc | apply Kd.V_drewN | apply Kd.V_drew)); exact Kd.V_mono HO0_4.out (fun _ hk => ⟨hk.1.1, ⟨hk.1.2, hk.2⟩⟩)⟩, ⟨by (with_reducible repeat (first | apply Kd.V_alloc | apply Kd.V_drewN | apply Kd.V_drew)); exact Kd.V_mono HO1_1.out (fun _ hk => ⟨hk.1.1, ⟨hk.1.2, hk.2⟩⟩)⟩, ⟨by (with_reducible repeat (first | apply Kd.V_alloc | apply Kd.V_drewN | apply Kd.V_drew)); exact Kd.V_mono HO1_4.out (fun _ hk => ⟨hk.1.1, ⟨hk.1.2, hk.2⟩⟩)⟩, ⟨by (with_reducible repeat (first | refine blk_drewN ?_ _ | refine blk_drew ?_ | refine blk_alloc ?_ _)); exact BK240.out⟩, ⟨by (with_reducible repeat (first | refine blk_drewN ?_ _ | refine blk_drew ?_ | refine blk_alloc ?_ _)); exact BK241.out⟩, ⟨by repeat (first | (with_reducible first | exact HB.out | apply below_alloc | apply pw_below_drewN | apply below_drew1 | refine below_set ?_ GE240.out | refine below_set ?_ GE241.out) | exact HB.out)⟩⟩
    · replace c7 := Bool.eq_false_iff.mpr c7
      subst c7
      have H1 : (laws_FnRangeOverlap.j0 k true a0_0 l0_1 a0_2 a0_3 l0_4 a0_5 a0_6 a1_0 l1_1 a1_2 a1_3 l1_4 a1_5 a1_6) = some r := by rw [if_neg (show ¬ (false = true) by decide)] at H; exact H
      clear H
      have H := H1
      clear H1
      have H' := Aside0.mk H
      clear H
      have hnb14 := NB240_241.out
      have hnc14 := NB241_240.out
      have hcz15_0 : w5.cell? ⟨gb240, 0, none⟩ = some (.bool a0_0) := (blk_cell BK240.out 0).trans rfl
      have hcz15_1 : w5.cell? ⟨gb240, 1, none⟩ = some (.slice A0_1 l0_1.length c0_1) := (blk_cell BK240.out 1).trans rfl
      have hcz15_2 : w5.cell? ⟨gb240, 2, none⟩ = some (.int .u64 a0_2) := (blk_cell BK240.out 2).trans rfl
      have hcz15_3 : w5.cell? ⟨gb240, 3, none⟩ = some (.bool a0_3) := (blk_cell BK240.out 3).trans rfl
      have hcz15_4 : w5.cell? ⟨gb240, 4, none⟩ = some (.slice A0_4 l0_4.length c0_4) := (blk_cell BK240.out 4).trans rfl
      have hcz15_5 : w5.cell? ⟨gb240, 5, none⟩ = some (.int .u64 a0_5) := (blk_cell BK240.out 5).trans rfl
      have hcz15_6 : w5.cell? ⟨gb240, 6, none⟩ = some (.bool a0_6) := (blk_cell BK240.out 6).trans rfl
      have hfz15_0 := blk_frozen BK240.out 0
      have hfz15_1 := blk_frozen BK240.out 1
      have hfz15_2 := blk_frozen BK240.out 2
      have hfz15_3 := blk_frozen BK240.out 3
      have hfz15_4 := blk_frozen BK240.out 4
      have hfz15_5 := blk_frozen BK240.out 5
      have hfz15_6 := blk_frozen BK240.out 6
      go_wp2_with (first | ((with_reducible refine gate_callee (f := 52) rfl ?_); refine goesL_ (some 6) rfl rfl Try.func52 (by kernel_rfl) rfl #[.agg #[.bool a0_0, .slice A0_1 l0_1.length c0_1, .int .u64 a0_2, .bool a0_3, .slice A0_4 l0_4.length c0_4, .int .u64 a0_5, .bool a0_6]] rfl (by (try simp only [List.map_toArray, List.map_cons, List.map_nil]); first | done | rfl | (simp only [List.length_drop, List.length_take]; rfl)) ?_; (with_reducible refine (laws_zzFits9.calls a0_0 _ _ l0_1 a0_2 a0_3 _ _ l0_4 a0_5 a0_6 false _ ?side1 ?side2 ?side3 ?side4 A6.out).mono ?_); (case side1 => repeat (first | exact (Kd.V_reads' HO0_1.out).2.2 | (with_reducible refine Kd.C_alloc ?_ _) | (with_reducible refine Kd.C_drewN ?_ _) | (with_reducible refine Kd.C_drew ?_))); (case side2 => exact (Kd.V_reads' HO0_1.out).2.1); (case side3 => repeat (first | exact (Kd.V_reads' HO0_4.out).2.2 | (with_reducible refine Kd.C_alloc ?_ _) | (with_reducible refine Kd.C_drewN ?_ _) | (with_reducible refine Kd.C_drew ?_))); (case side4 => exact (Kd.V_reads' HO0_4.out).2.1); rintro e w16 ⟨rfl, hb⟩; refine ⟨_, rfl, ?_⟩; have n0_ := Aside0.mk (Kd.V_below (by (with_reducible repeat (first | apply Kd.V_alloc | apply Kd.V_drewN | apply Kd.V_drew)); exact HO0_1.out) hb); have n1_ := Aside0.mk (Kd.V_below (by (with_reducible repeat (first | apply Kd.V_alloc | apply Kd.V_drewN | apply Kd.V_drew)); exact HO0_4.out) hb); have n2_ := Aside0.mk (Kd.V_below (by (with_reducible repeat (first | apply Kd.V_alloc | apply Kd.V_drewN | apply Kd.V_drew)); exact HO1_1.out) hb); have n3_ := Aside0.mk (Kd.V_below (by (with_reducible repeat (first | apply Kd.V_alloc | apply Kd.V_drewN | apply Kd.V_drew)); exact HO1_4.out) hb); have n4_ := Aside0.mk (blk_below (g := gb240) (o := .cells #[.bool a0_0, .slice A0_1 l0_1.length c0_1, .int .u64 a0_2, .bool a0_3, .slice A0_4 l0_4.length c0_4, .int .u64 a0_5, .bool a0_6] 63 (0, 0)) (by (with_reducible repeat (first | refine blk_drewN ?_ _ | refine blk_drew ?_ | refine blk_alloc ?_ _)); exact BK240.out) hb); have n5_ := Aside0.mk (blk_below (g := gb241) (o := .cells #[.bool a1_0, .slice A1_1 l1_1.length c1_1, .int .u64 a1_2, .bool a1_3, .slice A1_4 l1_4.length c1_4, .int .u64 a1_5, .bool a1_6] 63 (0, 0)) (by (with_reducible repeat (first | refine blk_drewN ?_ _ | refine blk_drew ?_ | refine blk_alloc ?_ _)); exact BK241.out) hb); have n6_ := Aside0.mk (below_step (by repeat (first | (with_reducible first | exact HB.out | apply below_alloc | apply pw_below_drewN | apply below_drew1 | refine below_set ?_ GE240.out | refine below_set ?_ GE241.out) | exact HB.out)) hb); clear HO0_1; clear HO0_4; clear HO1_1; clear HO1_4; clear BK240; clear BK241; clear HB; have HO0_1 := n0_; have HO0_4 := n1_; have HO1_1 := n2_; have HO1_4 := n3_; have BK240 := n4_; have BK241 := n5_; have HB := n6_; clear n0_ n1_ n2_ n3_ n4_ n5_ n6_; (try clear hb); (try clear hb2); (try clear hk); (try clear hi)))
      go_meet
      case rel => exact ⟨_, (true), (by first | rfl | (simp; done) | (simp [*]; done)), H', ⟨by first | omega | exact Nat.le_refl _⟩, ⟨by (with_reducible repeat (first | apply Kd.V_alloc | apply Kd.V_drewN | apply Kd.V_drew)); exact Kd.V_mono HO0_1.out (fun _ hk => ⟨hk.1.1, ⟨hk.1.2, hk.2⟩⟩)⟩, ⟨by (with_reducible repeat (first | apply Kd.V_alloc | apply Kd.V_drewN | apply Kd.V_drew)); exact Kd.V_mono HO0_4.out (fun _ hk => ⟨hk.1.1, ⟨hk.1.2, hk.2⟩⟩)⟩, ⟨by (with_reducible repeat (first | apply Kd.V_alloc | apply Kd.V_drewN | apply Kd.V_drew)); exact Kd.V_mono HO1_1.out (fun _ hk => ⟨hk.1.1, ⟨hk.1.2, hk.2⟩⟩)⟩, ⟨by (with_reducible repeat (first | apply Kd.V_alloc | apply Kd.V_drewN | apply Kd.V_drew)); exact Kd.V_mono HO1_4.out (fun _ hk => ⟨hk.1.1, ⟨hk.1.2, hk.2⟩⟩)⟩, ⟨by (with_reducible repeat (first | refine blk_drewN ?_ _ | refine blk_drew ?_ | refine blk_alloc ?_ _)); exact BK240.out⟩, ⟨by (with_reducible repeat (first | refine blk_drewN ?_ _ | refine blk_drew ?_ | refine blk_alloc ?_ _)); exact BK241.out⟩, ⟨by repeat (first | (with_reducible first | exact HB.out | apply below_alloc | apply pw_below_drewN | apply below_drew1 | refine below_set ?_ GE240.out | refine below_set ?_ GE241.out) | exact HB.out)⟩⟩
  case rest =>
    clear HC3
    try clear c1
    try clear c2
    try clear p2
    try clear c5
    try clear c7
    try clear c9
    try clear c14
    try clear hcz10_0
    try clear hcz10_1
    try clear hcz10_2
    try clear hcz10_3
    try clear hcz10_4
    try clear hcz10_5
    try clear hcz10_6
    try clear hcz12_0
    try clear hcz12_1
    try clear hcz12_2
    try clear hcz12_3
    try clear hcz12_4
    try clear hcz12_5
    try clear hcz12_6
    try clear hcz15_0
    try clear hcz15_1
    try clear hcz15_2
    try clear hcz15_3
    try clear hcz15_4
    try clear hcz15_5
    try clear hcz15_6
    try clear hfz10_0
    try clear hfz10_1
    try clear hfz10_2
    try clear hfz10_3
    try clear hfz10_4
    try clear hfz10_5
    try clear hfz10_6
    try clear hfz12_0
    try clear hfz12_1
    try clear hfz12_2
    try clear hfz12_3
    try clear hfz12_4
    try clear hfz12_5
    try clear hfz12_6
    try clear hfz15_0
    try clear hfz15_1
    try clear hfz15_2
    try clear hfz15_3
    try clear hfz15_4
    try clear hfz15_5
    try clear hfz15_6
    obtain ⟨kq, x12_2, rfl, HA, HJ2, HO_241001, HO_241004, HO_242001, HO_242004, BK240, BK241, HB⟩ := hcut
    cases kq with
    | zero => exact absurd HA.out (by simp [laws_FnRangeOverlap.j0])
    | succ kj2 =>
      have H := HA.out
      clear HA
      simp only [laws_FnRangeOverlap.j0] at H
      by_cases c17 : x12_2 = true
      · subst c17
        have H1 : (some true) = some r := by rw [if_pos rfl] at H; exact H
        clear H
        have H := H1
        clear H1
        obtain rfl := Option.some.inj H
        go_wp2
        go_ret
        exact ⟨by first | rfl | (simp [errW_none, errW_some] <;> rfl) | (simp [*, errW_none, errW_some] <;> rfl), by repeat (first | (with_reducible first | exact HB.out | apply below_alloc | apply pw_below_drewN | apply below_drew1 | refine below_set ?_ GE240.out | refine below_set ?_ GE241.out) | exact HB.out)⟩
      · replace c17 := Bool.eq_false_iff.mpr c17
        subst c17
        have H1 : ((laws_rangesOk.f kj2 (([(⟨(⟨a0_0, l0_1, a0_2⟩ : S61), (⟨a0_3, l0_4, a0_5⟩ : S61), a0_6⟩ : S63), (⟨(⟨a1_0, l1_1, a1_2⟩ : S61), (⟨a1_3, l1_4, a1_5⟩ : S61), a1_6⟩ : S63)] : List (S63)))).bind fun t247 => (if t247 = true then ((impl_Overlap.f kj2 a0_0 l0_1 a0_2 a0_3 l0_4 a0_5 a0_6 a1_0 l1_1 a1_2 a1_3 l1_4 a1_5 a1_6).bind fun t248 => ((spec_Meet.f a0_0 l0_1 a0_2 a0_3 l0_4 a0_5 a0_6 a1_0 l1_1 a1_2 a1_3 l1_4 a1_5 a1_6).bind fun t249 => (if (t248 == t249) = true then ((impl_Overlap.f kj2 a1_0 l1_1 a1_2 a1_3 l1_4 a1_5 a1_6 a0_0 l0_1 a0_2 a0_3 l0_4 a0_5 a0_6).bind fun t250 => ((spec_Meet.f a0_0 l0_1 a0_2 a0_3 l0_4 a0_5 a0_6 a1_0 l1_1 a1_2 a1_3 l1_4 a1_5 a1_6).bind fun t251 => (some (t250 == t251)))) else (some false)))) else (some true))) = some r := by rw [if_neg (show ¬ (false = true) by decide)] at H; exact H
        clear H
        have H := H1
        clear H1
        obtain ⟨y244, hy244⟩ : ∃ y_ : List (S63), y_ = (([(⟨(⟨a0_0, l0_1, a0_2⟩ : S61), (⟨a0_3, l0_4, a0_5⟩ : S61), a0_6⟩ : S63), (⟨(⟨a1_0, l1_1, a1_2⟩ : S61), (⟨a1_3, l1_4, a1_5⟩ : S61), a1_6⟩ : S63)] : List (S63))) := ⟨_, rfl⟩
        replace H : ((laws_rangesOk.f kj2 y244).bind fun t247 => (if t247 = true then ((impl_Overlap.f kj2 a0_0 l0_1 a0_2 a0_3 l0_4 a0_5 a0_6 a1_0 l1_1 a1_2 a1_3 l1_4 a1_5 a1_6).bind fun t248 => ((spec_Meet.f a0_0 l0_1 a0_2 a0_3 l0_4 a0_5 a0_6 a1_0 l1_1 a1_2 a1_3 l1_4 a1_5 a1_6).bind fun t249 => (if (t248 == t249) = true then ((impl_Overlap.f kj2 a1_0 l1_1 a1_2 a1_3 l1_4 a1_5 a1_6 a0_0 l0_1 a0_2 a0_3 l0_4 a0_5 a0_6).bind fun t250 => ((spec_Meet.f a0_0 l0_1 a0_2 a0_3 l0_4 a0_5 a0_6 a1_0 l1_1 a1_2 a1_3 l1_4 a1_5 a1_6).bind fun t251 => (some (t250 == t251)))) else (some false)))) else (some true))) = some r := by first | (rw [hy244]; with_reducible exact H) | (have H2_ := (Option.bind_some _ _).symm.trans H; rw [hy244]; with_reducible exact H2_) | (have H2_ := (Option.bind_some _ _).symm.trans H; with_reducible exact H2_) | with_reducible exact H | (rw [hy244]; exact H) | exact H
        have Ny244 := Aside0.mk hy244
        clear hy244
        replace H := Option.bind_eq_some_iff.mp H
        obtain ⟨t247, A180, H⟩ := H
        replace H : (if t247 = true then ((impl_Overlap.f kj2 a0_0 l0_1 a0_2 a0_3 l0_4 a0_5 a0_6 a1_0 l1_1 a1_2 a1_3 l1_4 a1_5 a1_6).bind fun t248 => ((spec_Meet.f a0_0 l0_1 a0_2 a0_3 l0_4 a0_5 a0_6 a1_0 l1_1 a1_2 a1_3 l1_4 a1_5 a1_6).bind fun t249 => (if (t248 == t249) = true then ((impl_Overlap.f kj2 a1_0 l1_1 a1_2 a1_3 l1_4 a1_5 a1_6 a0_0 l0_1 a0_2 a0_3 l0_4 a0_5 a0_6).bind fun t250 => ((spec_Meet.f a0_0 l0_1 a0_2 a0_3 l0_4 a0_5 a0_6 a1_0 l1_1 a1_2 a1_3 l1_4 a1_5 a1_6).bind fun t251 => (some (t250 == t251)))) else (some false)))) else (some true)) = some r := H
        have A18 := Aside0.mk A180
        clear A180
        by_cases c19 : t247 = true
        · subst c19
          have H1 : ((impl_Overlap.f kj2 a0_0 l0_1 a0_2 a0_3 l0_4 a0_5 a0_6 a1_0 l1_1 a1_2 a1_3 l1_4 a1_5 a1_6).bind fun t248 => ((spec_Meet.f a0_0 l0_1 a0_2 a0_3 l0_4 a0_5 a0_6 a1_0 l1_1 a1_2 a1_3 l1_4 a1_5 a1_6).bind fun t249 => (if (t248 == t249) = true then ((impl_Overlap.f kj2 a1_0 l1_1 a1_2 a1_3 l1_4 a1_5 a1_6 a0_0 l0_1 a0_2 a0_3 l0_4 a0_5 a0_6).bind fun t250 => ((spec_Meet.f a0_0 l0_1 a0_2 a0_3 l0_4 a0_5 a0_6 a1_0 l1_1 a1_2 a1_3 l1_4 a1_5 a1_6).bind fun t251 => (some (t250 == t251)))) else (some false)))) = some r := by rw [if_pos rfl] at H; exact H
          clear H
          have H := H1
          clear H1
          replace H := Option.bind_eq_some_iff.mp H
          obtain ⟨t248, A200, H⟩ := H
          replace H : ((spec_Meet.f a0_0 l0_1 a0_2 a0_3 l0_4 a0_5 a0_6 a1_0 l1_1 a1_2 a1_3 l1_4 a1_5 a1_6).bind fun t249 => (if (t248 == t249) = true then ((impl_Overlap.f kj2 a1_0 l1_1 a1_2 a1_3 l1_4 a1_5 a1_6 a0_0 l0_1 a0_2 a0_3 l0_4 a0_5 a0_6).bind fun t250 => ((spec_Meet.f a0_0 l0_1 a0_2 a0_3 l0_4 a0_5 a0_6 a1_0 l1_1 a1_2 a1_3 l1_4 a1_5 a1_6).bind fun t251 => (some (t250 == t251)))) else (some false))) = some r := H
          have A20 := Aside0.mk A200
          clear A200
          replace H := Option.bind_eq_some_iff.mp H
          obtain ⟨t249, A210, H⟩ := H
          replace H : (if (t248 == t249) = true then ((impl_Overlap.f kj2 a1_0 l1_1 a1_2 a1_3 l1_4 a1_5 a1_6 a0_0 l0_1 a0_2 a0_3 l0_4 a0_5 a0_6).bind fun t250 => ((spec_Meet.f a0_0 l0_1 a0_2 a0_3 l0_4 a0_5 a0_6 a1_0 l1_1 a1_2 a1_3 l1_4 a1_5 a1_6).bind fun t251 => (some (t250 == t251)))) else (some false)) = some r := H
          have A21 := Aside0.mk A210
          clear A210
          by_cases c22 : (t248 == t249) = true
          · rw [if_pos c22] at H
            have c22b0 : (t248 == t249) = true := c22
            (try (have c22b1 : decide (t248 = t249) = true := by simpa using c22))
            (try (have c22b2 : (t248 == t249) = true := by simpa using c22))
            clear c22
            replace H := Option.bind_eq_some_iff.mp H
            obtain ⟨t250, A230, H⟩ := H
            replace H : ((spec_Meet.f a0_0 l0_1 a0_2 a0_3 l0_4 a0_5 a0_6 a1_0 l1_1 a1_2 a1_3 l1_4 a1_5 a1_6).bind fun t251 => (some (t250 == t251))) = some r := H
            have A23 := Aside0.mk A230
            clear A230
            replace H := Option.bind_eq_some_iff.mp H
            obtain ⟨t251, A240, H⟩ := H
            replace H : (some (t250 == t251)) = some r := H
            have A24 := Aside0.mk A240
            clear A240
            obtain rfl := Option.some.inj H
            try go_wp2
            have n0_ := Aside0.mk (Kd.V_drew HO_241001.out)
            have n1_ := Aside0.mk (Kd.V_drew HO_241004.out)
            have n2_ := Aside0.mk (Kd.V_drew HO_242001.out)
            have n3_ := Aside0.mk (Kd.V_drew HO_242004.out)
            have n4_ := Aside0.mk (blk_drew BK240.out)
            have n5_ := Aside0.mk (blk_drew BK241.out)
            have n6_ := Aside0.mk (below_drew1 HB.out)
            clear HO_241001
            clear HO_241004
            clear HO_242001
            clear HO_242004
            clear BK240
            clear BK241
            clear HB
            have HO_241001 := n0_
            have HO_241004 := n1_
            have HO_242001 := n2_
            have HO_242004 := n3_
            have BK240 := n4_
            have BK241 := n5_
            have HB := n6_
            clear n0_ n1_ n2_ n3_ n4_ n5_ n6_
            refine start_ (n := 24) (S := fun w' => w'.cell? ⟨gb240, 0, none⟩ = some (.bool a0_0) ∧ w'.cell? ⟨gb240, 1, none⟩ = some (.slice A0_1 l0_1.length c0_1) ∧ w'.cell? ⟨gb240, 2, none⟩ = some (.int .u64 a0_2) ∧ w'.cell? ⟨gb240, 3, none⟩ = some (.bool a0_3) ∧ w'.cell? ⟨gb240, 4, none⟩ = some (.slice A0_4 l0_4.length c0_4) ∧ w'.cell? ⟨gb240, 5, none⟩ = some (.int .u64 a0_5) ∧ w'.cell? ⟨gb240, 6, none⟩ = some (.bool a0_6) ∧ w'.cell? ⟨gb241, 0, none⟩ = some (.bool a1_0) ∧ w'.cell? ⟨gb241, 1, none⟩ = some (.slice A1_1 l1_1.length c1_1) ∧ w'.cell? ⟨gb241, 2, none⟩ = some (.int .u64 a1_2) ∧ w'.cell? ⟨gb241, 3, none⟩ = some (.bool a1_3) ∧ w'.cell? ⟨gb241, 4, none⟩ = some (.slice A1_4 l1_4.length c1_4) ∧ w'.cell? ⟨gb241, 5, none⟩ = some (.int .u64 a1_5) ∧ w'.cell? ⟨gb241, 6, none⟩ = some (.bool a1_6)) (ds := []) #[false, false, false, false, false, false, false, false, false, false, false, false, false, false, false, false, false, false, false, false, false, false, false, false] (by kernel_rfl) rfl rfl ⟨(blk_cell BK240.out 0).trans rfl, (blk_cell BK240.out 1).trans rfl, (blk_cell BK240.out 2).trans rfl, (blk_cell BK240.out 3).trans rfl, (blk_cell BK240.out 4).trans rfl, (blk_cell BK240.out 5).trans rfl, (blk_cell BK240.out 6).trans rfl, (blk_cell BK241.out 0).trans rfl, (blk_cell BK241.out 1).trans rfl, (blk_cell BK241.out 2).trans rfl, (blk_cell BK241.out 3).trans rfl, (blk_cell BK241.out 4).trans rfl, (blk_cell BK241.out 5).trans rfl, (blk_cell BK241.out 6).trans rfl⟩ (fun hHeld => ?_); refine with_tabW laws_FnRangeOverlap.tab3 laws_FnRangeOverlap.bits3 (fun HT_ HW_ => ?_)
            generalize wc.drew = w25 at HO_241001 HO_241004 HO_242001 HO_242004 BK240 BK241 HB hHeld ⊢
            refine take_ (i := 0) (N := some 13) (v := ?_) (a' := ?_) #[true, false, false, false, false, false, false, false, false, false, false, false, false, false, false, false, false, false, false, false, false, false, false, false] rfl rfl (take_ofW HT_.out HW_.out (by kernel_rfl)) (fun _ _ _ h => h) (Or.inl ⟨by rfl, ?_⟩) hHeld ?_ ?_
            rotate_left
            · rintro w' ⟨s0, s1, s2, s3, s4, s5, s6, s7, s8, s9, s10, s11, s12, s13⟩
              go_simp
              with_reducible rfl
            rotate_left
            · simp only [Act.put, List.setIfInBounds_toArray, List.set_cons_zero, List.set_cons_succ, i64_w, i32_w]
              rfl
            refine take_ (i := 1) (N := some 14) (v := ?_) (a' := ?_) #[true, true, false, false, false, false, false, false, false, false, false, false, false, false, false, false, false, false, false, false, false, false, false, false] rfl rfl (take_ofW HT_.out HW_.out (by kernel_rfl)) (fun _ _ _ h => h) (Or.inl ⟨by rfl, ?_⟩) hHeld ?_ ?_
            rotate_left
            · rintro w' ⟨s0, s1, s2, s3, s4, s5, s6, s7, s8, s9, s10, s11, s12, s13⟩
              go_simp
              with_reducible rfl
            rotate_left
            · simp only [Act.put, List.setIfInBounds_toArray, List.set_cons_zero, List.set_cons_succ, i64_w, i32_w]
              rfl
            refine one_ (i := 2) (N := some 15) #[true, true, true, false, false, false, false, false, false, false, false, false, false, false, false, false, false, false, false, false, false, false, false, false] rfl rfl (one_of HT_.out (by kernel_rfl)) (by decide) (fun K hK => ?_)
            refine Kd.N_lit_step k63 _ 63 ?hg (N' := 15) ?hd (xs := ([(⟨(⟨a0_0, l0_1, a0_2⟩ : S61), (⟨a0_3, l0_4, a0_5⟩ : S61), a0_6⟩ : S63), (⟨(⟨a1_0, l1_1, a1_2⟩ : S61), (⟨a1_3, l1_4, a1_5⟩ : S61), a1_6⟩ : S63)] : List (S63))) (inner := [.bool a0_0, .slice A0_1 l0_1.length c0_1, .int .u64 a0_2, .bool a0_3, .slice A0_4 l0_4.length c0_4, .int .u64 a0_5, .bool a0_6, .bool a1_0, .slice A1_1 l1_1.length c1_1, .int .u64 a1_2, .bool a1_3, .slice A1_4 l1_4.length c1_4, .int .u64 a1_5, .bool a1_6]) (ok := (fun k_ => ((P0_1_ k_ ∨ P0_4_ k_ ∨ P1_1_ k_ ∨ P1_4_ k_) ∨ w.heap.size ≤ k_) ∧ k_ ≠ gb240 ∧ k_ ≠ gb241)) (okp := (fun k_ => ((P0_1_ k_ ∨ P0_4_ k_ ∨ P1_1_ k_ ∨ P1_4_ k_) ∨ w.heap.size ≤ k_) ∧ k_ ≠ gb240 ∧ k_ ≠ gb241)) ?hr ?hp (fun _ hk => hk) ((show ∀ k_, w25.heap.size ≤ k_ → (fun k_ => ((P0_1_ k_ ∨ P0_4_ k_ ∨ P1_1_ k_ ∨ P1_4_ k_) ∨ w.heap.size ≤ k_) ∧ k_ ≠ gb240 ∧ k_ ≠ gb241) k_ from fun k_ hk => ⟨(.inr (Nat.le_trans (below_size (by repeat (first | (with_reducible first | exact HB.out | apply below_alloc | apply pw_below_drewN | apply below_drew1 | refine below_set ?_ GE240.out | refine below_set ?_ GE241.out) | exact HB.out))) hk)), Kd.freshB (g := gb240) (o := .cells #[.bool a0_0, .slice A0_1 l0_1.length c0_1, .int .u64 a0_2, .bool a0_3, .slice A0_4 l0_4.length c0_4, .int .u64 a0_5, .bool a0_6] 63 (0, 0)) (by (with_reducible repeat (first | refine blk_drewN ?_ _ | refine blk_drew ?_ | refine blk_alloc ?_ _)); exact BK240.out) k_ hk, Kd.freshB (g := gb241) (o := .cells #[.bool a1_0, .slice A1_1 l1_1.length c1_1, .int .u64 a1_2, .bool a1_3, .slice A1_4 l1_4.length c1_4, .int .u64 a1_5, .bool a1_6] 63 (0, 0)) (by (with_reducible repeat (first | refine blk_drewN ?_ _ | refine blk_drew ?_ | refine blk_alloc ?_ _)); exact BK241.out) k_ hk⟩) _ (Nat.le_refl _)) (Below.refl _ _) (Nat.le_refl _) (by simp) ?_; (case hd => rfl); (case hg => rfl); (case hr => first | (go_simp; done) | (go_simp; rfl)); (case hp => exact (Reps.c7 (show Kd.FK k63 _ _ (⟨(⟨a0_0, l0_1, a0_2⟩ : S61), (⟨a0_3, l0_4, a0_5⟩ : S61), a0_6⟩ : S63) [.bool a0_0, .slice A0_1 l0_1.length c0_1, .int .u64 a0_2, .bool a0_3, .slice A0_4 l0_4.length c0_4, .int .u64 a0_5, .bool a0_6] from (k63_mkF _ _ (⟨(⟨a0_0, l0_1, a0_2⟩ : S61), (⟨a0_3, l0_4, a0_5⟩ : S61), a0_6⟩ : S63) (Kd.V_reads' (Kd.V_mono (ok' := (fun k_ => ((P0_1_ k_ ∨ P0_4_ k_ ∨ P1_1_ k_ ∨ P1_4_ k_) ∨ w.heap.size ≤ k_) ∧ k_ ≠ gb240 ∧ k_ ≠ gb241)) (HO_241001.out) (fun k_ hk => ⟨hk.1, ⟨hk.2.1, hk.2.2⟩⟩))).2.1 (Kd.V_F (Kd.V_mono (ok' := (fun k_ => ((P0_1_ k_ ∨ P0_4_ k_ ∨ P1_1_ k_ ∨ P1_4_ k_) ∨ w.heap.size ≤ k_) ∧ k_ ≠ gb240 ∧ k_ ≠ gb241)) (HO_241001.out) (fun k_ hk => ⟨hk.1, ⟨hk.2.1, hk.2.2⟩⟩))) (Kd.V_reads' (Kd.V_mono (ok' := (fun k_ => ((P0_1_ k_ ∨ P0_4_ k_ ∨ P1_1_ k_ ∨ P1_4_ k_) ∨ w.heap.size ≤ k_) ∧ k_ ≠ gb240 ∧ k_ ≠ gb241)) (HO_241004.out) (fun k_ hk => ⟨hk.1, ⟨hk.2.1, hk.2.2⟩⟩))).2.1 (Kd.V_F (Kd.V_mono (ok' := (fun k_ => ((P0_1_ k_ ∨ P0_4_ k_ ∨ P1_1_ k_ ∨ P1_4_ k_) ∨ w.heap.size ≤ k_) ∧ k_ ≠ gb240 ∧ k_ ≠ gb241)) (HO_241004.out) (fun k_ hk => ⟨hk.1, ⟨hk.2.1, hk.2.2⟩⟩))))) (Reps.c7 (show Kd.FK k63 _ _ (⟨(⟨a1_0, l1_1, a1_2⟩ : S61), (⟨a1_3, l1_4, a1_5⟩ : S61), a1_6⟩ : S63) [.bool a1_0, .slice A1_1 l1_1.length c1_1, .int .u64 a1_2, .bool a1_3, .slice A1_4 l1_4.length c1_4, .int .u64 a1_5, .bool a1_6] from (k63_mkF _ _ (⟨(⟨a1_0, l1_1, a1_2⟩ : S61), (⟨a1_3, l1_4, a1_5⟩ : S61), a1_6⟩ : S63) (Kd.V_reads' (Kd.V_mono (ok' := (fun k_ => ((P0_1_ k_ ∨ P0_4_ k_ ∨ P1_1_ k_ ∨ P1_4_ k_) ∨ w.heap.size ≤ k_) ∧ k_ ≠ gb240 ∧ k_ ≠ gb241)) (HO_242001.out) (fun k_ hk => ⟨hk.1, ⟨hk.2.1, hk.2.2⟩⟩))).2.1 (Kd.V_F (Kd.V_mono (ok' := (fun k_ => ((P0_1_ k_ ∨ P0_4_ k_ ∨ P1_1_ k_ ∨ P1_4_ k_) ∨ w.heap.size ≤ k_) ∧ k_ ≠ gb240 ∧ k_ ≠ gb241)) (HO_242001.out) (fun k_ hk => ⟨hk.1, ⟨hk.2.1, hk.2.2⟩⟩))) (Kd.V_reads' (Kd.V_mono (ok' := (fun k_ => ((P0_1_ k_ ∨ P0_4_ k_ ∨ P1_1_ k_ ∨ P1_4_ k_) ∨ w.heap.size ≤ k_) ∧ k_ ≠ gb240 ∧ k_ ≠ gb241)) (HO_242004.out) (fun k_ hk => ⟨hk.1, ⟨hk.2.1, hk.2.2⟩⟩))).2.1 (Kd.V_F (Kd.V_mono (ok' := (fun k_ => ((P0_1_ k_ ∨ P0_4_ k_ ∨ P1_1_ k_ ∨ P1_4_ k_) ∨ w.heap.size ≤ k_) ∧ k_ ≠ gb240 ∧ k_ ≠ gb241)) (HO_242004.out) (fun k_ hk => ⟨hk.1, ⟨hk.2.1, hk.2.2⟩⟩))))) (Reps.none _ _))))
            intro v245 w26 ho27 hb hg_ hnew_
            clear hg_ hnew_
            (first | rw [← Ny244.out] at ho27 | (simp only [Int.reduceToNat] at ho27; rw [← Ny244.out] at ho27))
            have n0_ := Aside0.mk (Kd.V_elder' (by (with_reducible repeat (first | apply Kd.V_alloc | apply Kd.V_drewN | apply Kd.V_drew)); exact HO_241001.out) (Kd.N_base ho27) hb)
            have n1_ := Aside0.mk (Kd.V_elder' (by (with_reducible repeat (first | apply Kd.V_alloc | apply Kd.V_drewN | apply Kd.V_drew)); exact HO_241004.out) (Kd.N_base ho27) hb)
            have n2_ := Aside0.mk (Kd.V_elder' (by (with_reducible repeat (first | apply Kd.V_alloc | apply Kd.V_drewN | apply Kd.V_drew)); exact HO_242001.out) (Kd.N_base ho27) hb)
            have n3_ := Aside0.mk (Kd.V_elder' (by (with_reducible repeat (first | apply Kd.V_alloc | apply Kd.V_drewN | apply Kd.V_drew)); exact HO_242004.out) (Kd.N_base ho27) hb)
            have n4_ := Aside0.mk (Kd.N_lower ho27 (below_size (by repeat (first | (with_reducible first | exact HB.out | apply below_alloc | apply pw_below_drewN | apply below_drew1 | refine below_set ?_ GE240.out | refine below_set ?_ GE241.out) | exact HB.out))))
            have n5_ := Aside0.mk (blk_below (g := gb240) (o := .cells #[.bool a0_0, .slice A0_1 l0_1.length c0_1, .int .u64 a0_2, .bool a0_3, .slice A0_4 l0_4.length c0_4, .int .u64 a0_5, .bool a0_6] 63 (0, 0)) (by (with_reducible repeat (first | refine blk_drewN ?_ _ | refine blk_drew ?_ | refine blk_alloc ?_ _)); exact BK240.out) hb)
            have n6_ := Aside0.mk (blk_below (g := gb241) (o := .cells #[.bool a1_0, .slice A1_1 l1_1.length c1_1, .int .u64 a1_2, .bool a1_3, .slice A1_4 l1_4.length c1_4, .int .u64 a1_5, .bool a1_6] 63 (0, 0)) (by (with_reducible repeat (first | refine blk_drewN ?_ _ | refine blk_drew ?_ | refine blk_alloc ?_ _)); exact BK241.out) hb)
            have n7_ := Aside0.mk (below_step (by repeat (first | (with_reducible first | exact HB.out | apply below_alloc | apply pw_below_drewN | apply below_drew1 | refine below_set ?_ GE240.out | refine below_set ?_ GE241.out) | exact HB.out)) hb)
            clear HO_241001
            clear HO_241004
            clear HO_242001
            clear HO_242004
            clear BK240
            clear BK241
            clear HB
            have HO_241001 := n0_
            have HO_241004 := n1_
            have HO_242001 := n2_
            have HO_242004 := n3_
            have HO246 := n4_
            have BK240 := n5_
            have BK241 := n6_
            have HB := n7_
            clear n0_ n1_ n2_ n3_ n4_ n5_ n6_ n7_
            clear hb ho27
            obtain ⟨Ao28, co28, eo28⟩ := Kd.N_slice HO246.out
            (first | subst eo28 | (injection eo28 with f1_ f2_ f3_; have f4_ := f1_.symm; have f5_ := f3_.symm; clear f1_ f2_ f3_; subst f4_; subst f5_))
            refine hK.out _ _ ⟨(blk_cell BK240.out 0).trans rfl, (blk_cell BK240.out 1).trans rfl, (blk_cell BK240.out 2).trans rfl, (blk_cell BK240.out 3).trans rfl, (blk_cell BK240.out 4).trans rfl, (blk_cell BK240.out 5).trans rfl, (blk_cell BK240.out 6).trans rfl, (blk_cell BK241.out 0).trans rfl, (blk_cell BK241.out 1).trans rfl, (blk_cell BK241.out 2).trans rfl, (blk_cell BK241.out 3).trans rfl, (blk_cell BK241.out 4).trans rfl, (blk_cell BK241.out 5).trans rfl, (blk_cell BK241.out 6).trans rfl⟩ (fun hHeld => ?_)
            clear hK K
            refine norm_ (a' := ?_) ?_ ?_
            rotate_left
            · show Act.put _ (some 15) _ = _
              simp only [Act.put, List.setIfInBounds_toArray, List.set_cons_zero, List.set_cons_succ, i64_w, i32_w]
              rfl
            refine one_ (i := 3) (N := some 16) #[true, true, true, true, false, false, false, false, false, false, false, false, false, false, false, false, false, false, false, false, false, false, false, false] rfl rfl (one_of HT_.out (by kernel_rfl)) (by decide) (fun K hK => ?_)
            refine goes_ Try.func53 (by kernel_rfl) rfl #[.slice Ao28 y244.length co28] (by rfl) rfl rfl (by (try simp only [List.map_toArray, List.map_cons, List.map_nil]); first | done | rfl | (simp only [List.length_drop, List.length_take]; rfl)) ?_
            with_reducible refine (laws_rangesOk.calls kj2 _ _ y244 true _ ?side1 ?side2 A18.out).mono ?_
            (case side1 => repeat (first | exact (Kd.N_reads' HO246.out).2.2 | (with_reducible refine Kd.C_alloc ?_ _) | (with_reducible refine Kd.C_drewN ?_ _) | (with_reducible refine Kd.C_drew ?_)))
            (case side2 => exact (Kd.N_reads' HO246.out).2.1)
            rintro e w29 ⟨rfl, hb⟩
            refine ⟨_, rfl, ?_⟩
            have n0_ := Aside0.mk (Kd.V_below (by (with_reducible repeat (first | apply Kd.V_alloc | apply Kd.V_drewN | apply Kd.V_drew)); exact HO_241001.out) hb)
            have n1_ := Aside0.mk (Kd.V_below (by (with_reducible repeat (first | apply Kd.V_alloc | apply Kd.V_drewN | apply Kd.V_drew)); exact HO_241004.out) hb)
            have n2_ := Aside0.mk (Kd.V_below (by (with_reducible repeat (first | apply Kd.V_alloc | apply Kd.V_drewN | apply Kd.V_drew)); exact HO_242001.out) hb)
            have n3_ := Aside0.mk (Kd.V_below (by (with_reducible repeat (first | apply Kd.V_alloc | apply Kd.V_drewN | apply Kd.V_drew)); exact HO_242004.out) hb)
            have n4_ := Aside0.mk (Kd.N_below (by (with_reducible repeat (first | apply Kd.N_alloc | apply Kd.N_drewN | apply Kd.N_drew)); exact HO246.out) hb)
            have n5_ := Aside0.mk (blk_below (g := gb240) (o := .cells #[.bool a0_0, .slice A0_1 l0_1.length c0_1, .int .u64 a0_2, .bool a0_3, .slice A0_4 l0_4.length c0_4, .int .u64 a0_5, .bool a0_6] 63 (0, 0)) (by (with_reducible repeat (first | refine blk_drewN ?_ _ | refine blk_drew ?_ | refine blk_alloc ?_ _)); exact BK240.out) hb)
            have n6_ := Aside0.mk (blk_below (g := gb241) (o := .cells #[.bool a1_0, .slice A1_1 l1_1.length c1_1, .int .u64 a1_2, .bool a1_3, .slice A1_4 l1_4.length c1_4, .int .u64 a1_5, .bool a1_6] 63 (0, 0)) (by (with_reducible repeat (first | refine blk_drewN ?_ _ | refine blk_drew ?_ | refine blk_alloc ?_ _)); exact BK241.out) hb)
            have n7_ := Aside0.mk (below_step (by repeat (first | (with_reducible first | exact HB.out | apply below_alloc | apply pw_below_drewN | apply below_drew1 | refine below_set ?_ GE240.out | refine below_set ?_ GE241.out) | exact HB.out)) hb)
            clear HO_241001
            clear HO_241004
            clear HO_242001
            clear HO_242004
            clear HO246
            clear BK240
            clear BK241
            clear HB
            have HO_241001 := n0_
            have HO_241004 := n1_
            have HO_242001 := n2_
            have HO_242004 := n3_
            have HO246 := n4_
            have BK240 := n5_
            have BK241 := n6_
            have HB := n7_
            clear n0_ n1_ n2_ n3_ n4_ n5_ n6_ n7_
            (try clear hb)
            (try clear hb2)
            (try clear hk)
            (try clear hi)
            refine hK.out _ _ ⟨(blk_cell BK240.out 0).trans rfl, (blk_cell BK240.out 1).trans rfl, (blk_cell BK240.out 2).trans rfl, (blk_cell BK240.out 3).trans rfl, (blk_cell BK240.out 4).trans rfl, (blk_cell BK240.out 5).trans rfl, (blk_cell BK240.out 6).trans rfl, (blk_cell BK241.out 0).trans rfl, (blk_cell BK241.out 1).trans rfl, (blk_cell BK241.out 2).trans rfl, (blk_cell BK241.out 3).trans rfl, (blk_cell BK241.out 4).trans rfl, (blk_cell BK241.out 5).trans rfl, (blk_cell BK241.out 6).trans rfl⟩ (fun hHeld => ?_)
            clear hK K
            refine norm_ (a' := ?_) ?_ ?_
            rotate_left
            · show Act.put _ (some 16) _ = _
              simp only [Act.put, List.setIfInBounds_toArray, List.set_cons_zero, List.set_cons_succ, i64_w, i32_w]
              rfl
            refine pure_ (i := 4) (N := some 17) (v := ?_) (a' := ?_) #[true, true, true, true, true, false, false, false, false, false, false, false, false, false, false, false, false, false, false, false, false, false, false, false] rfl rfl (any_of HT_.out (by kernel_rfl)) (fun _ _ _ h => h) (Or.inl ⟨by rfl, ?_⟩) ?_ ?_
            rotate_left
            · intro w'
              go_simp
              with_reducible rfl
            rotate_left
            · simp only [Act.put, List.setIfInBounds_toArray, List.set_cons_zero, List.set_cons_succ, i64_w, i32_w]
              rfl
            refine pure_ (i := 5) (N := some 18) (v := ?_) (a' := ?_) #[true, true, true, true, true, true, false, false, false, false, false, false, false, false, false, false, false, false, false, false, false, false, false, false] rfl rfl (any_of HT_.out (by kernel_rfl)) (fun _ _ _ h => h) (Or.inl ⟨by rfl, ?_⟩) ?_ ?_
            rotate_left
            · intro w'
              go_simp
              with_reducible rfl
            rotate_left
            · simp only [Act.put, List.setIfInBounds_toArray, List.set_cons_zero, List.set_cons_succ, i64_w, i32_w]
              rfl
            refine take_ (i := 6) (N := some 19) (v := ?_) (a' := ?_) #[true, true, true, true, true, true, true, false, false, false, false, false, false, false, false, false, false, false, false, false, false, false, false, false] rfl rfl (take_ofW HT_.out HW_.out (by kernel_rfl)) (fun _ _ _ h => h) (Or.inl ⟨by rfl, ?_⟩) hHeld ?_ ?_
            rotate_left
            · rintro w' ⟨s0, s1, s2, s3, s4, s5, s6, s7, s8, s9, s10, s11, s12, s13⟩
              go_simp
              with_reducible rfl
            rotate_left
            · simp only [Act.put, List.setIfInBounds_toArray, List.set_cons_zero, List.set_cons_succ, i64_w, i32_w]
              rfl
            refine take_ (i := 7) (N := some 20) (v := ?_) (a' := ?_) #[true, true, true, true, true, true, true, true, false, false, false, false, false, false, false, false, false, false, false, false, false, false, false, false] rfl rfl (take_ofW HT_.out HW_.out (by kernel_rfl)) (fun _ _ _ h => h) (Or.inl ⟨by rfl, ?_⟩) hHeld ?_ ?_
            rotate_left
            · rintro w' ⟨s0, s1, s2, s3, s4, s5, s6, s7, s8, s9, s10, s11, s12, s13⟩
              go_simp
              with_reducible rfl
            rotate_left
            · simp only [Act.put, List.setIfInBounds_toArray, List.set_cons_zero, List.set_cons_succ, i64_w, i32_w]
              rfl
            refine take_ (i := 9) (N := some 22) (v := ?_) (a' := ?_) #[true, true, true, true, true, true, true, true, false, true, false, false, false, false, false, false, false, false, false, false, false, false, false, false] rfl rfl (take_ofW HT_.out HW_.out (by kernel_rfl)) (fun _ _ _ h => h) (Or.inl ⟨by rfl, ?_⟩) hHeld ?_ ?_
            rotate_left
            · rintro w' ⟨s0, s1, s2, s3, s4, s5, s6, s7, s8, s9, s10, s11, s12, s13⟩
              go_simp
              with_reducible rfl
            rotate_left
            · simp only [Act.put, List.setIfInBounds_toArray, List.set_cons_zero, List.set_cons_succ, i64_w, i32_w]
              rfl
            refine take_ (i := 10) (N := some 23) (v := ?_) (a' := ?_) #[true, true, true, true, true, true, true, true, false, true, true, false, false, false, false, false, false, false, false, false, false, false, false, false] rfl rfl (take_ofW HT_.out HW_.out (by kernel_rfl)) (fun _ _ _ h => h) (Or.inl ⟨by rfl, ?_⟩) hHeld ?_ ?_
            rotate_left
            · rintro w' ⟨s0, s1, s2, s3, s4, s5, s6, s7, s8, s9, s10, s11, s12, s13⟩
              go_simp
              with_reducible rfl
            rotate_left
            · simp only [Act.put, List.setIfInBounds_toArray, List.set_cons_zero, List.set_cons_succ, i64_w, i32_w]
              rfl
            refine one_ (i := 8) (N := some 21) #[true, true, true, true, true, true, true, true, true, true, true, false, false, false, false, false, false, false, false, false, false, false, false, false] rfl rfl (one_of HT_.out (by kernel_rfl)) (by decide) (fun K hK => ?_)
            refine goes_ Try.func71 (by kernel_rfl) rfl #[.agg #[.bool a0_0, .slice A0_1 l0_1.length c0_1, .int .u64 a0_2, .bool a0_3, .slice A0_4 l0_4.length c0_4, .int .u64 a0_5, .bool a0_6], .agg #[.bool a1_0, .slice A1_1 l1_1.length c1_1, .int .u64 a1_2, .bool a1_3, .slice A1_4 l1_4.length c1_4, .int .u64 a1_5, .bool a1_6]] (by rfl) rfl rfl (by (try simp only [List.map_toArray, List.map_cons, List.map_nil]); first | done | rfl | (simp only [List.length_drop, List.length_take]; rfl)) ?_
            with_reducible refine (impl_Overlap.calls kj2 a0_0 _ _ l0_1 a0_2 a0_3 _ _ l0_4 a0_5 a0_6 a1_0 _ _ l1_1 a1_2 a1_3 _ _ l1_4 a1_5 a1_6 t248 _ ?side1 ?side2 ?side3 ?side4 ?side5 ?side6 ?side7 ?side8 A20.out).mono ?_
            (case side1 => repeat (first | exact (Kd.V_reads' HO_241001.out).2.2 | (with_reducible refine Kd.C_alloc ?_ _) | (with_reducible refine Kd.C_drewN ?_ _) | (with_reducible refine Kd.C_drew ?_)))
            (case side2 => exact (Kd.V_reads' HO_241001.out).2.1)
            (case side3 => repeat (first | exact (Kd.V_reads' HO_241004.out).2.2 | (with_reducible refine Kd.C_alloc ?_ _) | (with_reducible refine Kd.C_drewN ?_ _) | (with_reducible refine Kd.C_drew ?_)))
            (case side4 => exact (Kd.V_reads' HO_241004.out).2.1)
            (case side5 => repeat (first | exact (Kd.V_reads' HO_242001.out).2.2 | (with_reducible refine Kd.C_alloc ?_ _) | (with_reducible refine Kd.C_drewN ?_ _) | (with_reducible refine Kd.C_drew ?_)))
            (case side6 => exact (Kd.V_reads' HO_242001.out).2.1)
            (case side7 => repeat (first | exact (Kd.V_reads' HO_242004.out).2.2 | (with_reducible refine Kd.C_alloc ?_ _) | (with_reducible refine Kd.C_drewN ?_ _) | (with_reducible refine Kd.C_drew ?_)))
            (case side8 => exact (Kd.V_reads' HO_242004.out).2.1)
            rintro e w30 ⟨rfl, hb⟩
            refine ⟨_, rfl, ?_⟩
            have n0_ := Aside0.mk (Kd.V_below (by (with_reducible repeat (first | apply Kd.V_alloc | apply Kd.V_drewN | apply Kd.V_drew)); exact HO_241001.out) hb)
            have n1_ := Aside0.mk (Kd.V_below (by (with_reducible repeat (first | apply Kd.V_alloc | apply Kd.V_drewN | apply Kd.V_drew)); exact HO_241004.out) hb)
            have n2_ := Aside0.mk (Kd.V_below (by (with_reducible repeat (first | apply Kd.V_alloc | apply Kd.V_drewN | apply Kd.V_drew)); exact HO_242001.out) hb)
            have n3_ := Aside0.mk (Kd.V_below (by (with_reducible repeat (first | apply Kd.V_alloc | apply Kd.V_drewN | apply Kd.V_drew)); exact HO_242004.out) hb)
            have n4_ := Aside0.mk (Kd.N_below (by (with_reducible repeat (first | apply Kd.N_alloc | apply Kd.N_drewN | apply Kd.N_drew)); exact HO246.out) hb)
            have n5_ := Aside0.mk (blk_below (g := gb240) (o := .cells #[.bool a0_0, .slice A0_1 l0_1.length c0_1, .int .u64 a0_2, .bool a0_3, .slice A0_4 l0_4.length c0_4, .int .u64 a0_5, .bool a0_6] 63 (0, 0)) (by (with_reducible repeat (first | refine blk_drewN ?_ _ | refine blk_drew ?_ | refine blk_alloc ?_ _)); exact BK240.out) hb)
            have n6_ := Aside0.mk (blk_below (g := gb241) (o := .cells #[.bool a1_0, .slice A1_1 l1_1.length c1_1, .int .u64 a1_2, .bool a1_3, .slice A1_4 l1_4.length c1_4, .int .u64 a1_5, .bool a1_6] 63 (0, 0)) (by (with_reducible repeat (first | refine blk_drewN ?_ _ | refine blk_drew ?_ | refine blk_alloc ?_ _)); exact BK241.out) hb)
            have n7_ := Aside0.mk (below_step (by repeat (first | (with_reducible first | exact HB.out | apply below_alloc | apply pw_below_drewN | apply below_drew1 | refine below_set ?_ GE240.out | refine below_set ?_ GE241.out) | exact HB.out)) hb)
            clear HO_241001
            clear HO_241004
            clear HO_242001
            clear HO_242004
            clear HO246
            clear BK240
            clear BK241
            clear HB
            have HO_241001 := n0_
            have HO_241004 := n1_
            have HO_242001 := n2_
            have HO_242004 := n3_
            have HO246 := n4_
            have BK240 := n5_
            have BK241 := n6_
            have HB := n7_
            clear n0_ n1_ n2_ n3_ n4_ n5_ n6_ n7_
            (try clear hb)
            (try clear hb2)
            (try clear hk)
            (try clear hi)
            refine hK.out _ _ ⟨(blk_cell BK240.out 0).trans rfl, (blk_cell BK240.out 1).trans rfl, (blk_cell BK240.out 2).trans rfl, (blk_cell BK240.out 3).trans rfl, (blk_cell BK240.out 4).trans rfl, (blk_cell BK240.out 5).trans rfl, (blk_cell BK240.out 6).trans rfl, (blk_cell BK241.out 0).trans rfl, (blk_cell BK241.out 1).trans rfl, (blk_cell BK241.out 2).trans rfl, (blk_cell BK241.out 3).trans rfl, (blk_cell BK241.out 4).trans rfl, (blk_cell BK241.out 5).trans rfl, (blk_cell BK241.out 6).trans rfl⟩ (fun hHeld => ?_)
            clear hK K
            refine norm_ (a' := ?_) ?_ ?_
            rotate_left
            · show Act.put _ (some 21) _ = _
              simp only [Act.put, List.setIfInBounds_toArray, List.set_cons_zero, List.set_cons_succ, i64_w, i32_w]
              rfl
            refine one_ (i := 11) (N := some 24) #[true, true, true, true, true, true, true, true, true, true, true, true, false, false, false, false, false, false, false, false, false, false, false, false] rfl rfl (one_of HT_.out (by kernel_rfl)) (by decide) (fun K hK => ?_)
            refine goes_ Try.func72 (by kernel_rfl) rfl #[.agg #[.bool a0_0, .slice A0_1 l0_1.length c0_1, .int .u64 a0_2, .bool a0_3, .slice A0_4 l0_4.length c0_4, .int .u64 a0_5, .bool a0_6], .agg #[.bool a1_0, .slice A1_1 l1_1.length c1_1, .int .u64 a1_2, .bool a1_3, .slice A1_4 l1_4.length c1_4, .int .u64 a1_5, .bool a1_6]] (by rfl) rfl rfl (by (try simp only [List.map_toArray, List.map_cons, List.map_nil]); first | done | rfl | (simp only [List.length_drop, List.length_take]; rfl)) ?_
            with_reducible refine (spec_Meet.calls a0_0 _ _ l0_1 a0_2 a0_3 _ _ l0_4 a0_5 a0_6 a1_0 _ _ l1_1 a1_2 a1_3 _ _ l1_4 a1_5 a1_6 t249 _ ?side1 ?side2 ?side3 ?side4 ?side5 ?side6 ?side7 ?side8 A21.out).mono ?_
            (case side1 => repeat (first | exact (Kd.V_reads' HO_241001.out).2.2 | (with_reducible refine Kd.C_alloc ?_ _) | (with_reducible refine Kd.C_drewN ?_ _) | (with_reducible refine Kd.C_drew ?_)))
            (case side2 => exact (Kd.V_reads' HO_241001.out).2.1)
            (case side3 => repeat (first | exact (Kd.V_reads' HO_241004.out).2.2 | (with_reducible refine Kd.C_alloc ?_ _) | (with_reducible refine Kd.C_drewN ?_ _) | (with_reducible refine Kd.C_drew ?_)))
            (case side4 => exact (Kd.V_reads' HO_241004.out).2.1)
            (case side5 => repeat (first | exact (Kd.V_reads' HO_242001.out).2.2 | (with_reducible refine Kd.C_alloc ?_ _) | (with_reducible refine Kd.C_drewN ?_ _) | (with_reducible refine Kd.C_drew ?_)))
            (case side6 => exact (Kd.V_reads' HO_242001.out).2.1)
            (case side7 => repeat (first | exact (Kd.V_reads' HO_242004.out).2.2 | (with_reducible refine Kd.C_alloc ?_ _) | (with_reducible refine Kd.C_drewN ?_ _) | (with_reducible refine Kd.C_drew ?_)))
            (case side8 => exact (Kd.V_reads' HO_242004.out).2.1)
            rintro e w31 ⟨rfl, hb⟩
            refine ⟨_, rfl, ?_⟩
            have n0_ := Aside0.mk (Kd.V_below (by (with_reducible repeat (first | apply Kd.V_alloc | apply Kd.V_drewN | apply Kd.V_drew)); exact HO_241001.out) hb)
            have n1_ := Aside0.mk (Kd.V_below (by (with_reducible repeat (first | apply Kd.V_alloc | apply Kd.V_drewN | apply Kd.V_drew)); exact HO_241004.out) hb)
            have n2_ := Aside0.mk (Kd.V_below (by (with_reducible repeat (first | apply Kd.V_alloc | apply Kd.V_drewN | apply Kd.V_drew)); exact HO_242001.out) hb)
            have n3_ := Aside0.mk (Kd.V_below (by (with_reducible repeat (first | apply Kd.V_alloc | apply Kd.V_drewN | apply Kd.V_drew)); exact HO_242004.out) hb)
            have n4_ := Aside0.mk (Kd.N_below (by (with_reducible repeat (first | apply Kd.N_alloc | apply Kd.N_drewN | apply Kd.N_drew)); exact HO246.out) hb)
            have n5_ := Aside0.mk (blk_below (g := gb240) (o := .cells #[.bool a0_0, .slice A0_1 l0_1.length c0_1, .int .u64 a0_2, .bool a0_3, .slice A0_4 l0_4.length c0_4, .int .u64 a0_5, .bool a0_6] 63 (0, 0)) (by (with_reducible repeat (first | refine blk_drewN ?_ _ | refine blk_drew ?_ | refine blk_alloc ?_ _)); exact BK240.out) hb)
            have n6_ := Aside0.mk (blk_below (g := gb241) (o := .cells #[.bool a1_0, .slice A1_1 l1_1.length c1_1, .int .u64 a1_2, .bool a1_3, .slice A1_4 l1_4.length c1_4, .int .u64 a1_5, .bool a1_6] 63 (0, 0)) (by (with_reducible repeat (first | refine blk_drewN ?_ _ | refine blk_drew ?_ | refine blk_alloc ?_ _)); exact BK241.out) hb)
            have n7_ := Aside0.mk (below_step (by repeat (first | (with_reducible first | exact HB.out | apply below_alloc | apply pw_below_drewN | apply below_drew1 | refine below_set ?_ GE240.out | refine below_set ?_ GE241.out) | exact HB.out)) hb)
            clear HO_241001
            clear HO_241004
            clear HO_242001
            clear HO_242004
            clear HO246
            clear BK240
            clear BK241
            clear HB
            have HO_241001 := n0_
            have HO_241004 := n1_
            have HO_242001 := n2_
            have HO_242004 := n3_
            have HO246 := n4_
            have BK240 := n5_
            have BK241 := n6_
            have HB := n7_
            clear n0_ n1_ n2_ n3_ n4_ n5_ n6_ n7_
            (try clear hb)
            (try clear hb2)
            (try clear hk)
            (try clear hi)
            refine hK.out _ _ ⟨(blk_cell BK240.out 0).trans rfl, (blk_cell BK240.out 1).trans rfl, (blk_cell BK240.out 2).trans rfl, (blk_cell BK240.out 3).trans rfl, (blk_cell BK240.out 4).trans rfl, (blk_cell BK240.out 5).trans rfl, (blk_cell BK240.out 6).trans rfl, (blk_cell BK241.out 0).trans rfl, (blk_cell BK241.out 1).trans rfl, (blk_cell BK241.out 2).trans rfl, (blk_cell BK241.out 3).trans rfl, (blk_cell BK241.out 4).trans rfl, (blk_cell BK241.out 5).trans rfl, (blk_cell BK241.out 6).trans rfl⟩ (fun hHeld => ?_)
            clear hK K
            refine norm_ (a' := ?_) ?_ ?_
            rotate_left
            · show Act.put _ (some 24) _ = _
              simp only [Act.put, List.setIfInBounds_toArray, List.set_cons_zero, List.set_cons_succ, i64_w, i32_w]
              rfl
            refine pure_ (i := 12) (N := some 25) (v := ?_) (a' := ?_) #[true, true, true, true, true, true, true, true, true, true, true, true, true, false, false, false, false, false, false, false, false, false, false, false] rfl rfl (any_of HT_.out (by kernel_rfl)) (fun _ _ _ h => h) (Or.inl ⟨by rfl, ?_⟩) ?_ ?_
            rotate_left
            · intro w'
              go_simp
              with_reducible rfl
            rotate_left
            · simp only [Act.put, List.setIfInBounds_toArray, List.set_cons_zero, List.set_cons_succ, i64_w, i32_w]
              rfl
            refine pure_ (i := 13) (N := some 26) (v := ?_) (a' := ?_) #[true, true, true, true, true, true, true, true, true, true, true, true, true, true, false, false, false, false, false, false, false, false, false, false] rfl rfl (any_of HT_.out (by kernel_rfl)) (fun _ _ _ h => h) (Or.inl ⟨by rfl, ?_⟩) ?_ ?_
            rotate_left
            · intro w'
              go_simp
              with_reducible rfl
            rotate_left
            · simp only [Act.put, List.setIfInBounds_toArray, List.set_cons_zero, List.set_cons_succ, i64_w, i32_w]
              rfl
            refine take_ (i := 14) (N := some 27) (v := ?_) (a' := ?_) #[true, true, true, true, true, true, true, true, true, true, true, true, true, true, true, false, false, false, false, false, false, false, false, false] rfl rfl (take_ofW HT_.out HW_.out (by kernel_rfl)) (fun _ _ _ h => h) (Or.inl ⟨by rfl, ?_⟩) hHeld ?_ ?_
            rotate_left
            · rintro w' ⟨s0, s1, s2, s3, s4, s5, s6, s7, s8, s9, s10, s11, s12, s13⟩
              go_simp
              with_reducible rfl
            rotate_left
            · simp only [Act.put, List.setIfInBounds_toArray, List.set_cons_zero, List.set_cons_succ, i64_w, i32_w]
              rfl
            refine take_ (i := 15) (N := some 28) (v := ?_) (a' := ?_) #[true, true, true, true, true, true, true, true, true, true, true, true, true, true, true, true, false, false, false, false, false, false, false, false] rfl rfl (take_ofW HT_.out HW_.out (by kernel_rfl)) (fun _ _ _ h => h) (Or.inl ⟨by rfl, ?_⟩) hHeld ?_ ?_
            rotate_left
            · rintro w' ⟨s0, s1, s2, s3, s4, s5, s6, s7, s8, s9, s10, s11, s12, s13⟩
              go_simp
              with_reducible rfl
            rotate_left
            · simp only [Act.put, List.setIfInBounds_toArray, List.set_cons_zero, List.set_cons_succ, i64_w, i32_w]
              rfl
            refine take_ (i := 17) (N := some 30) (v := ?_) (a' := ?_) #[true, true, true, true, true, true, true, true, true, true, true, true, true, true, true, true, false, true, false, false, false, false, false, false] rfl rfl (take_ofW HT_.out HW_.out (by kernel_rfl)) (fun _ _ _ h => h) (Or.inl ⟨by rfl, ?_⟩) hHeld ?_ ?_
            rotate_left
            · rintro w' ⟨s0, s1, s2, s3, s4, s5, s6, s7, s8, s9, s10, s11, s12, s13⟩
              go_simp
              with_reducible rfl
            rotate_left
            · simp only [Act.put, List.setIfInBounds_toArray, List.set_cons_zero, List.set_cons_succ, i64_w, i32_w]
              rfl
            refine take_ (i := 18) (N := some 31) (v := ?_) (a' := ?_) #[true, true, true, true, true, true, true, true, true, true, true, true, true, true, true, true, false, true, true, false, false, false, false, false] rfl rfl (take_ofW HT_.out HW_.out (by kernel_rfl)) (fun _ _ _ h => h) (Or.inl ⟨by rfl, ?_⟩) hHeld ?_ ?_
            rotate_left
            · rintro w' ⟨s0, s1, s2, s3, s4, s5, s6, s7, s8, s9, s10, s11, s12, s13⟩
              go_simp
              with_reducible rfl
            rotate_left
            · simp only [Act.put, List.setIfInBounds_toArray, List.set_cons_zero, List.set_cons_succ, i64_w, i32_w]
              rfl
            refine one_ (i := 16) (N := some 29) #[true, true, true, true, true, true, true, true, true, true, true, true, true, true, true, true, true, true, true, false, false, false, false, false] rfl rfl (one_of HT_.out (by kernel_rfl)) (by decide) (fun K hK => ?_)
            refine goes_ Try.func71 (by kernel_rfl) rfl #[.agg #[.bool a1_0, .slice A1_1 l1_1.length c1_1, .int .u64 a1_2, .bool a1_3, .slice A1_4 l1_4.length c1_4, .int .u64 a1_5, .bool a1_6], .agg #[.bool a0_0, .slice A0_1 l0_1.length c0_1, .int .u64 a0_2, .bool a0_3, .slice A0_4 l0_4.length c0_4, .int .u64 a0_5, .bool a0_6]] (by rfl) rfl rfl (by (try simp only [List.map_toArray, List.map_cons, List.map_nil]); first | done | rfl | (simp only [List.length_drop, List.length_take]; rfl)) ?_
            with_reducible refine (impl_Overlap.calls kj2 a1_0 _ _ l1_1 a1_2 a1_3 _ _ l1_4 a1_5 a1_6 a0_0 _ _ l0_1 a0_2 a0_3 _ _ l0_4 a0_5 a0_6 t250 _ ?side1 ?side2 ?side3 ?side4 ?side5 ?side6 ?side7 ?side8 A23.out).mono ?_
            (case side1 => repeat (first | exact (Kd.V_reads' HO_242001.out).2.2 | (with_reducible refine Kd.C_alloc ?_ _) | (with_reducible refine Kd.C_drewN ?_ _) | (with_reducible refine Kd.C_drew ?_)))
            (case side2 => exact (Kd.V_reads' HO_242001.out).2.1)
            (case side3 => repeat (first | exact (Kd.V_reads' HO_242004.out).2.2 | (with_reducible refine Kd.C_alloc ?_ _) | (with_reducible refine Kd.C_drewN ?_ _) | (with_reducible refine Kd.C_drew ?_)))
            (case side4 => exact (Kd.V_reads' HO_242004.out).2.1)
            (case side5 => repeat (first | exact (Kd.V_reads' HO_241001.out).2.2 | (with_reducible refine Kd.C_alloc ?_ _) | (with_reducible refine Kd.C_drewN ?_ _) | (with_reducible refine Kd.C_drew ?_)))
            (case side6 => exact (Kd.V_reads' HO_241001.out).2.1)
            (case side7 => repeat (first | exact (Kd.V_reads' HO_241004.out).2.2 | (with_reducible refine Kd.C_alloc ?_ _) | (with_reducible refine Kd.C_drewN ?_ _) | (with_reducible refine Kd.C_drew ?_)))
            (case side8 => exact (Kd.V_reads' HO_241004.out).2.1)
            rintro e w32 ⟨rfl, hb⟩
            refine ⟨_, rfl, ?_⟩
            have n0_ := Aside0.mk (Kd.V_below (by (with_reducible repeat (first | apply Kd.V_alloc | apply Kd.V_drewN | apply Kd.V_drew)); exact HO_241001.out) hb)
            have n1_ := Aside0.mk (Kd.V_below (by (with_reducible repeat (first | apply Kd.V_alloc | apply Kd.V_drewN | apply Kd.V_drew)); exact HO_241004.out) hb)
            have n2_ := Aside0.mk (Kd.V_below (by (with_reducible repeat (first | apply Kd.V_alloc | apply Kd.V_drewN | apply Kd.V_drew)); exact HO_242001.out) hb)
            have n3_ := Aside0.mk (Kd.V_below (by (with_reducible repeat (first | apply Kd.V_alloc | apply Kd.V_drewN | apply Kd.V_drew)); exact HO_242004.out) hb)
            have n4_ := Aside0.mk (Kd.N_below (by (with_reducible repeat (first | apply Kd.N_alloc | apply Kd.N_drewN | apply Kd.N_drew)); exact HO246.out) hb)
            have n5_ := Aside0.mk (blk_below (g := gb240) (o := .cells #[.bool a0_0, .slice A0_1 l0_1.length c0_1, .int .u64 a0_2, .bool a0_3, .slice A0_4 l0_4.length c0_4, .int .u64 a0_5, .bool a0_6] 63 (0, 0)) (by (with_reducible repeat (first | refine blk_drewN ?_ _ | refine blk_drew ?_ | refine blk_alloc ?_ _)); exact BK240.out) hb)
            have n6_ := Aside0.mk (blk_below (g := gb241) (o := .cells #[.bool a1_0, .slice A1_1 l1_1.length c1_1, .int .u64 a1_2, .bool a1_3, .slice A1_4 l1_4.length c1_4, .int .u64 a1_5, .bool a1_6] 63 (0, 0)) (by (with_reducible repeat (first | refine blk_drewN ?_ _ | refine blk_drew ?_ | refine blk_alloc ?_ _)); exact BK241.out) hb)
            have n7_ := Aside0.mk (below_step (by repeat (first | (with_reducible first | exact HB.out | apply below_alloc | apply pw_below_drewN | apply below_drew1 | refine below_set ?_ GE240.out | refine below_set ?_ GE241.out) | exact HB.out)) hb)
            clear HO_241001
            clear HO_241004
            clear HO_242001
            clear HO_242004
            clear HO246
            clear BK240
            clear BK241
            clear HB
            have HO_241001 := n0_
            have HO_241004 := n1_
            have HO_242001 := n2_
            have HO_242004 := n3_
            have HO246 := n4_
            have BK240 := n5_
            have BK241 := n6_
            have HB := n7_
            clear n0_ n1_ n2_ n3_ n4_ n5_ n6_ n7_
            (try clear hb)
            (try clear hb2)
            (try clear hk)
            (try clear hi)
            refine hK.out _ _ ⟨(blk_cell BK240.out 0).trans rfl, (blk_cell BK240.out 1).trans rfl, (blk_cell BK240.out 2).trans rfl, (blk_cell BK240.out 3).trans rfl, (blk_cell BK240.out 4).trans rfl, (blk_cell BK240.out 5).trans rfl, (blk_cell BK240.out 6).trans rfl, (blk_cell BK241.out 0).trans rfl, (blk_cell BK241.out 1).trans rfl, (blk_cell BK241.out 2).trans rfl, (blk_cell BK241.out 3).trans rfl, (blk_cell BK241.out 4).trans rfl, (blk_cell BK241.out 5).trans rfl, (blk_cell BK241.out 6).trans rfl⟩ (fun hHeld => ?_)
            clear hK K
            refine norm_ (a' := ?_) ?_ ?_
            rotate_left
            · show Act.put _ (some 29) _ = _
              simp only [Act.put, List.setIfInBounds_toArray, List.set_cons_zero, List.set_cons_succ, i64_w, i32_w]
              rfl
            refine one_ (i := 19) (N := some 32) #[true, true, true, true, true, true, true, true, true, true, true, true, true, true, true, true, true, true, true, true, false, false, false, false] rfl rfl (one_of HT_.out (by kernel_rfl)) (by decide) (fun K hK => ?_)
            refine goes_ Try.func72 (by kernel_rfl) rfl #[.agg #[.bool a0_0, .slice A0_1 l0_1.length c0_1, .int .u64 a0_2, .bool a0_3, .slice A0_4 l0_4.length c0_4, .int .u64 a0_5, .bool a0_6], .agg #[.bool a1_0, .slice A1_1 l1_1.length c1_1, .int .u64 a1_2, .bool a1_3, .slice A1_4 l1_4.length c1_4, .int .u64 a1_5, .bool a1_6]] (by rfl) rfl rfl (by (try simp only [List.map_toArray, List.map_cons, List.map_nil]); first | done | rfl | (simp only [List.length_drop, List.length_take]; rfl)) ?_
            with_reducible refine (spec_Meet.calls a0_0 _ _ l0_1 a0_2 a0_3 _ _ l0_4 a0_5 a0_6 a1_0 _ _ l1_1 a1_2 a1_3 _ _ l1_4 a1_5 a1_6 t251 _ ?side1 ?side2 ?side3 ?side4 ?side5 ?side6 ?side7 ?side8 A24.out).mono ?_
            (case side1 => repeat (first | exact (Kd.V_reads' HO_241001.out).2.2 | (with_reducible refine Kd.C_alloc ?_ _) | (with_reducible refine Kd.C_drewN ?_ _) | (with_reducible refine Kd.C_drew ?_)))
            (case side2 => exact (Kd.V_reads' HO_241001.out).2.1)
            (case side3 => repeat (first | exact (Kd.V_reads' HO_241004.out).2.2 | (with_reducible refine Kd.C_alloc ?_ _) | (with_reducible refine Kd.C_drewN ?_ _) | (with_reducible refine Kd.C_drew ?_)))
            (case side4 => exact (Kd.V_reads' HO_241004.out).2.1)
            (case side5 => repeat (first | exact (Kd.V_reads' HO_242001.out).2.2 | (with_reducible refine Kd.C_alloc ?_ _) | (with_reducible refine Kd.C_drewN ?_ _) | (with_reducible refine Kd.C_drew ?_)))
            (case side6 => exact (Kd.V_reads' HO_242001.out).2.1)
            (case side7 => repeat (first | exact (Kd.V_reads' HO_242004.out).2.2 | (with_reducible refine Kd.C_alloc ?_ _) | (with_reducible refine Kd.C_drewN ?_ _) | (with_reducible refine Kd.C_drew ?_)))
            (case side8 => exact (Kd.V_reads' HO_242004.out).2.1)
            rintro e w33 ⟨rfl, hb⟩
            refine ⟨_, rfl, ?_⟩
            have n0_ := Aside0.mk (Kd.V_below (by (with_reducible repeat (first | apply Kd.V_alloc | apply Kd.V_drewN | apply Kd.V_drew)); exact HO_241001.out) hb)
            have n1_ := Aside0.mk (Kd.V_below (by (with_reducible repeat (first | apply Kd.V_alloc | apply Kd.V_drewN | apply Kd.V_drew)); exact HO_241004.out) hb)
            have n2_ := Aside0.mk (Kd.V_below (by (with_reducible repeat (first | apply Kd.V_alloc | apply Kd.V_drewN | apply Kd.V_drew)); exact HO_242001.out) hb)
            have n3_ := Aside0.mk (Kd.V_below (by (with_reducible repeat (first | apply Kd.V_alloc | apply Kd.V_drewN | apply Kd.V_drew)); exact HO_242004.out) hb)
            have n4_ := Aside0.mk (Kd.N_below (by (with_reducible repeat (first | apply Kd.N_alloc | apply Kd.N_drewN | apply Kd.N_drew)); exact HO246.out) hb)
            have n5_ := Aside0.mk (blk_below (g := gb240) (o := .cells #[.bool a0_0, .slice A0_1 l0_1.length c0_1, .int .u64 a0_2, .bool a0_3, .slice A0_4 l0_4.length c0_4, .int .u64 a0_5, .bool a0_6] 63 (0, 0)) (by (with_reducible repeat (first | refine blk_drewN ?_ _ | refine blk_drew ?_ | refine blk_alloc ?_ _)); exact BK240.out) hb)
            have n6_ := Aside0.mk (blk_below (g := gb241) (o := .cells #[.bool a1_0, .slice A1_1 l1_1.length c1_1, .int .u64 a1_2, .bool a1_3, .slice A1_4 l1_4.length c1_4, .int .u64 a1_5, .bool a1_6] 63 (0, 0)) (by (with_reducible repeat (first | refine blk_drewN ?_ _ | refine blk_drew ?_ | refine blk_alloc ?_ _)); exact BK241.out) hb)
            have n7_ := Aside0.mk (below_step (by repeat (first | (with_reducible first | exact HB.out | apply below_alloc | apply pw_below_drewN | apply below_drew1 | refine below_set ?_ GE240.out | refine below_set ?_ GE241.out) | exact HB.out)) hb)
            clear HO_241001
            clear HO_241004
            clear HO_242001
            clear HO_242004
            clear HO246
            clear BK240
            clear BK241
            clear HB
            have HO_241001 := n0_
            have HO_241004 := n1_
            have HO_242001 := n2_
            have HO_242004 := n3_
            have HO246 := n4_
            have BK240 := n5_
            have BK241 := n6_
            have HB := n7_
            clear n0_ n1_ n2_ n3_ n4_ n5_ n6_ n7_
            (try clear hb)
            (try clear hb2)
            (try clear hk)
            (try clear hi)
            refine hK.out _ _ ⟨(blk_cell BK240.out 0).trans rfl, (blk_cell BK240.out 1).trans rfl, (blk_cell BK240.out 2).trans rfl, (blk_cell BK240.out 3).trans rfl, (blk_cell BK240.out 4).trans rfl, (blk_cell BK240.out 5).trans rfl, (blk_cell BK240.out 6).trans rfl, (blk_cell BK241.out 0).trans rfl, (blk_cell BK241.out 1).trans rfl, (blk_cell BK241.out 2).trans rfl, (blk_cell BK241.out 3).trans rfl, (blk_cell BK241.out 4).trans rfl, (blk_cell BK241.out 5).trans rfl, (blk_cell BK241.out 6).trans rfl⟩ (fun hHeld => ?_)
            clear hK K
            refine norm_ (a' := ?_) ?_ ?_
            rotate_left
            · show Act.put _ (some 32) _ = _
              simp only [Act.put, List.setIfInBounds_toArray, List.set_cons_zero, List.set_cons_succ, i64_w, i32_w]
              rfl
            refine pure_ (i := 20) (N := some 33) (v := ?_) (a' := ?_) #[true, true, true, true, true, true, true, true, true, true, true, true, true, true, true, true, true, true, true, true, true, false, false, false] rfl rfl (any_of HT_.out (by kernel_rfl)) (fun _ _ _ h => h) (Or.inl ⟨by rfl, ?_⟩) ?_ ?_
            rotate_left
            · intro w'
              go_simp
              with_reducible rfl
            rotate_left
            · simp only [Act.put, List.setIfInBounds_toArray, List.set_cons_zero, List.set_cons_succ, i64_w, i32_w]
              rfl
            refine pure_ (i := 21) (N := some 34) (v := ?_) (a' := ?_) #[true, true, true, true, true, true, true, true, true, true, true, true, true, true, true, true, true, true, true, true, true, true, false, false] rfl rfl (any_of HT_.out (by kernel_rfl)) (fun _ _ _ h => h) (Or.inl ⟨by rfl, ?_⟩) ?_ ?_
            rotate_left
            · intro w'
              go_simp
              with_reducible rfl
            rotate_left
            · simp only [Act.put, List.setIfInBounds_toArray, List.set_cons_zero, List.set_cons_succ, i64_w, i32_w]
              rfl
            refine pure_ (i := 22) (N := some 35) (v := ?_) (a' := ?_) #[true, true, true, true, true, true, true, true, true, true, true, true, true, true, true, true, true, true, true, true, true, true, true, false] rfl rfl (any_of HT_.out (by kernel_rfl)) (fun _ _ _ h => h) (Or.inl ⟨by rfl, ?_⟩) ?_ ?_
            rotate_left
            · intro w'
              go_simp
              with_reducible rfl
            rotate_left
            · simp only [Act.put, List.setIfInBounds_toArray, List.set_cons_zero, List.set_cons_succ, i64_w, i32_w]
              rfl
            refine pure_ (i := 23) (N := some 4) (v := ?_) (a' := ?_) #[true, true, true, true, true, true, true, true, true, true, true, true, true, true, true, true, true, true, true, true, true, true, true, true] rfl rfl (any_of HT_.out (by kernel_rfl)) (fun _ _ _ h => h) (Or.inl ⟨by rfl, ?_⟩) ?_ ?_
            rotate_left
            · intro w'
              go_simp
              with_reducible rfl
            rotate_left
            · simp only [Act.put, List.setIfInBounds_toArray, List.set_cons_zero, List.set_cons_succ, i64_w, i32_w]
              rfl
            refine done_ (done_of HT_.out (by kernel_rfl)) ?_
            try go_wp2
            go_ret
            exact ⟨by first | rfl | (simp [errW_none, errW_some] <;> rfl) | (simp [*, errW_none, errW_some] <;> rfl), by repeat (first | (with_reducible first | exact HB.out | apply below_alloc | apply pw_below_drewN | apply below_drew1 | refine below_set ?_ GE240.out | refine below_set ?_ GE241.out) | exact HB.out)⟩
          · rw [if_neg c22] at H
            have c22b0 : (t248 == t249) = false := by simpa using c22
            (try (have c22b1 : decide (t248 = t249) = false := by simpa using c22))
            (try (have c22b2 : (t248 == t249) = false := by simpa using c22))
            (try (have c22b3 : ¬ (t248 = t249) := by simpa using c22))
            clear c22
            obtain rfl := Option.some.inj H
            try go_wp2
            have n0_ := Aside0.mk (Kd.V_drew HO_241001.out)
            have n1_ := Aside0.mk (Kd.V_drew HO_241004.out)
            have n2_ := Aside0.mk (Kd.V_drew HO_242001.out)
            have n3_ := Aside0.mk (Kd.V_drew HO_242004.out)
            have n4_ := Aside0.mk (blk_drew BK240.out)
            have n5_ := Aside0.mk (blk_drew BK241.out)
            have n6_ := Aside0.mk (below_drew1 HB.out)
            clear HO_241001
            clear HO_241004
            clear HO_242001
            clear HO_242004
            clear BK240
            clear BK241
            clear HB
            have HO_241001 := n0_
            have HO_241004 := n1_
            have HO_242001 := n2_
            have HO_242004 := n3_
            have BK240 := n4_
            have BK241 := n5_
            have HB := n6_
            clear n0_ n1_ n2_ n3_ n4_ n5_ n6_
            refine start_ (n := 24) (S := fun w' => w'.cell? ⟨gb240, 0, none⟩ = some (.bool a0_0) ∧ w'.cell? ⟨gb240, 1, none⟩ = some (.slice A0_1 l0_1.length c0_1) ∧ w'.cell? ⟨gb240, 2, none⟩ = some (.int .u64 a0_2) ∧ w'.cell? ⟨gb240, 3, none⟩ = some (.bool a0_3) ∧ w'.cell? ⟨gb240, 4, none⟩ = some (.slice A0_4 l0_4.length c0_4) ∧ w'.cell? ⟨gb240, 5, none⟩ = some (.int .u64 a0_5) ∧ w'.cell? ⟨gb240, 6, none⟩ = some (.bool a0_6) ∧ w'.cell? ⟨gb241, 0, none⟩ = some (.bool a1_0) ∧ w'.cell? ⟨gb241, 1, none⟩ = some (.slice A1_1 l1_1.length c1_1) ∧ w'.cell? ⟨gb241, 2, none⟩ = some (.int .u64 a1_2) ∧ w'.cell? ⟨gb241, 3, none⟩ = some (.bool a1_3) ∧ w'.cell? ⟨gb241, 4, none⟩ = some (.slice A1_4 l1_4.length c1_4) ∧ w'.cell? ⟨gb241, 5, none⟩ = some (.int .u64 a1_5) ∧ w'.cell? ⟨gb241, 6, none⟩ = some (.bool a1_6)) (ds := []) #[false, false, false, false, false, false, false, false, false, false, false, false, false, false, false, false, false, false, false, false, false, false, false, false] (by kernel_rfl) rfl rfl ⟨(blk_cell BK240.out 0).trans rfl, (blk_cell BK240.out 1).trans rfl, (blk_cell BK240.out 2).trans rfl, (blk_cell BK240.out 3).trans rfl, (blk_cell BK240.out 4).trans rfl, (blk_cell BK240.out 5).trans rfl, (blk_cell BK240.out 6).trans rfl, (blk_cell BK241.out 0).trans rfl, (blk_cell BK241.out 1).trans rfl, (blk_cell BK241.out 2).trans rfl, (blk_cell BK241.out 3).trans rfl, (blk_cell BK241.out 4).trans rfl, (blk_cell BK241.out 5).trans rfl, (blk_cell BK241.out 6).trans rfl⟩ (fun hHeld => ?_); refine with_tabW laws_FnRangeOverlap.tab3 laws_FnRangeOverlap.bits3 (fun HT_ HW_ => ?_)
            generalize wc.drew = w34 at HO_241001 HO_241004 HO_242001 HO_242004 BK240 BK241 HB hHeld ⊢
            refine take_ (i := 0) (N := some 13) (v := ?_) (a' := ?_) #[true, false, false, false, false, false, false, false, false, false, false, false, false, false, false, false, false, false, false, false, false, false, false, false] rfl rfl (take_ofW HT_.out HW_.out (by kernel_rfl)) (fun _ _ _ h => h) (Or.inl ⟨by rfl, ?_⟩) hHeld ?_ ?_
            rotate_left
            · rintro w' ⟨s0, s1, s2, s3, s4, s5, s6, s7, s8, s9, s10, s11, s12, s13⟩
              go_simp
              with_reducible rfl
            rotate_left
            · simp only [Act.put, List.setIfInBounds_toArray, List.set_cons_zero, List.set_cons_succ, i64_w, i32_w]
              rfl
            refine take_ (i := 1) (N := some 14) (v := ?_) (a' := ?_) #[true, true, false, false, false, false, false, false, false, false, false, false, false, false, false, false, false, false, false, false, false, false, false, false] rfl rfl (take_ofW HT_.out HW_.out (by kernel_rfl)) (fun _ _ _ h => h) (Or.inl ⟨by rfl, ?_⟩) hHeld ?_ ?_
            rotate_left
            · rintro w' ⟨s0, s1, s2, s3, s4, s5, s6, s7, s8, s9, s10, s11, s12, s13⟩
              go_simp
              with_reducible rfl
            rotate_left
            · simp only [Act.put, List.setIfInBounds_toArray, List.set_cons_zero, List.set_cons_succ, i64_w, i32_w]
              rfl
            refine one_ (i := 2) (N := some 15) #[true, true, true, false, false, false, false, false, false, false, false, false, false, false, false, false, false, false, false, false, false, false, false, false] rfl rfl (one_of HT_.out (by kernel_rfl)) (by decide) (fun K hK => ?_)
            refine Kd.N_lit_step k63 _ 63 ?hg (N' := 15) ?hd (xs := ([(⟨(⟨a0_0, l0_1, a0_2⟩ : S61), (⟨a0_3, l0_4, a0_5⟩ : S61), a0_6⟩ : S63), (⟨(⟨a1_0, l1_1, a1_2⟩ : S61), (⟨a1_3, l1_4, a1_5⟩ : S61), a1_6⟩ : S63)] : List (S63))) (inner := [.bool a0_0, .slice A0_1 l0_1.length c0_1, .int .u64 a0_2, .bool a0_3, .slice A0_4 l0_4.length c0_4, .int .u64 a0_5, .bool a0_6, .bool a1_0, .slice A1_1 l1_1.length c1_1, .int .u64 a1_2, .bool a1_3, .slice A1_4 l1_4.length c1_4, .int .u64 a1_5, .bool a1_6]) (ok := (fun k_ => ((P0_1_ k_ ∨ P0_4_ k_ ∨ P1_1_ k_ ∨ P1_4_ k_) ∨ w.heap.size ≤ k_) ∧ k_ ≠ gb240 ∧ k_ ≠ gb241)) (okp := (fun k_ => ((P0_1_ k_ ∨ P0_4_ k_ ∨ P1_1_ k_ ∨ P1_4_ k_) ∨ w.heap.size ≤ k_) ∧ k_ ≠ gb240 ∧ k_ ≠ gb241)) ?hr ?hp (fun _ hk => hk) ((show ∀ k_, w34.heap.size ≤ k_ → (fun k_ => ((P0_1_ k_ ∨ P0_4_ k_ ∨ P1_1_ k_ ∨ P1_4_ k_) ∨ w.heap.size ≤ k_) ∧ k_ ≠ gb240 ∧ k_ ≠ gb241) k_ from fun k_ hk => ⟨(.inr (Nat.le_trans (below_size (by repeat (first | (with_reducible first | exact HB.out | apply below_alloc | apply pw_below_drewN | apply below_drew1 | refine below_set ?_ GE240.out | refine below_set ?_ GE241.out) | exact HB.out))) hk)), Kd.freshB (g := gb240) (o := .cells #[.bool a0_0, .slice A0_1 l0_1.length c0_1, .int .u64 a0_2, .bool a0_3, .slice A0_4 l0_4.length c0_4, .int .u64 a0_5, .bool a0_6] 63 (0, 0)) (by (with_reducible repeat (first | refine blk_drewN ?_ _ | refine blk_drew ?_ | refine blk_alloc ?_ _)); exact BK240.out) k_ hk, Kd.freshB (g := gb241) (o := .cells #[.bool a1_0, .slice A1_1 l1_1.length c1_1, .int .u64 a1_2, .bool a1_3, .slice A1_4 l1_4.length c1_4, .int .u64 a1_5, .bool a1_6] 63 (0, 0)) (by (with_reducible repeat (first | refine blk_drewN ?_ _ | refine blk_drew ?_ | refine blk_alloc ?_ _)); exact BK241.out) k_ hk⟩) _ (Nat.le_refl _)) (Below.refl _ _) (Nat.le_refl _) (by simp) ?_; (case hd => rfl); (case hg => rfl); (case hr => first | (go_simp; done) | (go_simp; rfl)); (case hp => exact (Reps.c7 (show Kd.FK k63 _ _ (⟨(⟨a0_0, l0_1, a0_2⟩ : S61), (⟨a0_3, l0_4, a0_5⟩ : S61), a0_6⟩ : S63) [.bool a0_0, .slice A0_1 l0_1.length c0_1, .int .u64 a0_2, .bool a0_3, .slice A0_4 l0_4.length c0_4, .int .u64 a0_5, .bool a0_6] from (k63_mkF _ _ (⟨(⟨a0_0, l0_1, a0_2⟩ : S61), (⟨a0_3, l0_4, a0_5⟩ : S61), a0_6⟩ : S63) (Kd.V_reads' (Kd.V_mono (ok' := (fun k_ => ((P0_1_ k_ ∨ P0_4_ k_ ∨ P1_1_ k_ ∨ P1_4_ k_) ∨ w.heap.size ≤ k_) ∧ k_ ≠ gb240 ∧ k_ ≠ gb241)) (HO_241001.out) (fun k_ hk => ⟨hk.1, ⟨hk.2.1, hk.2.2⟩⟩))).2.1 (Kd.V_F (Kd.V_mono (ok' := (fun k_ => ((P0_1_ k_ ∨ P0_4_ k_ ∨ P1_1_ k_ ∨ P1_4_ k_) ∨ w.heap.size ≤ k_) ∧ k_ ≠ gb240 ∧ k_ ≠ gb241)) (HO_241001.out) (fun k_ hk => ⟨hk.1, ⟨hk.2.1, hk.2.2⟩⟩))) (Kd.V_reads' (Kd.V_mono (ok' := (fun k_ => ((P0_1_ k_ ∨ P0_4_ k_ ∨ P1_1_ k_ ∨ P1_4_ k_) ∨ w.heap.size ≤ k_) ∧ k_ ≠ gb240 ∧ k_ ≠ gb241)) (HO_241004.out) (fun k_ hk => ⟨hk.1, ⟨hk.2.1, hk.2.2⟩⟩))).2.1 (Kd.V_F (Kd.V_mono (ok' := (fun k_ => ((P0_1_ k_ ∨ P0_4_ k_ ∨ P1_1_ k_ ∨ P1_4_ k_) ∨ w.heap.size ≤ k_) ∧ k_ ≠ gb240 ∧ k_ ≠ gb241)) (HO_241004.out) (fun k_ hk => ⟨hk.1, ⟨hk.2.1, hk.2.2⟩⟩))))) (Reps.c7 (show Kd.FK k63 _ _ (⟨(⟨a1_0, l1_1, a1_2⟩ : S61), (⟨a1_3, l1_4, a1_5⟩ : S61), a1_6⟩ : S63) [.bool a1_0, .slice A1_1 l1_1.length c1_1, .int .u64 a1_2, .bool a1_3, .slice A1_4 l1_4.length c1_4, .int .u64 a1_5, .bool a1_6] from (k63_mkF _ _ (⟨(⟨a1_0, l1_1, a1_2⟩ : S61), (⟨a1_3, l1_4, a1_5⟩ : S61), a1_6⟩ : S63) (Kd.V_reads' (Kd.V_mono (ok' := (fun k_ => ((P0_1_ k_ ∨ P0_4_ k_ ∨ P1_1_ k_ ∨ P1_4_ k_) ∨ w.heap.size ≤ k_) ∧ k_ ≠ gb240 ∧ k_ ≠ gb241)) (HO_242001.out) (fun k_ hk => ⟨hk.1, ⟨hk.2.1, hk.2.2⟩⟩))).2.1 (Kd.V_F (Kd.V_mono (ok' := (fun k_ => ((P0_1_ k_ ∨ P0_4_ k_ ∨ P1_1_ k_ ∨ P1_4_ k_) ∨ w.heap.size ≤ k_) ∧ k_ ≠ gb240 ∧ k_ ≠ gb241)) (HO_242001.out) (fun k_ hk => ⟨hk.1, ⟨hk.2.1, hk.2.2⟩⟩))) (Kd.V_reads' (Kd.V_mono (ok' := (fun k_ => ((P0_1_ k_ ∨ P0_4_ k_ ∨ P1_1_ k_ ∨ P1_4_ k_) ∨ w.heap.size ≤ k_) ∧ k_ ≠ gb240 ∧ k_ ≠ gb241)) (HO_242004.out) (fun k_ hk => ⟨hk.1, ⟨hk.2.1, hk.2.2⟩⟩))).2.1 (Kd.V_F (Kd.V_mono (ok' := (fun k_ => ((P0_1_ k_ ∨ P0_4_ k_ ∨ P1_1_ k_ ∨ P1_4_ k_) ∨ w.heap.size ≤ k_) ∧ k_ ≠ gb240 ∧ k_ ≠ gb241)) (HO_242004.out) (fun k_ hk => ⟨hk.1, ⟨hk.2.1, hk.2.2⟩⟩))))) (Reps.none _ _))))
            intro v245 w35 ho36 hb hg_ hnew_
            clear hg_ hnew_
            (first | rw [← Ny244.out] at ho36 | (simp only [Int.reduceToNat] at ho36; rw [← Ny244.out] at ho36))
            have n0_ := Aside0.mk (Kd.V_elder' (by (with_reducible repeat (first | apply Kd.V_alloc | apply Kd.V_drewN | apply Kd.V_drew)); exact HO_241001.out) (Kd.N_base ho36) hb)
            have n1_ := Aside0.mk (Kd.V_elder' (by (with_reducible repeat (first | apply Kd.V_alloc | apply Kd.V_drewN | apply Kd.V_drew)); exact HO_241004.out) (Kd.N_base ho36) hb)
            have n2_ := Aside0.mk (Kd.V_elder' (by (with_reducible repeat (first | apply Kd.V_alloc | apply Kd.V_drewN | apply Kd.V_drew)); exact HO_242001.out) (Kd.N_base ho36) hb)
            have n3_ := Aside0.mk (Kd.V_elder' (by (with_reducible repeat (first | apply Kd.V_alloc | apply Kd.V_drewN | apply Kd.V_drew)); exact HO_242004.out) (Kd.N_base ho36) hb)
            have n4_ := Aside0.mk (Kd.N_lower ho36 (below_size (by repeat (first | (with_reducible first | exact HB.out | apply below_alloc | apply pw_below_drewN | apply below_drew1 | refine below_set ?_ GE240.out | refine below_set ?_ GE241.out) | exact HB.out))))
            have n5_ := Aside0.mk (blk_below (g := gb240) (o := .cells #[.bool a0_0, .slice A0_1 l0_1.length c0_1, .int .u64 a0_2, .bool a0_3, .slice A0_4 l0_4.length c0_4, .int .u64 a0_5, .bool a0_6] 63 (0, 0)) (by (with_reducible repeat (first | refine blk_drewN ?_ _ | refine blk_drew ?_ | refine blk_alloc ?_ _)); exact BK240.out) hb)
            have n6_ := Aside0.mk (blk_below (g := gb241) (o := .cells #[.bool a1_0, .slice A1_1 l1_1.length c1_1, .int .u64 a1_2, .bool a1_3, .slice A1_4 l1_4.length c1_4, .int .u64 a1_5, .bool a1_6] 63 (0, 0)) (by (with_reducible repeat (first | refine blk_drewN ?_ _ | refine blk_drew ?_ | refine blk_alloc ?_ _)); exact BK241.out) hb)
            have n7_ := Aside0.mk (below_step (by repeat (first | (with_reducible first | exact HB.out | apply below_alloc | apply pw_below_drewN | apply below_drew1 | refine below_set ?_ GE240.out | refine below_set ?_ GE241.out) | exact HB.out)) hb)
            clear HO_241001
            clear HO_241004
            clear HO_242001
            clear HO_242004
            clear BK240
            clear BK241
            clear HB
            have HO_241001 := n0_
            have HO_241004 := n1_
            have HO_242001 := n2_
            have HO_242004 := n3_
            have HO246 := n4_
            have BK240 := n5_
            have BK241 := n6_
            have HB := n7_
            clear n0_ n1_ n2_ n3_ n4_ n5_ n6_ n7_
            clear hb ho36
            obtain ⟨Ao37, co37, eo37⟩ := Kd.N_slice HO246.out
            (first | subst eo37 | (injection eo37 with f1_ f2_ f3_; have f4_ := f1_.symm; have f5_ := f3_.symm; clear f1_ f2_ f3_; subst f4_; subst f5_))
            refine hK.out _ _ ⟨(blk_cell BK240.out 0).trans rfl, (blk_cell BK240.out 1).trans rfl, (blk_cell BK240.out 2).trans rfl, (blk_cell BK240.out 3).trans rfl, (blk_cell BK240.out 4).trans rfl, (blk_cell BK240.out 5).trans rfl, (blk_cell BK240.out 6).trans rfl, (blk_cell BK241.out 0).trans rfl, (blk_cell BK241.out 1).trans rfl, (blk_cell BK241.out 2).trans rfl, (blk_cell BK241.out 3).trans rfl, (blk_cell BK241.out 4).trans rfl, (blk_cell BK241.out 5).trans rfl, (blk_cell BK241.out 6).trans rfl⟩ (fun hHeld => ?_)
            clear hK K
            refine norm_ (a' := ?_) ?_ ?_
            rotate_left
            · show Act.put _ (some 15) _ = _
              simp only [Act.put, List.setIfInBounds_toArray, List.set_cons_zero, List.set_cons_succ, i64_w, i32_w]
              rfl
            refine one_ (i := 3) (N := some 16) #[true, true, true, true, false, false, false, false, false, false, false, false, false, false, false, false, false, false, false, false, false, false, false, false] rfl rfl (one_of HT_.out (by kernel_rfl)) (by decide) (fun K hK => ?_)
            refine goes_ Try.func53 (by kernel_rfl) rfl #[.slice Ao37 y244.length co37] (by rfl) rfl rfl (by (try simp only [List.map_toArray, List.map_cons, List.map_nil]); first | done | rfl | (simp only [List.length_drop, List.length_take]; rfl)) ?_
            with_reducible refine (laws_rangesOk.calls kj2 _ _ y244 true _ ?side1 ?side2 A18.out).mono ?_
            (case side1 => repeat (first | exact (Kd.N_reads' HO246.out).2.2 | (with_reducible refine Kd.C_alloc ?_ _) | (with_reducible refine Kd.C_drewN ?_ _) | (with_reducible refine Kd.C_drew ?_)))
            (case side2 => exact (Kd.N_reads' HO246.out).2.1)
            rintro e w38 ⟨rfl, hb⟩
            refine ⟨_, rfl, ?_⟩
            have n0_ := Aside0.mk (Kd.V_below (by (with_reducible repeat (first | apply Kd.V_alloc | apply Kd.V_drewN | apply Kd.V_drew)); exact HO_241001.out) hb)
            have n1_ := Aside0.mk (Kd.V_below (by (with_reducible repeat (first | apply Kd.V_alloc | apply Kd.V_drewN | apply Kd.V_drew)); exact HO_241004.out) hb)
            have n2_ := Aside0.mk (Kd.V_below (by (with_reducible repeat (first | apply Kd.V_alloc | apply Kd.V_drewN | apply Kd.V_drew)); exact HO_242001.out) hb)
            have n3_ := Aside0.mk (Kd.V_below (by (with_reducible repeat (first | apply Kd.V_alloc | apply Kd.V_drewN | apply Kd.V_drew)); exact HO_242004.out) hb)
            have n4_ := Aside0.mk (Kd.N_below (by (with_reducible repeat (first | apply Kd.N_alloc | apply Kd.N_drewN | apply Kd.N_drew)); exact HO246.out) hb)
            have n5_ := Aside0.mk (blk_below (g := gb240) (o := .cells #[.bool a0_0, .slice A0_1 l0_1.length c0_1, .int .u64 a0_2, .bool a0_3, .slice A0_4 l0_4.length c0_4, .int .u64 a0_5, .bool a0_6] 63 (0, 0)) (by (with_reducible repeat (first | refine blk_drewN ?_ _ | refine blk_drew ?_ | refine blk_alloc ?_ _)); exact BK240.out) hb)
            have n6_ := Aside0.mk (blk_below (g := gb241) (o := .cells #[.bool a1_0, .slice A1_1 l1_1.length c1_1, .int .u64 a1_2, .bool a1_3, .slice A1_4 l1_4.length c1_4, .int .u64 a1_5, .bool a1_6] 63 (0, 0)) (by (with_reducible repeat (first | refine blk_drewN ?_ _ | refine blk_drew ?_ | refine blk_alloc ?_ _)); exact BK241.out) hb)
            have n7_ := Aside0.mk (below_step (by repeat (first | (with_reducible first | exact HB.out | apply below_alloc | apply pw_below_drewN | apply below_drew1 | refine below_set ?_ GE240.out | refine below_set ?_ GE241.out) | exact HB.out)) hb)
            clear HO_241001
            clear HO_241004
            clear HO_242001
            clear HO_242004
            clear HO246
            clear BK240
            clear BK241
            clear HB
            have HO_241001 := n0_
            have HO_241004 := n1_
            have HO_242001 := n2_
            have HO_242004 := n3_
            have HO246 := n4_
            have BK240 := n5_
            have BK241 := n6_
            have HB := n7_
            clear n0_ n1_ n2_ n3_ n4_ n5_ n6_ n7_
            (try clear hb)
            (try clear hb2)
            (try clear hk)
            (try clear hi)
            refine hK.out _ _ ⟨(blk_cell BK240.out 0).trans rfl, (blk_cell BK240.out 1).trans rfl, (blk_cell BK240.out 2).trans rfl, (blk_cell BK240.out 3).trans rfl, (blk_cell BK240.out 4).trans rfl, (blk_cell BK240.out 5).trans rfl, (blk_cell BK240.out 6).trans rfl, (blk_cell BK241.out 0).trans rfl, (blk_cell BK241.out 1).trans rfl, (blk_cell BK241.out 2).trans rfl, (blk_cell BK241.out 3).trans rfl, (blk_cell BK241.out 4).trans rfl, (blk_cell BK241.out 5).trans rfl, (blk_cell BK241.out 6).trans rfl⟩ (fun hHeld => ?_)
            clear hK K
            refine norm_ (a' := ?_) ?_ ?_
            rotate_left
            · show Act.put _ (some 16) _ = _
              simp only [Act.put, List.setIfInBounds_toArray, List.set_cons_zero, List.set_cons_succ, i64_w, i32_w]
              rfl
            refine pure_ (i := 4) (N := some 17) (v := ?_) (a' := ?_) #[true, true, true, true, true, false, false, false, false, false, false, false, false, false, false, false, false, false, false, false, false, false, false, false] rfl rfl (any_of HT_.out (by kernel_rfl)) (fun _ _ _ h => h) (Or.inl ⟨by rfl, ?_⟩) ?_ ?_
            rotate_left
            · intro w'
              go_simp
              with_reducible rfl
            rotate_left
            · simp only [Act.put, List.setIfInBounds_toArray, List.set_cons_zero, List.set_cons_succ, i64_w, i32_w]
              rfl
            refine pure_ (i := 5) (N := some 18) (v := ?_) (a' := ?_) #[true, true, true, true, true, true, false, false, false, false, false, false, false, false, false, false, false, false, false, false, false, false, false, false] rfl rfl (any_of HT_.out (by kernel_rfl)) (fun _ _ _ h => h) (Or.inl ⟨by rfl, ?_⟩) ?_ ?_
            rotate_left
            · intro w'
              go_simp
              with_reducible rfl
            rotate_left
            · simp only [Act.put, List.setIfInBounds_toArray, List.set_cons_zero, List.set_cons_succ, i64_w, i32_w]
              rfl
            refine take_ (i := 6) (N := some 19) (v := ?_) (a' := ?_) #[true, true, true, true, true, true, true, false, false, false, false, false, false, false, false, false, false, false, false, false, false, false, false, false] rfl rfl (take_ofW HT_.out HW_.out (by kernel_rfl)) (fun _ _ _ h => h) (Or.inl ⟨by rfl, ?_⟩) hHeld ?_ ?_
            rotate_left
            · rintro w' ⟨s0, s1, s2, s3, s4, s5, s6, s7, s8, s9, s10, s11, s12, s13⟩
              go_simp
              with_reducible rfl
            rotate_left
            · simp only [Act.put, List.setIfInBounds_toArray, List.set_cons_zero, List.set_cons_succ, i64_w, i32_w]
              rfl
            refine take_ (i := 7) (N := some 20) (v := ?_) (a' := ?_) #[true, true, true, true, true, true, true, true, false, false, false, false, false, false, false, false, false, false, false, false, false, false, false, false] rfl rfl (take_ofW HT_.out HW_.out (by kernel_rfl)) (fun _ _ _ h => h) (Or.inl ⟨by rfl, ?_⟩) hHeld ?_ ?_
            rotate_left
            · rintro w' ⟨s0, s1, s2, s3, s4, s5, s6, s7, s8, s9, s10, s11, s12, s13⟩
              go_simp
              with_reducible rfl
            rotate_left
            · simp only [Act.put, List.setIfInBounds_toArray, List.set_cons_zero, List.set_cons_succ, i64_w, i32_w]
              rfl
            refine take_ (i := 9) (N := some 22) (v := ?_) (a' := ?_) #[true, true, true, true, true, true, true, true, false, true, false, false, false, false, false, false, false, false, false, false, false, false, false, false] rfl rfl (take_ofW HT_.out HW_.out (by kernel_rfl)) (fun _ _ _ h => h) (Or.inl ⟨by rfl, ?_⟩) hHeld ?_ ?_
            rotate_left
            · rintro w' ⟨s0, s1, s2, s3, s4, s5, s6, s7, s8, s9, s10, s11, s12, s13⟩
              go_simp
              with_reducible rfl
            rotate_left
            · simp only [Act.put, List.setIfInBounds_toArray, List.set_cons_zero, List.set_cons_succ, i64_w, i32_w]
              rfl
            refine take_ (i := 10) (N := some 23) (v := ?_) (a' := ?_) #[true, true, true, true, true, true, true, true, false, true, true, false, false, false, false, false, false, false, false, false, false, false, false, false] rfl rfl (take_ofW HT_.out HW_.out (by kernel_rfl)) (fun _ _ _ h => h) (Or.inl ⟨by rfl, ?_⟩) hHeld ?_ ?_
            rotate_left
            · rintro w' ⟨s0, s1, s2, s3, s4, s5, s6, s7, s8, s9, s10, s11, s12, s13⟩
              go_simp
              with_reducible rfl
            rotate_left
            · simp only [Act.put, List.setIfInBounds_toArray, List.set_cons_zero, List.set_cons_succ, i64_w, i32_w]
              rfl
            refine one_ (i := 8) (N := some 21) #[true, true, true, true, true, true, true, true, true, true, true, false, false, false, false, false, false, false, false, false, false, false, false, false] rfl rfl (one_of HT_.out (by kernel_rfl)) (by decide) (fun K hK => ?_)
            refine goes_ Try.func71 (by kernel_rfl) rfl #[.agg #[.bool a0_0, .slice A0_1 l0_1.length c0_1, .int .u64 a0_2, .bool a0_3, .slice A0_4 l0_4.length c0_4, .int .u64 a0_5, .bool a0_6], .agg #[.bool a1_0, .slice A1_1 l1_1.length c1_1, .int .u64 a1_2, .bool a1_3, .slice A1_4 l1_4.length c1_4, .int .u64 a1_5, .bool a1_6]] (by rfl) rfl rfl (by (try simp only [List.map_toArray, List.map_cons, List.map_nil]); first | done | rfl | (simp only [List.length_drop, List.length_take]; rfl)) ?_
            with_reducible refine (impl_Overlap.calls kj2 a0_0 _ _ l0_1 a0_2 a0_3 _ _ l0_4 a0_5 a0_6 a1_0 _ _ l1_1 a1_2 a1_3 _ _ l1_4 a1_5 a1_6 t248 _ ?side1 ?side2 ?side3 ?side4 ?side5 ?side6 ?side7 ?side8 A20.out).mono ?_
            (case side1 => repeat (first | exact (Kd.V_reads' HO_241001.out).2.2 | (with_reducible refine Kd.C_alloc ?_ _) | (with_reducible refine Kd.C_drewN ?_ _) | (with_reducible refine Kd.C_drew ?_)))
            (case side2 => exact (Kd.V_reads' HO_241001.out).2.1)
            (case side3 => repeat (first | exact (Kd.V_reads' HO_241004.out).2.2 | (with_reducible refine Kd.C_alloc ?_ _) | (with_reducible refine Kd.C_drewN ?_ _) | (with_reducible refine Kd.C_drew ?_)))
            (case side4 => exact (Kd.V_reads' HO_241004.out).2.1)
            (case side5 => repeat (first | exact (Kd.V_reads' HO_242001.out).2.2 | (with_reducible refine Kd.C_alloc ?_ _) | (with_reducible refine Kd.C_drewN ?_ _) | (with_reducible refine Kd.C_drew ?_)))
            (case side6 => exact (Kd.V_reads' HO_242001.out).2.1)
            (case side7 => repeat (first | exact (Kd.V_reads' HO_242004.out).2.2 | (with_reducible refine Kd.C_alloc ?_ _) | (with_reducible refine Kd.C_drewN ?_ _) | (with_reducible refine Kd.C_drew ?_)))
            (case side8 => exact (Kd.V_reads' HO_242004.out).2.1)
            rintro e w39 ⟨rfl, hb⟩
            refine ⟨_, rfl, ?_⟩
            have n0_ := Aside0.mk (Kd.V_below (by (with_reducible repeat (first | apply Kd.V_alloc | apply Kd.V_drewN | apply Kd.V_drew)); exact HO_241001.out) hb)
            have n1_ := Aside0.mk (Kd.V_below (by (with_reducible repeat (first | apply Kd.V_alloc | apply Kd.V_drewN | apply Kd.V_drew)); exact HO_241004.out) hb)
            have n2_ := Aside0.mk (Kd.V_below (by (with_reducible repeat (first | apply Kd.V_alloc | apply Kd.V_drewN | apply Kd.V_drew)); exact HO_242001.out) hb)
            have n3_ := Aside0.mk (Kd.V_below (by (with_reducible repeat (first | apply Kd.V_alloc | apply Kd.V_drewN | apply Kd.V_drew)); exact HO_242004.out) hb)
            have n4_ := Aside0.mk (Kd.N_below (by (with_reducible repeat (first | apply Kd.N_alloc | apply Kd.N_drewN | apply Kd.N_drew)); exact HO246.out) hb)
            have n5_ := Aside0.mk (blk_below (g := gb240) (o := .cells #[.bool a0_0, .slice A0_1 l0_1.length c0_1, .int .u64 a0_2, .bool a0_3, .slice A0_4 l0_4.length c0_4, .int .u64 a0_5, .bool a0_6] 63 (0, 0)) (by (with_reducible repeat (first | refine blk_drewN ?_ _ | refine blk_drew ?_ | refine blk_alloc ?_ _)); exact BK240.out) hb)
            have n6_ := Aside0.mk (blk_below (g := gb241) (o := .cells #[.bool a1_0, .slice A1_1 l1_1.length c1_1, .int .u64 a1_2, .bool a1_3, .slice A1_4 l1_4.length c1_4, .int .u64 a1_5, .bool a1_6] 63 (0, 0)) (by (with_reducible repeat (first | refine blk_drewN ?_ _ | refine blk_drew ?_ | refine blk_alloc ?_ _)); exact BK241.out) hb)
            have n7_ := Aside0.mk (below_step (by repeat (first | (with_reducible first | exact HB.out | apply below_alloc | apply pw_below_drewN | apply below_drew1 | refine below_set ?_ GE240.out | refine below_set ?_ GE241.out) | exact HB.out)) hb)
            clear HO_241001
            clear HO_241004
            clear HO_242001
            clear HO_242004
            clear HO246
            clear BK240
            clear BK241
            clear HB
            have HO_241001 := n0_
            have HO_241004 := n1_
            have HO_242001 := n2_
            have HO_242004 := n3_
            have HO246 := n4_
            have BK240 := n5_
            have BK241 := n6_
            have HB := n7_
            clear n0_ n1_ n2_ n3_ n4_ n5_ n6_ n7_
            (try clear hb)
            (try clear hb2)
            (try clear hk)
            (try clear hi)
            refine hK.out _ _ ⟨(blk_cell BK240.out 0).trans rfl, (blk_cell BK240.out 1).trans rfl, (blk_cell BK240.out 2).trans rfl, (blk_cell BK240.out 3).trans rfl, (blk_cell BK240.out 4).trans rfl, (blk_cell BK240.out 5).trans rfl, (blk_cell BK240.out 6).trans rfl, (blk_cell BK241.out 0).trans rfl, (blk_cell BK241.out 1).trans rfl, (blk_cell BK241.out 2).trans rfl, (blk_cell BK241.out 3).trans rfl, (blk_cell BK241.out 4).trans rfl, (blk_cell BK241.out 5).trans rfl, (blk_cell BK241.out 6).trans rfl⟩ (fun hHeld => ?_)
            clear hK K
            refine norm_ (a' := ?_) ?_ ?_
            rotate_left
            · show Act.put _ (some 21) _ = _
              simp only [Act.put, List.setIfInBounds_toArray, List.set_cons_zero, List.set_cons_succ, i64_w, i32_w]
              rfl
            refine one_ (i := 11) (N := some 24) #[true, true, true, true, true, true, true, true, true, true, true, true, false, false, false, false, false, false, false, false, false, false, false, false] rfl rfl (one_of HT_.out (by kernel_rfl)) (by decide) (fun K hK => ?_)
            refine goes_ Try.func72 (by kernel_rfl) rfl #[.agg #[.bool a0_0, .slice A0_1 l0_1.length c0_1, .int .u64 a0_2, .bool a0_3, .slice A0_4 l0_4.length c0_4, .int .u64 a0_5, .bool a0_6], .agg #[.bool a1_0, .slice A1_1 l1_1.length c1_1, .int .u64 a1_2, .bool a1_3, .slice A1_4 l1_4.length c1_4, .int .u64 a1_5, .bool a1_6]] (by rfl) rfl rfl (by (try simp only [List.map_toArray, List.map_cons, List.map_nil]); first | done | rfl | (simp only [List.length_drop, List.length_take]; rfl)) ?_
            with_reducible refine (spec_Meet.calls a0_0 _ _ l0_1 a0_2 a0_3 _ _ l0_4 a0_5 a0_6 a1_0 _ _ l1_1 a1_2 a1_3 _ _ l1_4 a1_5 a1_6 t249 _ ?side1 ?side2 ?side3 ?side4 ?side5 ?side6 ?side7 ?side8 A21.out).mono ?_
            (case side1 => repeat (first | exact (Kd.V_reads' HO_241001.out).2.2 | (with_reducible refine Kd.C_alloc ?_ _) | (with_reducible refine Kd.C_drewN ?_ _) | (with_reducible refine Kd.C_drew ?_)))
            (case side2 => exact (Kd.V_reads' HO_241001.out).2.1)
            (case side3 => repeat (first | exact (Kd.V_reads' HO_241004.out).2.2 | (with_reducible refine Kd.C_alloc ?_ _) | (with_reducible refine Kd.C_drewN ?_ _) | (with_reducible refine Kd.C_drew ?_)))
            (case side4 => exact (Kd.V_reads' HO_241004.out).2.1)
            (case side5 => repeat (first | exact (Kd.V_reads' HO_242001.out).2.2 | (with_reducible refine Kd.C_alloc ?_ _) | (with_reducible refine Kd.C_drewN ?_ _) | (with_reducible refine Kd.C_drew ?_)))
            (case side6 => exact (Kd.V_reads' HO_242001.out).2.1)
            (case side7 => repeat (first | exact (Kd.V_reads' HO_242004.out).2.2 | (with_reducible refine Kd.C_alloc ?_ _) | (with_reducible refine Kd.C_drewN ?_ _) | (with_reducible refine Kd.C_drew ?_)))
            (case side8 => exact (Kd.V_reads' HO_242004.out).2.1)
            rintro e w40 ⟨rfl, hb⟩
            refine ⟨_, rfl, ?_⟩
            have n0_ := Aside0.mk (Kd.V_below (by (with_reducible repeat (first | apply Kd.V_alloc | apply Kd.V_drewN | apply Kd.V_drew)); exact HO_241001.out) hb)
            have n1_ := Aside0.mk (Kd.V_below (by (with_reducible repeat (first | apply Kd.V_alloc | apply Kd.V_drewN | apply Kd.V_drew)); exact HO_241004.out) hb)
            have n2_ := Aside0.mk (Kd.V_below (by (with_reducible repeat (first | apply Kd.V_alloc | apply Kd.V_drewN | apply Kd.V_drew)); exact HO_242001.out) hb)
            have n3_ := Aside0.mk (Kd.V_below (by (with_reducible repeat (first | apply Kd.V_alloc | apply Kd.V_drewN | apply Kd.V_drew)); exact HO_242004.out) hb)
            have n4_ := Aside0.mk (Kd.N_below (by (with_reducible repeat (first | apply Kd.N_alloc | apply Kd.N_drewN | apply Kd.N_drew)); exact HO246.out) hb)
            have n5_ := Aside0.mk (blk_below (g := gb240) (o := .cells #[.bool a0_0, .slice A0_1 l0_1.length c0_1, .int .u64 a0_2, .bool a0_3, .slice A0_4 l0_4.length c0_4, .int .u64 a0_5, .bool a0_6] 63 (0, 0)) (by (with_reducible repeat (first | refine blk_drewN ?_ _ | refine blk_drew ?_ | refine blk_alloc ?_ _)); exact BK240.out) hb)
            have n6_ := Aside0.mk (blk_below (g := gb241) (o := .cells #[.bool a1_0, .slice A1_1 l1_1.length c1_1, .int .u64 a1_2, .bool a1_3, .slice A1_4 l1_4.length c1_4, .int .u64 a1_5, .bool a1_6] 63 (0, 0)) (by (with_reducible repeat (first | refine blk_drewN ?_ _ | refine blk_drew ?_ | refine blk_alloc ?_ _)); exact BK241.out) hb)
            have n7_ := Aside0.mk (below_step (by repeat (first | (with_reducible first | exact HB.out | apply below_alloc | apply pw_below_drewN | apply below_drew1 | refine below_set ?_ GE240.out | refine below_set ?_ GE241.out) | exact HB.out)) hb)
            clear HO_241001
            clear HO_241004
            clear HO_242001
            clear HO_242004
            clear HO246
            clear BK240
            clear BK241
            clear HB
            have HO_241001 := n0_
            have HO_241004 := n1_
            have HO_242001 := n2_
            have HO_242004 := n3_
            have HO246 := n4_
            have BK240 := n5_
            have BK241 := n6_
            have HB := n7_
            clear n0_ n1_ n2_ n3_ n4_ n5_ n6_ n7_
            (try clear hb)
            (try clear hb2)
            (try clear hk)
            (try clear hi)
            refine hK.out _ _ ⟨(blk_cell BK240.out 0).trans rfl, (blk_cell BK240.out 1).trans rfl, (blk_cell BK240.out 2).trans rfl, (blk_cell BK240.out 3).trans rfl, (blk_cell BK240.out 4).trans rfl, (blk_cell BK240.out 5).trans rfl, (blk_cell BK240.out 6).trans rfl, (blk_cell BK241.out 0).trans rfl, (blk_cell BK241.out 1).trans rfl, (blk_cell BK241.out 2).trans rfl, (blk_cell BK241.out 3).trans rfl, (blk_cell BK241.out 4).trans rfl, (blk_cell BK241.out 5).trans rfl, (blk_cell BK241.out 6).trans rfl⟩ (fun hHeld => ?_)
            clear hK K
            refine norm_ (a' := ?_) ?_ ?_
            rotate_left
            · show Act.put _ (some 24) _ = _
              simp only [Act.put, List.setIfInBounds_toArray, List.set_cons_zero, List.set_cons_succ, i64_w, i32_w]
              rfl
            refine pure_ (i := 12) (N := some 25) (v := ?_) (a' := ?_) #[true, true, true, true, true, true, true, true, true, true, true, true, true, false, false, false, false, false, false, false, false, false, false, false] rfl rfl (any_of HT_.out (by kernel_rfl)) (fun _ _ _ h => h) (Or.inl ⟨by rfl, ?_⟩) ?_ ?_
            rotate_left
            · intro w'
              go_simp
              with_reducible rfl
            rotate_left
            · simp only [Act.put, List.setIfInBounds_toArray, List.set_cons_zero, List.set_cons_succ, i64_w, i32_w]
              rfl
            refine pure_ (i := 13) (N := some 26) (v := ?_) (a' := ?_) #[true, true, true, true, true, true, true, true, true, true, true, true, true, true, false, false, false, false, false, false, false, false, false, false] rfl rfl (any_of HT_.out (by kernel_rfl)) (fun _ _ _ h => h) (Or.inl ⟨by rfl, ?_⟩) ?_ ?_
            rotate_left
            · intro w'
              go_simp
              with_reducible rfl
            rotate_left
            · simp only [Act.put, List.setIfInBounds_toArray, List.set_cons_zero, List.set_cons_succ, i64_w, i32_w]
              rfl
            refine pure_ (i := 14) (N := some 27) (v := undef) (a' := ?_) #[true, true, true, true, true, true, true, true, true, true, true, true, true, true, true, false, false, false, false, false, false, false, false, false] rfl rfl (any_of HT_.out (by kernel_rfl)) (fun _ _ _ h => h) (Or.inr ⟨by rfl, rfl⟩) ?_ ?_
            rotate_left
            · simp only [Act.put, List.setIfInBounds_toArray, List.set_cons_zero, List.set_cons_succ, i64_w, i32_w]
              rfl
            refine pure_ (i := 15) (N := some 28) (v := undef) (a' := ?_) #[true, true, true, true, true, true, true, true, true, true, true, true, true, true, true, true, false, false, false, false, false, false, false, false] rfl rfl (any_of HT_.out (by kernel_rfl)) (fun _ _ _ h => h) (Or.inr ⟨by rfl, rfl⟩) ?_ ?_
            rotate_left
            · simp only [Act.put, List.setIfInBounds_toArray, List.set_cons_zero, List.set_cons_succ, i64_w, i32_w]
              rfl
            refine pure_ (i := 16) (N := some 29) (v := undef) (a' := ?_) #[true, true, true, true, true, true, true, true, true, true, true, true, true, true, true, true, true, false, false, false, false, false, false, false] rfl rfl (any_of HT_.out (by kernel_rfl)) (fun _ _ _ h => h) (Or.inr ⟨by rfl, rfl⟩) ?_ ?_
            rotate_left
            · simp only [Act.put, List.setIfInBounds_toArray, List.set_cons_zero, List.set_cons_succ, i64_w, i32_w]
              rfl
            refine pure_ (i := 17) (N := some 30) (v := undef) (a' := ?_) #[true, true, true, true, true, true, true, true, true, true, true, true, true, true, true, true, true, true, false, false, false, false, false, false] rfl rfl (any_of HT_.out (by kernel_rfl)) (fun _ _ _ h => h) (Or.inr ⟨by rfl, rfl⟩) ?_ ?_
            rotate_left
            · simp only [Act.put, List.setIfInBounds_toArray, List.set_cons_zero, List.set_cons_succ, i64_w, i32_w]
              rfl
            refine pure_ (i := 18) (N := some 31) (v := undef) (a' := ?_) #[true, true, true, true, true, true, true, true, true, true, true, true, true, true, true, true, true, true, true, false, false, false, false, false] rfl rfl (any_of HT_.out (by kernel_rfl)) (fun _ _ _ h => h) (Or.inr ⟨by rfl, rfl⟩) ?_ ?_
            rotate_left
            · simp only [Act.put, List.setIfInBounds_toArray, List.set_cons_zero, List.set_cons_succ, i64_w, i32_w]
              rfl
            refine pure_ (i := 19) (N := some 32) (v := undef) (a' := ?_) #[true, true, true, true, true, true, true, true, true, true, true, true, true, true, true, true, true, true, true, true, false, false, false, false] rfl rfl (any_of HT_.out (by kernel_rfl)) (fun _ _ _ h => h) (Or.inr ⟨by rfl, rfl⟩) ?_ ?_
            rotate_left
            · simp only [Act.put, List.setIfInBounds_toArray, List.set_cons_zero, List.set_cons_succ, i64_w, i32_w]
              rfl
            refine pure_ (i := 20) (N := some 33) (v := undef) (a' := ?_) #[true, true, true, true, true, true, true, true, true, true, true, true, true, true, true, true, true, true, true, true, true, false, false, false] rfl rfl (any_of HT_.out (by kernel_rfl)) (fun _ _ _ h => h) (Or.inr ⟨by rfl, rfl⟩) ?_ ?_
            rotate_left
            · simp only [Act.put, List.setIfInBounds_toArray, List.set_cons_zero, List.set_cons_succ, i64_w, i32_w]
              rfl
            refine pure_ (i := 21) (N := some 34) (v := ?_) (a' := ?_) #[true, true, true, true, true, true, true, true, true, true, true, true, true, true, true, true, true, true, true, true, true, true, false, false] rfl rfl (any_of HT_.out (by kernel_rfl)) (fun _ _ _ h => h) (Or.inl ⟨by rfl, ?_⟩) ?_ ?_
            rotate_left
            · intro w'
              go_simp
              with_reducible rfl
            rotate_left
            · simp only [Act.put, List.setIfInBounds_toArray, List.set_cons_zero, List.set_cons_succ, i64_w, i32_w]
              rfl
            refine pure_ (i := 22) (N := some 35) (v := ?_) (a' := ?_) #[true, true, true, true, true, true, true, true, true, true, true, true, true, true, true, true, true, true, true, true, true, true, true, false] rfl rfl (any_of HT_.out (by kernel_rfl)) (fun _ _ _ h => h) (Or.inl ⟨by rfl, ?_⟩) ?_ ?_
            rotate_left
            · intro w'
              go_simp
              with_reducible rfl
            rotate_left
            · simp only [Act.put, List.setIfInBounds_toArray, List.set_cons_zero, List.set_cons_succ, i64_w, i32_w]
              rfl
            refine pure_ (i := 23) (N := some 4) (v := ?_) (a' := ?_) #[true, true, true, true, true, true, true, true, true, true, true, true, true, true, true, true, true, true, true, true, true, true, true, true] rfl rfl (any_of HT_.out (by kernel_rfl)) (fun _ _ _ h => h) (Or.inl ⟨by rfl, ?_⟩) ?_ ?_
            rotate_left
            · intro w'
              go_simp
              with_reducible rfl
            rotate_left
            · simp only [Act.put, List.setIfInBounds_toArray, List.set_cons_zero, List.set_cons_succ, i64_w, i32_w]
              rfl
            refine done_ (done_of HT_.out (by kernel_rfl)) ?_
            try go_wp2
            go_ret
            exact ⟨by first | rfl | (simp [errW_none, errW_some] <;> rfl) | (simp [*, errW_none, errW_some] <;> rfl), by repeat (first | (with_reducible first | exact HB.out | apply below_alloc | apply pw_below_drewN | apply below_drew1 | refine below_set ?_ GE240.out | refine below_set ?_ GE241.out) | exact HB.out)⟩
        · replace c19 := Bool.eq_false_iff.mpr c19
          subst c19
          have H1 : (some true) = some r := by rw [if_neg (show ¬ (false = true) by decide)] at H; exact H
          clear H
          have H := H1
          clear H1
          obtain rfl := Option.some.inj H
          try go_wp2
          have n0_ := Aside0.mk (Kd.V_drew HO_241001.out)
          have n1_ := Aside0.mk (Kd.V_drew HO_241004.out)
          have n2_ := Aside0.mk (Kd.V_drew HO_242001.out)
          have n3_ := Aside0.mk (Kd.V_drew HO_242004.out)
          have n4_ := Aside0.mk (blk_drew BK240.out)
          have n5_ := Aside0.mk (blk_drew BK241.out)
          have n6_ := Aside0.mk (below_drew1 HB.out)
          clear HO_241001
          clear HO_241004
          clear HO_242001
          clear HO_242004
          clear BK240
          clear BK241
          clear HB
          have HO_241001 := n0_
          have HO_241004 := n1_
          have HO_242001 := n2_
          have HO_242004 := n3_
          have BK240 := n4_
          have BK241 := n5_
          have HB := n6_
          clear n0_ n1_ n2_ n3_ n4_ n5_ n6_
          refine start_ (n := 24) (S := fun w' => w'.cell? ⟨gb240, 0, none⟩ = some (.bool a0_0) ∧ w'.cell? ⟨gb240, 1, none⟩ = some (.slice A0_1 l0_1.length c0_1) ∧ w'.cell? ⟨gb240, 2, none⟩ = some (.int .u64 a0_2) ∧ w'.cell? ⟨gb240, 3, none⟩ = some (.bool a0_3) ∧ w'.cell? ⟨gb240, 4, none⟩ = some (.slice A0_4 l0_4.length c0_4) ∧ w'.cell? ⟨gb240, 5, none⟩ = some (.int .u64 a0_5) ∧ w'.cell? ⟨gb240, 6, none⟩ = some (.bool a0_6) ∧ w'.cell? ⟨gb241, 0, none⟩ = some (.bool a1_0) ∧ w'.cell? ⟨gb241, 1, none⟩ = some (.slice A1_1 l1_1.length c1_1) ∧ w'.cell? ⟨gb241, 2, none⟩ = some (.int .u64 a1_2) ∧ w'.cell? ⟨gb241, 3, none⟩ = some (.bool a1_3) ∧ w'.cell? ⟨gb241, 4, none⟩ = some (.slice A1_4 l1_4.length c1_4) ∧ w'.cell? ⟨gb241, 5, none⟩ = some (.int .u64 a1_5) ∧ w'.cell? ⟨gb241, 6, none⟩ = some (.bool a1_6)) (ds := []) #[false, false, false, false, false, false, false, false, false, false, false, false, false, false, false, false, false, false, false, false, false, false, false, false] (by kernel_rfl) rfl rfl ⟨(blk_cell BK240.out 0).trans rfl, (blk_cell BK240.out 1).trans rfl, (blk_cell BK240.out 2).trans rfl, (blk_cell BK240.out 3).trans rfl, (blk_cell BK240.out 4).trans rfl, (blk_cell BK240.out 5).trans rfl, (blk_cell BK240.out 6).trans rfl, (blk_cell BK241.out 0).trans rfl, (blk_cell BK241.out 1).trans rfl, (blk_cell BK241.out 2).trans rfl, (blk_cell BK241.out 3).trans rfl, (blk_cell BK241.out 4).trans rfl, (blk_cell BK241.out 5).trans rfl, (blk_cell BK241.out 6).trans rfl⟩ (fun hHeld => ?_); refine with_tabW laws_FnRangeOverlap.tab3 laws_FnRangeOverlap.bits3 (fun HT_ HW_ => ?_)
          generalize wc.drew = w41 at HO_241001 HO_241004 HO_242001 HO_242004 BK240 BK241 HB hHeld ⊢
          refine take_ (i := 0) (N := some 13) (v := ?_) (a' := ?_) #[true, false, false, false, false, false, false, false, false, false, false, false, false, false, false, false, false, false, false, false, false, false, false, false] rfl rfl (take_ofW HT_.out HW_.out (by kernel_rfl)) (fun _ _ _ h => h) (Or.inl ⟨by rfl, ?_⟩) hHeld ?_ ?_
          rotate_left
          · rintro w' ⟨s0, s1, s2, s3, s4, s5, s6, s7, s8, s9, s10, s11, s12, s13⟩
            go_simp
            with_reducible rfl
          rotate_left
          · simp only [Act.put, List.setIfInBounds_toArray, List.set_cons_zero, List.set_cons_succ, i64_w, i32_w]
            rfl
          refine take_ (i := 1) (N := some 14) (v := ?_) (a' := ?_) #[true, true, false, false, false, false, false, false, false, false, false, false, false, false, false, false, false, false, false, false, false, false, false, false] rfl rfl (take_ofW HT_.out HW_.out (by kernel_rfl)) (fun _ _ _ h => h) (Or.inl ⟨by rfl, ?_⟩) hHeld ?_ ?_
          rotate_left
          · rintro w' ⟨s0, s1, s2, s3, s4, s5, s6, s7, s8, s9, s10, s11, s12, s13⟩
            go_simp
            with_reducible rfl
          rotate_left
          · simp only [Act.put, List.setIfInBounds_toArray, List.set_cons_zero, List.set_cons_succ, i64_w, i32_w]
            rfl
          refine one_ (i := 2) (N := some 15) #[true, true, true, false, false, false, false, false, false, false, false, false, false, false, false, false, false, false, false, false, false, false, false, false] rfl rfl (one_of HT_.out (by kernel_rfl)) (by decide) (fun K hK => ?_)
          refine Kd.N_lit_step k63 _ 63 ?hg (N' := 15) ?hd (xs := ([(⟨(⟨a0_0, l0_1, a0_2⟩ : S61), (⟨a0_3, l0_4, a0_5⟩ : S61), a0_6⟩ : S63), (⟨(⟨a1_0, l1_1, a1_2⟩ : S61), (⟨a1_3, l1_4, a1_5⟩ : S61), a1_6⟩ : S63)] : List (S63))) (inner := [.bool a0_0, .slice A0_1 l0_1.length c0_1, .int .u64 a0_2, .bool a0_3, .slice A0_4 l0_4.length c0_4, .int .u64 a0_5, .bool a0_6, .bool a1_0, .slice A1_1 l1_1.length c1_1, .int .u64 a1_2, .bool a1_3, .slice A1_4 l1_4.length c1_4, .int .u64 a1_5, .bool a1_6]) (ok := (fun k_ => ((P0_1_ k_ ∨ P0_4_ k_ ∨ P1_1_ k_ ∨ P1_4_ k_) ∨ w.heap.size ≤ k_) ∧ k_ ≠ gb240 ∧ k_ ≠ gb241)) (okp := (fun k_ => ((P0_1_ k_ ∨ P0_4_ k_ ∨ P1_1_ k_ ∨ P1_4_ k_) ∨ w.heap.size ≤ k_) ∧ k_ ≠ gb240 ∧ k_ ≠ gb241)) ?hr ?hp (fun _ hk => hk) ((show ∀ k_, w41.heap.size ≤ k_ → (fun k_ => ((P0_1_ k_ ∨ P0_4_ k_ ∨ P1_1_ k_ ∨ P1_4_ k_) ∨ w.heap.size ≤ k_) ∧ k_ ≠ gb240 ∧ k_ ≠ gb241) k_ from fun k_ hk => ⟨(.inr (Nat.le_trans (below_size (by repeat (first | (with_reducible first | exact HB.out | apply below_alloc | apply pw_below_drewN | apply below_drew1 | refine below_set ?_ GE240.out | refine below_set ?_ GE241.out) | exact HB.out))) hk)), Kd.freshB (g := gb240) (o := .cells #[.bool a0_0, .slice A0_1 l0_1.length c0_1, .int .u64 a0_2, .bool a0_3, .slice A0_4 l0_4.length c0_4, .int .u64 a0_5, .bool a0_6] 63 (0, 0)) (by (with_reducible repeat (first | refine blk_drewN ?_ _ | refine blk_drew ?_ | refine blk_alloc ?_ _)); exact BK240.out) k_ hk, Kd.freshB (g := gb241) (o := .cells #[.bool a1_0, .slice A1_1 l1_1.length c1_1, .int .u64 a1_2, .bool a1_3, .slice A1_4 l1_4.length c1_4, .int .u64 a1_5, .bool a1_6] 63 (0, 0)) (by (with_reducible repeat (first | refine blk_drewN ?_ _ | refine blk_drew ?_ | refine blk_alloc ?_ _)); exact BK241.out) k_ hk⟩) _ (Nat.le_refl _)) (Below.refl _ _) (Nat.le_refl _) (by simp) ?_; (case hd => rfl); (case hg => rfl); (case hr => first | (go_simp; done) | (go_simp; rfl)); (case hp => exact (Reps.c7 (show Kd.FK k63 _ _ (⟨(⟨a0_0, l0_1, a0_2⟩ : S61), (⟨a0_3, l0_4, a0_5⟩ : S61), a0_6⟩ : S63) [.bool a0_0, .slice A0_1 l0_1.length c0_1, .int .u64 a0_2, .bool a0_3, .slice A0_4 l0_4.length c0_4, .int .u64 a0_5, .bool a0_6] from (k63_mkF _ _ (⟨(⟨a0_0, l0_1, a0_2⟩ : S61), (⟨a0_3, l0_4, a0_5⟩ : S61), a0_6⟩ : S63) (Kd.V_reads' (Kd.V_mono (ok' := (fun k_ => ((P0_1_ k_ ∨ P0_4_ k_ ∨ P1_1_ k_ ∨ P1_4_ k_) ∨ w.heap.size ≤ k_) ∧ k_ ≠ gb240 ∧ k_ ≠ gb241)) (HO_241001.out) (fun k_ hk => ⟨hk.1, ⟨hk.2.1, hk.2.2⟩⟩))).2.1 (Kd.V_F (Kd.V_mono (ok' := (fun k_ => ((P0_1_ k_ ∨ P0_4_ k_ ∨ P1_1_ k_ ∨ P1_4_ k_) ∨ w.heap.size ≤ k_) ∧ k_ ≠ gb240 ∧ k_ ≠ gb241)) (HO_241001.out) (fun k_ hk => ⟨hk.1, ⟨hk.2.1, hk.2.2⟩⟩))) (Kd.V_reads' (Kd.V_mono (ok' := (fun k_ => ((P0_1_ k_ ∨ P0_4_ k_ ∨ P1_1_ k_ ∨ P1_4_ k_) ∨ w.heap.size ≤ k_) ∧ k_ ≠ gb240 ∧ k_ ≠ gb241)) (HO_241004.out) (fun k_ hk => ⟨hk.1, ⟨hk.2.1, hk.2.2⟩⟩))).2.1 (Kd.V_F (Kd.V_mono (ok' := (fun k_ => ((P0_1_ k_ ∨ P0_4_ k_ ∨ P1_1_ k_ ∨ P1_4_ k_) ∨ w.heap.size ≤ k_) ∧ k_ ≠ gb240 ∧ k_ ≠ gb241)) (HO_241004.out) (fun k_ hk => ⟨hk.1, ⟨hk.2.1, hk.2.2⟩⟩))))) (Reps.c7 (show Kd.FK k63 _ _ (⟨(⟨a1_0, l1_1, a1_2⟩ : S61), (⟨a1_3, l1_4, a1_5⟩ : S61), a1_6⟩ : S63) [.bool a1_0, .slice A1_1 l1_1.length c1_1, .int .u64 a1_2, .bool a1_3, .slice A1_4 l1_4.length c1_4, .int .u64 a1_5, .bool a1_6] from (k63_mkF _ _ (⟨(⟨a1_0, l1_1, a1_2⟩ : S61), (⟨a1_3, l1_4, a1_5⟩ : S61), a1_6⟩ : S63) (Kd.V_reads' (Kd.V_mono (ok' := (fun k_ => ((P0_1_ k_ ∨ P0_4_ k_ ∨ P1_1_ k_ ∨ P1_4_ k_) ∨ w.heap.size ≤ k_) ∧ k_ ≠ gb240 ∧ k_ ≠ gb241)) (HO_242001.out) (fun k_ hk => ⟨hk.1, ⟨hk.2.1, hk.2.2⟩⟩))).2.1 (Kd.V_F (Kd.V_mono (ok' := (fun k_ => ((P0_1_ k_ ∨ P0_4_ k_ ∨ P1_1_ k_ ∨ P1_4_ k_) ∨ w.heap.size ≤ k_) ∧ k_ ≠ gb240 ∧ k_ ≠ gb241)) (HO_242001.out) (fun k_ hk => ⟨hk.1, ⟨hk.2.1, hk.2.2⟩⟩))) (Kd.V_reads' (Kd.V_mono (ok' := (fun k_ => ((P0_1_ k_ ∨ P0_4_ k_ ∨ P1_1_ k_ ∨ P1_4_ k_) ∨ w.heap.size ≤ k_) ∧ k_ ≠ gb240 ∧ k_ ≠ gb241)) (HO_242004.out) (fun k_ hk => ⟨hk.1, ⟨hk.2.1, hk.2.2⟩⟩))).2.1 (Kd.V_F (Kd.V_mono (ok' := (fun k_ => ((P0_1_ k_ ∨ P0_4_ k_ ∨ P1_1_ k_ ∨ P1_4_ k_) ∨ w.heap.size ≤ k_) ∧ k_ ≠ gb240 ∧ k_ ≠ gb241)) (HO_242004.out) (fun k_ hk => ⟨hk.1, ⟨hk.2.1, hk.2.2⟩⟩))))) (Reps.none _ _))))
          intro v245 w42 ho43 hb hg_ hnew_
          clear hg_ hnew_
          (first | rw [← Ny244.out] at ho43 | (simp only [Int.reduceToNat] at ho43; rw [← Ny244.out] at ho43))
          have n0_ := Aside0.mk (Kd.V_elder' (by (with_reducible repeat (first | apply Kd.V_alloc | apply Kd.V_drewN | apply Kd.V_drew)); exact HO_241001.out) (Kd.N_base ho43) hb)
          have n1_ := Aside0.mk (Kd.V_elder' (by (with_reducible repeat (first | apply Kd.V_alloc | apply Kd.V_drewN | apply Kd.V_drew)); exact HO_241004.out) (Kd.N_base ho43) hb)
          have n2_ := Aside0.mk (Kd.V_elder' (by (with_reducible repeat (first | apply Kd.V_alloc | apply Kd.V_drewN | apply Kd.V_drew)); exact HO_242001.out) (Kd.N_base ho43) hb)
          have n3_ := Aside0.mk (Kd.V_elder' (by (with_reducible repeat (first | apply Kd.V_alloc | apply Kd.V_drewN | apply Kd.V_drew)); exact HO_242004.out) (Kd.N_base ho43) hb)
          have n4_ := Aside0.mk (Kd.N_lower ho43 (below_size (by repeat (first | (with_reducible first | exact HB.out | apply below_alloc | apply pw_below_drewN | apply below_drew1 | refine below_set ?_ GE240.out | refine below_set ?_ GE241.out) | exact HB.out))))
          have n5_ := Aside0.mk (blk_below (g := gb240) (o := .cells #[.bool a0_0, .slice A0_1 l0_1.length c0_1, .int .u64 a0_2, .bool a0_3, .slice A0_4 l0_4.length c0_4, .int .u64 a0_5, .bool a0_6] 63 (0, 0)) (by (with_reducible repeat (first | refine blk_drewN ?_ _ | refine blk_drew ?_ | refine blk_alloc ?_ _)); exact BK240.out) hb)
          have n6_ := Aside0.mk (blk_below (g := gb241) (o := .cells #[.bool a1_0, .slice A1_1 l1_1.length c1_1, .int .u64 a1_2, .bool a1_3, .slice A1_4 l1_4.length c1_4, .int .u64 a1_5, .bool a1_6] 63 (0, 0)) (by (with_reducible repeat (first | refine blk_drewN ?_ _ | refine blk_drew ?_ | refine blk_alloc ?_ _)); exact BK241.out) hb)
          have n7_ := Aside0.mk (below_step (by repeat (first | (with_reducible first | exact HB.out | apply below_alloc | apply pw_below_drewN | apply below_drew1 | refine below_set ?_ GE240.out | refine below_set ?_ GE241.out) | exact HB.out)) hb)
          clear HO_241001
          clear HO_241004
          clear HO_242001
          clear HO_242004
          clear BK240
          clear BK241
          clear HB
          have HO_241001 := n0_
          have HO_241004 := n1_
          have HO_242001 := n2_
          have HO_242004 := n3_
          have HO246 := n4_
          have BK240 := n5_
          have BK241 := n6_
          have HB := n7_
          clear n0_ n1_ n2_ n3_ n4_ n5_ n6_ n7_
          clear hb ho43
          obtain ⟨Ao44, co44, eo44⟩ := Kd.N_slice HO246.out
          (first | subst eo44 | (injection eo44 with f1_ f2_ f3_; have f4_ := f1_.symm; have f5_ := f3_.symm; clear f1_ f2_ f3_; subst f4_; subst f5_))
          refine hK.out _ _ ⟨(blk_cell BK240.out 0).trans rfl, (blk_cell BK240.out 1).trans rfl, (blk_cell BK240.out 2).trans rfl, (blk_cell BK240.out 3).trans rfl, (blk_cell BK240.out 4).trans rfl, (blk_cell BK240.out 5).trans rfl, (blk_cell BK240.out 6).trans rfl, (blk_cell BK241.out 0).trans rfl, (blk_cell BK241.out 1).trans rfl, (blk_cell BK241.out 2).trans rfl, (blk_cell BK241.out 3).trans rfl, (blk_cell BK241.out 4).trans rfl, (blk_cell BK241.out 5).trans rfl, (blk_cell BK241.out 6).trans rfl⟩ (fun hHeld => ?_)
          clear hK K
          refine norm_ (a' := ?_) ?_ ?_
          rotate_left
          · show Act.put _ (some 15) _ = _
            simp only [Act.put, List.setIfInBounds_toArray, List.set_cons_zero, List.set_cons_succ, i64_w, i32_w]
            rfl
          refine one_ (i := 3) (N := some 16) #[true, true, true, true, false, false, false, false, false, false, false, false, false, false, false, false, false, false, false, false, false, false, false, false] rfl rfl (one_of HT_.out (by kernel_rfl)) (by decide) (fun K hK => ?_)
          refine goes_ Try.func53 (by kernel_rfl) rfl #[.slice Ao44 y244.length co44] (by rfl) rfl rfl (by (try simp only [List.map_toArray, List.map_cons, List.map_nil]); first | done | rfl | (simp only [List.length_drop, List.length_take]; rfl)) ?_
          with_reducible refine (laws_rangesOk.calls kj2 _ _ y244 false _ ?side1 ?side2 A18.out).mono ?_
          (case side1 => repeat (first | exact (Kd.N_reads' HO246.out).2.2 | (with_reducible refine Kd.C_alloc ?_ _) | (with_reducible refine Kd.C_drewN ?_ _) | (with_reducible refine Kd.C_drew ?_)))
          (case side2 => exact (Kd.N_reads' HO246.out).2.1)
          rintro e w45 ⟨rfl, hb⟩
          refine ⟨_, rfl, ?_⟩
          have n0_ := Aside0.mk (Kd.V_below (by (with_reducible repeat (first | apply Kd.V_alloc | apply Kd.V_drewN | apply Kd.V_drew)); exact HO_241001.out) hb)
          have n1_ := Aside0.mk (Kd.V_below (by (with_reducible repeat (first | apply Kd.V_alloc | apply Kd.V_drewN | apply Kd.V_drew)); exact HO_241004.out) hb)
          have n2_ := Aside0.mk (Kd.V_below (by (with_reducible repeat (first | apply Kd.V_alloc | apply Kd.V_drewN | apply Kd.V_drew)); exact HO_242001.out) hb)
          have n3_ := Aside0.mk (Kd.V_below (by (with_reducible repeat (first | apply Kd.V_alloc | apply Kd.V_drewN | apply Kd.V_drew)); exact HO_242004.out) hb)
          have n4_ := Aside0.mk (Kd.N_below (by (with_reducible repeat (first | apply Kd.N_alloc | apply Kd.N_drewN | apply Kd.N_drew)); exact HO246.out) hb)
          have n5_ := Aside0.mk (blk_below (g := gb240) (o := .cells #[.bool a0_0, .slice A0_1 l0_1.length c0_1, .int .u64 a0_2, .bool a0_3, .slice A0_4 l0_4.length c0_4, .int .u64 a0_5, .bool a0_6] 63 (0, 0)) (by (with_reducible repeat (first | refine blk_drewN ?_ _ | refine blk_drew ?_ | refine blk_alloc ?_ _)); exact BK240.out) hb)
          have n6_ := Aside0.mk (blk_below (g := gb241) (o := .cells #[.bool a1_0, .slice A1_1 l1_1.length c1_1, .int .u64 a1_2, .bool a1_3, .slice A1_4 l1_4.length c1_4, .int .u64 a1_5, .bool a1_6] 63 (0, 0)) (by (with_reducible repeat (first | refine blk_drewN ?_ _ | refine blk_drew ?_ | refine blk_alloc ?_ _)); exact BK241.out) hb)
          have n7_ := Aside0.mk (below_step (by repeat (first | (with_reducible first | exact HB.out | apply below_alloc | apply pw_below_drewN | apply below_drew1 | refine below_set ?_ GE240.out | refine below_set ?_ GE241.out) | exact HB.out)) hb)
          clear HO_241001
          clear HO_241004
          clear HO_242001
          clear HO_242004
          clear HO246
          clear BK240
          clear BK241
          clear HB
          have HO_241001 := n0_
          have HO_241004 := n1_
          have HO_242001 := n2_
          have HO_242004 := n3_
          have HO246 := n4_
          have BK240 := n5_
          have BK241 := n6_
          have HB := n7_
          clear n0_ n1_ n2_ n3_ n4_ n5_ n6_ n7_
          (try clear hb)
          (try clear hb2)
          (try clear hk)
          (try clear hi)
          refine hK.out _ _ ⟨(blk_cell BK240.out 0).trans rfl, (blk_cell BK240.out 1).trans rfl, (blk_cell BK240.out 2).trans rfl, (blk_cell BK240.out 3).trans rfl, (blk_cell BK240.out 4).trans rfl, (blk_cell BK240.out 5).trans rfl, (blk_cell BK240.out 6).trans rfl, (blk_cell BK241.out 0).trans rfl, (blk_cell BK241.out 1).trans rfl, (blk_cell BK241.out 2).trans rfl, (blk_cell BK241.out 3).trans rfl, (blk_cell BK241.out 4).trans rfl, (blk_cell BK241.out 5).trans rfl, (blk_cell BK241.out 6).trans rfl⟩ (fun hHeld => ?_)
          clear hK K
          refine norm_ (a' := ?_) ?_ ?_
          rotate_left
          · show Act.put _ (some 16) _ = _
            simp only [Act.put, List.setIfInBounds_toArray, List.set_cons_zero, List.set_cons_succ, i64_w, i32_w]
            rfl
          refine pure_ (i := 4) (N := some 17) (v := ?_) (a' := ?_) #[true, true, true, true, true, false, false, false, false, false, false, false, false, false, false, false, false, false, false, false, false, false, false, false] rfl rfl (any_of HT_.out (by kernel_rfl)) (fun _ _ _ h => h) (Or.inl ⟨by rfl, ?_⟩) ?_ ?_
          rotate_left
          · intro w'
            go_simp
            with_reducible rfl
          rotate_left
          · simp only [Act.put, List.setIfInBounds_toArray, List.set_cons_zero, List.set_cons_succ, i64_w, i32_w]
            rfl
          refine pure_ (i := 5) (N := some 18) (v := ?_) (a' := ?_) #[true, true, true, true, true, true, false, false, false, false, false, false, false, false, false, false, false, false, false, false, false, false, false, false] rfl rfl (any_of HT_.out (by kernel_rfl)) (fun _ _ _ h => h) (Or.inl ⟨by rfl, ?_⟩) ?_ ?_
          rotate_left
          · intro w'
            go_simp
            with_reducible rfl
          rotate_left
          · simp only [Act.put, List.setIfInBounds_toArray, List.set_cons_zero, List.set_cons_succ, i64_w, i32_w]
            rfl
          refine pure_ (i := 6) (N := some 19) (v := undef) (a' := ?_) #[true, true, true, true, true, true, true, false, false, false, false, false, false, false, false, false, false, false, false, false, false, false, false, false] rfl rfl (any_of HT_.out (by kernel_rfl)) (fun _ _ _ h => h) (Or.inr ⟨by rfl, rfl⟩) ?_ ?_
          rotate_left
          · simp only [Act.put, List.setIfInBounds_toArray, List.set_cons_zero, List.set_cons_succ, i64_w, i32_w]
            rfl
          refine pure_ (i := 7) (N := some 20) (v := undef) (a' := ?_) #[true, true, true, true, true, true, true, true, false, false, false, false, false, false, false, false, false, false, false, false, false, false, false, false] rfl rfl (any_of HT_.out (by kernel_rfl)) (fun _ _ _ h => h) (Or.inr ⟨by rfl, rfl⟩) ?_ ?_
          rotate_left
          · simp only [Act.put, List.setIfInBounds_toArray, List.set_cons_zero, List.set_cons_succ, i64_w, i32_w]
            rfl
          refine pure_ (i := 8) (N := some 21) (v := undef) (a' := ?_) #[true, true, true, true, true, true, true, true, true, false, false, false, false, false, false, false, false, false, false, false, false, false, false, false] rfl rfl (any_of HT_.out (by kernel_rfl)) (fun _ _ _ h => h) (Or.inr ⟨by rfl, rfl⟩) ?_ ?_
          rotate_left
          · simp only [Act.put, List.setIfInBounds_toArray, List.set_cons_zero, List.set_cons_succ, i64_w, i32_w]
            rfl
          refine pure_ (i := 9) (N := some 22) (v := undef) (a' := ?_) #[true, true, true, true, true, true, true, true, true, true, false, false, false, false, false, false, false, false, false, false, false, false, false, false] rfl rfl (any_of HT_.out (by kernel_rfl)) (fun _ _ _ h => h) (Or.inr ⟨by rfl, rfl⟩) ?_ ?_
          rotate_left
          · simp only [Act.put, List.setIfInBounds_toArray, List.set_cons_zero, List.set_cons_succ, i64_w, i32_w]
            rfl
          refine pure_ (i := 10) (N := some 23) (v := undef) (a' := ?_) #[true, true, true, true, true, true, true, true, true, true, true, false, false, false, false, false, false, false, false, false, false, false, false, false] rfl rfl (any_of HT_.out (by kernel_rfl)) (fun _ _ _ h => h) (Or.inr ⟨by rfl, rfl⟩) ?_ ?_
          rotate_left
          · simp only [Act.put, List.setIfInBounds_toArray, List.set_cons_zero, List.set_cons_succ, i64_w, i32_w]
            rfl
          refine pure_ (i := 11) (N := some 24) (v := undef) (a' := ?_) #[true, true, true, true, true, true, true, true, true, true, true, true, false, false, false, false, false, false, false, false, false, false, false, false] rfl rfl (any_of HT_.out (by kernel_rfl)) (fun _ _ _ h => h) (Or.inr ⟨by rfl, rfl⟩) ?_ ?_
          rotate_left
          · simp only [Act.put, List.setIfInBounds_toArray, List.set_cons_zero, List.set_cons_succ, i64_w, i32_w]
            rfl
          refine pure_ (i := 12) (N := some 25) (v := undef) (a' := ?_) #[true, true, true, true, true, true, true, true, true, true, true, true, true, false, false, false, false, false, false, false, false, false, false, false] rfl rfl (any_of HT_.out (by kernel_rfl)) (fun _ _ _ h => h) (Or.inr ⟨by rfl, rfl⟩) ?_ ?_
          rotate_left
          · simp only [Act.put, List.setIfInBounds_toArray, List.set_cons_zero, List.set_cons_succ, i64_w, i32_w]
            rfl
          refine pure_ (i := 13) (N := some 26) (v := undef) (a' := ?_) #[true, true, true, true, true, true, true, true, true, true, true, true, true, true, false, false, false, false, false, false, false, false, false, false] rfl rfl (any_of HT_.out (by kernel_rfl)) (fun _ _ _ h => h) (Or.inr ⟨by rfl, rfl⟩) ?_ ?_
          rotate_left
          · simp only [Act.put, List.setIfInBounds_toArray, List.set_cons_zero, List.set_cons_succ, i64_w, i32_w]
            rfl
          refine pure_ (i := 14) (N := some 27) (v := undef) (a' := ?_) #[true, true, true, true, true, true, true, true, true, true, true, true, true, true, true, false, false, false, false, false, false, false, false, false] rfl rfl (any_of HT_.out (by kernel_rfl)) (fun _ _ _ h => h) (Or.inr ⟨by rfl, rfl⟩) ?_ ?_
          rotate_left
          · simp only [Act.put, List.setIfInBounds_toArray, List.set_cons_zero, List.set_cons_succ, i64_w, i32_w]
            rfl
          refine pure_ (i := 15) (N := some 28) (v := undef) (a' := ?_) #[true, true, true, true, true, true, true, true, true, true, true, true, true, true, true, true, false, false, false, false, false, false, false, false] rfl rfl (any_of HT_.out (by kernel_rfl)) (fun _ _ _ h => h) (Or.inr ⟨by rfl, rfl⟩) ?_ ?_
          rotate_left
          · simp only [Act.put, List.setIfInBounds_toArray, List.set_cons_zero, List.set_cons_succ, i64_w, i32_w]
            rfl
          refine pure_ (i := 16) (N := some 29) (v := undef) (a' := ?_) #[true, true, true, true, true, true, true, true, true, true, true, true, true, true, true, true, true, false, false, false, false, false, false, false] rfl rfl (any_of HT_.out (by kernel_rfl)) (fun _ _ _ h => h) (Or.inr ⟨by rfl, rfl⟩) ?_ ?_
          rotate_left
          · simp only [Act.put, List.setIfInBounds_toArray, List.set_cons_zero, List.set_cons_succ, i64_w, i32_w]
            rfl
          refine pure_ (i := 17) (N := some 30) (v := undef) (a' := ?_) #[true, true, true, true, true, true, true, true, true, true, true, true, true, true, true, true, true, true, false, false, false, false, false, false] rfl rfl (any_of HT_.out (by kernel_rfl)) (fun _ _ _ h => h) (Or.inr ⟨by rfl, rfl⟩) ?_ ?_
          rotate_left
          · simp only [Act.put, List.setIfInBounds_toArray, List.set_cons_zero, List.set_cons_succ, i64_w, i32_w]
            rfl
          refine pure_ (i := 18) (N := some 31) (v := undef) (a' := ?_) #[true, true, true, true, true, true, true, true, true, true, true, true, true, true, true, true, true, true, true, false, false, false, false, false] rfl rfl (any_of HT_.out (by kernel_rfl)) (fun _ _ _ h => h) (Or.inr ⟨by rfl, rfl⟩) ?_ ?_
          rotate_left
          · simp only [Act.put, List.setIfInBounds_toArray, List.set_cons_zero, List.set_cons_succ, i64_w, i32_w]
            rfl
          refine pure_ (i := 19) (N := some 32) (v := undef) (a' := ?_) #[true, true, true, true, true, true, true, true, true, true, true, true, true, true, true, true, true, true, true, true, false, false, false, false] rfl rfl (any_of HT_.out (by kernel_rfl)) (fun _ _ _ h => h) (Or.inr ⟨by rfl, rfl⟩) ?_ ?_
          rotate_left
          · simp only [Act.put, List.setIfInBounds_toArray, List.set_cons_zero, List.set_cons_succ, i64_w, i32_w]
            rfl
          refine pure_ (i := 20) (N := some 33) (v := undef) (a' := ?_) #[true, true, true, true, true, true, true, true, true, true, true, true, true, true, true, true, true, true, true, true, true, false, false, false] rfl rfl (any_of HT_.out (by kernel_rfl)) (fun _ _ _ h => h) (Or.inr ⟨by rfl, rfl⟩) ?_ ?_
          rotate_left
          · simp only [Act.put, List.setIfInBounds_toArray, List.set_cons_zero, List.set_cons_succ, i64_w, i32_w]
            rfl
          refine pure_ (i := 21) (N := some 34) (v := undef) (a' := ?_) #[true, true, true, true, true, true, true, true, true, true, true, true, true, true, true, true, true, true, true, true, true, true, false, false] rfl rfl (any_of HT_.out (by kernel_rfl)) (fun _ _ _ h => h) (Or.inr ⟨by rfl, rfl⟩) ?_ ?_
          rotate_left
          · simp only [Act.put, List.setIfInBounds_toArray, List.set_cons_zero, List.set_cons_succ, i64_w, i32_w]
            rfl
          refine pure_ (i := 22) (N := some 35) (v := ?_) (a' := ?_) #[true, true, true, true, true, true, true, true, true, true, true, true, true, true, true, true, true, true, true, true, true, true, true, false] rfl rfl (any_of HT_.out (by kernel_rfl)) (fun _ _ _ h => h) (Or.inl ⟨by rfl, ?_⟩) ?_ ?_
          rotate_left
          · intro w'
            go_simp
            with_reducible rfl
          rotate_left
          · simp only [Act.put, List.setIfInBounds_toArray, List.set_cons_zero, List.set_cons_succ, i64_w, i32_w]
            rfl
          refine pure_ (i := 23) (N := some 4) (v := ?_) (a' := ?_) #[true, true, true, true, true, true, true, true, true, true, true, true, true, true, true, true, true, true, true, true, true, true, true, true] rfl rfl (any_of HT_.out (by kernel_rfl)) (fun _ _ _ h => h) (Or.inl ⟨by rfl, ?_⟩) ?_ ?_
          rotate_left
          · intro w'
            go_simp
            with_reducible rfl
          rotate_left
          · simp only [Act.put, List.setIfInBounds_toArray, List.set_cons_zero, List.set_cons_succ, i64_w, i32_w]
            rfl
          refine done_ (done_of HT_.out (by kernel_rfl)) ?_
          try go_wp2
          go_ret
          exact ⟨by first | rfl | (simp [errW_none, errW_some] <;> rfl) | (simp [*, errW_none, errW_some] <;> rfl), by repeat (first | (with_reducible first | exact HB.out | apply below_alloc | apply pw_below_drewN | apply below_drew1 | refine below_set ?_ GE240.out | refine below_set ?_ GE241.out) | exact HB.out)⟩

end Go.Proofs.YtadhdimleabljaaQ.QR
