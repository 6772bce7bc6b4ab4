-- Lines that a program has printed for this claim: functions as plain Lean functions, and their walks.
import Derived.Test.YtbbncbjdpopkiaaQE0
namespace Go.Proofs.YtbbncbjdpopkiaaQ.QE
open Go.RowKit Go.Proofs.YtbbncbjdpopkiaaQ.Ext Go.Proofs.YtbbncbjdpopkiaaW.PrintWords Go.Proofs.YtbbncbjdpopkiaaW.PrintLast Go.Proofs.YtbbncbjdpopkiaaW.PrintMore
attribute [local go_sem] max2_int min2_int max_two min_two max_three min_three max_four min_four   -- for this text's walks alone
set_option linter.unusedVariables false
set_option linter.unusedSimpArgs false

/-! ### laws_zzFits5: function 13 -/
def laws_zzFits5.f (a0_0 : Bool) (l0_1 : List Int) (a0_2 : Int) : Option (Bool) := if (l0_1.length : Int) > 2147483647 then (some false) else (some true)
set_option maxHeartbeats 8000000 in
set_option maxRecDepth 100000 in
theorem laws_zzFits5.calls (a0_0 : Bool) (A0_1 : Option Addr) (c0_1 : Nat) (l0_1 : List Int) (a0_2 : Int) (r : Bool) (w : World) (hr0_1 : Kd.C (Kd.int .u8) w A0_1 l0_1.length l0_1) (hc0_1 : l0_1.length ≤ c0_1) (h : laws_zzFits5.f a0_0 l0_1 a0_2 = some r) :
    Calls Try.prog 13 #[.agg #[.bool a0_0, .slice A0_1 l0_1.length c0_1, .int .u64 a0_2]] w fun e w' => e = .returned (.bool r) ∧ Below w.heap.size w w' := by
  have hu25 := Try.underlying25
  have HR0_1 := Aside0.mk hr0_1
  have HC0_1 := Aside0.mk hc0_1
  clear hr0_1 hc0_1
  have HB := Aside0.mk (Below.refl w.heap.size w)
  have H : (if (l0_1.length : Int) > 2147483647 then (some false) else (some true)) = some r := h
  clear h
  by_cases c2 : (l0_1.length : Int) > 2147483647
  · rw [if_pos c2] at H
    have c2b0 : decide (2147483647 < (l0_1.length : Int)) = true := decide_eq_true c2
    have c2b1 : decide (2147483647 < l0_1.length) = true := decide_eq_true (by omega)
    clear c2
    obtain rfl := Option.some.inj H
    go_enter Try.func13, Try.ntmps13
    go_wp2_with (first | ((with_reducible refine gate_dst (N := 1) rfl ?_); refine box_event ?hg (N := 1) ?hd (cs := #[.bool a0_0, .slice A0_1 l0_1.length c0_1, .int .u64 a0_2]) (t := 25) ?hr ?_; (case hd => rfl); (case hg => rfl); (case hr => first | (go_simp; done) | (go_simp; rfl)); intro gb101 hg w3 hbox hb; have n0_ := Aside0.mk (below_step (by repeat (first | (with_reducible first | exact HB.out | apply below_alloc | apply pw_below_drewN | apply below_drew1) | exact HB.out)) hb); have n1_ := Aside0.mk (hbox); have n2_ := Aside0.mk ((by rw [hg]; exact (below_size (by repeat (first | (with_reducible first | exact HB.out | apply below_alloc | apply pw_below_drewN | apply below_drew1) | exact HB.out))) : w.heap.size ≤ gb101)); have n3_ := Aside0.mk ((by rw [hg]; exact (below_size (by repeat (first | (with_reducible first | exact HB.out | apply below_alloc | apply pw_below_drewN | apply below_drew1) | exact HB.out))) : w.heap.size ≤ gb101)); clear HB; have HB := n0_; have BK101 := n1_; have GW101 := n2_; have GE101 := n3_; clear n0_ n1_ n2_ n3_; clear hb hbox hg; have hcz4_0 : w3.cell? ⟨gb101, 0, none⟩ = some (.bool a0_0) := (blk_cell BK101.out 0).trans rfl; have hcz4_1 : w3.cell? ⟨gb101, 1, none⟩ = some (.slice A0_1 l0_1.length c0_1) := (blk_cell BK101.out 1).trans rfl; have hcz4_2 : w3.cell? ⟨gb101, 2, none⟩ = some (.int .u64 a0_2) := (blk_cell BK101.out 2).trans rfl; have hfz4_0 := blk_frozen BK101.out 0; have hfz4_1 := blk_frozen BK101.out 1; have hfz4_2 := blk_frozen BK101.out 2))
    go_ret
    exact ⟨by first | rfl | (simp [errW_none, errW_some] <;> rfl) | (simp [*, errW_none, errW_some] <;> rfl), by repeat (first | (with_reducible first | exact HB.out | apply below_alloc | apply pw_below_drewN | apply below_drew1 | refine below_set ?_ GE101.out) | exact HB.out)⟩
  · rw [if_neg c2] at H
    have c2b0 : decide (2147483647 < (l0_1.length : Int)) = false := decide_eq_false c2
    have c2b1 : decide (2147483647 < l0_1.length) = false := decide_eq_false (by omega)
    clear c2
    obtain rfl := Option.some.inj H
    go_enter Try.func13, Try.ntmps13
    go_wp2_with (first | ((with_reducible refine gate_dst (N := 1) rfl ?_); refine box_event ?hg (N := 1) ?hd (cs := #[.bool a0_0, .slice A0_1 l0_1.length c0_1, .int .u64 a0_2]) (t := 25) ?hr ?_; (case hd => rfl); (case hg => rfl); (case hr => first | (go_simp; done) | (go_simp; rfl)); intro gb101 hg w5 hbox hb; have n0_ := Aside0.mk (below_step (by repeat (first | (with_reducible first | exact HB.out | apply below_alloc | apply pw_below_drewN | apply below_drew1) | exact HB.out)) hb); have n1_ := Aside0.mk (hbox); have n2_ := Aside0.mk ((by rw [hg]; exact (below_size (by repeat (first | (with_reducible first | exact HB.out | apply below_alloc | apply pw_below_drewN | apply below_drew1) | exact HB.out))) : w.heap.size ≤ gb101)); have n3_ := Aside0.mk ((by rw [hg]; exact (below_size (by repeat (first | (with_reducible first | exact HB.out | apply below_alloc | apply pw_below_drewN | apply below_drew1) | exact HB.out))) : w.heap.size ≤ gb101)); clear HB; have HB := n0_; have BK101 := n1_; have GW101 := n2_; have GE101 := n3_; clear n0_ n1_ n2_ n3_; clear hb hbox hg; have hcz6_0 : w5.cell? ⟨gb101, 0, none⟩ = some (.bool a0_0) := (blk_cell BK101.out 0).trans rfl; have hcz6_1 : w5.cell? ⟨gb101, 1, none⟩ = some (.slice A0_1 l0_1.length c0_1) := (blk_cell BK101.out 1).trans rfl; have hcz6_2 : w5.cell? ⟨gb101, 2, none⟩ = some (.int .u64 a0_2) := (blk_cell BK101.out 2).trans rfl; have hfz6_0 := blk_frozen BK101.out 0; have hfz6_1 := blk_frozen BK101.out 1; have hfz6_2 := blk_frozen BK101.out 2))
    go_ret
    exact ⟨by first | rfl | (simp [errW_none, errW_some] <;> rfl) | (simp [*, errW_none, errW_some] <;> rfl), by repeat (first | (with_reducible first | exact HB.out | apply below_alloc | apply pw_below_drewN | apply below_drew1 | refine below_set ?_ GE101.out) | exact HB.out)⟩

/-! ### laws_zzFits9: function 5 -/
def laws_zzFits9.f (a0_0 : Bool) (l0_1 : List Int) (a0_2 : Int) (a0_3 : Bool) (l0_4 : List Int) (a0_5 : Int) (a0_6 : Bool) : Option (Bool) := (laws_zzFits5.f a0_0 l0_1 a0_2).bind fun t103 => (if t103 = true then ((laws_zzFits5.f a0_3 l0_4 a0_5).bind fun t104 => (if t104 = true then (some true) else (some false))) else (some false))
set_option maxHeartbeats 8000000 in
set_option maxRecDepth 100000 in
theorem laws_zzFits9.calls (a0_0 : Bool) (A0_1 : Option Addr) (c0_1 : Nat) (l0_1 : List Int) (a0_2 : Int) (a0_3 : Bool) (A0_4 : Option Addr) (c0_4 : Nat) (l0_4 : List Int) (a0_5 : Int) (a0_6 : Bool) (r : Bool) (w : World) (hr0_1 : Kd.C (Kd.int .u8) w A0_1 l0_1.length l0_1) (hc0_1 : l0_1.length ≤ c0_1) (hr0_4 : Kd.C (Kd.int .u8) w A0_4 l0_4.length l0_4) (hc0_4 : l0_4.length ≤ c0_4) (h : laws_zzFits9.f a0_0 l0_1 a0_2 a0_3 l0_4 a0_5 a0_6 = some r) :
    Calls Try.prog 5 #[.agg #[.bool a0_0, .slice A0_1 l0_1.length c0_1, .int .u64 a0_2, .bool a0_3, .slice A0_4 l0_4.length c0_4, .int .u64 a0_5, .bool a0_6]] w fun e w' => e = .returned (.bool r) ∧ Below w.heap.size w w' := by
  have hu27 := Try.underlying27
  have hu25 := Try.underlying25
  have HR0_1 := Aside0.mk hr0_1
  have HC0_1 := Aside0.mk hc0_1
  clear hr0_1 hc0_1
  have HR0_4 := Aside0.mk hr0_4
  have HC0_4 := Aside0.mk hc0_4
  clear hr0_4 hc0_4
  have HB := Aside0.mk (Below.refl w.heap.size w)
  have H : ((laws_zzFits5.f a0_0 l0_1 a0_2).bind fun t103 => (if t103 = true then ((laws_zzFits5.f a0_3 l0_4 a0_5).bind fun t104 => (if t104 = true then (some true) else (some false))) else (some false))) = some r := h
  clear h
  replace H := Option.bind_eq_some_iff.mp H
  obtain ⟨t103, A20, H⟩ := H
  replace H : (if t103 = true then ((laws_zzFits5.f a0_3 l0_4 a0_5).bind fun t104 => (if t104 = true then (some true) else (some false))) else (some false)) = some r := H
  have A2 := Aside0.mk A20
  clear A20
  by_cases c3 : t103 = true
  · subst c3
    have H1 : ((laws_zzFits5.f a0_3 l0_4 a0_5).bind fun t104 => (if t104 = true then (some true) else (some false))) = some r := by rw [if_pos rfl] at H; exact H
    clear H
    have H := H1
    clear H1
    replace H := Option.bind_eq_some_iff.mp H
    obtain ⟨t104, A40, H⟩ := H
    replace H : (if t104 = true then (some true) else (some false)) = some r := H
    have A4 := Aside0.mk A40
    clear A40
    by_cases c5 : t104 = true
    · subst c5
      have H1 : (some true) = some r := by rw [if_pos rfl] at H; exact H
      clear H
      have H := H1
      clear H1
      obtain rfl := Option.some.inj H
      go_enter Try.func5, Try.ntmps5
      go_wp2_with (first | ((with_reducible refine gate_dst (N := 1) rfl ?_); refine box_event ?hg (N := 1) ?hd (cs := #[.bool a0_0, .slice A0_1 l0_1.length c0_1, .int .u64 a0_2, .bool a0_3, .slice A0_4 l0_4.length c0_4, .int .u64 a0_5, .bool a0_6]) (t := 27) ?hr ?_; (case hd => rfl); (case hg => rfl); (case hr => first | (go_simp; done) | (go_simp; rfl)); intro gb102 hg w6 hbox hb; have n0_ := Aside0.mk (below_step (by repeat (first | (with_reducible first | exact HB.out | apply below_alloc | apply pw_below_drewN | apply below_drew1) | exact HB.out)) hb); have n1_ := Aside0.mk (hbox); have n2_ := Aside0.mk ((by rw [hg]; exact (below_size (by repeat (first | (with_reducible first | exact HB.out | apply below_alloc | apply pw_below_drewN | apply below_drew1) | exact HB.out))) : w.heap.size ≤ gb102)); have n3_ := Aside0.mk ((by rw [hg]; exact (below_size (by repeat (first | (with_reducible first | exact HB.out | apply below_alloc | apply pw_below_drewN | apply below_drew1) | exact HB.out))) : w.heap.size ≤ gb102)); clear HB; have HB := n0_; have BK102 := n1_; have GW102 := n2_; have GE102 := n3_; clear n0_ n1_ n2_ n3_; clear hb hbox hg; have hcz7_0 : w6.cell? ⟨gb102, 0, none⟩ = some (.bool a0_0) := (blk_cell BK102.out 0).trans rfl; have hcz7_1 : w6.cell? ⟨gb102, 1, none⟩ = some (.slice A0_1 l0_1.length c0_1) := (blk_cell BK102.out 1).trans rfl; have hcz7_2 : w6.cell? ⟨gb102, 2, none⟩ = some (.int .u64 a0_2) := (blk_cell BK102.out 2).trans rfl; have hcz7_3 : w6.cell? ⟨gb102, 3, none⟩ = some (.bool a0_3) := (blk_cell BK102.out 3).trans rfl; have hcz7_4 : w6.cell? ⟨gb102, 4, none⟩ = some (.slice A0_4 l0_4.length c0_4) := (blk_cell BK102.out 4).trans rfl; have hcz7_5 : w6.cell? ⟨gb102, 5, none⟩ = some (.int .u64 a0_5) := (blk_cell BK102.out 5).trans rfl; have hcz7_6 : w6.cell? ⟨gb102, 6, none⟩ = some (.bool a0_6) := (blk_cell BK102.out 6).trans rfl; have hfz7_0 := blk_frozen BK102.out 0; have hfz7_1 := blk_frozen BK102.out 1; have hfz7_2 := blk_frozen BK102.out 2; have hfz7_3 := blk_frozen BK102.out 3; have hfz7_4 := blk_frozen BK102.out 4; have hfz7_5 := blk_frozen BK102.out 5; have hfz7_6 := blk_frozen BK102.out 6) | ((with_reducible refine gate_callee (f := 13) rfl ?_); refine goesL_ (some 5) rfl rfl Try.func13 (by kernel_rfl) rfl #[.agg #[.bool a0_0, .slice A0_1 l0_1.length c0_1, .int .u64 a0_2]] rfl (by (try simp only [List.map_toArray, List.map_cons, List.map_nil]); first | done | rfl | (simp only [List.length_drop, List.length_take]; rfl)) ?_; (with_reducible refine (laws_zzFits5.calls a0_0 _ _ l0_1 a0_2 true _ ?side1 ?side2 A2.out).mono ?_); (case side1 => repeat (first | exact (Kd.C_below HR0_1.out HB.out) | (with_reducible refine Kd.C_alloc ?_ _) | (with_reducible refine Kd.C_drewN ?_ _) | (with_reducible refine Kd.C_drew ?_))); (case side2 => exact HC0_1.out); rintro e w8 ⟨rfl, hb⟩; refine ⟨_, rfl, ?_⟩; have n0_ := Aside0.mk (blk_below (g := gb102) (o := .cells #[.bool a0_0, .slice A0_1 l0_1.length c0_1, .int .u64 a0_2, .bool a0_3, .slice A0_4 l0_4.length c0_4, .int .u64 a0_5, .bool a0_6] 27 (0, 0)) (by (with_reducible repeat (first | refine blk_drewN ?_ _ | refine blk_drew ?_ | refine blk_alloc ?_ _)); exact BK102.out) hb); have n1_ := Aside0.mk (below_step (by repeat (first | (with_reducible first | exact HB.out | apply below_alloc | apply pw_below_drewN | apply below_drew1 | refine below_set ?_ GE102.out) | exact HB.out)) hb); clear BK102; clear HB; have BK102 := n0_; have HB := n1_; clear n0_ n1_; (try clear hb); (try clear hb2); (try clear hk); (try clear hi); have hcz9_0 : w8.cell? ⟨gb102, 0, none⟩ = some (.bool a0_0) := (blk_cell BK102.out 0).trans rfl; have hcz9_1 : w8.cell? ⟨gb102, 1, none⟩ = some (.slice A0_1 l0_1.length c0_1) := (blk_cell BK102.out 1).trans rfl; have hcz9_2 : w8.cell? ⟨gb102, 2, none⟩ = some (.int .u64 a0_2) := (blk_cell BK102.out 2).trans rfl; have hcz9_3 : w8.cell? ⟨gb102, 3, none⟩ = some (.bool a0_3) := (blk_cell BK102.out 3).trans rfl; have hcz9_4 : w8.cell? ⟨gb102, 4, none⟩ = some (.slice A0_4 l0_4.length c0_4) := (blk_cell BK102.out 4).trans rfl; have hcz9_5 : w8.cell? ⟨gb102, 5, none⟩ = some (.int .u64 a0_5) := (blk_cell BK102.out 5).trans rfl; have hcz9_6 : w8.cell? ⟨gb102, 6, none⟩ = some (.bool a0_6) := (blk_cell BK102.out 6).trans rfl; have hfz9_0 := blk_frozen BK102.out 0; have hfz9_1 := blk_frozen BK102.out 1; have hfz9_2 := blk_frozen BK102.out 2; have hfz9_3 := blk_frozen BK102.out 3; have hfz9_4 := blk_frozen BK102.out 4; have hfz9_5 := blk_frozen BK102.out 5; have hfz9_6 := blk_frozen BK102.out 6) | ((with_reducible refine gate_callee (f := 13) rfl ?_); refine goesL_ (some 9) rfl rfl Try.func13 (by kernel_rfl) rfl #[.agg #[.bool a0_3, .slice A0_4 l0_4.length c0_4, .int .u64 a0_5]] rfl (by (try simp only [List.map_toArray, List.map_cons, List.map_nil]); first | done | rfl | (simp only [List.length_drop, List.length_take]; rfl)) ?_; (with_reducible refine (laws_zzFits5.calls a0_3 _ _ l0_4 a0_5 true _ ?side1 ?side2 A4.out).mono ?_); (case side1 => repeat (first | exact (Kd.C_below HR0_4.out HB.out) | (with_reducible refine Kd.C_alloc ?_ _) | (with_reducible refine Kd.C_drewN ?_ _) | (with_reducible refine Kd.C_drew ?_))); (case side2 => exact HC0_4.out); rintro e w10 ⟨rfl, hb⟩; refine ⟨_, rfl, ?_⟩; have n0_ := Aside0.mk (blk_below (g := gb102) (o := .cells #[.bool a0_0, .slice A0_1 l0_1.length c0_1, .int .u64 a0_2, .bool a0_3, .slice A0_4 l0_4.length c0_4, .int .u64 a0_5, .bool a0_6] 27 (0, 0)) (by (with_reducible repeat (first | refine blk_drewN ?_ _ | refine blk_drew ?_ | refine blk_alloc ?_ _)); exact BK102.out) hb); have n1_ := Aside0.mk (below_step (by repeat (first | (with_reducible first | exact HB.out | apply below_alloc | apply pw_below_drewN | apply below_drew1 | refine below_set ?_ GE102.out) | exact HB.out)) hb); clear BK102; clear HB; have BK102 := n0_; have HB := n1_; clear n0_ n1_; (try clear hb); (try clear hb2); (try clear hk); (try clear hi)))
      go_ret
      exact ⟨by first | rfl | (simp [errW_none, errW_some] <;> rfl) | (simp [*, errW_none, errW_some] <;> rfl), by repeat (first | (with_reducible first | exact HB.out | apply below_alloc | apply pw_below_drewN | apply below_drew1 | refine below_set ?_ GE102.out) | exact HB.out)⟩
    · replace c5 := Bool.eq_false_iff.mpr c5
      subst c5
      have H1 : (some false) = some r := by rw [if_neg (show ¬ (false = true) by decide)] at H; exact H
      clear H
      have H := H1
      clear H1
      obtain rfl := Option.some.inj H
      go_enter Try.func5, Try.ntmps5
      go_wp2_with (first | ((with_reducible refine gate_dst (N := 1) rfl ?_); refine box_event ?hg (N := 1) ?hd (cs := #[.bool a0_0, .slice A0_1 l0_1.length c0_1, .int .u64 a0_2, .bool a0_3, .slice A0_4 l0_4.length c0_4, .int .u64 a0_5, .bool a0_6]) (t := 27) ?hr ?_; (case hd => rfl); (case hg => rfl); (case hr => first | (go_simp; done) | (go_simp; rfl)); intro gb102 hg w11 hbox hb; have n0_ := Aside0.mk (below_step (by repeat (first | (with_reducible first | exact HB.out | apply below_alloc | apply pw_below_drewN | apply below_drew1) | exact HB.out)) hb); have n1_ := Aside0.mk (hbox); have n2_ := Aside0.mk ((by rw [hg]; exact (below_size (by repeat (first | (with_reducible first | exact HB.out | apply below_alloc | apply pw_below_drewN | apply below_drew1) | exact HB.out))) : w.heap.size ≤ gb102)); have n3_ := Aside0.mk ((by rw [hg]; exact (below_size (by repeat (first | (with_reducible first | exact HB.out | apply below_alloc | apply pw_below_drewN | apply below_drew1) | exact HB.out))) : w.heap.size ≤ gb102)); clear HB; have HB := n0_; have BK102 := n1_; have GW102 := n2_; have GE102 := n3_; clear n0_ n1_ n2_ n3_; clear hb hbox hg; have hcz12_0 : w11.cell? ⟨gb102, 0, none⟩ = some (.bool a0_0) := (blk_cell BK102.out 0).trans rfl; have hcz12_1 : w11.cell? ⟨gb102, 1, none⟩ = some (.slice A0_1 l0_1.length c0_1) := (blk_cell BK102.out 1).trans rfl; have hcz12_2 : w11.cell? ⟨gb102, 2, none⟩ = some (.int .u64 a0_2) := (blk_cell BK102.out 2).trans rfl; have hcz12_3 : w11.cell? ⟨gb102, 3, none⟩ = some (.bool a0_3) := (blk_cell BK102.out 3).trans rfl; have hcz12_4 : w11.cell? ⟨gb102, 4, none⟩ = some (.slice A0_4 l0_4.length c0_4) := (blk_cell BK102.out 4).trans rfl; have hcz12_5 : w11.cell? ⟨gb102, 5, none⟩ = some (.int .u64 a0_5) := (blk_cell BK102.out 5).trans rfl; have hcz12_6 : w11.cell? ⟨gb102, 6, none⟩ = some (.bool a0_6) := (blk_cell BK102.out 6).trans rfl; have hfz12_0 := blk_frozen BK102.out 0; have hfz12_1 := blk_frozen BK102.out 1; have hfz12_2 := blk_frozen BK102.out 2; have hfz12_3 := blk_frozen BK102.out 3; have hfz12_4 := blk_frozen BK102.out 4; have hfz12_5 := blk_frozen BK102.out 5; have hfz12_6 := blk_frozen BK102.out 6) | ((with_reducible refine gate_callee (f := 13) rfl ?_); refine goesL_ (some 5) rfl rfl Try.func13 (by kernel_rfl) rfl #[.agg #[.bool a0_0, .slice A0_1 l0_1.length c0_1, .int .u64 a0_2]] rfl (by (try simp only [List.map_toArray, List.map_cons, List.map_nil]); first | done | rfl | (simp only [List.length_drop, List.length_take]; rfl)) ?_; (with_reducible refine (laws_zzFits5.calls a0_0 _ _ l0_1 a0_2 true _ ?side1 ?side2 A2.out).mono ?_); (case side1 => repeat (first | exact (Kd.C_below HR0_1.out HB.out) | (with_reducible refine Kd.C_alloc ?_ _) | (with_reducible refine Kd.C_drewN ?_ _) | (with_reducible refine Kd.C_drew ?_))); (case side2 => exact HC0_1.out); rintro e w13 ⟨rfl, hb⟩; refine ⟨_, rfl, ?_⟩; have n0_ := Aside0.mk (blk_below (g := gb102) (o := .cells #[.bool a0_0, .slice A0_1 l0_1.length c0_1, .int .u64 a0_2, .bool a0_3, .slice A0_4 l0_4.length c0_4, .int .u64 a0_5, .bool a0_6] 27 (0, 0)) (by (with_reducible repeat (first | refine blk_drewN ?_ _ | refine blk_drew ?_ | refine blk_alloc ?_ _)); exact BK102.out) hb); have n1_ := Aside0.mk (below_step (by repeat (first | (with_reducible first | exact HB.out | apply below_alloc | apply pw_below_drewN | apply below_drew1 | refine below_set ?_ GE102.out) | exact HB.out)) hb); clear BK102; clear HB; have BK102 := n0_; have HB := n1_; clear n0_ n1_; (try clear hb); (try clear hb2); (try clear hk); (try clear hi); have hcz14_0 : w13.cell? ⟨gb102, 0, none⟩ = some (.bool a0_0) := (blk_cell BK102.out 0).trans rfl; have hcz14_1 : w13.cell? ⟨gb102, 1, none⟩ = some (.slice A0_1 l0_1.length c0_1) := (blk_cell BK102.out 1).trans rfl; have hcz14_2 : w13.cell? ⟨gb102, 2, none⟩ = some (.int .u64 a0_2) := (blk_cell BK102.out 2).trans rfl; have hcz14_3 : w13.cell? ⟨gb102, 3, none⟩ = some (.bool a0_3) := (blk_cell BK102.out 3).trans rfl; have hcz14_4 : w13.cell? ⟨gb102, 4, none⟩ = some (.slice A0_4 l0_4.length c0_4) := (blk_cell BK102.out 4).trans rfl; have hcz14_5 : w13.cell? ⟨gb102, 5, none⟩ = some (.int .u64 a0_5) := (blk_cell BK102.out 5).trans rfl; have hcz14_6 : w13.cell? ⟨gb102, 6, none⟩ = some (.bool a0_6) := (blk_cell BK102.out 6).trans rfl; have hfz14_0 := blk_frozen BK102.out 0; have hfz14_1 := blk_frozen BK102.out 1; have hfz14_2 := blk_frozen BK102.out 2; have hfz14_3 := blk_frozen BK102.out 3; have hfz14_4 := blk_frozen BK102.out 4; have hfz14_5 := blk_frozen BK102.out 5; have hfz14_6 := blk_frozen BK102.out 6) | ((with_reducible refine gate_callee (f := 13) rfl ?_); refine goesL_ (some 9) rfl rfl Try.func13 (by kernel_rfl) rfl #[.agg #[.bool a0_3, .slice A0_4 l0_4.length c0_4, .int .u64 a0_5]] rfl (by (try simp only [List.map_toArray, List.map_cons, List.map_nil]); first | done | rfl | (simp only [List.length_drop, List.length_take]; rfl)) ?_; (with_reducible refine (laws_zzFits5.calls a0_3 _ _ l0_4 a0_5 false _ ?side1 ?side2 A4.out).mono ?_); (case side1 => repeat (first | exact (Kd.C_below HR0_4.out HB.out) | (with_reducible refine Kd.C_alloc ?_ _) | (with_reducible refine Kd.C_drewN ?_ _) | (with_reducible refine Kd.C_drew ?_))); (case side2 => exact HC0_4.out); rintro e w15 ⟨rfl, hb⟩; refine ⟨_, rfl, ?_⟩; have n0_ := Aside0.mk (blk_below (g := gb102) (o := .cells #[.bool a0_0, .slice A0_1 l0_1.length c0_1, .int .u64 a0_2, .bool a0_3, .slice A0_4 l0_4.length c0_4, .int .u64 a0_5, .bool a0_6] 27 (0, 0)) (by (with_reducible repeat (first | refine blk_drewN ?_ _ | refine blk_drew ?_ | refine blk_alloc ?_ _)); exact BK102.out) hb); have n1_ := Aside0.mk (below_step (by repeat (first | (with_reducible first | exact HB.out | apply below_alloc | apply pw_below_drewN | apply below_drew1 | refine below_set ?_ GE102.out) | exact HB.out)) hb); clear BK102; clear HB; have BK102 := n0_; have HB := n1_; clear n0_ n1_; (try clear hb); (try clear hb2); (try clear hk); (try clear hi)))
      go_ret
      exact ⟨by first | rfl | (simp [errW_none, errW_some] <;> rfl) | (simp [*, errW_none, errW_some] <;> rfl), by repeat (first | (with_reducible first | exact HB.out | apply below_alloc | apply pw_below_drewN | apply below_drew1 | refine below_set ?_ GE102.out) | exact HB.out)⟩
  · replace c3 := Bool.eq_false_iff.mpr c3
    subst c3
    have H1 : (some false) = some r := by rw [if_neg (show ¬ (false = true) by decide)] at H; exact H
    clear H
    have H := H1
    clear H1
    obtain rfl := Option.some.inj H
    go_enter Try.func5, Try.ntmps5
    go_wp2_with (first | ((with_reducible refine gate_dst (N := 1) rfl ?_); refine box_event ?hg (N := 1) ?hd (cs := #[.bool a0_0, .slice A0_1 l0_1.length c0_1, .int .u64 a0_2, .bool a0_3, .slice A0_4 l0_4.length c0_4, .int .u64 a0_5, .bool a0_6]) (t := 27) ?hr ?_; (case hd => rfl); (case hg => rfl); (case hr => first | (go_simp; done) | (go_simp; rfl)); intro gb102 hg w16 hbox hb; have n0_ := Aside0.mk (below_step (by repeat (first | (with_reducible first | exact HB.out | apply below_alloc | apply pw_below_drewN | apply below_drew1) | exact HB.out)) hb); have n1_ := Aside0.mk (hbox); have n2_ := Aside0.mk ((by rw [hg]; exact (below_size (by repeat (first | (with_reducible first | exact HB.out | apply below_alloc | apply pw_below_drewN | apply below_drew1) | exact HB.out))) : w.heap.size ≤ gb102)); have n3_ := Aside0.mk ((by rw [hg]; exact (below_size (by repeat (first | (with_reducible first | exact HB.out | apply below_alloc | apply pw_below_drewN | apply below_drew1) | exact HB.out))) : w.heap.size ≤ gb102)); clear HB; have HB := n0_; have BK102 := n1_; have GW102 := n2_; have GE102 := n3_; clear n0_ n1_ n2_ n3_; clear hb hbox hg; have hcz17_0 : w16.cell? ⟨gb102, 0, none⟩ = some (.bool a0_0) := (blk_cell BK102.out 0).trans rfl; have hcz17_1 : w16.cell? ⟨gb102, 1, none⟩ = some (.slice A0_1 l0_1.length c0_1) := (blk_cell BK102.out 1).trans rfl; have hcz17_2 : w16.cell? ⟨gb102, 2, none⟩ = some (.int .u64 a0_2) := (blk_cell BK102.out 2).trans rfl; have hcz17_3 : w16.cell? ⟨gb102, 3, none⟩ = some (.bool a0_3) := (blk_cell BK102.out 3).trans rfl; have hcz17_4 : w16.cell? ⟨gb102, 4, none⟩ = some (.slice A0_4 l0_4.length c0_4) := (blk_cell BK102.out 4).trans rfl; have hcz17_5 : w16.cell? ⟨gb102, 5, none⟩ = some (.int .u64 a0_5) := (blk_cell BK102.out 5).trans rfl; have hcz17_6 : w16.cell? ⟨gb102, 6, none⟩ = some (.bool a0_6) := (blk_cell BK102.out 6).trans rfl; have hfz17_0 := blk_frozen BK102.out 0; have hfz17_1 := blk_frozen BK102.out 1; have hfz17_2 := blk_frozen BK102.out 2; have hfz17_3 := blk_frozen BK102.out 3; have hfz17_4 := blk_frozen BK102.out 4; have hfz17_5 := blk_frozen BK102.out 5; have hfz17_6 := blk_frozen BK102.out 6) | ((with_reducible refine gate_callee (f := 13) rfl ?_); refine goesL_ (some 5) rfl rfl Try.func13 (by kernel_rfl) rfl #[.agg #[.bool a0_0, .slice A0_1 l0_1.length c0_1, .int .u64 a0_2]] rfl (by (try simp only [List.map_toArray, List.map_cons, List.map_nil]); first | done | rfl | (simp only [List.length_drop, List.length_take]; rfl)) ?_; (with_reducible refine (laws_zzFits5.calls a0_0 _ _ l0_1 a0_2 false _ ?side1 ?side2 A2.out).mono ?_); (case side1 => repeat (first | exact (Kd.C_below HR0_1.out HB.out) | (with_reducible refine Kd.C_alloc ?_ _) | (with_reducible refine Kd.C_drewN ?_ _) | (with_reducible refine Kd.C_drew ?_))); (case side2 => exact HC0_1.out); rintro e w18 ⟨rfl, hb⟩; refine ⟨_, rfl, ?_⟩; have n0_ := Aside0.mk (blk_below (g := gb102) (o := .cells #[.bool a0_0, .slice A0_1 l0_1.length c0_1, .int .u64 a0_2, .bool a0_3, .slice A0_4 l0_4.length c0_4, .int .u64 a0_5, .bool a0_6] 27 (0, 0)) (by (with_reducible repeat (first | refine blk_drewN ?_ _ | refine blk_drew ?_ | refine blk_alloc ?_ _)); exact BK102.out) hb); have n1_ := Aside0.mk (below_step (by repeat (first | (with_reducible first | exact HB.out | apply below_alloc | apply pw_below_drewN | apply below_drew1 | refine below_set ?_ GE102.out) | exact HB.out)) hb); clear BK102; clear HB; have BK102 := n0_; have HB := n1_; clear n0_ n1_; (try clear hb); (try clear hb2); (try clear hk); (try clear hi)))
    go_ret
    exact ⟨by first | rfl | (simp [errW_none, errW_some] <;> rfl) | (simp [*, errW_none, errW_some] <;> rfl), by repeat (first | (with_reducible first | exact HB.out | apply below_alloc | apply pw_below_drewN | apply below_drew1 | refine below_set ?_ GE102.out) | exact HB.out)⟩

/-! ### spec_Order: function 16 -/
def spec_Order.f (l0 : List Int) (a1 : Int) (l2 : List Int) (a3 : Int) : Option (Int) := (spec_Compare.f l0 l2).bind fun t105 => (if t105 = 0 then (if a1 > a3 then (some (-1)) else (if a1 < a3 then (some 1) else (some 0))) else (some t105))
set_option maxHeartbeats 8000000 in
set_option maxRecDepth 100000 in
theorem spec_Order.calls (A0 : Option Addr) (c0 : Nat) (l0 : List Int) (a1 : Int) (A2 : Option Addr) (c2 : Nat) (l2 : List Int) (a3 : Int) (r : Int) (w : World) (hr0 : Kd.C (Kd.int .u8) w A0 l0.length l0) (hc0 : l0.length ≤ c0) (hr2 : Kd.C (Kd.int .u8) w A2 l2.length l2) (hc2 : l2.length ≤ c2) (h : spec_Order.f l0 a1 l2 a3 = some r) :
    Calls Try.prog 16 #[.slice A0 l0.length c0, .int .u64 a1, .slice A2 l2.length c2, .int .u64 a3] w fun e w' => e = .returned (.int .i64 r) ∧ Below w.heap.size w w' := by
  have HR0 := Aside0.mk hr0
  have HC0 := Aside0.mk hc0
  clear hr0 hc0
  have HR2 := Aside0.mk hr2
  have HC2 := Aside0.mk hc2
  clear hr2 hc2
  have HB := Aside0.mk (Below.refl w.heap.size w)
  have H : ((spec_Compare.f l0 l2).bind fun t105 => (if t105 = 0 then (if a1 > a3 then (some (-1)) else (if a1 < a3 then (some 1) else (some 0))) else (some t105))) = some r := h
  clear h
  replace H := Option.bind_eq_some_iff.mp H
  obtain ⟨t105, A50, H⟩ := H
  replace H : (if t105 = 0 then (if a1 > a3 then (some (-1)) else (if a1 < a3 then (some 1) else (some 0))) else (some t105)) = some r := H
  have A5 := Aside0.mk A50
  clear A50
  by_cases c6 : t105 = 0
  · rw [if_pos c6] at H
    have c6b0 : (t105 == 0) = true := beq_iff_eq.mpr c6
    have c6b1 : (t105 != 0) = false := bne_eq_false_iff_eq.mpr c6
    clear c6
    by_cases c7 : a1 > a3
    · rw [if_pos c7] at H
      have c7b0 : decide (a3 < a1) = true := decide_eq_true c7
      clear c7
      obtain rfl := Option.some.inj H
      go_enter Try.func16, Try.ntmps16
      go_wp2_with (first | ((with_reducible refine gate_callee (f := 25) rfl ?_); refine goesL_ (some 12) rfl rfl Try.func25 (by kernel_rfl) rfl #[.slice A0 l0.length c0, .slice A2 l2.length c2] rfl (by (try simp only [List.map_toArray, List.map_cons, List.map_nil]); first | done | rfl | (simp only [List.length_drop, List.length_take]; rfl)) ?_; (with_reducible refine (spec_Compare.calls _ _ l0 _ _ l2 t105 _ ?side1 ?side2 ?side3 ?side4 A5.out).mono ?_); (case side1 => repeat (first | exact HR0.out | (with_reducible refine Kd.C_alloc ?_ _) | (with_reducible refine Kd.C_drewN ?_ _) | (with_reducible refine Kd.C_drew ?_))); (case side2 => exact HC0.out); (case side3 => repeat (first | exact HR2.out | (with_reducible refine Kd.C_alloc ?_ _) | (with_reducible refine Kd.C_drewN ?_ _) | (with_reducible refine Kd.C_drew ?_))); (case side4 => exact HC2.out); rintro e w8 ⟨rfl, hb⟩; refine ⟨_, rfl, ?_⟩; have n0_ := Aside0.mk (below_step (by repeat (first | (with_reducible first | exact HB.out | apply below_alloc | apply pw_below_drewN | apply below_drew1) | exact HB.out)) hb); clear HB; have HB := n0_; clear n0_; (try clear hb); (try clear hb2); (try clear hk); (try clear hi)))
      go_ret
      exact ⟨by first | rfl | (simp [errW_none, errW_some] <;> rfl) | (simp [*, errW_none, errW_some] <;> rfl), by repeat (first | (with_reducible first | exact HB.out | apply below_alloc | apply pw_below_drewN | apply below_drew1) | exact HB.out)⟩
    · rw [if_neg c7] at H
      have c7b0 : decide (a3 < a1) = false := decide_eq_false c7
      clear c7
      by_cases c9 : a1 < a3
      · rw [if_pos c9] at H
        have c9b0 : decide (a1 < a3) = true := decide_eq_true c9
        clear c9
        obtain rfl := Option.some.inj H
        go_enter Try.func16, Try.ntmps16
        go_wp2_with (first | ((with_reducible refine gate_callee (f := 25) rfl ?_); refine goesL_ (some 12) rfl rfl Try.func25 (by kernel_rfl) rfl #[.slice A0 l0.length c0, .slice A2 l2.length c2] rfl (by (try simp only [List.map_toArray, List.map_cons, List.map_nil]); first | done | rfl | (simp only [List.length_drop, List.length_take]; rfl)) ?_; (with_reducible refine (spec_Compare.calls _ _ l0 _ _ l2 t105 _ ?side1 ?side2 ?side3 ?side4 A5.out).mono ?_); (case side1 => repeat (first | exact HR0.out | (with_reducible refine Kd.C_alloc ?_ _) | (with_reducible refine Kd.C_drewN ?_ _) | (with_reducible refine Kd.C_drew ?_))); (case side2 => exact HC0.out); (case side3 => repeat (first | exact HR2.out | (with_reducible refine Kd.C_alloc ?_ _) | (with_reducible refine Kd.C_drewN ?_ _) | (with_reducible refine Kd.C_drew ?_))); (case side4 => exact HC2.out); rintro e w10 ⟨rfl, hb⟩; refine ⟨_, rfl, ?_⟩; have n0_ := Aside0.mk (below_step (by repeat (first | (with_reducible first | exact HB.out | apply below_alloc | apply pw_below_drewN | apply below_drew1) | exact HB.out)) hb); clear HB; have HB := n0_; clear n0_; (try clear hb); (try clear hb2); (try clear hk); (try clear hi)))
        go_ret
        exact ⟨by first | rfl | (simp [errW_none, errW_some] <;> rfl) | (simp [*, errW_none, errW_some] <;> rfl), by repeat (first | (with_reducible first | exact HB.out | apply below_alloc | apply pw_below_drewN | apply below_drew1) | exact HB.out)⟩
      · rw [if_neg c9] at H
        have c9b0 : decide (a1 < a3) = false := decide_eq_false c9
        clear c9
        obtain rfl := Option.some.inj H
        go_enter Try.func16, Try.ntmps16
        go_wp2_with (first | ((with_reducible refine gate_callee (f := 25) rfl ?_); refine goesL_ (some 12) rfl rfl Try.func25 (by kernel_rfl) rfl #[.slice A0 l0.length c0, .slice A2 l2.length c2] rfl (by (try simp only [List.map_toArray, List.map_cons, List.map_nil]); first | done | rfl | (simp only [List.length_drop, List.length_take]; rfl)) ?_; (with_reducible refine (spec_Compare.calls _ _ l0 _ _ l2 t105 _ ?side1 ?side2 ?side3 ?side4 A5.out).mono ?_); (case side1 => repeat (first | exact HR0.out | (with_reducible refine Kd.C_alloc ?_ _) | (with_reducible refine Kd.C_drewN ?_ _) | (with_reducible refine Kd.C_drew ?_))); (case side2 => exact HC0.out); (case side3 => repeat (first | exact HR2.out | (with_reducible refine Kd.C_alloc ?_ _) | (with_reducible refine Kd.C_drewN ?_ _) | (with_reducible refine Kd.C_drew ?_))); (case side4 => exact HC2.out); rintro e w11 ⟨rfl, hb⟩; refine ⟨_, rfl, ?_⟩; have n0_ := Aside0.mk (below_step (by repeat (first | (with_reducible first | exact HB.out | apply below_alloc | apply pw_below_drewN | apply below_drew1) | exact HB.out)) hb); clear HB; have HB := n0_; clear n0_; (try clear hb); (try clear hb2); (try clear hk); (try clear hi)))
        go_ret
        exact ⟨by first | rfl | (simp [errW_none, errW_some] <;> rfl) | (simp [*, errW_none, errW_some] <;> rfl), by repeat (first | (with_reducible first | exact HB.out | apply below_alloc | apply pw_below_drewN | apply below_drew1) | exact HB.out)⟩
  · rw [if_neg c6] at H
    have c6b0 : (t105 == 0) = false := beq_eq_false_iff_ne.mpr c6
    have c6b1 : (t105 != 0) = true := bne_iff_ne.mpr c6
    obtain rfl := Option.some.inj H
    go_enter Try.func16, Try.ntmps16
    go_wp2_with (first | ((with_reducible refine gate_callee (f := 25) rfl ?_); refine goesL_ (some 12) rfl rfl Try.func25 (by kernel_rfl) rfl #[.slice A0 l0.length c0, .slice A2 l2.length c2] rfl (by (try simp only [List.map_toArray, List.map_cons, List.map_nil]); first | done | rfl | (simp only [List.length_drop, List.length_take]; rfl)) ?_; (with_reducible refine (spec_Compare.calls _ _ l0 _ _ l2 t105 _ ?side1 ?side2 ?side3 ?side4 A5.out).mono ?_); (case side1 => repeat (first | exact HR0.out | (with_reducible refine Kd.C_alloc ?_ _) | (with_reducible refine Kd.C_drewN ?_ _) | (with_reducible refine Kd.C_drew ?_))); (case side2 => exact HC0.out); (case side3 => repeat (first | exact HR2.out | (with_reducible refine Kd.C_alloc ?_ _) | (with_reducible refine Kd.C_drewN ?_ _) | (with_reducible refine Kd.C_drew ?_))); (case side4 => exact HC2.out); rintro e w12 ⟨rfl, hb⟩; refine ⟨_, rfl, ?_⟩; have n0_ := Aside0.mk (below_step (by repeat (first | (with_reducible first | exact HB.out | apply below_alloc | apply pw_below_drewN | apply below_drew1) | exact HB.out)) hb); clear HB; have HB := n0_; clear n0_; (try clear hb); (try clear hb2); (try clear hk); (try clear hi)))
    go_ret
    exact ⟨by first | rfl | (simp [errW_none, errW_some] <;> rfl) | (simp [*, errW_none, errW_some] <;> rfl), by repeat (first | (with_reducible first | exact HB.out | apply below_alloc | apply pw_below_drewN | apply below_drew1) | exact HB.out)⟩

/-! ### spec_OrderBounds: function 7 -/
def spec_OrderBounds.f (a0_0 : Bool) (l0_1 : List Int) (a0_2 : Int) (a1_0 : Bool) (l1_1 : List Int) (a1_2 : Int) : Option (Int) := (spec_Order.f l0_1 a0_2 l1_1 a1_2).bind fun t108 => (some t108)
set_option maxHeartbeats 8000000 in
set_option maxRecDepth 100000 in
theorem spec_OrderBounds.calls (a0_0 : Bool) (A0_1 : Option Addr) (c0_1 : Nat) (l0_1 : List Int) (a0_2 : Int) (a1_0 : Bool) (A1_1 : Option Addr) (c1_1 : Nat) (l1_1 : List Int) (a1_2 : Int) (r : Int) (w : World) (hr0_1 : Kd.C (Kd.int .u8) w A0_1 l0_1.length l0_1) (hc0_1 : l0_1.length ≤ c0_1) (hr1_1 : Kd.C (Kd.int .u8) w A1_1 l1_1.length l1_1) (hc1_1 : l1_1.length ≤ c1_1) (h : spec_OrderBounds.f a0_0 l0_1 a0_2 a1_0 l1_1 a1_2 = some r) :
    Calls Try.prog 7 #[.agg #[.bool a0_0, .slice A0_1 l0_1.length c0_1, .int .u64 a0_2], .agg #[.bool a1_0, .slice A1_1 l1_1.length c1_1, .int .u64 a1_2]] w fun e w' => e = .returned (.int .i64 r) ∧ Below w.heap.size w w' := by
  have hu25 := Try.underlying25
  have HR0_1 := Aside0.mk hr0_1
  have HC0_1 := Aside0.mk hc0_1
  clear hr0_1 hc0_1
  have HR1_1 := Aside0.mk hr1_1
  have HC1_1 := Aside0.mk hc1_1
  clear hr1_1 hc1_1
  have HB := Aside0.mk (Below.refl w.heap.size w)
  have H : ((spec_Order.f l0_1 a0_2 l1_1 a1_2).bind fun t108 => (some t108)) = some r := h
  clear h
  replace H := Option.bind_eq_some_iff.mp H
  obtain ⟨t108, A30, H⟩ := H
  replace H : (some t108) = some r := H
  have A3 := Aside0.mk A30
  clear A30
  obtain rfl := Option.some.inj H
  go_enter Try.func7, Try.ntmps7
  go_wp2_with (first | ((with_reducible refine gate_dst (N := 2) rfl ?_); refine box_event ?hg (N := 2) ?hd (cs := #[.bool a0_0, .slice A0_1 l0_1.length c0_1, .int .u64 a0_2]) (t := 25) ?hr ?_; (case hd => rfl); (case hg => rfl); (case hr => first | (go_simp; done) | (go_simp; rfl)); intro gb106 hg w4 hbox hb; have n0_ := Aside0.mk (below_step (by repeat (first | (with_reducible first | exact HB.out | apply below_alloc | apply pw_below_drewN | apply below_drew1) | exact HB.out)) hb); have n1_ := Aside0.mk (hbox); have n2_ := Aside0.mk ((by rw [hg]; exact (below_size (by repeat (first | (with_reducible first | exact HB.out | apply below_alloc | apply pw_below_drewN | apply below_drew1) | exact HB.out))) : w.heap.size ≤ gb106)); have n3_ := Aside0.mk ((by rw [hg]; exact (below_size (by repeat (first | (with_reducible first | exact HB.out | apply below_alloc | apply pw_below_drewN | apply below_drew1) | exact HB.out))) : w.heap.size ≤ gb106)); clear HB; have HB := n0_; have BK106 := n1_; have GW106 := n2_; have GE106 := n3_; clear n0_ n1_ n2_ n3_; clear hb hbox hg) | ((with_reducible refine gate_dst (N := 3) rfl ?_); refine box_event ?hg (N := 3) ?hd (cs := #[.bool a1_0, .slice A1_1 l1_1.length c1_1, .int .u64 a1_2]) (t := 25) ?hr ?_; (case hd => rfl); (case hg => rfl); (case hr => first | (go_simp; done) | (go_simp; rfl)); intro gb107 hg w5 hbox hb; have n0_ := Aside0.mk (blk_below (g := gb106) (o := .cells #[.bool a0_0, .slice A0_1 l0_1.length c0_1, .int .u64 a0_2] 25 (0, 0)) (by (with_reducible repeat (first | refine blk_drewN ?_ _ | refine blk_drew ?_ | refine blk_alloc ?_ _)); exact BK106.out) hb); have n1_ := Aside0.mk (below_step (by repeat (first | (with_reducible first | exact HB.out | apply below_alloc | apply pw_below_drewN | apply below_drew1 | refine below_set ?_ GE106.out) | exact HB.out)) hb); have n2_ := Aside0.mk (hbox); have n3_ := Aside0.mk ((by rw [hg]; exact (below_size (by repeat (first | (with_reducible first | exact HB.out | apply below_alloc | apply pw_below_drewN | apply below_drew1 | refine below_set ?_ GE106.out) | exact HB.out))) : w.heap.size ≤ gb107)); have n4_ := Aside0.mk ((by rw [hg]; exact (below_size (by repeat (first | (with_reducible first | exact HB.out | apply below_alloc | apply pw_below_drewN | apply below_drew1 | refine below_set ?_ GE106.out) | exact HB.out))) : w.heap.size ≤ gb107)); have n5_ := Aside0.mk ((by rw [hg]; exact Nat.ne_of_lt (blk_lt (g := gb106) (o := .cells #[.bool a0_0, .slice A0_1 l0_1.length c0_1, .int .u64 a0_2] 25 (0, 0)) (by (with_reducible repeat (first | refine blk_drewN ?_ _ | refine blk_drew ?_ | refine blk_alloc ?_ _)); exact BK106.out)) : gb106 ≠ gb107)); have n6_ := Aside0.mk ((by rw [hg]; exact Nat.ne_of_gt (blk_lt (g := gb106) (o := .cells #[.bool a0_0, .slice A0_1 l0_1.length c0_1, .int .u64 a0_2] 25 (0, 0)) (by (with_reducible repeat (first | refine blk_drewN ?_ _ | refine blk_drew ?_ | refine blk_alloc ?_ _)); exact BK106.out)) : gb107 ≠ gb106)); clear BK106; clear HB; have BK106 := n0_; have HB := n1_; have BK107 := n2_; have GW107 := n3_; have GE107 := n4_; have NB106_107 := n5_; have NB107_106 := n6_; clear n0_ n1_ n2_ n3_ n4_ n5_ n6_; clear hb hbox hg; have hnb6 := NB106_107.out; have hnc6 := NB107_106.out; have hcz7_0 : w5.cell? ⟨gb106, 0, none⟩ = some (.bool a0_0) := (blk_cell BK106.out 0).trans rfl; have hcz7_1 : w5.cell? ⟨gb106, 1, none⟩ = some (.slice A0_1 l0_1.length c0_1) := (blk_cell BK106.out 1).trans rfl; have hcz7_2 : w5.cell? ⟨gb106, 2, none⟩ = some (.int .u64 a0_2) := (blk_cell BK106.out 2).trans rfl; have hfz7_0 := blk_frozen BK106.out 0; have hfz7_1 := blk_frozen BK106.out 1; have hfz7_2 := blk_frozen BK106.out 2; have hcz8_0 : w5.cell? ⟨gb107, 0, none⟩ = some (.bool a1_0) := (blk_cell BK107.out 0).trans rfl; have hcz8_1 : w5.cell? ⟨gb107, 1, none⟩ = some (.slice A1_1 l1_1.length c1_1) := (blk_cell BK107.out 1).trans rfl; have hcz8_2 : w5.cell? ⟨gb107, 2, none⟩ = some (.int .u64 a1_2) := (blk_cell BK107.out 2).trans rfl; have hfz8_0 := blk_frozen BK107.out 0; have hfz8_1 := blk_frozen BK107.out 1; have hfz8_2 := blk_frozen BK107.out 2) | ((with_reducible refine gate_callee (f := 16) rfl ?_); refine goesL_ (some 13) rfl rfl Try.func16 (by kernel_rfl) rfl #[.slice A0_1 l0_1.length c0_1, .int .u64 a0_2, .slice A1_1 l1_1.length c1_1, .int .u64 a1_2] rfl (by (try simp only [List.map_toArray, List.map_cons, List.map_nil]); first | done | rfl | (simp only [List.length_drop, List.length_take]; rfl)) ?_; (with_reducible refine (spec_Order.calls _ _ l0_1 a0_2 _ _ l1_1 a1_2 t108 _ ?side1 ?side2 ?side3 ?side4 A3.out).mono ?_); (case side1 => repeat (first | exact (Kd.C_below HR0_1.out HB.out) | (with_reducible refine Kd.C_alloc ?_ _) | (with_reducible refine Kd.C_drewN ?_ _) | (with_reducible refine Kd.C_drew ?_))); (case side2 => exact HC0_1.out); (case side3 => repeat (first | exact (Kd.C_below HR1_1.out HB.out) | (with_reducible refine Kd.C_alloc ?_ _) | (with_reducible refine Kd.C_drewN ?_ _) | (with_reducible refine Kd.C_drew ?_))); (case side4 => exact HC1_1.out); rintro e w9 ⟨rfl, hb⟩; refine ⟨_, rfl, ?_⟩; have n0_ := Aside0.mk (blk_below (g := gb106) (o := .cells #[.bool a0_0, .slice A0_1 l0_1.length c0_1, .int .u64 a0_2] 25 (0, 0)) (by (with_reducible repeat (first | refine blk_drewN ?_ _ | refine blk_drew ?_ | refine blk_alloc ?_ _)); exact BK106.out) hb); have n1_ := Aside0.mk (blk_below (g := gb107) (o := .cells #[.bool a1_0, .slice A1_1 l1_1.length c1_1, .int .u64 a1_2] 25 (0, 0)) (by (with_reducible repeat (first | refine blk_drewN ?_ _ | refine blk_drew ?_ | refine blk_alloc ?_ _)); exact BK107.out) hb); have n2_ := Aside0.mk (below_step (by repeat (first | (with_reducible first | exact HB.out | apply below_alloc | apply pw_below_drewN | apply below_drew1 | refine below_set ?_ GE106.out | refine below_set ?_ GE107.out) | exact HB.out)) hb); clear BK106; clear BK107; clear HB; have BK106 := n0_; have BK107 := n1_; have HB := n2_; clear n0_ n1_ n2_; (try clear hb); (try clear hb2); (try clear hk); (try clear hi)))
  go_ret
  exact ⟨by first | rfl | (simp [errW_none, errW_some] <;> rfl) | (simp [*, errW_none, errW_some] <;> rfl), by repeat (first | (with_reducible first | exact HB.out | apply below_alloc | apply pw_below_drewN | apply below_drew1 | refine below_set ?_ GE106.out | refine below_set ?_ GE107.out) | exact HB.out)⟩

/-! ### spec_Wide: function 14 -/
def spec_Wide.f (a0_0 : Bool) (l0_1 : List Int) (a0_2 : Int) (a0_3 : Bool) (l0_4 : List Int) (a0_5 : Int) (a0_6 : Bool) : Option (Bool) := if a0_6 = true then (if a0_0 = true then (some false) else (some (!a0_3))) else (if a0_0 = true then (if a0_3 = true then ((spec_OrderBounds.f a0_0 l0_1 a0_2 a0_3 l0_4 a0_5).bind fun t110 => (some (decide (t110 ≤ 0)))) else (some false)) else (some false))
set_option maxHeartbeats 8000000 in
set_option maxRecDepth 100000 in
theorem spec_Wide.calls (a0_0 : Bool) (A0_1 : Option Addr) (c0_1 : Nat) (l0_1 : List Int) (a0_2 : Int) (a0_3 : Bool) (A0_4 : Option Addr) (c0_4 : Nat) (l0_4 : List Int) (a0_5 : Int) (a0_6 : Bool) (r : Bool) (w : World) (hr0_1 : Kd.C (Kd.int .u8) w A0_1 l0_1.length l0_1) (hc0_1 : l0_1.length ≤ c0_1) (hr0_4 : Kd.C (Kd.int .u8) w A0_4 l0_4.length l0_4) (hc0_4 : l0_4.length ≤ c0_4) (h : spec_Wide.f a0_0 l0_1 a0_2 a0_3 l0_4 a0_5 a0_6 = some r) :
    Calls Try.prog 14 #[.agg #[.bool a0_0, .slice A0_1 l0_1.length c0_1, .int .u64 a0_2, .bool a0_3, .slice A0_4 l0_4.length c0_4, .int .u64 a0_5, .bool a0_6]] w fun e w' => e = .returned (.bool r) ∧ Below w.heap.size w w' := by
  have hu27 := Try.underlying27
  have hu25 := Try.underlying25
  have HR0_1 := Aside0.mk hr0_1
  have HC0_1 := Aside0.mk hc0_1
  clear hr0_1 hc0_1
  have HR0_4 := Aside0.mk hr0_4
  have HC0_4 := Aside0.mk hc0_4
  clear hr0_4 hc0_4
  have HB := Aside0.mk (Below.refl w.heap.size w)
  have H : (if a0_6 = true then (if a0_0 = true then (some false) else (some (!a0_3))) else (if a0_0 = true then (if a0_3 = true then ((spec_OrderBounds.f a0_0 l0_1 a0_2 a0_3 l0_4 a0_5).bind fun t110 => (some (decide (t110 ≤ 0)))) else (some false)) else (some false))) = some r := h
  clear h
  by_cases c2 : a0_6 = true
  · subst c2
    have H1 : (if a0_0 = true then (some false) else (some (!a0_3))) = some r := by rw [if_pos rfl] at H; exact H
    clear H
    have H := H1
    clear H1
    by_cases c3 : a0_0 = true
    · subst c3
      have H1 : (some false) = some r := by rw [if_pos rfl] at H; exact H
      clear H
      have H := H1
      clear H1
      obtain rfl := Option.some.inj H
      go_enter Try.func14, Try.ntmps14
      go_wp2_with (first | ((with_reducible refine gate_dst (N := 1) rfl ?_); refine box_event ?hg (N := 1) ?hd (cs := #[.bool true, .slice A0_1 l0_1.length c0_1, .int .u64 a0_2, .bool a0_3, .slice A0_4 l0_4.length c0_4, .int .u64 a0_5, .bool true]) (t := 27) ?hr ?_; (case hd => rfl); (case hg => rfl); (case hr => first | (go_simp; done) | (go_simp; rfl)); intro gb109 hg w4 hbox hb; have n0_ := Aside0.mk (below_step (by repeat (first | (with_reducible first | exact HB.out | apply below_alloc | apply pw_below_drewN | apply below_drew1) | exact HB.out)) hb); have n1_ := Aside0.mk (hbox); have n2_ := Aside0.mk ((by rw [hg]; exact (below_size (by repeat (first | (with_reducible first | exact HB.out | apply below_alloc | apply pw_below_drewN | apply below_drew1) | exact HB.out))) : w.heap.size ≤ gb109)); have n3_ := Aside0.mk ((by rw [hg]; exact (below_size (by repeat (first | (with_reducible first | exact HB.out | apply below_alloc | apply pw_below_drewN | apply below_drew1) | exact HB.out))) : w.heap.size ≤ gb109)); clear HB; have HB := n0_; have BK109 := n1_; have GW109 := n2_; have GE109 := n3_; clear n0_ n1_ n2_ n3_; clear hb hbox hg; have hcz5_0 : w4.cell? ⟨gb109, 0, none⟩ = some (.bool true) := (blk_cell BK109.out 0).trans rfl; have hcz5_1 : w4.cell? ⟨gb109, 1, none⟩ = some (.slice A0_1 l0_1.length c0_1) := (blk_cell BK109.out 1).trans rfl; have hcz5_2 : w4.cell? ⟨gb109, 2, none⟩ = some (.int .u64 a0_2) := (blk_cell BK109.out 2).trans rfl; have hcz5_3 : w4.cell? ⟨gb109, 3, none⟩ = some (.bool a0_3) := (blk_cell BK109.out 3).trans rfl; have hcz5_4 : w4.cell? ⟨gb109, 4, none⟩ = some (.slice A0_4 l0_4.length c0_4) := (blk_cell BK109.out 4).trans rfl; have hcz5_5 : w4.cell? ⟨gb109, 5, none⟩ = some (.int .u64 a0_5) := (blk_cell BK109.out 5).trans rfl; have hcz5_6 : w4.cell? ⟨gb109, 6, none⟩ = some (.bool true) := (blk_cell BK109.out 6).trans rfl; have hfz5_0 := blk_frozen BK109.out 0; have hfz5_1 := blk_frozen BK109.out 1; have hfz5_2 := blk_frozen BK109.out 2; have hfz5_3 := blk_frozen BK109.out 3; have hfz5_4 := blk_frozen BK109.out 4; have hfz5_5 := blk_frozen BK109.out 5; have hfz5_6 := blk_frozen BK109.out 6))
      go_ret
      exact ⟨by first | rfl | (simp [errW_none, errW_some] <;> rfl) | (simp [*, errW_none, errW_some] <;> rfl), by repeat (first | (with_reducible first | exact HB.out | apply below_alloc | apply pw_below_drewN | apply below_drew1 | refine below_set ?_ GE109.out) | exact HB.out)⟩
    · replace c3 := Bool.eq_false_iff.mpr c3
      subst c3
      have H1 : (some (!a0_3)) = some r := by rw [if_neg (show ¬ (false = true) by decide)] at H; exact H
      clear H
      have H := H1
      clear H1
      obtain rfl := Option.some.inj H
      go_enter Try.func14, Try.ntmps14
      go_wp2_with (first | ((with_reducible refine gate_dst (N := 1) rfl ?_); refine box_event ?hg (N := 1) ?hd (cs := #[.bool false, .slice A0_1 l0_1.length c0_1, .int .u64 a0_2, .bool a0_3, .slice A0_4 l0_4.length c0_4, .int .u64 a0_5, .bool true]) (t := 27) ?hr ?_; (case hd => rfl); (case hg => rfl); (case hr => first | (go_simp; done) | (go_simp; rfl)); intro gb109 hg w6 hbox hb; have n0_ := Aside0.mk (below_step (by repeat (first | (with_reducible first | exact HB.out | apply below_alloc | apply pw_below_drewN | apply below_drew1) | exact HB.out)) hb); have n1_ := Aside0.mk (hbox); have n2_ := Aside0.mk ((by rw [hg]; exact (below_size (by repeat (first | (with_reducible first | exact HB.out | apply below_alloc | apply pw_below_drewN | apply below_drew1) | exact HB.out))) : w.heap.size ≤ gb109)); have n3_ := Aside0.mk ((by rw [hg]; exact (below_size (by repeat (first | (with_reducible first | exact HB.out | apply below_alloc | apply pw_below_drewN | apply below_drew1) | exact HB.out))) : w.heap.size ≤ gb109)); clear HB; have HB := n0_; have BK109 := n1_; have GW109 := n2_; have GE109 := n3_; clear n0_ n1_ n2_ n3_; clear hb hbox hg; have hcz7_0 : w6.cell? ⟨gb109, 0, none⟩ = some (.bool false) := (blk_cell BK109.out 0).trans rfl; have hcz7_1 : w6.cell? ⟨gb109, 1, none⟩ = some (.slice A0_1 l0_1.length c0_1) := (blk_cell BK109.out 1).trans rfl; have hcz7_2 : w6.cell? ⟨gb109, 2, none⟩ = some (.int .u64 a0_2) := (blk_cell BK109.out 2).trans rfl; have hcz7_3 : w6.cell? ⟨gb109, 3, none⟩ = some (.bool a0_3) := (blk_cell BK109.out 3).trans rfl; have hcz7_4 : w6.cell? ⟨gb109, 4, none⟩ = some (.slice A0_4 l0_4.length c0_4) := (blk_cell BK109.out 4).trans rfl; have hcz7_5 : w6.cell? ⟨gb109, 5, none⟩ = some (.int .u64 a0_5) := (blk_cell BK109.out 5).trans rfl; have hcz7_6 : w6.cell? ⟨gb109, 6, none⟩ = some (.bool true) := (blk_cell BK109.out 6).trans rfl; have hfz7_0 := blk_frozen BK109.out 0; have hfz7_1 := blk_frozen BK109.out 1; have hfz7_2 := blk_frozen BK109.out 2; have hfz7_3 := blk_frozen BK109.out 3; have hfz7_4 := blk_frozen BK109.out 4; have hfz7_5 := blk_frozen BK109.out 5; have hfz7_6 := blk_frozen BK109.out 6))
      go_ret
      exact ⟨by first | rfl | (simp [errW_none, errW_some] <;> rfl) | (simp [*, errW_none, errW_some] <;> rfl), by repeat (first | (with_reducible first | exact HB.out | apply below_alloc | apply pw_below_drewN | apply below_drew1 | refine below_set ?_ GE109.out) | exact HB.out)⟩
  · replace c2 := Bool.eq_false_iff.mpr c2
    subst c2
    have H1 : (if a0_0 = true then (if a0_3 = true then ((spec_OrderBounds.f a0_0 l0_1 a0_2 a0_3 l0_4 a0_5).bind fun t110 => (some (decide (t110 ≤ 0)))) else (some false)) else (some false)) = some r := by rw [if_neg (show ¬ (false = true) by decide)] at H; exact H
    clear H
    have H := H1
    clear H1
    by_cases c8 : a0_0 = true
    · subst c8
      have H1 : (if a0_3 = true then ((spec_OrderBounds.f true l0_1 a0_2 a0_3 l0_4 a0_5).bind fun t110 => (some (decide (t110 ≤ 0)))) else (some false)) = some r := by rw [if_pos rfl] at H; exact H
      clear H
      have H := H1
      clear H1
      by_cases c9 : a0_3 = true
      · subst c9
        have H1 : ((spec_OrderBounds.f true l0_1 a0_2 true l0_4 a0_5).bind fun t110 => (some (decide (t110 ≤ 0)))) = some r := by rw [if_pos rfl] at H; exact H
        clear H
        have H := H1
        clear H1
        replace H := Option.bind_eq_some_iff.mp H
        obtain ⟨t110, A100, H⟩ := H
        replace H : (some (decide (t110 ≤ 0))) = some r := H
        have A10 := Aside0.mk A100
        clear A100
        obtain rfl := Option.some.inj H
        go_enter Try.func14, Try.ntmps14
        go_wp2_with (first | ((with_reducible refine gate_dst (N := 1) rfl ?_); refine box_event ?hg (N := 1) ?hd (cs := #[.bool true, .slice A0_1 l0_1.length c0_1, .int .u64 a0_2, .bool true, .slice A0_4 l0_4.length c0_4, .int .u64 a0_5, .bool false]) (t := 27) ?hr ?_; (case hd => rfl); (case hg => rfl); (case hr => first | (go_simp; done) | (go_simp; rfl)); intro gb109 hg w11 hbox hb; have n0_ := Aside0.mk (below_step (by repeat (first | (with_reducible first | exact HB.out | apply below_alloc | apply pw_below_drewN | apply below_drew1) | exact HB.out)) hb); have n1_ := Aside0.mk (hbox); have n2_ := Aside0.mk ((by rw [hg]; exact (below_size (by repeat (first | (with_reducible first | exact HB.out | apply below_alloc | apply pw_below_drewN | apply below_drew1) | exact HB.out))) : w.heap.size ≤ gb109)); have n3_ := Aside0.mk ((by rw [hg]; exact (below_size (by repeat (first | (with_reducible first | exact HB.out | apply below_alloc | apply pw_below_drewN | apply below_drew1) | exact HB.out))) : w.heap.size ≤ gb109)); clear HB; have HB := n0_; have BK109 := n1_; have GW109 := n2_; have GE109 := n3_; clear n0_ n1_ n2_ n3_; clear hb hbox hg; have hcz12_0 : w11.cell? ⟨gb109, 0, none⟩ = some (.bool true) := (blk_cell BK109.out 0).trans rfl; have hcz12_1 : w11.cell? ⟨gb109, 1, none⟩ = some (.slice A0_1 l0_1.length c0_1) := (blk_cell BK109.out 1).trans rfl; have hcz12_2 : w11.cell? ⟨gb109, 2, none⟩ = some (.int .u64 a0_2) := (blk_cell BK109.out 2).trans rfl; have hcz12_3 : w11.cell? ⟨gb109, 3, none⟩ = some (.bool true) := (blk_cell BK109.out 3).trans rfl; have hcz12_4 : w11.cell? ⟨gb109, 4, none⟩ = some (.slice A0_4 l0_4.length c0_4) := (blk_cell BK109.out 4).trans rfl; have hcz12_5 : w11.cell? ⟨gb109, 5, none⟩ = some (.int .u64 a0_5) := (blk_cell BK109.out 5).trans rfl; have hcz12_6 : w11.cell? ⟨gb109, 6, none⟩ = some (.bool false) := (blk_cell BK109.out 6).trans rfl; have hfz12_0 := blk_frozen BK109.out 0; have hfz12_1 := blk_frozen BK109.out 1; have hfz12_2 := blk_frozen BK109.out 2; have hfz12_3 := blk_frozen BK109.out 3; have hfz12_4 := blk_frozen BK109.out 4; have hfz12_5 := blk_frozen BK109.out 5; have hfz12_6 := blk_frozen BK109.out 6) | (go_at_call 7; (with_reducible refine (spec_OrderBounds.calls true _ _ l0_1 a0_2 true _ _ l0_4 a0_5 t110 _ ?side1 ?side2 ?side3 ?side4 A10.out).mono ?_); (case side1 => repeat (first | exact (Kd.C_below HR0_1.out HB.out) | (with_reducible refine Kd.C_alloc ?_ _) | (with_reducible refine Kd.C_drewN ?_ _) | (with_reducible refine Kd.C_drew ?_))); (case side2 => exact HC0_1.out); (case side3 => repeat (first | exact (Kd.C_below HR0_4.out HB.out) | (with_reducible refine Kd.C_alloc ?_ _) | (with_reducible refine Kd.C_drewN ?_ _) | (with_reducible refine Kd.C_drew ?_))); (case side4 => exact HC0_4.out); rintro e w13 ⟨rfl, hb⟩; have n0_ := Aside0.mk (blk_below (g := gb109) (o := .cells #[.bool true, .slice A0_1 l0_1.length c0_1, .int .u64 a0_2, .bool true, .slice A0_4 l0_4.length c0_4, .int .u64 a0_5, .bool false] 27 (0, 0)) (by (with_reducible repeat (first | refine blk_drewN ?_ _ | refine blk_drew ?_ | refine blk_alloc ?_ _)); exact BK109.out) hb); have n1_ := Aside0.mk (below_step (by repeat (first | (with_reducible first | exact HB.out | apply below_alloc | apply pw_below_drewN | apply below_drew1 | refine below_set ?_ GE109.out) | exact HB.out)) hb); clear BK109; clear HB; have BK109 := n0_; have HB := n1_; clear n0_ n1_; (try clear hb); (try clear hb2); (try clear hk); (try clear hi)))
        go_ret
        exact ⟨by first | rfl | (simp [errW_none, errW_some] <;> rfl) | (simp [*, errW_none, errW_some] <;> rfl), by repeat (first | (with_reducible first | exact HB.out | apply below_alloc | apply pw_below_drewN | apply below_drew1 | refine below_set ?_ GE109.out) | exact HB.out)⟩
      · replace c9 := Bool.eq_false_iff.mpr c9
        subst c9
        have H1 : (some false) = some r := by rw [if_neg (show ¬ (false = true) by decide)] at H; exact H
        clear H
        have H := H1
        clear H1
        obtain rfl := Option.some.inj H
        go_enter Try.func14, Try.ntmps14
        go_wp2_with (first | ((with_reducible refine gate_dst (N := 1) rfl ?_); refine box_event ?hg (N := 1) ?hd (cs := #[.bool true, .slice A0_1 l0_1.length c0_1, .int .u64 a0_2, .bool false, .slice A0_4 l0_4.length c0_4, .int .u64 a0_5, .bool false]) (t := 27) ?hr ?_; (case hd => rfl); (case hg => rfl); (case hr => first | (go_simp; done) | (go_simp; rfl)); intro gb109 hg w14 hbox hb; have n0_ := Aside0.mk (below_step (by repeat (first | (with_reducible first | exact HB.out | apply below_alloc | apply pw_below_drewN | apply below_drew1) | exact HB.out)) hb); have n1_ := Aside0.mk (hbox); have n2_ := Aside0.mk ((by rw [hg]; exact (below_size (by repeat (first | (with_reducible first | exact HB.out | apply below_alloc | apply pw_below_drewN | apply below_drew1) | exact HB.out))) : w.heap.size ≤ gb109)); have n3_ := Aside0.mk ((by rw [hg]; exact (below_size (by repeat (first | (with_reducible first | exact HB.out | apply below_alloc | apply pw_below_drewN | apply below_drew1) | exact HB.out))) : w.heap.size ≤ gb109)); clear HB; have HB := n0_; have BK109 := n1_; have GW109 := n2_; have GE109 := n3_; clear n0_ n1_ n2_ n3_; clear hb hbox hg; have hcz15_0 : w14.cell? ⟨gb109, 0, none⟩ = some (.bool true) := (blk_cell BK109.out 0).trans rfl; have hcz15_1 : w14.cell? ⟨gb109, 1, none⟩ = some (.slice A0_1 l0_1.length c0_1) := (blk_cell BK109.out 1).trans rfl; have hcz15_2 : w14.cell? ⟨gb109, 2, none⟩ = some (.int .u64 a0_2) := (blk_cell BK109.out 2).trans rfl; have hcz15_3 : w14.cell? ⟨gb109, 3, none⟩ = some (.bool false) := (blk_cell BK109.out 3).trans rfl; have hcz15_4 : w14.cell? ⟨gb109, 4, none⟩ = some (.slice A0_4 l0_4.length c0_4) := (blk_cell BK109.out 4).trans rfl; have hcz15_5 : w14.cell? ⟨gb109, 5, none⟩ = some (.int .u64 a0_5) := (blk_cell BK109.out 5).trans rfl; have hcz15_6 : w14.cell? ⟨gb109, 6, none⟩ = some (.bool false) := (blk_cell BK109.out 6).trans rfl; have hfz15_0 := blk_frozen BK109.out 0; have hfz15_1 := blk_frozen BK109.out 1; have hfz15_2 := blk_frozen BK109.out 2; have hfz15_3 := blk_frozen BK109.out 3; have hfz15_4 := blk_frozen BK109.out 4; have hfz15_5 := blk_frozen BK109.out 5; have hfz15_6 := blk_frozen BK109.out 6))
        go_ret
        exact ⟨by first | rfl | (simp [errW_none, errW_some] <;> rfl) | (simp [*, errW_none, errW_some] <;> rfl), by repeat (first | (with_reducible first | exact HB.out | apply below_alloc | apply pw_below_drewN | apply below_drew1 | refine below_set ?_ GE109.out) | exact HB.out)⟩
    · replace c8 := Bool.eq_false_iff.mpr c8
      subst c8
      have H1 : (some false) = some r := by rw [if_neg (show ¬ (false = true) by decide)] at H; exact H
      clear H
      have H := H1
      clear H1
      obtain rfl := Option.some.inj H
      go_enter Try.func14, Try.ntmps14
      go_wp2_with (first | ((with_reducible refine gate_dst (N := 1) rfl ?_); refine box_event ?hg (N := 1) ?hd (cs := #[.bool false, .slice A0_1 l0_1.length c0_1, .int .u64 a0_2, .bool a0_3, .slice A0_4 l0_4.length c0_4, .int .u64 a0_5, .bool false]) (t := 27) ?hr ?_; (case hd => rfl); (case hg => rfl); (case hr => first | (go_simp; done) | (go_simp; rfl)); intro gb109 hg w16 hbox hb; have n0_ := Aside0.mk (below_step (by repeat (first | (with_reducible first | exact HB.out | apply below_alloc | apply pw_below_drewN | apply below_drew1) | exact HB.out)) hb); have n1_ := Aside0.mk (hbox); have n2_ := Aside0.mk ((by rw [hg]; exact (below_size (by repeat (first | (with_reducible first | exact HB.out | apply below_alloc | apply pw_below_drewN | apply below_drew1) | exact HB.out))) : w.heap.size ≤ gb109)); have n3_ := Aside0.mk ((by rw [hg]; exact (below_size (by repeat (first | (with_reducible first | exact HB.out | apply below_alloc | apply pw_below_drewN | apply below_drew1) | exact HB.out))) : w.heap.size ≤ gb109)); clear HB; have HB := n0_; have BK109 := n1_; have GW109 := n2_; have GE109 := n3_; clear n0_ n1_ n2_ n3_; clear hb hbox hg; have hcz17_0 : w16.cell? ⟨gb109, 0, none⟩ = some (.bool false) := (blk_cell BK109.out 0).trans rfl; have hcz17_1 : w16.cell? ⟨gb109, 1, none⟩ = some (.slice A0_1 l0_1.length c0_1) := (blk_cell BK109.out 1).trans rfl; have hcz17_2 : w16.cell? ⟨gb109, 2, none⟩ = some (.int .u64 a0_2) := (blk_cell BK109.out 2).trans rfl; have hcz17_3 : w16.cell? ⟨gb109, 3, none⟩ = some (.bool a0_3) := (blk_cell BK109.out 3).trans rfl; have hcz17_4 : w16.cell? ⟨gb109, 4, none⟩ = some (.slice A0_4 l0_4.length c0_4) := (blk_cell BK109.out 4).trans rfl; have hcz17_5 : w16.cell? ⟨gb109, 5, none⟩ = some (.int .u64 a0_5) := (blk_cell BK109.out 5).trans rfl; have hcz17_6 : w16.cell? ⟨gb109, 6, none⟩ = some (.bool false) := (blk_cell BK109.out 6).trans rfl; have hfz17_0 := blk_frozen BK109.out 0; have hfz17_1 := blk_frozen BK109.out 1; have hfz17_2 := blk_frozen BK109.out 2; have hfz17_3 := blk_frozen BK109.out 3; have hfz17_4 := blk_frozen BK109.out 4; have hfz17_5 := blk_frozen BK109.out 5; have hfz17_6 := blk_frozen BK109.out 6))
      go_ret
      exact ⟨by first | rfl | (simp [errW_none, errW_some] <;> rfl) | (simp [*, errW_none, errW_some] <;> rfl), by repeat (first | (with_reducible first | exact HB.out | apply below_alloc | apply pw_below_drewN | apply below_drew1 | refine below_set ?_ GE109.out) | exact HB.out)⟩

/-! ### laws_boundOk: function 15 -/
def laws_boundOk.f (a0_0 : Bool) (l0_1 : List Int) (a0_2 : Int) : Option (Bool) := if a0_0 = true then (if (l0_1.length : Int) ≥ 1 then (some (decide ((l0_1.length : Int) ≤ 40))) else (some false)) else (some true)
set_option maxHeartbeats 8000000 in
set_option maxRecDepth 100000 in
theorem laws_boundOk.calls (a0_0 : Bool) (A0_1 : Option Addr) (c0_1 : Nat) (l0_1 : List Int) (a0_2 : Int) (r : Bool) (w : World) (hr0_1 : Kd.C (Kd.int .u8) w A0_1 l0_1.length l0_1) (hc0_1 : l0_1.length ≤ c0_1) (h : laws_boundOk.f a0_0 l0_1 a0_2 = some r) :
    Calls Try.prog 15 #[.agg #[.bool a0_0, .slice A0_1 l0_1.length c0_1, .int .u64 a0_2]] w fun e w' => e = .returned (.bool r) ∧ Below w.heap.size w w' := by
  have hu25 := Try.underlying25
  have HR0_1 := Aside0.mk hr0_1
  have HC0_1 := Aside0.mk hc0_1
  clear hr0_1 hc0_1
  have HB := Aside0.mk (Below.refl w.heap.size w)
  have H : (if a0_0 = true then (if (l0_1.length : Int) ≥ 1 then (some (decide ((l0_1.length : Int) ≤ 40))) else (some false)) else (some true)) = some r := h
  clear h
  by_cases c2 : a0_0 = true
  · subst c2
    have H1 : (if (l0_1.length : Int) ≥ 1 then (some (decide ((l0_1.length : Int) ≤ 40))) else (some false)) = some r := by rw [if_pos rfl] at H; exact H
    clear H
    have H := H1
    clear H1
    by_cases c3 : (l0_1.length : Int) ≥ 1
    · rw [if_pos c3] at H
      have c3b0 : decide (1 ≤ (l0_1.length : Int)) = true := decide_eq_true c3
      have c3b1 : decide (1 ≤ l0_1.length) = true := decide_eq_true (by omega)
      clear c3
      obtain rfl := Option.some.inj H
      go_enter Try.func15, Try.ntmps15
      go_wp2_with (first | ((with_reducible refine gate_dst (N := 1) rfl ?_); (try (refine gate_guard (by rfl) ?_; dsimp only)); refine box_event ?hg (N := 1) ?hd (cs := #[.bool true, .slice A0_1 l0_1.length c0_1, .int .u64 a0_2]) (t := 25) ?hr ?_; (case hd => rfl); (case hg => rfl); (case hr => first | (go_simp; done) | (go_simp; rfl)); intro gb111 hg w4 hbox hb; have n0_ := Aside0.mk (below_step (by repeat (first | (with_reducible first | exact HB.out | apply below_alloc | apply pw_below_drewN | apply below_drew1) | exact HB.out)) hb); have n1_ := Aside0.mk (hbox); have n2_ := Aside0.mk ((by rw [hg]; exact (below_size (by repeat (first | (with_reducible first | exact HB.out | apply below_alloc | apply pw_below_drewN | apply below_drew1) | exact HB.out))) : w.heap.size ≤ gb111)); have n3_ := Aside0.mk ((by rw [hg]; exact (below_size (by repeat (first | (with_reducible first | exact HB.out | apply below_alloc | apply pw_below_drewN | apply below_drew1) | exact HB.out))) : w.heap.size ≤ gb111)); clear HB; have HB := n0_; have BK111 := n1_; have GW111 := n2_; have GE111 := n3_; clear n0_ n1_ n2_ n3_; clear hb hbox hg; have hcz5_0 : w4.cell? ⟨gb111, 0, none⟩ = some (.bool true) := (blk_cell BK111.out 0).trans rfl; have hcz5_1 : w4.cell? ⟨gb111, 1, none⟩ = some (.slice A0_1 l0_1.length c0_1) := (blk_cell BK111.out 1).trans rfl; have hcz5_2 : w4.cell? ⟨gb111, 2, none⟩ = some (.int .u64 a0_2) := (blk_cell BK111.out 2).trans rfl; have hfz5_0 := blk_frozen BK111.out 0; have hfz5_1 := blk_frozen BK111.out 1; have hfz5_2 := blk_frozen BK111.out 2))
      go_ret
      exact ⟨by first | rfl | (simp [errW_none, errW_some] <;> rfl) | (simp [*, errW_none, errW_some] <;> rfl), by repeat (first | (with_reducible first | exact HB.out | apply below_alloc | apply pw_below_drewN | apply below_drew1 | refine below_set ?_ GE111.out) | exact HB.out)⟩
    · rw [if_neg c3] at H
      have c3b0 : decide (1 ≤ (l0_1.length : Int)) = false := decide_eq_false c3
      have c3b1 : decide (1 ≤ l0_1.length) = false := decide_eq_false (by omega)
      clear c3
      obtain rfl := Option.some.inj H
      go_enter Try.func15, Try.ntmps15
      go_wp2_with (first | ((with_reducible refine gate_dst (N := 1) rfl ?_); (try (refine gate_guard (by rfl) ?_; dsimp only)); refine box_event ?hg (N := 1) ?hd (cs := #[.bool true, .slice A0_1 l0_1.length c0_1, .int .u64 a0_2]) (t := 25) ?hr ?_; (case hd => rfl); (case hg => rfl); (case hr => first | (go_simp; done) | (go_simp; rfl)); intro gb111 hg w6 hbox hb; have n0_ := Aside0.mk (below_step (by repeat (first | (with_reducible first | exact HB.out | apply below_alloc | apply pw_below_drewN | apply below_drew1) | exact HB.out)) hb); have n1_ := Aside0.mk (hbox); have n2_ := Aside0.mk ((by rw [hg]; exact (below_size (by repeat (first | (with_reducible first | exact HB.out | apply below_alloc | apply pw_below_drewN | apply below_drew1) | exact HB.out))) : w.heap.size ≤ gb111)); have n3_ := Aside0.mk ((by rw [hg]; exact (below_size (by repeat (first | (with_reducible first | exact HB.out | apply below_alloc | apply pw_below_drewN | apply below_drew1) | exact HB.out))) : w.heap.size ≤ gb111)); clear HB; have HB := n0_; have BK111 := n1_; have GW111 := n2_; have GE111 := n3_; clear n0_ n1_ n2_ n3_; clear hb hbox hg; have hcz7_0 : w6.cell? ⟨gb111, 0, none⟩ = some (.bool true) := (blk_cell BK111.out 0).trans rfl; have hcz7_1 : w6.cell? ⟨gb111, 1, none⟩ = some (.slice A0_1 l0_1.length c0_1) := (blk_cell BK111.out 1).trans rfl; have hcz7_2 : w6.cell? ⟨gb111, 2, none⟩ = some (.int .u64 a0_2) := (blk_cell BK111.out 2).trans rfl; have hfz7_0 := blk_frozen BK111.out 0; have hfz7_1 := blk_frozen BK111.out 1; have hfz7_2 := blk_frozen BK111.out 2))
      go_ret
      exact ⟨by first | rfl | (simp [errW_none, errW_some] <;> rfl) | (simp [*, errW_none, errW_some] <;> rfl), by repeat (first | (with_reducible first | exact HB.out | apply below_alloc | apply pw_below_drewN | apply below_drew1 | refine below_set ?_ GE111.out) | exact HB.out)⟩
  · replace c2 := Bool.eq_false_iff.mpr c2
    subst c2
    have H1 : (some true) = some r := by rw [if_neg (show ¬ (false = true) by decide)] at H; exact H
    clear H
    have H := H1
    clear H1
    obtain rfl := Option.some.inj H
    go_enter Try.func15, Try.ntmps15
    go_wp2_with (first | ((with_reducible refine gate_dst (N := 1) rfl ?_); (try (refine gate_guard (by rfl) ?_; dsimp only)); refine box_event ?hg (N := 1) ?hd (cs := #[.bool false, .slice A0_1 l0_1.length c0_1, .int .u64 a0_2]) (t := 25) ?hr ?_; (case hd => rfl); (case hg => rfl); (case hr => first | (go_simp; done) | (go_simp; rfl)); intro gb111 hg w8 hbox hb; have n0_ := Aside0.mk (below_step (by repeat (first | (with_reducible first | exact HB.out | apply below_alloc | apply pw_below_drewN | apply below_drew1) | exact HB.out)) hb); have n1_ := Aside0.mk (hbox); have n2_ := Aside0.mk ((by rw [hg]; exact (below_size (by repeat (first | (with_reducible first | exact HB.out | apply below_alloc | apply pw_below_drewN | apply below_drew1) | exact HB.out))) : w.heap.size ≤ gb111)); have n3_ := Aside0.mk ((by rw [hg]; exact (below_size (by repeat (first | (with_reducible first | exact HB.out | apply below_alloc | apply pw_below_drewN | apply below_drew1) | exact HB.out))) : w.heap.size ≤ gb111)); clear HB; have HB := n0_; have BK111 := n1_; have GW111 := n2_; have GE111 := n3_; clear n0_ n1_ n2_ n3_; clear hb hbox hg; have hcz9_0 : w8.cell? ⟨gb111, 0, none⟩ = some (.bool false) := (blk_cell BK111.out 0).trans rfl; have hcz9_1 : w8.cell? ⟨gb111, 1, none⟩ = some (.slice A0_1 l0_1.length c0_1) := (blk_cell BK111.out 1).trans rfl; have hcz9_2 : w8.cell? ⟨gb111, 2, none⟩ = some (.int .u64 a0_2) := (blk_cell BK111.out 2).trans rfl; have hfz9_0 := blk_frozen BK111.out 0; have hfz9_1 := blk_frozen BK111.out 1; have hfz9_2 := blk_frozen BK111.out 2))
    go_ret
    exact ⟨by first | rfl | (simp [errW_none, errW_some] <;> rfl) | (simp [*, errW_none, errW_some] <;> rfl), by repeat (first | (with_reducible first | exact HB.out | apply below_alloc | apply pw_below_drewN | apply below_drew1 | refine below_set ?_ GE111.out) | exact HB.out)⟩

/-! ### laws_rangesOk: function 6 -/
def laws_rangesOk.l0 : Nat → List (S27) → Int → Int → Option (Bool)
  | 0, _, _, _ => none
  | k + 1, x5, x6, x7 => if x7 < x6 then (if 0 ≤ x7 then (if x7 < (x5.length : Int) then ((spec_Wide.f ((rd_T27 x5 x7).f0.f0) ((rd_T27 x5 x7).f0.f1) ((rd_T27 x5 x7).f0.f2) ((rd_T27 x5 x7).f1.f0) ((rd_T27 x5 x7).f1.f1) ((rd_T27 x5 x7).f1.f2) ((rd_T27 x5 x7).f2)).bind fun t114 => (if t114 = true then ((laws_boundOk.f ((rd_T27 x5 x7).f0.f0) ((rd_T27 x5 x7).f0.f1) ((rd_T27 x5 x7).f0.f2)).bind fun t115 => (if t115 = true then ((laws_boundOk.f ((rd_T27 x5 x7).f1.f0) ((rd_T27 x5 x7).f1.f1) ((rd_T27 x5 x7).f1.f2)).bind fun t116 => (if t116 = true then (laws_rangesOk.l0 k x5 x6 (wrap64 (x7 + 1))) else (some false))) else (some false))) else (some false))) else (none)) else (none)) else (some true)
def laws_rangesOk.f (k : Nat) (l0 : List (S27)) : Option (Bool) := laws_rangesOk.l0 k l0 (l0.length : Int) 0
theorem laws_rangesOk.mono_l : ∀ k, (∀ y0 y1 y2, LeO (laws_rangesOk.l0 k y0 y1 y2) (laws_rangesOk.l0 (k + 1) y0 y1 y2))
  | 0 => fun _ _ _ r h => by simp [laws_rangesOk.l0] at h
  | k + 1 => by
    have ih0 := laws_rangesOk.mono_l k
    · intro y0 y1 y2
      unfold laws_rangesOk.l0
      repeat' first
      | (with_reducible exact ih0 _ _ _)
      | (with_reducible exact LeO.refl _)
      | (with_reducible exact LeO.none _)
      | (with_reducible refine LeO.ite ?_ ?_)
      | (with_reducible refine LeO.bind ?_ (fun _ => ?_))
      | exact ih0 _ _ _
      | exact LeO.none _
      | refine LeO.ite ?_ ?_
      | refine LeO.bind ?_ (fun _ => ?_)
theorem laws_rangesOk.mono : ∀ a0 k, LeO (laws_rangesOk.f k a0) (laws_rangesOk.f (k + 1) a0) := by
  intro a0 k
  have ih0 := laws_rangesOk.mono_l k
  unfold laws_rangesOk.f
  repeat' first
      | (with_reducible exact ih0 _ _ _)
      | (with_reducible exact LeO.refl _)
      | (with_reducible exact LeO.none _)
      | (with_reducible refine LeO.ite ?_ ?_)
      | (with_reducible refine LeO.bind ?_ (fun _ => ?_))
      | exact ih0 _ _ _
      | exact LeO.none _
      | refine LeO.ite ?_ ?_
      | refine LeO.bind ?_ (fun _ => ?_)
set_option maxHeartbeats 8000000 in
set_option maxRecDepth 100000 in
theorem laws_rangesOk.calls (k : Nat) (A0 : Option Addr) (c0 : Nat) (l0 : List (S27)) (r : Bool) (w : World) (hr0 : Kd.C k27 w A0 l0.length l0) (hc0 : l0.length ≤ c0) (h : laws_rangesOk.f k l0 = some r) :
    Calls Try.prog 6 #[.slice A0 l0.length c0] w fun e w' => e = .returned (.bool r) ∧ Below w.heap.size w w' := by
  have hu27 := Try.underlying27
  have hu25 := Try.underlying25
  have HR0 := Aside0.mk hr0
  have HC0 := Aside0.mk hc0
  clear hr0 hc0
  have HB := Aside0.mk (Below.refl w.heap.size w)
  have H : (laws_rangesOk.l0 k l0 (l0.length : Int) 0) = some r := h
  clear h
  have H' := Aside0.mk H
  clear H
  go_enter Try.func6, Try.ntmps6
  go_wp2
  go_loopg [7] k (fun kq v7 w' => ∃ (x7_1 : Int), v7 = .int .i64 x7_1 ∧ Aside0 (laws_rangesOk.l0 kq l0 (l0.length : Int) x7_1 = some r) ∧ Aside0 (kq ≤ k) ∧ Aside0 (Below w.heap.size w w'))
  case atStart => exact ⟨(0), (by first | rfl | (simp; done) | (simp [*]; done)), H', ⟨Nat.le_refl _⟩, ⟨by repeat (first | (with_reducible first | exact HB.out | apply below_alloc | apply pw_below_drewN | apply below_drew1) | exact HB.out)⟩⟩
  case round =>
    clear H'
    obtain ⟨x7_1, rfl, HA, HK1, HB⟩ := hrel
    cases gk with
    | zero => exact absurd HA.out (by simp [laws_rangesOk.l0])
    | succ k1 =>
      have H := HA.out
      clear HA
      simp only [laws_rangesOk.l0] at H
      by_cases c2 : x7_1 < (l0.length : Int)
      · rw [if_pos c2] at H
        have c2b0 : decide (x7_1 < (l0.length : Int)) = true := decide_eq_true c2
        clear c2
        by_cases c3 : 0 ≤ x7_1
        · rw [if_pos c3] at H
          have c3b0 : decide (0 ≤ x7_1) = true := decide_eq_true c3
          clear c3
          by_cases c4 : x7_1 < (l0.length : Int)
          · rw [if_pos c4] at H
            have c4b0 : decide (x7_1 < (l0.length : Int)) = true := decide_eq_true c4
            clear c4
            replace H := Option.bind_eq_some_iff.mp H
            obtain ⟨t114, A50, H⟩ := H
            replace H : (if t114 = true then ((laws_boundOk.f ((rd_T27 l0 x7_1).f0.f0) ((rd_T27 l0 x7_1).f0.f1) ((rd_T27 l0 x7_1).f0.f2)).bind fun t115 => (if t115 = true then ((laws_boundOk.f ((rd_T27 l0 x7_1).f1.f0) ((rd_T27 l0 x7_1).f1.f1) ((rd_T27 l0 x7_1).f1.f2)).bind fun t116 => (if t116 = true then (laws_rangesOk.l0 k1 l0 (l0.length : Int) (wrap64 (x7_1 + 1))) else (some false))) else (some false))) else (some false)) = some r := H
            have A5 := Aside0.mk A50
            clear A50
            by_cases c6 : t114 = true
            · subst c6
              have H1 : ((laws_boundOk.f ((rd_T27 l0 x7_1).f0.f0) ((rd_T27 l0 x7_1).f0.f1) ((rd_T27 l0 x7_1).f0.f2)).bind fun t115 => (if t115 = true then ((laws_boundOk.f ((rd_T27 l0 x7_1).f1.f0) ((rd_T27 l0 x7_1).f1.f1) ((rd_T27 l0 x7_1).f1.f2)).bind fun t116 => (if t116 = true then (laws_rangesOk.l0 k1 l0 (l0.length : Int) (wrap64 (x7_1 + 1))) else (some false))) else (some false))) = some r := by rw [if_pos rfl] at H; exact H
              clear H
              have H := H1
              clear H1
              replace H := Option.bind_eq_some_iff.mp H
              obtain ⟨t115, A70, H⟩ := H
              replace H : (if t115 = true then ((laws_boundOk.f ((rd_T27 l0 x7_1).f1.f0) ((rd_T27 l0 x7_1).f1.f1) ((rd_T27 l0 x7_1).f1.f2)).bind fun t116 => (if t116 = true then (laws_rangesOk.l0 k1 l0 (l0.length : Int) (wrap64 (x7_1 + 1))) else (some false))) else (some false)) = some r := H
              have A7 := Aside0.mk A70
              clear A70
              by_cases c8 : t115 = true
              · subst c8
                have H1 : ((laws_boundOk.f ((rd_T27 l0 x7_1).f1.f0) ((rd_T27 l0 x7_1).f1.f1) ((rd_T27 l0 x7_1).f1.f2)).bind fun t116 => (if t116 = true then (laws_rangesOk.l0 k1 l0 (l0.length : Int) (wrap64 (x7_1 + 1))) else (some false))) = some r := by rw [if_pos rfl] at H; exact H
                clear H
                have H := H1
                clear H1
                replace H := Option.bind_eq_some_iff.mp H
                obtain ⟨t116, A90, H⟩ := H
                replace H : (if t116 = true then (laws_rangesOk.l0 k1 l0 (l0.length : Int) (wrap64 (x7_1 + 1))) else (some false)) = some r := H
                have A9 := Aside0.mk A90
                clear A90
                by_cases c10 : t116 = true
                · subst c10
                  have H1 : (laws_rangesOk.l0 k1 l0 (l0.length : Int) (wrap64 (x7_1 + 1))) = some r := by rw [if_pos rfl] at H; exact H
                  clear H
                  have H := H1
                  clear H1
                  have H' := Aside0.mk H
                  clear H
                  have p112 : 0 ≤ (x7_1 : Int) := of_decide_eq_true (by first | (with_reducible assumption) | assumption)
                  have q112 : x7_1 < (l0.length : Int) := of_decide_eq_true (by first | (with_reducible assumption) | assumption)
                  obtain ⟨ad112, A112_1, c112_1, A112_4, c112_4, e112, hx112_0, hx112_1, hx112_2, hx112_3, hx112_4, hx112_5, hx112_6, hl112_1, hi112_1, hl112_4, hi112_4⟩ := at_T27 HR0.out x7_1 p112 q112
                  cases e112
                  replace hx112_0 := (HB.out.cell (World.block_lt_of_cell? w _ hx112_0)).trans hx112_0
                  replace hx112_1 := (HB.out.cell (World.block_lt_of_cell? w _ hx112_1)).trans hx112_1
                  replace hx112_2 := (HB.out.cell (World.block_lt_of_cell? w _ hx112_2)).trans hx112_2
                  replace hx112_3 := (HB.out.cell (World.block_lt_of_cell? w _ hx112_3)).trans hx112_3
                  replace hx112_4 := (HB.out.cell (World.block_lt_of_cell? w _ hx112_4)).trans hx112_4
                  replace hx112_5 := (HB.out.cell (World.block_lt_of_cell? w _ hx112_5)).trans hx112_5
                  replace hx112_6 := (HB.out.cell (World.block_lt_of_cell? w _ hx112_6)).trans hx112_6
                  have HR112_1 := Aside0.mk hi112_1
                  have HC112_1 := Aside0.mk hl112_1
                  clear hi112_1 hl112_1
                  have HR112_4 := Aside0.mk hi112_4
                  have HC112_4 := Aside0.mk hl112_4
                  clear hi112_4 hl112_4
                  replace p112 := eq_true p112
                  replace q112 := eq_true q112
                  go_wp2_with (first | ((with_reducible refine gate_dst (N := 4) rfl ?_); refine box_event ?hg (N := 4) ?hd (cs := #[.bool false, .slice none 0 0, .int .u64 0, .bool false, .slice none 0 0, .int .u64 0, .bool false]) (t := 27) ?hr ?_; (case hd => rfl); (case hg => rfl); (case hr => first | (go_simp; done) | (go_simp; rfl)); intro gb113 hg w11 hbox hb; have n0_ := Aside0.mk (below_step (by repeat (first | (with_reducible first | exact HB.out | apply below_alloc | apply pw_below_drewN | apply below_drew1) | exact HB.out)) hb); have n1_ := Aside0.mk (hbox); have n2_ := Aside0.mk ((by rw [hg]; exact (below_size (by repeat (first | (with_reducible first | exact HB.out | apply below_alloc | apply pw_below_drewN | apply below_drew1) | exact HB.out))) : w.heap.size ≤ gb113)); have n3_ := Aside0.mk ((by rw [hg]; exact (below_size (by repeat (first | (with_reducible first | exact HB.out | apply below_alloc | apply pw_below_drewN | apply below_drew1) | exact HB.out))) : w.heap.size ≤ gb113)); clear HB; have HB := n0_; have BK113 := n1_; have GW113 := n2_; have GE113 := n3_; clear n0_ n1_ n2_ n3_; clear hb hbox hg; have hcz12_0 : w11.cell? ⟨gb113, 0, none⟩ = some (.bool false) := (blk_cell BK113.out 0).trans rfl; have hcz12_1 : w11.cell? ⟨gb113, 1, none⟩ = some (.slice none 0 0) := (blk_cell BK113.out 1).trans rfl; have hcz12_2 : w11.cell? ⟨gb113, 2, none⟩ = some (.int .u64 0) := (blk_cell BK113.out 2).trans rfl; have hcz12_3 : w11.cell? ⟨gb113, 3, none⟩ = some (.bool false) := (blk_cell BK113.out 3).trans rfl; have hcz12_4 : w11.cell? ⟨gb113, 4, none⟩ = some (.slice none 0 0) := (blk_cell BK113.out 4).trans rfl; have hcz12_5 : w11.cell? ⟨gb113, 5, none⟩ = some (.int .u64 0) := (blk_cell BK113.out 5).trans rfl; have hcz12_6 : w11.cell? ⟨gb113, 6, none⟩ = some (.bool false) := (blk_cell BK113.out 6).trans rfl; have hfz12_0 := blk_frozen BK113.out 0; have hfz12_1 := blk_frozen BK113.out 1; have hfz12_2 := blk_frozen BK113.out 2; have hfz12_3 := blk_frozen BK113.out 3; have hfz12_4 := blk_frozen BK113.out 4; have hfz12_5 := blk_frozen BK113.out 5; have hfz12_6 := blk_frozen BK113.out 6) | ((with_reducible refine gate_callee (f := 14) rfl ?_); refine goesL_ (some 12) rfl rfl Try.func14 (by kernel_rfl) rfl #[.agg #[.bool ((rd_T27 l0 x7_1).f0.f0), .slice A112_1 ((rd_T27 l0 x7_1).f0.f1).length c112_1, .int .u64 ((rd_T27 l0 x7_1).f0.f2), .bool ((rd_T27 l0 x7_1).f1.f0), .slice A112_4 ((rd_T27 l0 x7_1).f1.f1).length c112_4, .int .u64 ((rd_T27 l0 x7_1).f1.f2), .bool ((rd_T27 l0 x7_1).f2)]] rfl (by (try simp only [List.map_toArray, List.map_cons, List.map_nil]); first | done | rfl | (simp only [List.length_drop, List.length_take]; rfl)) ?_; (with_reducible refine (spec_Wide.calls ((rd_T27 l0 x7_1).f0.f0) _ _ ((rd_T27 l0 x7_1).f0.f1) ((rd_T27 l0 x7_1).f0.f2) ((rd_T27 l0 x7_1).f1.f0) _ _ ((rd_T27 l0 x7_1).f1.f1) ((rd_T27 l0 x7_1).f1.f2) ((rd_T27 l0 x7_1).f2) true _ ?side1 ?side2 ?side3 ?side4 A5.out).mono ?_); (case side1 => exact Kd.C_below HR112_1.out (by repeat (first | (with_reducible first | exact HB.out | apply below_alloc | apply pw_below_drewN | apply below_drew1 | refine below_set ?_ GE113.out) | exact HB.out))); (case side2 => exact HC112_1.out); (case side3 => exact Kd.C_below HR112_4.out (by repeat (first | (with_reducible first | exact HB.out | apply below_alloc | apply pw_below_drewN | apply below_drew1 | refine below_set ?_ GE113.out) | exact HB.out))); (case side4 => exact HC112_4.out); rintro e w13 ⟨rfl, hb⟩; refine ⟨_, rfl, ?_⟩; have n0_ := Aside0.mk (blk_below (g := gb113) (o := .cells #[.bool ((rd_T27 l0 x7_1).f0.f0), .slice A112_1 ((rd_T27 l0 x7_1).f0.f1).length c112_1, .int .u64 ((rd_T27 l0 x7_1).f0.f2), .bool ((rd_T27 l0 x7_1).f1.f0), .slice A112_4 ((rd_T27 l0 x7_1).f1.f1).length c112_4, .int .u64 ((rd_T27 l0 x7_1).f1.f2), .bool ((rd_T27 l0 x7_1).f2)] 27 (0, 0)) (by (with_reducible repeat (first | refine blk_drewN ?_ _ | refine blk_drew ?_ | refine blk_alloc ?_ _)); refine blk_put (cs := #[.bool ((rd_T27 l0 x7_1).f0.f0), .slice A112_1 ((rd_T27 l0 x7_1).f0.f1).length c112_1, .int .u64 ((rd_T27 l0 x7_1).f0.f2), .bool ((rd_T27 l0 x7_1).f1.f0), .slice A112_4 ((rd_T27 l0 x7_1).f1.f1).length c112_4, .int .u64 ((rd_T27 l0 x7_1).f1.f2), .bool false]) ?_ 6 _ rfl; (with_reducible repeat (first | refine blk_drewN ?_ _ | refine blk_drew ?_ | refine blk_alloc ?_ _)); refine blk_put (cs := #[.bool ((rd_T27 l0 x7_1).f0.f0), .slice A112_1 ((rd_T27 l0 x7_1).f0.f1).length c112_1, .int .u64 ((rd_T27 l0 x7_1).f0.f2), .bool ((rd_T27 l0 x7_1).f1.f0), .slice A112_4 ((rd_T27 l0 x7_1).f1.f1).length c112_4, .int .u64 0, .bool false]) ?_ 5 _ rfl; (with_reducible repeat (first | refine blk_drewN ?_ _ | refine blk_drew ?_ | refine blk_alloc ?_ _)); refine blk_put (cs := #[.bool ((rd_T27 l0 x7_1).f0.f0), .slice A112_1 ((rd_T27 l0 x7_1).f0.f1).length c112_1, .int .u64 ((rd_T27 l0 x7_1).f0.f2), .bool ((rd_T27 l0 x7_1).f1.f0), .slice none 0 0, .int .u64 0, .bool false]) ?_ 4 _ rfl; (with_reducible repeat (first | refine blk_drewN ?_ _ | refine blk_drew ?_ | refine blk_alloc ?_ _)); refine blk_put (cs := #[.bool ((rd_T27 l0 x7_1).f0.f0), .slice A112_1 ((rd_T27 l0 x7_1).f0.f1).length c112_1, .int .u64 ((rd_T27 l0 x7_1).f0.f2), .bool false, .slice none 0 0, .int .u64 0, .bool false]) ?_ 3 _ rfl; (with_reducible repeat (first | refine blk_drewN ?_ _ | refine blk_drew ?_ | refine blk_alloc ?_ _)); refine blk_put (cs := #[.bool ((rd_T27 l0 x7_1).f0.f0), .slice A112_1 ((rd_T27 l0 x7_1).f0.f1).length c112_1, .int .u64 0, .bool false, .slice none 0 0, .int .u64 0, .bool false]) ?_ 2 _ rfl; (with_reducible repeat (first | refine blk_drewN ?_ _ | refine blk_drew ?_ | refine blk_alloc ?_ _)); refine blk_put (cs := #[.bool ((rd_T27 l0 x7_1).f0.f0), .slice none 0 0, .int .u64 0, .bool false, .slice none 0 0, .int .u64 0, .bool false]) ?_ 1 _ rfl; (with_reducible repeat (first | refine blk_drewN ?_ _ | refine blk_drew ?_ | refine blk_alloc ?_ _)); refine blk_put (cs := #[.bool false, .slice none 0 0, .int .u64 0, .bool false, .slice none 0 0, .int .u64 0, .bool false]) ?_ 0 _ rfl; (with_reducible repeat (first | refine blk_drewN ?_ _ | refine blk_drew ?_ | refine blk_alloc ?_ _)); exact BK113.out) hb); have n1_ := Aside0.mk (below_step (by repeat (first | (with_reducible first | exact HB.out | apply below_alloc | apply pw_below_drewN | apply below_drew1 | refine below_set ?_ GE113.out) | exact HB.out)) hb); clear BK113; clear HB; have BK113 := n0_; have HB := n1_; clear n0_ n1_; (try clear hb); (try clear hb2); (try clear hk); (try clear hi); have hcz14_0 : w13.cell? ⟨gb113, 0, none⟩ = some (.bool ((rd_T27 l0 x7_1).f0.f0)) := (blk_cell BK113.out 0).trans rfl; have hcz14_1 : w13.cell? ⟨gb113, 1, none⟩ = some (.slice A112_1 ((rd_T27 l0 x7_1).f0.f1).length c112_1) := (blk_cell BK113.out 1).trans rfl; have hcz14_2 : w13.cell? ⟨gb113, 2, none⟩ = some (.int .u64 ((rd_T27 l0 x7_1).f0.f2)) := (blk_cell BK113.out 2).trans rfl; have hcz14_3 : w13.cell? ⟨gb113, 3, none⟩ = some (.bool ((rd_T27 l0 x7_1).f1.f0)) := (blk_cell BK113.out 3).trans rfl; have hcz14_4 : w13.cell? ⟨gb113, 4, none⟩ = some (.slice A112_4 ((rd_T27 l0 x7_1).f1.f1).length c112_4) := (blk_cell BK113.out 4).trans rfl; have hcz14_5 : w13.cell? ⟨gb113, 5, none⟩ = some (.int .u64 ((rd_T27 l0 x7_1).f1.f2)) := (blk_cell BK113.out 5).trans rfl; have hcz14_6 : w13.cell? ⟨gb113, 6, none⟩ = some (.bool ((rd_T27 l0 x7_1).f2)) := (blk_cell BK113.out 6).trans rfl; have hfz14_0 := blk_frozen BK113.out 0; have hfz14_1 := blk_frozen BK113.out 1; have hfz14_2 := blk_frozen BK113.out 2; have hfz14_3 := blk_frozen BK113.out 3; have hfz14_4 := blk_frozen BK113.out 4; have hfz14_5 := blk_frozen BK113.out 5; have hfz14_6 := blk_frozen BK113.out 6) | (go_at_call 15; (with_reducible refine (laws_boundOk.calls ((rd_T27 l0 x7_1).f0.f0) _ _ ((rd_T27 l0 x7_1).f0.f1) ((rd_T27 l0 x7_1).f0.f2) true _ ?side1 ?side2 A7.out).mono ?_); (case side1 => repeat (first | exact (Kd.C_below HR112_1.out HB.out) | (with_reducible refine Kd.C_alloc ?_ _) | (with_reducible refine Kd.C_drewN ?_ _) | (with_reducible refine Kd.C_drew ?_))); (case side2 => exact HC112_1.out); rintro e w15 ⟨rfl, hb⟩; have n0_ := Aside0.mk (blk_below (g := gb113) (o := .cells #[.bool ((rd_T27 l0 x7_1).f0.f0), .slice A112_1 ((rd_T27 l0 x7_1).f0.f1).length c112_1, .int .u64 ((rd_T27 l0 x7_1).f0.f2), .bool ((rd_T27 l0 x7_1).f1.f0), .slice A112_4 ((rd_T27 l0 x7_1).f1.f1).length c112_4, .int .u64 ((rd_T27 l0 x7_1).f1.f2), .bool ((rd_T27 l0 x7_1).f2)] 27 (0, 0)) (by (with_reducible repeat (first | refine blk_drewN ?_ _ | refine blk_drew ?_ | refine blk_alloc ?_ _)); exact BK113.out) hb); have n1_ := Aside0.mk (below_step (by repeat (first | (with_reducible first | exact HB.out | apply below_alloc | apply pw_below_drewN | apply below_drew1 | refine below_set ?_ GE113.out) | exact HB.out)) hb); clear BK113; clear HB; have BK113 := n0_; have HB := n1_; clear n0_ n1_; (try clear hb); (try clear hb2); (try clear hk); (try clear hi); have hcz16_0 : w15.cell? ⟨gb113, 0, none⟩ = some (.bool ((rd_T27 l0 x7_1).f0.f0)) := (blk_cell BK113.out 0).trans rfl; have hcz16_1 : w15.cell? ⟨gb113, 1, none⟩ = some (.slice A112_1 ((rd_T27 l0 x7_1).f0.f1).length c112_1) := (blk_cell BK113.out 1).trans rfl; have hcz16_2 : w15.cell? ⟨gb113, 2, none⟩ = some (.int .u64 ((rd_T27 l0 x7_1).f0.f2)) := (blk_cell BK113.out 2).trans rfl; have hcz16_3 : w15.cell? ⟨gb113, 3, none⟩ = some (.bool ((rd_T27 l0 x7_1).f1.f0)) := (blk_cell BK113.out 3).trans rfl; have hcz16_4 : w15.cell? ⟨gb113, 4, none⟩ = some (.slice A112_4 ((rd_T27 l0 x7_1).f1.f1).length c112_4) := (blk_cell BK113.out 4).trans rfl; have hcz16_5 : w15.cell? ⟨gb113, 5, none⟩ = some (.int .u64 ((rd_T27 l0 x7_1).f1.f2)) := (blk_cell BK113.out 5).trans rfl; have hcz16_6 : w15.cell? ⟨gb113, 6, none⟩ = some (.bool ((rd_T27 l0 x7_1).f2)) := (blk_cell BK113.out 6).trans rfl; have hfz16_0 := blk_frozen BK113.out 0; have hfz16_1 := blk_frozen BK113.out 1; have hfz16_2 := blk_frozen BK113.out 2; have hfz16_3 := blk_frozen BK113.out 3; have hfz16_4 := blk_frozen BK113.out 4; have hfz16_5 := blk_frozen BK113.out 5; have hfz16_6 := blk_frozen BK113.out 6) | (go_at_call 15; (with_reducible refine (laws_boundOk.calls ((rd_T27 l0 x7_1).f1.f0) _ _ ((rd_T27 l0 x7_1).f1.f1) ((rd_T27 l0 x7_1).f1.f2) true _ ?side1 ?side2 A9.out).mono ?_); (case side1 => repeat (first | exact (Kd.C_below HR112_4.out HB.out) | (with_reducible refine Kd.C_alloc ?_ _) | (with_reducible refine Kd.C_drewN ?_ _) | (with_reducible refine Kd.C_drew ?_))); (case side2 => exact HC112_4.out); rintro e w17 ⟨rfl, hb⟩; have n0_ := Aside0.mk (blk_below (g := gb113) (o := .cells #[.bool ((rd_T27 l0 x7_1).f0.f0), .slice A112_1 ((rd_T27 l0 x7_1).f0.f1).length c112_1, .int .u64 ((rd_T27 l0 x7_1).f0.f2), .bool ((rd_T27 l0 x7_1).f1.f0), .slice A112_4 ((rd_T27 l0 x7_1).f1.f1).length c112_4, .int .u64 ((rd_T27 l0 x7_1).f1.f2), .bool ((rd_T27 l0 x7_1).f2)] 27 (0, 0)) (by (with_reducible repeat (first | refine blk_drewN ?_ _ | refine blk_drew ?_ | refine blk_alloc ?_ _)); exact BK113.out) hb); have n1_ := Aside0.mk (below_step (by repeat (first | (with_reducible first | exact HB.out | apply below_alloc | apply pw_below_drewN | apply below_drew1 | refine below_set ?_ GE113.out) | exact HB.out)) hb); clear BK113; clear HB; have BK113 := n0_; have HB := n1_; clear n0_ n1_; (try clear hb); (try clear hb2); (try clear hk); (try clear hi)))
                  go_roundg k1
                  case measure => have := HK1.out; omega
                  case rel => exact ⟨(wrap64 (x7_1 + 1)), (by first | rfl | (simp; done) | (simp [*]; done)), H', ⟨by have := HK1.out; omega⟩, ⟨by repeat (first | (with_reducible first | exact HB.out | apply below_alloc | apply pw_below_drewN | apply below_drew1 | refine below_set ?_ GE113.out) | exact HB.out)⟩⟩
                · replace c10 := Bool.eq_false_iff.mpr c10
                  subst c10
                  have H1 : (some false) = some r := by rw [if_neg (show ¬ (false = true) by decide)] at H; exact H
                  clear H
                  have H := H1
                  clear H1
                  obtain rfl := Option.some.inj H
                  have p112 : 0 ≤ (x7_1 : Int) := of_decide_eq_true (by first | (with_reducible assumption) | assumption)
                  have q112 : x7_1 < (l0.length : Int) := of_decide_eq_true (by first | (with_reducible assumption) | assumption)
                  obtain ⟨ad112, A112_1, c112_1, A112_4, c112_4, e112, hx112_0, hx112_1, hx112_2, hx112_3, hx112_4, hx112_5, hx112_6, hl112_1, hi112_1, hl112_4, hi112_4⟩ := at_T27 HR0.out x7_1 p112 q112
                  cases e112
                  replace hx112_0 := (HB.out.cell (World.block_lt_of_cell? w _ hx112_0)).trans hx112_0
                  replace hx112_1 := (HB.out.cell (World.block_lt_of_cell? w _ hx112_1)).trans hx112_1
                  replace hx112_2 := (HB.out.cell (World.block_lt_of_cell? w _ hx112_2)).trans hx112_2
                  replace hx112_3 := (HB.out.cell (World.block_lt_of_cell? w _ hx112_3)).trans hx112_3
                  replace hx112_4 := (HB.out.cell (World.block_lt_of_cell? w _ hx112_4)).trans hx112_4
                  replace hx112_5 := (HB.out.cell (World.block_lt_of_cell? w _ hx112_5)).trans hx112_5
                  replace hx112_6 := (HB.out.cell (World.block_lt_of_cell? w _ hx112_6)).trans hx112_6
                  have HR112_1 := Aside0.mk hi112_1
                  have HC112_1 := Aside0.mk hl112_1
                  clear hi112_1 hl112_1
                  have HR112_4 := Aside0.mk hi112_4
                  have HC112_4 := Aside0.mk hl112_4
                  clear hi112_4 hl112_4
                  replace p112 := eq_true p112
                  replace q112 := eq_true q112
                  go_wp2_with (first | ((with_reducible refine gate_dst (N := 4) rfl ?_); refine box_event ?hg (N := 4) ?hd (cs := #[.bool false, .slice none 0 0, .int .u64 0, .bool false, .slice none 0 0, .int .u64 0, .bool false]) (t := 27) ?hr ?_; (case hd => rfl); (case hg => rfl); (case hr => first | (go_simp; done) | (go_simp; rfl)); intro gb113 hg w18 hbox hb; have n0_ := Aside0.mk (below_step (by repeat (first | (with_reducible first | exact HB.out | apply below_alloc | apply pw_below_drewN | apply below_drew1) | exact HB.out)) hb); have n1_ := Aside0.mk (hbox); have n2_ := Aside0.mk ((by rw [hg]; exact (below_size (by repeat (first | (with_reducible first | exact HB.out | apply below_alloc | apply pw_below_drewN | apply below_drew1) | exact HB.out))) : w.heap.size ≤ gb113)); have n3_ := Aside0.mk ((by rw [hg]; exact (below_size (by repeat (first | (with_reducible first | exact HB.out | apply below_alloc | apply pw_below_drewN | apply below_drew1) | exact HB.out))) : w.heap.size ≤ gb113)); clear HB; have HB := n0_; have BK113 := n1_; have GW113 := n2_; have GE113 := n3_; clear n0_ n1_ n2_ n3_; clear hb hbox hg; have hcz19_0 : w18.cell? ⟨gb113, 0, none⟩ = some (.bool false) := (blk_cell BK113.out 0).trans rfl; have hcz19_1 : w18.cell? ⟨gb113, 1, none⟩ = some (.slice none 0 0) := (blk_cell BK113.out 1).trans rfl; have hcz19_2 : w18.cell? ⟨gb113, 2, none⟩ = some (.int .u64 0) := (blk_cell BK113.out 2).trans rfl; have hcz19_3 : w18.cell? ⟨gb113, 3, none⟩ = some (.bool false) := (blk_cell BK113.out 3).trans rfl; have hcz19_4 : w18.cell? ⟨gb113, 4, none⟩ = some (.slice none 0 0) := (blk_cell BK113.out 4).trans rfl; have hcz19_5 : w18.cell? ⟨gb113, 5, none⟩ = some (.int .u64 0) := (blk_cell BK113.out 5).trans rfl; have hcz19_6 : w18.cell? ⟨gb113, 6, none⟩ = some (.bool false) := (blk_cell BK113.out 6).trans rfl; have hfz19_0 := blk_frozen BK113.out 0; have hfz19_1 := blk_frozen BK113.out 1; have hfz19_2 := blk_frozen BK113.out 2; have hfz19_3 := blk_frozen BK113.out 3; have hfz19_4 := blk_frozen BK113.out 4; have hfz19_5 := blk_frozen BK113.out 5; have hfz19_6 := blk_frozen BK113.out 6) | ((with_reducible refine gate_callee (f := 14) rfl ?_); refine goesL_ (some 12) rfl rfl Try.func14 (by kernel_rfl) rfl #[.agg #[.bool ((rd_T27 l0 x7_1).f0.f0), .slice A112_1 ((rd_T27 l0 x7_1).f0.f1).length c112_1, .int .u64 ((rd_T27 l0 x7_1).f0.f2), .bool ((rd_T27 l0 x7_1).f1.f0), .slice A112_4 ((rd_T27 l0 x7_1).f1.f1).length c112_4, .int .u64 ((rd_T27 l0 x7_1).f1.f2), .bool ((rd_T27 l0 x7_1).f2)]] rfl (by (try simp only [List.map_toArray, List.map_cons, List.map_nil]); first | done | rfl | (simp only [List.length_drop, List.length_take]; rfl)) ?_; (with_reducible refine (spec_Wide.calls ((rd_T27 l0 x7_1).f0.f0) _ _ ((rd_T27 l0 x7_1).f0.f1) ((rd_T27 l0 x7_1).f0.f2) ((rd_T27 l0 x7_1).f1.f0) _ _ ((rd_T27 l0 x7_1).f1.f1) ((rd_T27 l0 x7_1).f1.f2) ((rd_T27 l0 x7_1).f2) true _ ?side1 ?side2 ?side3 ?side4 A5.out).mono ?_); (case side1 => exact Kd.C_below HR112_1.out (by repeat (first | (with_reducible first | exact HB.out | apply below_alloc | apply pw_below_drewN | apply below_drew1 | refine below_set ?_ GE113.out) | exact HB.out))); (case side2 => exact HC112_1.out); (case side3 => exact Kd.C_below HR112_4.out (by repeat (first | (with_reducible first | exact HB.out | apply below_alloc | apply pw_below_drewN | apply below_drew1 | refine below_set ?_ GE113.out) | exact HB.out))); (case side4 => exact HC112_4.out); rintro e w20 ⟨rfl, hb⟩; refine ⟨_, rfl, ?_⟩; have n0_ := Aside0.mk (blk_below (g := gb113) (o := .cells #[.bool ((rd_T27 l0 x7_1).f0.f0), .slice A112_1 ((rd_T27 l0 x7_1).f0.f1).length c112_1, .int .u64 ((rd_T27 l0 x7_1).f0.f2), .bool ((rd_T27 l0 x7_1).f1.f0), .slice A112_4 ((rd_T27 l0 x7_1).f1.f1).length c112_4, .int .u64 ((rd_T27 l0 x7_1).f1.f2), .bool ((rd_T27 l0 x7_1).f2)] 27 (0, 0)) (by (with_reducible repeat (first | refine blk_drewN ?_ _ | refine blk_drew ?_ | refine blk_alloc ?_ _)); refine blk_put (cs := #[.bool ((rd_T27 l0 x7_1).f0.f0), .slice A112_1 ((rd_T27 l0 x7_1).f0.f1).length c112_1, .int .u64 ((rd_T27 l0 x7_1).f0.f2), .bool ((rd_T27 l0 x7_1).f1.f0), .slice A112_4 ((rd_T27 l0 x7_1).f1.f1).length c112_4, .int .u64 ((rd_T27 l0 x7_1).f1.f2), .bool false]) ?_ 6 _ rfl; (with_reducible repeat (first | refine blk_drewN ?_ _ | refine blk_drew ?_ | refine blk_alloc ?_ _)); refine blk_put (cs := #[.bool ((rd_T27 l0 x7_1).f0.f0), .slice A112_1 ((rd_T27 l0 x7_1).f0.f1).length c112_1, .int .u64 ((rd_T27 l0 x7_1).f0.f2), .bool ((rd_T27 l0 x7_1).f1.f0), .slice A112_4 ((rd_T27 l0 x7_1).f1.f1).length c112_4, .int .u64 0, .bool false]) ?_ 5 _ rfl; (with_reducible repeat (first | refine blk_drewN ?_ _ | refine blk_drew ?_ | refine blk_alloc ?_ _)); refine blk_put (cs := #[.bool ((rd_T27 l0 x7_1).f0.f0), .slice A112_1 ((rd_T27 l0 x7_1).f0.f1).length c112_1, .int .u64 ((rd_T27 l0 x7_1).f0.f2), .bool ((rd_T27 l0 x7_1).f1.f0), .slice none 0 0, .int .u64 0, .bool false]) ?_ 4 _ rfl; (with_reducible repeat (first | refine blk_drewN ?_ _ | refine blk_drew ?_ | refine blk_alloc ?_ _)); refine blk_put (cs := #[.bool ((rd_T27 l0 x7_1).f0.f0), .slice A112_1 ((rd_T27 l0 x7_1).f0.f1).length c112_1, .int .u64 ((rd_T27 l0 x7_1).f0.f2), .bool false, .slice none 0 0, .int .u64 0, .bool false]) ?_ 3 _ rfl; (with_reducible repeat (first | refine blk_drewN ?_ _ | refine blk_drew ?_ | refine blk_alloc ?_ _)); refine blk_put (cs := #[.bool ((rd_T27 l0 x7_1).f0.f0), .slice A112_1 ((rd_T27 l0 x7_1).f0.f1).length c112_1, .int .u64 0, .bool false, .slice none 0 0, .int .u64 0, .bool false]) ?_ 2 _ rfl; (with_reducible repeat (first | refine blk_drewN ?_ _ | refine blk_drew ?_ | refine blk_alloc ?_ _)); refine blk_put (cs := #[.bool ((rd_T27 l0 x7_1).f0.f0), .slice none 0 0, .int .u64 0, .bool false, .slice none 0 0, .int .u64 0, .bool false]) ?_ 1 _ rfl; (with_reducible repeat (first | refine blk_drewN ?_ _ | refine blk_drew ?_ | refine blk_alloc ?_ _)); refine blk_put (cs := #[.bool false, .slice none 0 0, .int .u64 0, .bool false, .slice none 0 0, .int .u64 0, .bool false]) ?_ 0 _ rfl; (with_reducible repeat (first | refine blk_drewN ?_ _ | refine blk_drew ?_ | refine blk_alloc ?_ _)); exact BK113.out) hb); have n1_ := Aside0.mk (below_step (by repeat (first | (with_reducible first | exact HB.out | apply below_alloc | apply pw_below_drewN | apply below_drew1 | refine below_set ?_ GE113.out) | exact HB.out)) hb); clear BK113; clear HB; have BK113 := n0_; have HB := n1_; clear n0_ n1_; (try clear hb); (try clear hb2); (try clear hk); (try clear hi); have hcz21_0 : w20.cell? ⟨gb113, 0, none⟩ = some (.bool ((rd_T27 l0 x7_1).f0.f0)) := (blk_cell BK113.out 0).trans rfl; have hcz21_1 : w20.cell? ⟨gb113, 1, none⟩ = some (.slice A112_1 ((rd_T27 l0 x7_1).f0.f1).length c112_1) := (blk_cell BK113.out 1).trans rfl; have hcz21_2 : w20.cell? ⟨gb113, 2, none⟩ = some (.int .u64 ((rd_T27 l0 x7_1).f0.f2)) := (blk_cell BK113.out 2).trans rfl; have hcz21_3 : w20.cell? ⟨gb113, 3, none⟩ = some (.bool ((rd_T27 l0 x7_1).f1.f0)) := (blk_cell BK113.out 3).trans rfl; have hcz21_4 : w20.cell? ⟨gb113, 4, none⟩ = some (.slice A112_4 ((rd_T27 l0 x7_1).f1.f1).length c112_4) := (blk_cell BK113.out 4).trans rfl; have hcz21_5 : w20.cell? ⟨gb113, 5, none⟩ = some (.int .u64 ((rd_T27 l0 x7_1).f1.f2)) := (blk_cell BK113.out 5).trans rfl; have hcz21_6 : w20.cell? ⟨gb113, 6, none⟩ = some (.bool ((rd_T27 l0 x7_1).f2)) := (blk_cell BK113.out 6).trans rfl; have hfz21_0 := blk_frozen BK113.out 0; have hfz21_1 := blk_frozen BK113.out 1; have hfz21_2 := blk_frozen BK113.out 2; have hfz21_3 := blk_frozen BK113.out 3; have hfz21_4 := blk_frozen BK113.out 4; have hfz21_5 := blk_frozen BK113.out 5; have hfz21_6 := blk_frozen BK113.out 6) | (go_at_call 15; (with_reducible refine (laws_boundOk.calls ((rd_T27 l0 x7_1).f0.f0) _ _ ((rd_T27 l0 x7_1).f0.f1) ((rd_T27 l0 x7_1).f0.f2) true _ ?side1 ?side2 A7.out).mono ?_); (case side1 => repeat (first | exact (Kd.C_below HR112_1.out HB.out) | (with_reducible refine Kd.C_alloc ?_ _) | (with_reducible refine Kd.C_drewN ?_ _) | (with_reducible refine Kd.C_drew ?_))); (case side2 => exact HC112_1.out); rintro e w22 ⟨rfl, hb⟩; have n0_ := Aside0.mk (blk_below (g := gb113) (o := .cells #[.bool ((rd_T27 l0 x7_1).f0.f0), .slice A112_1 ((rd_T27 l0 x7_1).f0.f1).length c112_1, .int .u64 ((rd_T27 l0 x7_1).f0.f2), .bool ((rd_T27 l0 x7_1).f1.f0), .slice A112_4 ((rd_T27 l0 x7_1).f1.f1).length c112_4, .int .u64 ((rd_T27 l0 x7_1).f1.f2), .bool ((rd_T27 l0 x7_1).f2)] 27 (0, 0)) (by (with_reducible repeat (first | refine blk_drewN ?_ _ | refine blk_drew ?_ | refine blk_alloc ?_ _)); exact BK113.out) hb); have n1_ := Aside0.mk (below_step (by repeat (first | (with_reducible first | exact HB.out | apply below_alloc | apply pw_below_drewN | apply below_drew1 | refine below_set ?_ GE113.out) | exact HB.out)) hb); clear BK113; clear HB; have BK113 := n0_; have HB := n1_; clear n0_ n1_; (try clear hb); (try clear hb2); (try clear hk); (try clear hi); have hcz23_0 : w22.cell? ⟨gb113, 0, none⟩ = some (.bool ((rd_T27 l0 x7_1).f0.f0)) := (blk_cell BK113.out 0).trans rfl; have hcz23_1 : w22.cell? ⟨gb113, 1, none⟩ = some (.slice A112_1 ((rd_T27 l0 x7_1).f0.f1).length c112_1) := (blk_cell BK113.out 1).trans rfl; have hcz23_2 : w22.cell? ⟨gb113, 2, none⟩ = some (.int .u64 ((rd_T27 l0 x7_1).f0.f2)) := (blk_cell BK113.out 2).trans rfl; have hcz23_3 : w22.cell? ⟨gb113, 3, none⟩ = some (.bool ((rd_T27 l0 x7_1).f1.f0)) := (blk_cell BK113.out 3).trans rfl; have hcz23_4 : w22.cell? ⟨gb113, 4, none⟩ = some (.slice A112_4 ((rd_T27 l0 x7_1).f1.f1).length c112_4) := (blk_cell BK113.out 4).trans rfl; have hcz23_5 : w22.cell? ⟨gb113, 5, none⟩ = some (.int .u64 ((rd_T27 l0 x7_1).f1.f2)) := (blk_cell BK113.out 5).trans rfl; have hcz23_6 : w22.cell? ⟨gb113, 6, none⟩ = some (.bool ((rd_T27 l0 x7_1).f2)) := (blk_cell BK113.out 6).trans rfl; have hfz23_0 := blk_frozen BK113.out 0; have hfz23_1 := blk_frozen BK113.out 1; have hfz23_2 := blk_frozen BK113.out 2; have hfz23_3 := blk_frozen BK113.out 3; have hfz23_4 := blk_frozen BK113.out 4; have hfz23_5 := blk_frozen BK113.out 5; have hfz23_6 := blk_frozen BK113.out 6) | (go_at_call 15; (with_reducible refine (laws_boundOk.calls ((rd_T27 l0 x7_1).f1.f0) _ _ ((rd_T27 l0 x7_1).f1.f1) ((rd_T27 l0 x7_1).f1.f2) false _ ?side1 ?side2 A9.out).mono ?_); (case side1 => repeat (first | exact (Kd.C_below HR112_4.out HB.out) | (with_reducible refine Kd.C_alloc ?_ _) | (with_reducible refine Kd.C_drewN ?_ _) | (with_reducible refine Kd.C_drew ?_))); (case side2 => exact HC112_4.out); rintro e w24 ⟨rfl, hb⟩; have n0_ := Aside0.mk (blk_below (g := gb113) (o := .cells #[.bool ((rd_T27 l0 x7_1).f0.f0), .slice A112_1 ((rd_T27 l0 x7_1).f0.f1).length c112_1, .int .u64 ((rd_T27 l0 x7_1).f0.f2), .bool ((rd_T27 l0 x7_1).f1.f0), .slice A112_4 ((rd_T27 l0 x7_1).f1.f1).length c112_4, .int .u64 ((rd_T27 l0 x7_1).f1.f2), .bool ((rd_T27 l0 x7_1).f2)] 27 (0, 0)) (by (with_reducible repeat (first | refine blk_drewN ?_ _ | refine blk_drew ?_ | refine blk_alloc ?_ _)); exact BK113.out) hb); have n1_ := Aside0.mk (below_step (by repeat (first | (with_reducible first | exact HB.out | apply below_alloc | apply pw_below_drewN | apply below_drew1 | refine below_set ?_ GE113.out) | exact HB.out)) hb); clear BK113; clear HB; have BK113 := n0_; have HB := n1_; clear n0_ n1_; (try clear hb); (try clear hb2); (try clear hk); (try clear hi)))
                  go_ret
                  exact ⟨by first | rfl | (simp [errW_none, errW_some] <;> rfl) | (simp [*, errW_none, errW_some] <;> rfl), by repeat (first | (with_reducible first | exact HB.out | apply below_alloc | apply pw_below_drewN | apply below_drew1 | refine below_set ?_ GE113.out) | exact HB.out)⟩
              · replace c8 := Bool.eq_false_iff.mpr c8
                subst c8
                have H1 : (some false) = some r := by rw [if_neg (show ¬ (false = true) by decide)] at H; exact H
                clear H
                have H := H1
                clear H1
                obtain rfl := Option.some.inj H
                have p112 : 0 ≤ (x7_1 : Int) := of_decide_eq_true (by first | (with_reducible assumption) | assumption)
                have q112 : x7_1 < (l0.length : Int) := of_decide_eq_true (by first | (with_reducible assumption) | assumption)
                obtain ⟨ad112, A112_1, c112_1, A112_4, c112_4, e112, hx112_0, hx112_1, hx112_2, hx112_3, hx112_4, hx112_5, hx112_6, hl112_1, hi112_1, hl112_4, hi112_4⟩ := at_T27 HR0.out x7_1 p112 q112
                cases e112
                replace hx112_0 := (HB.out.cell (World.block_lt_of_cell? w _ hx112_0)).trans hx112_0
                replace hx112_1 := (HB.out.cell (World.block_lt_of_cell? w _ hx112_1)).trans hx112_1
                replace hx112_2 := (HB.out.cell (World.block_lt_of_cell? w _ hx112_2)).trans hx112_2
                replace hx112_3 := (HB.out.cell (World.block_lt_of_cell? w _ hx112_3)).trans hx112_3
                replace hx112_4 := (HB.out.cell (World.block_lt_of_cell? w _ hx112_4)).trans hx112_4
                replace hx112_5 := (HB.out.cell (World.block_lt_of_cell? w _ hx112_5)).trans hx112_5
                replace hx112_6 := (HB.out.cell (World.block_lt_of_cell? w _ hx112_6)).trans hx112_6
                have HR112_1 := Aside0.mk hi112_1
                have HC112_1 := Aside0.mk hl112_1
                clear hi112_1 hl112_1
                have HR112_4 := Aside0.mk hi112_4
                have HC112_4 := Aside0.mk hl112_4
                clear hi112_4 hl112_4
                replace p112 := eq_true p112
                replace q112 := eq_true q112
                go_wp2_with (first | ((with_reducible refine gate_dst (N := 4) rfl ?_); refine box_event ?hg (N := 4) ?hd (cs := #[.bool false, .slice none 0 0, .int .u64 0, .bool false, .slice none 0 0, .int .u64 0, .bool false]) (t := 27) ?hr ?_; (case hd => rfl); (case hg => rfl); (case hr => first | (go_simp; done) | (go_simp; rfl)); intro gb113 hg w25 hbox hb; have n0_ := Aside0.mk (below_step (by repeat (first | (with_reducible first | exact HB.out | apply below_alloc | apply pw_below_drewN | apply below_drew1) | exact HB.out)) hb); have n1_ := Aside0.mk (hbox); have n2_ := Aside0.mk ((by rw [hg]; exact (below_size (by repeat (first | (with_reducible first | exact HB.out | apply below_alloc | apply pw_below_drewN | apply below_drew1) | exact HB.out))) : w.heap.size ≤ gb113)); have n3_ := Aside0.mk ((by rw [hg]; exact (below_size (by repeat (first | (with_reducible first | exact HB.out | apply below_alloc | apply pw_below_drewN | apply below_drew1) | exact HB.out))) : w.heap.size ≤ gb113)); clear HB; have HB := n0_; have BK113 := n1_; have GW113 := n2_; have GE113 := n3_; clear n0_ n1_ n2_ n3_; clear hb hbox hg; have hcz26_0 : w25.cell? ⟨gb113, 0, none⟩ = some (.bool false) := (blk_cell BK113.out 0).trans rfl; have hcz26_1 : w25.cell? ⟨gb113, 1, none⟩ = some (.slice none 0 0) := (blk_cell BK113.out 1).trans rfl; have hcz26_2 : w25.cell? ⟨gb113, 2, none⟩ = some (.int .u64 0) := (blk_cell BK113.out 2).trans rfl; have hcz26_3 : w25.cell? ⟨gb113, 3, none⟩ = some (.bool false) := (blk_cell BK113.out 3).trans rfl; have hcz26_4 : w25.cell? ⟨gb113, 4, none⟩ = some (.slice none 0 0) := (blk_cell BK113.out 4).trans rfl; have hcz26_5 : w25.cell? ⟨gb113, 5, none⟩ = some (.int .u64 0) := (blk_cell BK113.out 5).trans rfl; have hcz26_6 : w25.cell? ⟨gb113, 6, none⟩ = some (.bool false) := (blk_cell BK113.out 6).trans rfl; have hfz26_0 := blk_frozen BK113.out 0; have hfz26_1 := blk_frozen BK113.out 1; have hfz26_2 := blk_frozen BK113.out 2; have hfz26_3 := blk_frozen BK113.out 3; have hfz26_4 := blk_frozen BK113.out 4; have hfz26_5 := blk_frozen BK113.out 5; have hfz26_6 := blk_frozen BK113.out 6) | ((with_reducible refine gate_callee (f := 14) rfl ?_); refine goesL_ (some 12) rfl rfl Try.func14 (by kernel_rfl) rfl #[.agg #[.bool ((rd_T27 l0 x7_1).f0.f0), .slice A112_1 ((rd_T27 l0 x7_1).f0.f1).length c112_1, .int .u64 ((rd_T27 l0 x7_1).f0.f2), .bool ((rd_T27 l0 x7_1).f1.f0), .slice A112_4 ((rd_T27 l0 x7_1).f1.f1).length c112_4, .int .u64 ((rd_T27 l0 x7_1).f1.f2), .bool ((rd_T27 l0 x7_1).f2)]] rfl (by (try simp only [List.map_toArray, List.map_cons, List.map_nil]); first | done | rfl | (simp only [List.length_drop, List.length_take]; rfl)) ?_; (with_reducible refine (spec_Wide.calls ((rd_T27 l0 x7_1).f0.f0) _ _ ((rd_T27 l0 x7_1).f0.f1) ((rd_T27 l0 x7_1).f0.f2) ((rd_T27 l0 x7_1).f1.f0) _ _ ((rd_T27 l0 x7_1).f1.f1) ((rd_T27 l0 x7_1).f1.f2) ((rd_T27 l0 x7_1).f2) true _ ?side1 ?side2 ?side3 ?side4 A5.out).mono ?_); (case side1 => exact Kd.C_below HR112_1.out (by repeat (first | (with_reducible first | exact HB.out | apply below_alloc | apply pw_below_drewN | apply below_drew1 | refine below_set ?_ GE113.out) | exact HB.out))); (case side2 => exact HC112_1.out); (case side3 => exact Kd.C_below HR112_4.out (by repeat (first | (with_reducible first | exact HB.out | apply below_alloc | apply pw_below_drewN | apply below_drew1 | refine below_set ?_ GE113.out) | exact HB.out))); (case side4 => exact HC112_4.out); rintro e w27 ⟨rfl, hb⟩; refine ⟨_, rfl, ?_⟩; have n0_ := Aside0.mk (blk_below (g := gb113) (o := .cells #[.bool ((rd_T27 l0 x7_1).f0.f0), .slice A112_1 ((rd_T27 l0 x7_1).f0.f1).length c112_1, .int .u64 ((rd_T27 l0 x7_1).f0.f2), .bool ((rd_T27 l0 x7_1).f1.f0), .slice A112_4 ((rd_T27 l0 x7_1).f1.f1).length c112_4, .int .u64 ((rd_T27 l0 x7_1).f1.f2), .bool ((rd_T27 l0 x7_1).f2)] 27 (0, 0)) (by (with_reducible repeat (first | refine blk_drewN ?_ _ | refine blk_drew ?_ | refine blk_alloc ?_ _)); refine blk_put (cs := #[.bool ((rd_T27 l0 x7_1).f0.f0), .slice A112_1 ((rd_T27 l0 x7_1).f0.f1).length c112_1, .int .u64 ((rd_T27 l0 x7_1).f0.f2), .bool ((rd_T27 l0 x7_1).f1.f0), .slice A112_4 ((rd_T27 l0 x7_1).f1.f1).length c112_4, .int .u64 ((rd_T27 l0 x7_1).f1.f2), .bool false]) ?_ 6 _ rfl; (with_reducible repeat (first | refine blk_drewN ?_ _ | refine blk_drew ?_ | refine blk_alloc ?_ _)); refine blk_put (cs := #[.bool ((rd_T27 l0 x7_1).f0.f0), .slice A112_1 ((rd_T27 l0 x7_1).f0.f1).length c112_1, .int .u64 ((rd_T27 l0 x7_1).f0.f2), .bool ((rd_T27 l0 x7_1).f1.f0), .slice A112_4 ((rd_T27 l0 x7_1).f1.f1).length c112_4, .int .u64 0, .bool false]) ?_ 5 _ rfl; (with_reducible repeat (first | refine blk_drewN ?_ _ | refine blk_drew ?_ | refine blk_alloc ?_ _)); refine blk_put (cs := #[.bool ((rd_T27 l0 x7_1).f0.f0), .slice A112_1 ((rd_T27 l0 x7_1).f0.f1).length c112_1, .int .u64 ((rd_T27 l0 x7_1).f0.f2), .bool ((rd_T27 l0 x7_1).f1.f0), .slice none 0 0, .int .u64 0, .bool false]) ?_ 4 _ rfl; (with_reducible repeat (first | refine blk_drewN ?_ _ | refine blk_drew ?_ | refine blk_alloc ?_ _)); refine blk_put (cs := #[.bool ((rd_T27 l0 x7_1).f0.f0), .slice A112_1 ((rd_T27 l0 x7_1).f0.f1).length c112_1, .int .u64 ((rd_T27 l0 x7_1).f0.f2), .bool false, .slice none 0 0, .int .u64 0, .bool false]) ?_ 3 _ rfl; (with_reducible repeat (first | refine blk_drewN ?_ _ | refine blk_drew ?_ | refine blk_alloc ?_ _)); refine blk_put (cs := #[.bool ((rd_T27 l0 x7_1).f0.f0), .slice A112_1 ((rd_T27 l0 x7_1).f0.f1).length c112_1, .int .u64 0, .bool false, .slice none 0 0, .int .u64 0, .bool false]) ?_ 2 _ rfl; (with_reducible repeat (first | refine blk_drewN ?_ _ | refine blk_drew ?_ | refine blk_alloc ?_ _)); refine blk_put (cs := #[.bool ((rd_T27 l0 x7_1).f0.f0), .slice none 0 0, .int .u64 0, .bool false, .slice none 0 0, .int .u64 0, .bool false]) ?_ 1 _ rfl; (with_reducible repeat (first | refine blk_drewN ?_ _ | refine blk_drew ?_ | refine blk_alloc ?_ _)); refine blk_put (cs := #[.bool false, .slice none 0 0, .int .u64 0, .bool false, .slice none 0 0, .int .u64 0, .bool false]) ?_ 0 _ rfl; (with_reducible repeat (first | refine blk_drewN ?_ _ | refine blk_drew ?_ | refine blk_alloc ?_ _)); exact BK113.out) hb); have n1_ := Aside0.mk (below_step (by repeat (first | (with_reducible first | exact HB.out | apply below_alloc | apply pw_below_drewN | apply below_drew1 | refine below_set ?_ GE113.out) | exact HB.out)) hb); clear BK113; clear HB; have BK113 := n0_; have HB := n1_; clear n0_ n1_; (try clear hb); (try clear hb2); (try clear hk); (try clear hi); have hcz28_0 : w27.cell? ⟨gb113, 0, none⟩ = some (.bool ((rd_T27 l0 x7_1).f0.f0)) := (blk_cell BK113.out 0).trans rfl; have hcz28_1 : w27.cell? ⟨gb113, 1, none⟩ = some (.slice A112_1 ((rd_T27 l0 x7_1).f0.f1).length c112_1) := (blk_cell BK113.out 1).trans rfl; have hcz28_2 : w27.cell? ⟨gb113, 2, none⟩ = some (.int .u64 ((rd_T27 l0 x7_1).f0.f2)) := (blk_cell BK113.out 2).trans rfl; have hcz28_3 : w27.cell? ⟨gb113, 3, none⟩ = some (.bool ((rd_T27 l0 x7_1).f1.f0)) := (blk_cell BK113.out 3).trans rfl; have hcz28_4 : w27.cell? ⟨gb113, 4, none⟩ = some (.slice A112_4 ((rd_T27 l0 x7_1).f1.f1).length c112_4) := (blk_cell BK113.out 4).trans rfl; have hcz28_5 : w27.cell? ⟨gb113, 5, none⟩ = some (.int .u64 ((rd_T27 l0 x7_1).f1.f2)) := (blk_cell BK113.out 5).trans rfl; have hcz28_6 : w27.cell? ⟨gb113, 6, none⟩ = some (.bool ((rd_T27 l0 x7_1).f2)) := (blk_cell BK113.out 6).trans rfl; have hfz28_0 := blk_frozen BK113.out 0; have hfz28_1 := blk_frozen BK113.out 1; have hfz28_2 := blk_frozen BK113.out 2; have hfz28_3 := blk_frozen BK113.out 3; have hfz28_4 := blk_frozen BK113.out 4; have hfz28_5 := blk_frozen BK113.out 5; have hfz28_6 := blk_frozen BK113.out 6) | (go_at_call 15; (with_reducible refine (laws_boundOk.calls ((rd_T27 l0 x7_1).f0.f0) _ _ ((rd_T27 l0 x7_1).f0.f1) ((rd_T27 l0 x7_1).f0.f2) false _ ?side1 ?side2 A7.out).mono ?_); (case side1 => repeat (first | exact (Kd.C_below HR112_1.out HB.out) | (with_reducible refine Kd.C_alloc ?_ _) | (with_reducible refine Kd.C_drewN ?_ _) | (with_reducible refine Kd.C_drew ?_))); (case side2 => exact HC112_1.out); rintro e w29 ⟨rfl, hb⟩; have n0_ := Aside0.mk (blk_below (g := gb113) (o := .cells #[.bool ((rd_T27 l0 x7_1).f0.f0), .slice A112_1 ((rd_T27 l0 x7_1).f0.f1).length c112_1, .int .u64 ((rd_T27 l0 x7_1).f0.f2), .bool ((rd_T27 l0 x7_1).f1.f0), .slice A112_4 ((rd_T27 l0 x7_1).f1.f1).length c112_4, .int .u64 ((rd_T27 l0 x7_1).f1.f2), .bool ((rd_T27 l0 x7_1).f2)] 27 (0, 0)) (by (with_reducible repeat (first | refine blk_drewN ?_ _ | refine blk_drew ?_ | refine blk_alloc ?_ _)); exact BK113.out) hb); have n1_ := Aside0.mk (below_step (by repeat (first | (with_reducible first | exact HB.out | apply below_alloc | apply pw_below_drewN | apply below_drew1 | refine below_set ?_ GE113.out) | exact HB.out)) hb); clear BK113; clear HB; have BK113 := n0_; have HB := n1_; clear n0_ n1_; (try clear hb); (try clear hb2); (try clear hk); (try clear hi)))
                go_ret
                exact ⟨by first | rfl | (simp [errW_none, errW_some] <;> rfl) | (simp [*, errW_none, errW_some] <;> rfl), by repeat (first | (with_reducible first | exact HB.out | apply below_alloc | apply pw_below_drewN | apply below_drew1 | refine below_set ?_ GE113.out) | exact HB.out)⟩
            · replace c6 := Bool.eq_false_iff.mpr c6
              subst c6
              have H1 : (some false) = some r := by rw [if_neg (show ¬ (false = true) by decide)] at H; exact H
              clear H
              have H := H1
              clear H1
              obtain rfl := Option.some.inj H
              have p112 : 0 ≤ (x7_1 : Int) := of_decide_eq_true (by first | (with_reducible assumption) | assumption)
              have q112 : x7_1 < (l0.length : Int) := of_decide_eq_true (by first | (with_reducible assumption) | assumption)
              obtain ⟨ad112, A112_1, c112_1, A112_4, c112_4, e112, hx112_0, hx112_1, hx112_2, hx112_3, hx112_4, hx112_5, hx112_6, hl112_1, hi112_1, hl112_4, hi112_4⟩ := at_T27 HR0.out x7_1 p112 q112
              cases e112
              replace hx112_0 := (HB.out.cell (World.block_lt_of_cell? w _ hx112_0)).trans hx112_0
              replace hx112_1 := (HB.out.cell (World.block_lt_of_cell? w _ hx112_1)).trans hx112_1
              replace hx112_2 := (HB.out.cell (World.block_lt_of_cell? w _ hx112_2)).trans hx112_2
              replace hx112_3 := (HB.out.cell (World.block_lt_of_cell? w _ hx112_3)).trans hx112_3
              replace hx112_4 := (HB.out.cell (World.block_lt_of_cell? w _ hx112_4)).trans hx112_4
              replace hx112_5 := (HB.out.cell (World.block_lt_of_cell? w _ hx112_5)).trans hx112_5
              replace hx112_6 := (HB.out.cell (World.block_lt_of_cell? w _ hx112_6)).trans hx112_6
              have HR112_1 := Aside0.mk hi112_1
              have HC112_1 := Aside0.mk hl112_1
              clear hi112_1 hl112_1
              have HR112_4 := Aside0.mk hi112_4
              have HC112_4 := Aside0.mk hl112_4
              clear hi112_4 hl112_4
              replace p112 := eq_true p112
              replace q112 := eq_true q112
              go_wp2_with (first | ((with_reducible refine gate_dst (N := 4) rfl ?_); refine box_event ?hg (N := 4) ?hd (cs := #[.bool false, .slice none 0 0, .int .u64 0, .bool false, .slice none 0 0, .int .u64 0, .bool false]) (t := 27) ?hr ?_; (case hd => rfl); (case hg => rfl); (case hr => first | (go_simp; done) | (go_simp; rfl)); intro gb113 hg w30 hbox hb; have n0_ := Aside0.mk (below_step (by repeat (first | (with_reducible first | exact HB.out | apply below_alloc | apply pw_below_drewN | apply below_drew1) | exact HB.out)) hb); have n1_ := Aside0.mk (hbox); have n2_ := Aside0.mk ((by rw [hg]; exact (below_size (by repeat (first | (with_reducible first | exact HB.out | apply below_alloc | apply pw_below_drewN | apply below_drew1) | exact HB.out))) : w.heap.size ≤ gb113)); have n3_ := Aside0.mk ((by rw [hg]; exact (below_size (by repeat (first | (with_reducible first | exact HB.out | apply below_alloc | apply pw_below_drewN | apply below_drew1) | exact HB.out))) : w.heap.size ≤ gb113)); clear HB; have HB := n0_; have BK113 := n1_; have GW113 := n2_; have GE113 := n3_; clear n0_ n1_ n2_ n3_; clear hb hbox hg; have hcz31_0 : w30.cell? ⟨gb113, 0, none⟩ = some (.bool false) := (blk_cell BK113.out 0).trans rfl; have hcz31_1 : w30.cell? ⟨gb113, 1, none⟩ = some (.slice none 0 0) := (blk_cell BK113.out 1).trans rfl; have hcz31_2 : w30.cell? ⟨gb113, 2, none⟩ = some (.int .u64 0) := (blk_cell BK113.out 2).trans rfl; have hcz31_3 : w30.cell? ⟨gb113, 3, none⟩ = some (.bool false) := (blk_cell BK113.out 3).trans rfl; have hcz31_4 : w30.cell? ⟨gb113, 4, none⟩ = some (.slice none 0 0) := (blk_cell BK113.out 4).trans rfl; have hcz31_5 : w30.cell? ⟨gb113, 5, none⟩ = some (.int .u64 0) := (blk_cell BK113.out 5).trans rfl; have hcz31_6 : w30.cell? ⟨gb113, 6, none⟩ = some (.bool false) := (blk_cell BK113.out 6).trans rfl; have hfz31_0 := blk_frozen BK113.out 0; have hfz31_1 := blk_frozen BK113.out 1; have hfz31_2 := blk_frozen BK113.out 2; have hfz31_3 := blk_frozen BK113.out 3; have hfz31_4 := blk_frozen BK113.out 4; have hfz31_5 := blk_frozen BK113.out 5; have hfz31_6 := blk_frozen BK113.out 6) | ((with_reducible refine gate_callee (f := 14) rfl ?_); refine goesL_ (some 12) rfl rfl Try.func14 (by kernel_rfl) rfl #[.agg #[.bool ((rd_T27 l0 x7_1).f0.f0), .slice A112_1 ((rd_T27 l0 x7_1).f0.f1).length c112_1, .int .u64 ((rd_T27 l0 x7_1).f0.f2), .bool ((rd_T27 l0 x7_1).f1.f0), .slice A112_4 ((rd_T27 l0 x7_1).f1.f1).length c112_4, .int .u64 ((rd_T27 l0 x7_1).f1.f2), .bool ((rd_T27 l0 x7_1).f2)]] rfl (by (try simp only [List.map_toArray, List.map_cons, List.map_nil]); first | done | rfl | (simp only [List.length_drop, List.length_take]; rfl)) ?_; (with_reducible refine (spec_Wide.calls ((rd_T27 l0 x7_1).f0.f0) _ _ ((rd_T27 l0 x7_1).f0.f1) ((rd_T27 l0 x7_1).f0.f2) ((rd_T27 l0 x7_1).f1.f0) _ _ ((rd_T27 l0 x7_1).f1.f1) ((rd_T27 l0 x7_1).f1.f2) ((rd_T27 l0 x7_1).f2) false _ ?side1 ?side2 ?side3 ?side4 A5.out).mono ?_); (case side1 => exact Kd.C_below HR112_1.out (by repeat (first | (with_reducible first | exact HB.out | apply below_alloc | apply pw_below_drewN | apply below_drew1 | refine below_set ?_ GE113.out) | exact HB.out))); (case side2 => exact HC112_1.out); (case side3 => exact Kd.C_below HR112_4.out (by repeat (first | (with_reducible first | exact HB.out | apply below_alloc | apply pw_below_drewN | apply below_drew1 | refine below_set ?_ GE113.out) | exact HB.out))); (case side4 => exact HC112_4.out); rintro e w32 ⟨rfl, hb⟩; refine ⟨_, rfl, ?_⟩; have n0_ := Aside0.mk (blk_below (g := gb113) (o := .cells #[.bool ((rd_T27 l0 x7_1).f0.f0), .slice A112_1 ((rd_T27 l0 x7_1).f0.f1).length c112_1, .int .u64 ((rd_T27 l0 x7_1).f0.f2), .bool ((rd_T27 l0 x7_1).f1.f0), .slice A112_4 ((rd_T27 l0 x7_1).f1.f1).length c112_4, .int .u64 ((rd_T27 l0 x7_1).f1.f2), .bool ((rd_T27 l0 x7_1).f2)] 27 (0, 0)) (by (with_reducible repeat (first | refine blk_drewN ?_ _ | refine blk_drew ?_ | refine blk_alloc ?_ _)); refine blk_put (cs := #[.bool ((rd_T27 l0 x7_1).f0.f0), .slice A112_1 ((rd_T27 l0 x7_1).f0.f1).length c112_1, .int .u64 ((rd_T27 l0 x7_1).f0.f2), .bool ((rd_T27 l0 x7_1).f1.f0), .slice A112_4 ((rd_T27 l0 x7_1).f1.f1).length c112_4, .int .u64 ((rd_T27 l0 x7_1).f1.f2), .bool false]) ?_ 6 _ rfl; (with_reducible repeat (first | refine blk_drewN ?_ _ | refine blk_drew ?_ | refine blk_alloc ?_ _)); refine blk_put (cs := #[.bool ((rd_T27 l0 x7_1).f0.f0), .slice A112_1 ((rd_T27 l0 x7_1).f0.f1).length c112_1, .int .u64 ((rd_T27 l0 x7_1).f0.f2), .bool ((rd_T27 l0 x7_1).f1.f0), .slice A112_4 ((rd_T27 l0 x7_1).f1.f1).length c112_4, .int .u64 0, .bool false]) ?_ 5 _ rfl; (with_reducible repeat (first | refine blk_drewN ?_ _ | refine blk_drew ?_ | refine blk_alloc ?_ _)); refine blk_put (cs := #[.bool ((rd_T27 l0 x7_1).f0.f0), .slice A112_1 ((rd_T27 l0 x7_1).f0.f1).length c112_1, .int .u64 ((rd_T27 l0 x7_1).f0.f2), .bool ((rd_T27 l0 x7_1).f1.f0), .slice none 0 0, .int .u64 0, .bool false]) ?_ 4 _ rfl; (with_reducible repeat (first | refine blk_drewN ?_ _ | refine blk_drew ?_ | refine blk_alloc ?_ _)); refine blk_put (cs := #[.bool ((rd_T27 l0 x7_1).f0.f0), .slice A112_1 ((rd_T27 l0 x7_1).f0.f1).length c112_1, .int .u64 ((rd_T27 l0 x7_1).f0.f2), .bool false, .slice none 0 0, .int .u64 0, .bool false]) ?_ 3 _ rfl; (with_reducible repeat (first | refine blk_drewN ?_ _ | refine blk_drew ?_ | refine blk_alloc ?_ _)); refine blk_put (cs := #[.bool ((rd_T27 l0 x7_1).f0.f0), .slice A112_1 ((rd_T27 l0 x7_1).f0.f1).length c112_1, .int .u64 0, .bool false, .slice none 0 0, .int .u64 0, .bool false]) ?_ 2 _ rfl; (with_reducible repeat (first | refine blk_drewN ?_ _ | refine blk_drew ?_ | refine blk_alloc ?_ _)); refine blk_put (cs := #[.bool ((rd_T27 l0 x7_1).f0.f0), .slice none 0 0, .int .u64 0, .bool false, .slice none 0 0, .int .u64 0, .bool false]) ?_ 1 _ rfl; (with_reducible repeat (first | refine blk_drewN ?_ _ | refine blk_drew ?_ | refine blk_alloc ?_ _)); refine blk_put (cs := #[.bool false, .slice none 0 0, .int .u64 0, .bool false, .slice none 0 0, .int .u64 0, .bool false]) ?_ 0 _ rfl; (with_reducible repeat (first | refine blk_drewN ?_ _ | refine blk_drew ?_ | refine blk_alloc ?_ _)); exact BK113.out) hb); have n1_ := Aside0.mk (below_step (by repeat (first | (with_reducible first | exact HB.out | apply below_alloc | apply pw_below_drewN | apply below_drew1 | refine below_set ?_ GE113.out) | exact HB.out)) hb); clear BK113; clear HB; have BK113 := n0_; have HB := n1_; clear n0_ n1_; (try clear hb); (try clear hb2); (try clear hk); (try clear hi)))
              go_ret
              exact ⟨by first | rfl | (simp [errW_none, errW_some] <;> rfl) | (simp [*, errW_none, errW_some] <;> rfl), by repeat (first | (with_reducible first | exact HB.out | apply below_alloc | apply pw_below_drewN | apply below_drew1 | refine below_set ?_ GE113.out) | exact HB.out)⟩
          · rw [if_neg c4] at H
            exact absurd H (by simp)
        · rw [if_neg c3] at H
          exact absurd H (by simp)
      · rw [if_neg c2] at H
        have c2b0 : decide (x7_1 < (l0.length : Int)) = false := decide_eq_false c2
        clear c2
        obtain rfl := Option.some.inj H
        go_wp2
        go_ret
        exact ⟨by first | rfl | (simp [errW_none, errW_some] <;> rfl) | (simp [*, errW_none, errW_some] <;> rfl), by repeat (first | (with_reducible first | exact HB.out | apply below_alloc | apply pw_below_drewN | apply below_drew1) | exact HB.out)⟩

/-! ### badgery_ParseKey: function 34 -/
def badgery_ParseKey.f (l0 : List Int) : Option (List Int) := if (l0.length : Int) < 8 then (some ([] : List Int)) else (if 0 ≤ (wrap64 ((l0.length : Int) - 8)) then (if (wrap64 ((l0.length : Int) - 8)) ≤ (l0.length : Int) then (some (l0.take ((wrap64 ((l0.length : Int) - 8)) : Int).toNat)) else (none)) else (none))
set_option maxHeartbeats 8000000 in
set_option maxRecDepth 100000 in
theorem badgery_ParseKey.calls (P0_ : Nat → Prop) (A0 : Option Addr) (c0 : Nat) (l0 : List Int) (r : List Int) (w : World) (hs0 : Kd.V (Kd.int .u8) 5 w w.heap.size (fun k_ => P0_ k_) (.slice A0 l0.length c0) l0) (h : badgery_ParseKey.f l0 = some r) :
    Calls Try.prog 34 #[.slice A0 l0.length c0] w fun e w' => ∃ v0_ : Value, e = .returned (v0_) ∧ Kd.V (Kd.int .u8) 5 w' w.heap.size (fun k_ => (P0_ k_ ∨ w.heap.size ≤ k_)) v0_ r ∧ Below w.heap.size w w' := by
  have HO0 := Aside0.mk (show Kd.V (Kd.int .u8) 5 w w.heap.size (fun k_ => (P0_ k_ ∨ w.heap.size ≤ k_)) (.slice A0 l0.length c0) l0 from Kd.V_mono hs0 (fun k_ hk => .inl hk))
  have HB := Aside0.mk (Below.refl w.heap.size w)
  have H : (if (l0.length : Int) < 8 then (some ([] : List Int)) else (if 0 ≤ (wrap64 ((l0.length : Int) - 8)) then (if (wrap64 ((l0.length : Int) - 8)) ≤ (l0.length : Int) then (some (l0.take ((wrap64 ((l0.length : Int) - 8)) : Int).toNat)) else (none)) else (none))) = some r := h
  clear h
  by_cases c2 : (l0.length : Int) < 8
  · rw [if_pos c2] at H
    have c2b0 : decide ((l0.length : Int) < 8) = true := decide_eq_true c2
    have c2b1 : decide (l0.length < 8) = true := decide_eq_true (by omega)
    clear c2
    obtain rfl := Option.some.inj H
    go_enter Try.func34, Try.ntmps34
    go_wp2
    go_ret
    exact ⟨_, by first | rfl | (simp [errW_none, errW_some] <;> rfl) | (simp [*, errW_none, errW_some] <;> rfl), (show Kd.V _ _ _ _ _ (.slice none 0 0) _ from Kd.V_nil _ _ _ _ _), by repeat (first | (with_reducible first | exact HB.out | apply below_alloc | apply pw_below_drewN | apply below_drew1) | exact HB.out)⟩
  · rw [if_neg c2] at H
    have c2b0 : decide ((l0.length : Int) < 8) = false := decide_eq_false c2
    have c2b1 : decide (l0.length < 8) = false := decide_eq_false (by omega)
    clear c2
    obtain ⟨ji3, hji3⟩ : ∃ j_ : Int, (wrap64 ((l0.length : Int) - 8)) = j_ := ⟨_, rfl⟩
    replace H : (if 0 ≤ (ji3) then (if (ji3) ≤ (l0.length : Int) then (some (l0.take ((ji3) : Int).toNat)) else (none)) else (none)) = some r := by first | (rw [hji3] at H; exact H) | (simp only [hji3] at H ⊢; exact H)
    have hji3w : (IntKind.i64.wrap ((l0.length : Int) - 8)) = ji3 := (i64_w _).trans hji3
    by_cases c4 : 0 ≤ (ji3)
    · rw [if_pos c4] at H
      have c4b0 := eq_true c4
      have c4b1 : decide (0 ≤ (ji3)) = true := decide_eq_true c4
      clear c4
      by_cases c5 : (ji3) ≤ (l0.length : Int)
      · rw [if_pos c5] at H
        have c5b0 := eq_true c5
        have c5b1 : decide ((ji3) ≤ (l0.length : Int)) = true := decide_eq_true c5
        clear c5
        obtain ⟨y117, hy117⟩ : ∃ y_ : List Int, y_ = (l0.take ((ji3) : Int).toNat) := ⟨_, rfl⟩
        replace H : (some y117) = some r := by first | (rw [hy117]; with_reducible exact H) | (have H2_ := (Option.bind_some _ _).symm.trans H; rw [hy117]; with_reducible exact H2_) | (have H2_ := (Option.bind_some _ _).symm.trans H; with_reducible exact H2_) | with_reducible exact H | (rw [hy117]; exact H) | exact H
        have Ny117 := Aside0.mk hy117
        clear hy117
        obtain rfl := Option.some.inj H
        have q6 : ((ji3) : Int) ≤ ((l0.length : Int) : Int) := of_decide_eq_true (by first | (with_reducible assumption) | assumption)
        obtain ⟨i06, hi06, _, hsz6, _⟩ := info_parts info5
        have hroom6 : l0.length ≤ c0 := (Kd.V_reads' HO0.out).2.1
        have hC6 : Kd.F (Kd.int .u8) _ _ A0 l0.length l0 := (Kd.V_at (base := w.heap.size) HO0.out).2.2
        have hcut6 := cut_to (P := Try.prog) 22 5 .i64 Try.underlying22 hi06 A0 l0.length c0 (ji3) (of_decide_eq_true (by first | (with_reducible assumption) | assumption)) q6 hroom6
        have hr6 := Kd.F_take (m := ((ji3) : Int).toNat) hC6 (by omega)
        have hy6 : y117.length = ((ji3) : Int).toNat := (by rw [Ny117.out, List.length_take]; omega)
        rw [← Ny117.out] at hr6
        rw [← hy6] at hcut6
        have HO121 := Aside0.mk (show Kd.V (Kd.int .u8) 5 _ w.heap.size _ (.slice A0 y117.length c0) y117 from Kd.V_mk (by omega) hr6)
        have HC121 := Aside0.mk (show y117.length ≤ c0 from by omega)
        clear hr6 hC6 hroom6 hi06 hsz6
        have KY6 := Aside0.mk hy6
        clear hy6
        replace q6 := eq_true q6
        go_enter Try.func34, Try.ntmps34
        go_wp2
        go_ret
        exact ⟨_, by first | rfl | (simp [errW_none, errW_some] <;> rfl) | (simp only [← hji3]; first | rfl | (simp [errW_none, errW_some] <;> rfl)) | (simp [*, errW_none, errW_some] <;> rfl), by (with_reducible repeat (first | apply Kd.V_alloc | apply Kd.V_drewN | apply Kd.V_drew)); exact HO121.out, by repeat (first | (with_reducible first | exact HB.out | apply below_alloc | apply pw_below_drewN | apply below_drew1) | exact HB.out)⟩
      · rw [if_neg c5] at H
        exact absurd H (by simp)
    · rw [if_neg c4] at H
      exact absurd H (by simp)

/-! ### badgery_beUint16: function 48 -/
def badgery_beUint16.f (l0 : List Int) : Option (Int) := if 1 < (l0.length : Int) then (if 0 < (l0.length : Int) then (some (Go.bits .or .u16 (IntKind.u16.wrap (rd l0 1)) (IntKind.u16.wrap ((IntKind.u16.wrap (rd l0 0)) * 256)))) else (none)) else (none)
set_option maxHeartbeats 8000000 in
set_option maxRecDepth 100000 in
theorem badgery_beUint16.calls (A0 : Option Addr) (c0 : Nat) (l0 : List Int) (r : Int) (w : World) (hr0 : Kd.C (Kd.int .u8) w A0 l0.length l0) (hc0 : l0.length ≤ c0) (h : badgery_beUint16.f l0 = some r) :
    Calls Try.prog 48 #[.slice A0 l0.length c0] w fun e w' => e = .returned (.int .u16 r) ∧ Drawn0 w w' := by
  have HR0 := Aside0.mk hr0
  have HC0 := Aside0.mk hc0
  clear hr0 hc0
  have H : (if 1 < (l0.length : Int) then (if 0 < (l0.length : Int) then (some (Go.bits .or .u16 (IntKind.u16.wrap (rd l0 1)) (IntKind.u16.wrap ((IntKind.u16.wrap (rd l0 0)) * 256)))) else (none)) else (none)) = some r := h
  clear h
  by_cases c2 : 1 < (l0.length : Int)
  · rw [if_pos c2] at H
    have c2b0 : decide (1 < (l0.length : Int)) = true := decide_eq_true c2
    have c2b1 : decide (1 < l0.length) = true := decide_eq_true (by omega)
    clear c2
    by_cases c3 : 0 < (l0.length : Int)
    · rw [if_pos c3] at H
      have c3b0 : decide (0 < (l0.length : Int)) = true := decide_eq_true c3
      have c3b1 : decide (0 < l0.length) = true := decide_eq_true (by omega)
      clear c3
      obtain rfl := Option.some.inj H
      have p122 : 0 ≤ (1 : Int) := (by omega)
      have q122 : 1 < (l0.length : Int) := of_decide_eq_true (by first | (with_reducible assumption) | assumption)
      obtain ⟨ad122, e122, hx122_0⟩ := Kd.at_int HR0.out 1 p122 q122
      cases e122
      (try simp only [show (1 : Int).toNat = 1 from rfl, Nat.reduceMul, Nat.reduceEqDiff, Go.Addr.add, ↓reduceIte] at hx122_0)
      have qi122 : (1 < l0.length) = True := eq_true (by omega)
      (try rw [show ((1 : Int)).toNat = 1 from rfl] at hx122_0)
      replace p122 := eq_true p122
      replace q122 := eq_true q122
      have p123 : 0 ≤ (0 : Int) := (by omega)
      have q123 : 0 < (l0.length : Int) := of_decide_eq_true (by first | (with_reducible assumption) | assumption)
      obtain ⟨ad123, e123, hx123_0⟩ := Kd.at_int HR0.out 0 p123 q123
      obtain rfl : ad122 = ad123 := (by injection e123)
      have qi123 : (0 < l0.length) = True := eq_true (by omega)
      (try rw [show ((0 : Int)).toNat = 0 from rfl] at hx123_0)
      (try rw [Addr.add_zero'] at hx123_0)
      replace p123 := eq_true p123
      replace q123 := eq_true q123
      go_enter Try.func48, Try.ntmps48
      go_wp2
      repeat (go_quiet (fail); try go_wp2)
      go_ret
      exact ⟨by first | rfl | (simp; done) | (simp [*]; done), by repeat (first | exact Drawn0.refl _ | apply Drawn0.step)⟩
    · rw [if_neg c3] at H
      exact absurd H (by simp)
  · rw [if_neg c2] at H
    exact absurd H (by simp)

/-! ### badgery_beUint32: function 45 -/
def badgery_beUint32.f (l0 : List Int) : Option (Int) := if 2 ≤ 4 then (if 4 ≤ (l0.length : Int) then ((badgery_beUint16.f ((l0.take 4).drop 2)).bind fun t125 => ((badgery_beUint16.f l0).bind fun t126 => (some (Go.bits .or .u32 ((t125) % 4294967296) ((((t126) % 4294967296) * 65536) % 4294967296))))) else (none)) else (none)
set_option maxHeartbeats 8000000 in
set_option maxRecDepth 100000 in
theorem badgery_beUint32.calls (A0 : Option Addr) (c0 : Nat) (l0 : List Int) (r : Int) (w : World) (hr0 : Kd.C (Kd.int .u8) w A0 l0.length l0) (hc0 : l0.length ≤ c0) (h : badgery_beUint32.f l0 = some r) :
    Calls Try.prog 45 #[.slice A0 l0.length c0] w fun e w' => e = .returned (.int .u32 r) ∧ Drawn0 w w' := by
  have HR0 := Aside0.mk hr0
  have HC0 := Aside0.mk hc0
  clear hr0 hc0
  have H : (if 2 ≤ 4 then (if 4 ≤ (l0.length : Int) then ((badgery_beUint16.f ((l0.take 4).drop 2)).bind fun t125 => ((badgery_beUint16.f l0).bind fun t126 => (some (Go.bits .or .u32 ((t125) % 4294967296) ((((t126) % 4294967296) * 65536) % 4294967296))))) else (none)) else (none)) = some r := h
  clear h
  by_cases c2 : 2 ≤ 4
  · rw [if_pos c2] at H
    have c2b0 := eq_true c2
    have c2b1 : decide (2 ≤ 4) = true := decide_eq_true c2
    clear c2
    by_cases c3 : 4 ≤ (l0.length : Int)
    · rw [if_pos c3] at H
      have c3b0 := eq_true c3
      have c3b1 : decide (4 ≤ (l0.length : Int)) = true := decide_eq_true c3
      clear c3
      replace H := Option.bind_eq_some_iff.mp H
      obtain ⟨t125, A40, H⟩ := H
      replace H : ((badgery_beUint16.f l0).bind fun t126 => (some (Go.bits .or .u32 ((t125) % 4294967296) ((((t126) % 4294967296) * 65536) % 4294967296)))) = some r := H
      have A4 := Aside0.mk A40
      clear A40
      replace H := Option.bind_eq_some_iff.mp H
      obtain ⟨t126, A50, H⟩ := H
      replace H : (some (Go.bits .or .u32 ((t125) % 4294967296) ((((t126) % 4294967296) * 65536) % 4294967296))) = some r := H
      have A5 := Aside0.mk A50
      clear A50
      obtain rfl := Option.some.inj H
      obtain ⟨i06, hi06, _, hsz6, _⟩ := info_parts info5
      obtain ⟨A6, hcut6, hA6, hC6⟩ := print_mid_of (P := Try.prog) (Value.int .u8) 0 22 5 .i64 .i64 Try.underlying22 hi06 hsz6 A0 c0 l0 2 4 (by omega) (by first | omega | exact of_decide_eq_true (by first | (with_reducible assumption) | assumption)) (of_decide_eq_true (by first | (with_reducible assumption) | assumption)) HC0.out
      have HR124 := Aside0.mk (Kd.C_of_reads (h1 := fun _ => rfl) (hA6 _ (Kd.reads_of_C HR0.out)))
      have HC124 := Aside0.mk hC6
      clear hA6 hC6 hi06 hsz6
      go_enter Try.func45, Try.ntmps45
      go_wp2_with (first | ((with_reducible refine gate_callee (f := 48) rfl ?_); refine goesL_ (some 5) rfl rfl Try.func48 (by kernel_rfl) rfl #[.slice A6 ((l0.take 4).drop 2).length (c0 - 2)] rfl (by (try simp only [List.map_toArray, List.map_cons, List.map_nil]); first | done | (rw [show ((l0.take 4).drop 2).length = (4 - 2) from (by rw [List.length_drop, List.length_take]; have h_ : (4 : Int) ≤ (l0.length : Int) := of_decide_eq_true (by first | (with_reducible assumption) | assumption); omega)] <;> rfl) | rfl | (simp only [List.length_drop, List.length_take]; rfl)) ?_; (with_reducible refine (badgery_beUint16.calls _ _ ((l0.take 4).drop 2) t125 _ ?side1 ?side2 A4.out).mono ?_); (case side1 => repeat (first | exact HR124.out | (with_reducible refine Kd.C_alloc ?_ _) | (with_reducible refine Kd.C_drewN ?_ _) | (with_reducible refine Kd.C_drew ?_))); (case side2 => exact HC124.out); rintro e w' ⟨rfl, ⟨nd, rfl⟩⟩; refine ⟨_, rfl, ?_⟩) | ((with_reducible refine gate_callee (f := 48) rfl ?_); refine goesL_ (some 8) rfl rfl Try.func48 (by kernel_rfl) rfl #[.slice A0 l0.length c0] rfl (by (try simp only [List.map_toArray, List.map_cons, List.map_nil]); first | done | rfl | (simp only [List.length_drop, List.length_take]; rfl)) ?_; (with_reducible refine (badgery_beUint16.calls _ _ l0 t126 _ ?side1 ?side2 A5.out).mono ?_); (case side1 => repeat (first | exact HR0.out | (with_reducible refine Kd.C_alloc ?_ _) | (with_reducible refine Kd.C_drewN ?_ _) | (with_reducible refine Kd.C_drew ?_))); (case side2 => exact HC0.out); rintro e w' ⟨rfl, ⟨nd, rfl⟩⟩; refine ⟨_, rfl, ?_⟩))
      go_ret
      exact ⟨by first | rfl | (simp; done) | (simp [*]; done), by repeat (first | exact Drawn0.refl _ | apply Drawn0.step)⟩
    · rw [if_neg c3] at H
      exact absurd H (by simp)
  · rw [if_neg c2] at H
    exact absurd H (by simp)

/-! ### badgery_beUint64: function 41 -/
def badgery_beUint64.f (l0 : List Int) : Option (Int) := if 4 ≤ 8 then (if 8 ≤ (l0.length : Int) then ((badgery_beUint32.f ((l0.take 8).drop 4)).bind fun t128 => ((badgery_beUint32.f l0).bind fun t129 => (some (Go.bits .or .u64 (IntKind.u64.wrap (t128)) (IntKind.u64.wrap ((IntKind.u64.wrap (t129)) * 4294967296)))))) else (none)) else (none)
set_option maxHeartbeats 8000000 in
set_option maxRecDepth 100000 in
theorem badgery_beUint64.calls (A0 : Option Addr) (c0 : Nat) (l0 : List Int) (r : Int) (w : World) (hr0 : Kd.C (Kd.int .u8) w A0 l0.length l0) (hc0 : l0.length ≤ c0) (h : badgery_beUint64.f l0 = some r) :
    Calls Try.prog 41 #[.slice A0 l0.length c0] w fun e w' => e = .returned (.int .u64 r) ∧ Drawn0 w w' := by
  have HR0 := Aside0.mk hr0
  have HC0 := Aside0.mk hc0
  clear hr0 hc0
  have H : (if 4 ≤ 8 then (if 8 ≤ (l0.length : Int) then ((badgery_beUint32.f ((l0.take 8).drop 4)).bind fun t128 => ((badgery_beUint32.f l0).bind fun t129 => (some (Go.bits .or .u64 (IntKind.u64.wrap (t128)) (IntKind.u64.wrap ((IntKind.u64.wrap (t129)) * 4294967296)))))) else (none)) else (none)) = some r := h
  clear h
  by_cases c2 : 4 ≤ 8
  · rw [if_pos c2] at H
    have c2b0 := eq_true c2
    have c2b1 : decide (4 ≤ 8) = true := decide_eq_true c2
    clear c2
    by_cases c3 : 8 ≤ (l0.length : Int)
    · rw [if_pos c3] at H
      have c3b0 := eq_true c3
      have c3b1 : decide (8 ≤ (l0.length : Int)) = true := decide_eq_true c3
      clear c3
      replace H := Option.bind_eq_some_iff.mp H
      obtain ⟨t128, A40, H⟩ := H
      replace H : ((badgery_beUint32.f l0).bind fun t129 => (some (Go.bits .or .u64 (IntKind.u64.wrap (t128)) (IntKind.u64.wrap ((IntKind.u64.wrap (t129)) * 4294967296))))) = some r := H
      have A4 := Aside0.mk A40
      clear A40
      replace H := Option.bind_eq_some_iff.mp H
      obtain ⟨t129, A50, H⟩ := H
      replace H : (some (Go.bits .or .u64 (IntKind.u64.wrap (t128)) (IntKind.u64.wrap ((IntKind.u64.wrap (t129)) * 4294967296)))) = some r := H
      have A5 := Aside0.mk A50
      clear A50
      obtain rfl := Option.some.inj H
      obtain ⟨i06, hi06, _, hsz6, _⟩ := info_parts info5
      obtain ⟨A6, hcut6, hA6, hC6⟩ := print_mid_of (P := Try.prog) (Value.int .u8) 0 22 5 .i64 .i64 Try.underlying22 hi06 hsz6 A0 c0 l0 4 8 (by omega) (by first | omega | exact of_decide_eq_true (by first | (with_reducible assumption) | assumption)) (of_decide_eq_true (by first | (with_reducible assumption) | assumption)) HC0.out
      have HR127 := Aside0.mk (Kd.C_of_reads (h1 := fun _ => rfl) (hA6 _ (Kd.reads_of_C HR0.out)))
      have HC127 := Aside0.mk hC6
      clear hA6 hC6 hi06 hsz6
      go_enter Try.func41, Try.ntmps41
      go_wp2_with (first | ((with_reducible refine gate_callee (f := 45) rfl ?_); refine goesL_ (some 5) rfl rfl Try.func45 (by kernel_rfl) rfl #[.slice A6 ((l0.take 8).drop 4).length (c0 - 4)] rfl (by (try simp only [List.map_toArray, List.map_cons, List.map_nil]); first | done | (rw [show ((l0.take 8).drop 4).length = (8 - 4) from (by rw [List.length_drop, List.length_take]; have h_ : (8 : Int) ≤ (l0.length : Int) := of_decide_eq_true (by first | (with_reducible assumption) | assumption); omega)] <;> rfl) | rfl | (simp only [List.length_drop, List.length_take]; rfl)) ?_; (with_reducible refine (badgery_beUint32.calls _ _ ((l0.take 8).drop 4) t128 _ ?side1 ?side2 A4.out).mono ?_); (case side1 => repeat (first | exact HR127.out | (with_reducible refine Kd.C_alloc ?_ _) | (with_reducible refine Kd.C_drewN ?_ _) | (with_reducible refine Kd.C_drew ?_))); (case side2 => exact HC127.out); rintro e w' ⟨rfl, ⟨nd, rfl⟩⟩; refine ⟨_, rfl, ?_⟩) | ((with_reducible refine gate_callee (f := 45) rfl ?_); refine goesL_ (some 8) rfl rfl Try.func45 (by kernel_rfl) rfl #[.slice A0 l0.length c0] rfl (by (try simp only [List.map_toArray, List.map_cons, List.map_nil]); first | done | rfl | (simp only [List.length_drop, List.length_take]; rfl)) ?_; (with_reducible refine (badgery_beUint32.calls _ _ l0 t129 _ ?side1 ?side2 A5.out).mono ?_); (case side1 => repeat (first | exact HR0.out | (with_reducible refine Kd.C_alloc ?_ _) | (with_reducible refine Kd.C_drewN ?_ _) | (with_reducible refine Kd.C_drew ?_))); (case side2 => exact HC0.out); rintro e w' ⟨rfl, ⟨nd, rfl⟩⟩; refine ⟨_, rfl, ?_⟩))
      go_ret
      exact ⟨by first | rfl | (simp; done) | (simp [*]; done), by repeat (first | exact Drawn0.refl _ | apply Drawn0.step)⟩
    · rw [if_neg c3] at H
      exact absurd H (by simp)
  · rw [if_neg c2] at H
    exact absurd H (by simp)

/-! ### badgery_ParseTs: function 35 -/
def badgery_ParseTs.f (l0 : List Int) : Option (Int) := if (l0.length : Int) ≤ 8 then (some 0) else (if 0 ≤ (wrap64 ((l0.length : Int) - 8)) then (if (wrap64 ((l0.length : Int) - 8)) ≤ (l0.length : Int) then ((badgery_beUint64.f (l0.drop ((wrap64 ((l0.length : Int) - 8)) : Int).toNat)).bind fun t131 => (some (IntKind.u64.wrap (18446744073709551615 - t131)))) else (none)) else (none))
set_option maxHeartbeats 8000000 in
set_option maxRecDepth 100000 in
theorem badgery_ParseTs.calls (A0 : Option Addr) (c0 : Nat) (l0 : List Int) (r : Int) (w : World) (hr0 : Kd.C (Kd.int .u8) w A0 l0.length l0) (hc0 : l0.length ≤ c0) (h : badgery_ParseTs.f l0 = some r) :
    Calls Try.prog 35 #[.slice A0 l0.length c0] w fun e w' => e = .returned (.int .u64 r) ∧ Drawn0 w w' := by
  have HR0 := Aside0.mk hr0
  have HC0 := Aside0.mk hc0
  clear hr0 hc0
  have H : (if (l0.length : Int) ≤ 8 then (some 0) else (if 0 ≤ (wrap64 ((l0.length : Int) - 8)) then (if (wrap64 ((l0.length : Int) - 8)) ≤ (l0.length : Int) then ((badgery_beUint64.f (l0.drop ((wrap64 ((l0.length : Int) - 8)) : Int).toNat)).bind fun t131 => (some (IntKind.u64.wrap (18446744073709551615 - t131)))) else (none)) else (none))) = some r := h
  clear h
  by_cases c2 : (l0.length : Int) ≤ 8
  · rw [if_pos c2] at H
    have c2b0 : decide ((l0.length : Int) ≤ 8) = true := decide_eq_true c2
    have c2b1 : decide (l0.length ≤ 8) = true := decide_eq_true (by omega)
    clear c2
    obtain rfl := Option.some.inj H
    go_enter Try.func35, Try.ntmps35
    go_wp2
    go_ret
    exact ⟨by first | rfl | (simp; done) | (simp [*]; done), by repeat (first | exact Drawn0.refl _ | apply Drawn0.step)⟩
  · rw [if_neg c2] at H
    have c2b0 : decide ((l0.length : Int) ≤ 8) = false := decide_eq_false c2
    have c2b1 : decide (l0.length ≤ 8) = false := decide_eq_false (by omega)
    clear c2
    obtain ⟨ji3, hji3⟩ : ∃ j_ : Int, (wrap64 ((l0.length : Int) - 8)) = j_ := ⟨_, rfl⟩
    replace H : (if 0 ≤ (ji3) then (if (ji3) ≤ (l0.length : Int) then ((badgery_beUint64.f (l0.drop ((ji3) : Int).toNat)).bind fun t131 => (some (IntKind.u64.wrap (18446744073709551615 - t131)))) else (none)) else (none)) = some r := by first | (rw [hji3] at H; exact H) | (simp only [hji3] at H ⊢; exact H)
    have hji3w : (IntKind.i64.wrap ((l0.length : Int) - 8)) = ji3 := (i64_w _).trans hji3
    by_cases c4 : 0 ≤ (ji3)
    · rw [if_pos c4] at H
      have c4b0 := eq_true c4
      have c4b1 : decide (0 ≤ (ji3)) = true := decide_eq_true c4
      clear c4
      by_cases c5 : (ji3) ≤ (l0.length : Int)
      · rw [if_pos c5] at H
        have c5b0 := eq_true c5
        have c5b1 : decide ((ji3) ≤ (l0.length : Int)) = true := decide_eq_true c5
        clear c5
        replace H := Option.bind_eq_some_iff.mp H
        obtain ⟨t131, A60, H⟩ := H
        replace H : (some (IntKind.u64.wrap (18446744073709551615 - t131))) = some r := H
        have A6 := Aside0.mk A60
        clear A60
        obtain rfl := Option.some.inj H
        obtain ⟨i07, hi07, _, hsz7, _⟩ := info_parts info5
        obtain ⟨A7, hcut7, hA7, hC7⟩ := print_drop_of (P := Try.prog) (Value.int .u8) 0 22 5 .i64 Try.underlying22 hi07 hsz7 A0 c0 l0 (ji3) (of_decide_eq_true (by first | (with_reducible assumption) | assumption)) (of_decide_eq_true (by first | (with_reducible assumption) | assumption)) HC0.out
        have HR130 := Aside0.mk (Kd.C_of_reads (h1 := fun _ => rfl) (hA7 _ (Kd.reads_of_C HR0.out)))
        have HC130 := Aside0.mk hC7
        clear hA7 hC7 hi07 hsz7
        go_enter Try.func35, Try.ntmps35
        go_wp2_with (first | ((with_reducible refine gate_callee (f := 41) rfl ?_); refine goesL_ (some 11) rfl rfl Try.func41 (by kernel_rfl) rfl #[.slice A7 (l0.drop ((ji3) : Int).toNat).length (c0 - (ji3).toNat)] rfl (by (try simp only [List.map_toArray, List.map_cons, List.map_nil]); first | done | (rw [show (l0.drop ((ji3) : Int).toNat).length = (l0.length - (ji3).toNat) from List.length_drop] <;> rfl) | (simp only [hji3]; rfl) | rfl | (simp only [List.length_drop, List.length_take]; rfl)) ?_; (with_reducible refine (badgery_beUint64.calls _ _ (l0.drop ((ji3) : Int).toNat) t131 _ ?side1 ?side2 A6.out).mono ?_); (case side1 => repeat (first | exact HR130.out | (with_reducible refine Kd.C_alloc ?_ _) | (with_reducible refine Kd.C_drewN ?_ _) | (with_reducible refine Kd.C_drew ?_))); (case side2 => exact HC130.out); rintro e w' ⟨rfl, ⟨nd, rfl⟩⟩; refine ⟨_, rfl, ?_⟩))
        go_ret
        exact ⟨by first | rfl | (simp; done) | (simp only [← hji3] <;> (first | rfl | simp)) | (simp [*]; done), by repeat (first | exact Drawn0.refl _ | apply Drawn0.step)⟩
      · rw [if_neg c5] at H
        exact absurd H (by simp)
    · rw [if_neg c4] at H
      exact absurd H (by simp)

/-! ### impl_boundOf: function 26 -/
def impl_boundOf.f (l0 : List Int) : Option (Bool × List Int × Int) := if (l0.length : Int) < 8 then (some (false, ([] : List Int), 0)) else ((badgery_ParseKey.f l0).bind fun t133 => ((impl_own.f t133).bind fun t136 => ((badgery_ParseTs.f l0).bind fun t139 => (some (true, t136, t139)))))
set_option maxHeartbeats 8000000 in
set_option maxRecDepth 100000 in
theorem impl_boundOf.calls (A0 : Option Addr) (c0 : Nat) (l0 : List Int) (r1 : Bool) (r2 : List Int) (r3 : Int) (w : World) (hr0 : Kd.C (Kd.int .u8) w A0 l0.length l0) (hc0 : l0.length ≤ c0) (h : impl_boundOf.f l0 = some (r1, r2, r3)) :
    Calls Try.prog 26 #[.slice A0 l0.length c0] w fun e w' => ∃ v1_ : Value, e = .returned (.agg #[.bool r1, v1_, .int .u64 r3]) ∧ Kd.R (Kd.int .u8) 5 w' w.heap.size (fun _ => True) v1_ r2 ∧ Below w.heap.size w w' := by
  have hu25 := Try.underlying25
  have HR0 := Aside0.mk hr0
  have HC0 := Aside0.mk hc0
  clear hr0 hc0
  have HB := Aside0.mk (Below.refl w.heap.size w)
  have H : (if (l0.length : Int) < 8 then (some (false, ([] : List Int), 0)) else ((badgery_ParseKey.f l0).bind fun t133 => ((impl_own.f t133).bind fun t136 => ((badgery_ParseTs.f l0).bind fun t139 => (some (true, t136, t139)))))) = some (r1, r2, r3) := h
  clear h
  by_cases c2 : (l0.length : Int) < 8
  · rw [if_pos c2] at H
    have c2b0 : decide ((l0.length : Int) < 8) = true := decide_eq_true c2
    have c2b1 : decide (l0.length < 8) = true := decide_eq_true (by omega)
    clear c2
    simp only [Option.some.injEq, Prod.mk.injEq] at H
    obtain ⟨rfl, rfl, rfl⟩ := H
    go_enter Try.func26, Try.ntmps26
    go_wp2_with (first | ((with_reducible refine gate_dst (N := 2) rfl ?_); refine box_event ?hg (N := 2) ?hd (cs := #[.bool false, .slice none 0 0, .int .u64 0]) (t := 25) ?hr ?_; (case hd => rfl); (case hg => rfl); (case hr => first | (go_simp; done) | (go_simp; rfl)); intro gb132 hg w3 hbox hb; have n0_ := Aside0.mk (below_step (by repeat (first | (with_reducible first | exact HB.out | apply below_alloc | apply pw_below_drewN | apply below_drew1) | exact HB.out)) hb); have n1_ := Aside0.mk (hbox); have n2_ := Aside0.mk ((by rw [hg]; exact (below_size (by repeat (first | (with_reducible first | exact HB.out | apply below_alloc | apply pw_below_drewN | apply below_drew1) | exact HB.out))) : w.heap.size ≤ gb132)); have n3_ := Aside0.mk ((by rw [hg]; exact (below_size (by repeat (first | (with_reducible first | exact HB.out | apply below_alloc | apply pw_below_drewN | apply below_drew1) | exact HB.out))) : w.heap.size ≤ gb132)); clear HB; have HB := n0_; have BK132 := n1_; have GW132 := n2_; have GE132 := n3_; clear n0_ n1_ n2_ n3_; clear hb hbox hg; have hcz4_0 : w3.cell? ⟨gb132, 0, none⟩ = some (.bool false) := (blk_cell BK132.out 0).trans rfl; have hcz4_1 : w3.cell? ⟨gb132, 1, none⟩ = some (.slice none 0 0) := (blk_cell BK132.out 1).trans rfl; have hcz4_2 : w3.cell? ⟨gb132, 2, none⟩ = some (.int .u64 0) := (blk_cell BK132.out 2).trans rfl; have hfz4_0 := blk_frozen BK132.out 0; have hfz4_1 := blk_frozen BK132.out 1; have hfz4_2 := blk_frozen BK132.out 2))
    refine bodyPost_ret (results_cell_row rfl _ _ gb132 25 #[.bool false, .slice none 0 0, .int .u64 0] (0, 0) _ rfl (by (with_reducible repeat (first | refine blk_drewN ?_ _ | refine blk_drew ?_ | refine blk_alloc ?_ _)); refine blk_put (cs := #[.bool false, .slice none 0 0, .int .u64 0]) ?_ 2 _ rfl; (with_reducible repeat (first | refine blk_drewN ?_ _ | refine blk_drew ?_ | refine blk_alloc ?_ _)); refine blk_put (cs := #[.bool false, .slice none 0 0, .int .u64 0]) ?_ 1 _ rfl; (with_reducible repeat (first | refine blk_drewN ?_ _ | refine blk_drew ?_ | refine blk_alloc ?_ _)); refine blk_put (cs := #[.bool false, .slice none 0 0, .int .u64 0]) ?_ 0 _ rfl; (with_reducible repeat (first | refine blk_drewN ?_ _ | refine blk_drew ?_ | refine blk_alloc ?_ _)); exact BK132.out) Try.underlying25 rfl (by kernel_rfl)) rfl ?_
    exact ⟨_, by first | rfl | (simp [errW_none, errW_some] <;> rfl) | (simp [*, errW_none, errW_some] <;> rfl), by first | exact Kd.R_nil _ _ _ _ _ | exact Kd.N_nil _ _ _ _ _ | exact Kd.V_nil _ _ _ _ _ | exact Kd.Q_nil _ _ _ _ _ | exact Kd.S_nil _ _ _ _ _, by repeat (first | (with_reducible first | exact HB.out | apply below_alloc | apply pw_below_drewN | apply below_drew1 | refine below_set ?_ GE132.out) | exact HB.out)⟩
  · rw [if_neg c2] at H
    have c2b0 : decide ((l0.length : Int) < 8) = false := decide_eq_false c2
    have c2b1 : decide (l0.length < 8) = false := decide_eq_false (by omega)
    clear c2
    replace H := Option.bind_eq_some_iff.mp H
    obtain ⟨t133, A50, H⟩ := H
    replace H : ((impl_own.f t133).bind fun t136 => ((badgery_ParseTs.f l0).bind fun t139 => (some (true, t136, t139)))) = some (r1, r2, r3) := H
    have A5 := Aside0.mk A50
    clear A50
    replace H := Option.bind_eq_some_iff.mp H
    obtain ⟨t136, A60, H⟩ := H
    replace H : ((badgery_ParseTs.f l0).bind fun t139 => (some (true, t136, t139))) = some (r1, r2, r3) := H
    have A6 := Aside0.mk A60
    clear A60
    replace H := Option.bind_eq_some_iff.mp H
    obtain ⟨t139, A70, H⟩ := H
    replace H : (some (true, t136, t139)) = some (r1, r2, r3) := H
    have A7 := Aside0.mk A70
    clear A70
    simp only [Option.some.injEq, Prod.mk.injEq] at H
    obtain ⟨rfl, rfl, rfl⟩ := H
    go_enter Try.func26, Try.ntmps26
    go_wp2_with (first | ((with_reducible refine gate_dst (N := 2) rfl ?_); refine box_event ?hg (N := 2) ?hd (cs := #[.bool false, .slice none 0 0, .int .u64 0]) (t := 25) ?hr ?_; (case hd => rfl); (case hg => rfl); (case hr => first | (go_simp; done) | (go_simp; rfl)); intro gb132 hg w8 hbox hb; have n0_ := Aside0.mk (below_step (by repeat (first | (with_reducible first | exact HB.out | apply below_alloc | apply pw_below_drewN | apply below_drew1) | exact HB.out)) hb); have n1_ := Aside0.mk (hbox); have n2_ := Aside0.mk ((by rw [hg]; exact (below_size (by repeat (first | (with_reducible first | exact HB.out | apply below_alloc | apply pw_below_drewN | apply below_drew1) | exact HB.out))) : w.heap.size ≤ gb132)); have n3_ := Aside0.mk ((by rw [hg]; exact (below_size (by repeat (first | (with_reducible first | exact HB.out | apply below_alloc | apply pw_below_drewN | apply below_drew1) | exact HB.out))) : w.heap.size ≤ gb132)); clear HB; have HB := n0_; have BK132 := n1_; have GW132 := n2_; have GE132 := n3_; clear n0_ n1_ n2_ n3_; clear hb hbox hg) | ((with_reducible refine gate_callee (f := 34) rfl ?_); refine goesL_ (some 8) rfl rfl Try.func34 (by kernel_rfl) rfl #[.slice A0 l0.length c0] rfl (by (try simp only [List.map_toArray, List.map_cons, List.map_nil]); first | done | rfl | (simp only [List.length_drop, List.length_take]; rfl)) ?_; (with_reducible refine (badgery_ParseKey.calls (fun k_ => k_ < w.heap.size) _ _ l0 t133 _ ?side1 A5.out).mono ?_); (case side1 => exact Kd.V_mk HC0.out (Kd.F_below (Kd.C_F (Kd.heap_int .u8) HR0.out) (by repeat (first | (with_reducible first | exact HB.out | apply below_alloc | apply pw_below_drewN | apply below_drew1 | refine below_set ?_ GE132.out) | exact HB.out)))); rintro e w9 ⟨v134, rfl, ho0, hb⟩; refine ⟨_, rfl, ?_⟩; have n0_ := Aside0.mk (Kd.V_lower (Kd.V_mono (ok' := fun k_ => k_ ≠ gb132) ho0 (fun k_ hk_ => Or.elim hk_ (fun hs_ => fun e_ => Nat.not_le.2 hs_ (by rw [e_]; exact GW132.out)) (fun hn_ => (Kd.freshB (g := gb132) (o := .cells #[.bool false, .slice none 0 0, .int .u64 0] 25 (0, 0)) (by (with_reducible repeat (first | refine blk_drewN ?_ _ | refine blk_drew ?_ | refine blk_alloc ?_ _)); exact BK132.out) k_ hn_)))) (below_size (by repeat (first | (with_reducible first | exact HB.out | apply below_alloc | apply pw_below_drewN | apply below_drew1 | refine below_set ?_ GE132.out) | exact HB.out)))); have n1_ := Aside0.mk (blk_below (g := gb132) (o := .cells #[.bool false, .slice none 0 0, .int .u64 0] 25 (0, 0)) (by (with_reducible repeat (first | refine blk_drewN ?_ _ | refine blk_drew ?_ | refine blk_alloc ?_ _)); exact BK132.out) hb); have n2_ := Aside0.mk (below_step (by repeat (first | (with_reducible first | exact HB.out | apply below_alloc | apply pw_below_drewN | apply below_drew1 | refine below_set ?_ GE132.out) | exact HB.out)) hb); clear BK132; clear HB; have HO135 := n0_; have BK132 := n1_; have HB := n2_; clear n0_ n1_ n2_; (try clear hb); (try clear hb2); (try clear hk); (try clear hi); (try clear ho0); obtain ⟨Ao10, co10, eo10⟩ := Kd.V_slice HO135.out; subst eo10) | ((with_reducible refine gate_callee (f := 21) rfl ?_); refine goesL_ (some 9) rfl rfl Try.func21 (by kernel_rfl) rfl #[.slice Ao10 t133.length co10] rfl (by (try simp only [List.map_toArray, List.map_cons, List.map_nil]); first | done | rfl | (simp only [List.length_drop, List.length_take]; rfl)) ?_; (with_reducible refine (impl_own.calls _ _ t133 t136 _ ?side1 ?side2 A6.out).mono ?_); (case side1 => repeat (first | exact (Kd.V_reads' HO135.out).2.2 | (with_reducible refine Kd.C_alloc ?_ _) | (with_reducible refine Kd.C_drewN ?_ _) | (with_reducible refine Kd.C_drew ?_))); (case side2 => exact (Kd.V_reads' HO135.out).2.1); rintro e w11 ⟨v137, rfl, ho0, hb⟩; refine ⟨_, rfl, ?_⟩; have n0_ := Aside0.mk (Kd.V_elder' (by (with_reducible repeat (first | apply Kd.V_alloc | apply Kd.V_drewN | apply Kd.V_drew)); exact HO135.out) (Kd.R_base ho0) hb); have n1_ := Aside0.mk (Kd.R_lower ho0 (below_size (by repeat (first | (with_reducible first | exact HB.out | apply below_alloc | apply pw_below_drewN | apply below_drew1 | refine below_set ?_ GE132.out) | exact HB.out)))); have n2_ := Aside0.mk (blk_below (g := gb132) (o := .cells #[.bool false, .slice none 0 0, .int .u64 0] 25 (0, 0)) (by (with_reducible repeat (first | refine blk_drewN ?_ _ | refine blk_drew ?_ | refine blk_alloc ?_ _)); exact BK132.out) hb); have n3_ := Aside0.mk (below_step (by repeat (first | (with_reducible first | exact HB.out | apply below_alloc | apply pw_below_drewN | apply below_drew1 | refine below_set ?_ GE132.out) | exact HB.out)) hb); clear HO135; clear BK132; clear HB; have HO135 := n0_; have HO138 := n1_; have BK132 := n2_; have HB := n3_; clear n0_ n1_ n2_ n3_; (try clear hb); (try clear hb2); (try clear hk); (try clear hi); (try clear ho0)) | ((with_reducible refine gate_callee (f := 35) rfl ?_); refine goesL_ (some 11) rfl rfl Try.func35 (by kernel_rfl) rfl #[.slice A0 l0.length c0] rfl (by (try simp only [List.map_toArray, List.map_cons, List.map_nil]); first | done | rfl | (simp only [List.length_drop, List.length_take]; rfl)) ?_; (with_reducible refine (badgery_ParseTs.calls _ _ l0 t139 _ ?side1 ?side2 A7.out).mono ?_); (case side1 => repeat (first | exact (Kd.C_below HR0.out HB.out) | (with_reducible refine Kd.C_alloc ?_ _) | (with_reducible refine Kd.C_drewN ?_ _) | (with_reducible refine Kd.C_drew ?_))); (case side2 => exact HC0.out); rintro e w' ⟨rfl, ⟨nd, rfl⟩⟩; refine ⟨_, rfl, ?_⟩; (try (rw [drewN_self w11]; generalize hq_ : World.drewN w11 _ = w11; have n0_ : Aside0 (Kd.V (Kd.int .u8) 5 w11 w.heap.size (fun k_ => some k_ ≠ (v137 : Value).ownBlock ∧ k_ ≠ gb132) (.slice Ao10 t133.length co10) t133) := ⟨by rw [← hq_]; exact (by (with_reducible repeat (first | apply Kd.V_alloc | apply Kd.V_drewN | apply Kd.V_drew)); exact Kd.V_mono HO135.out (fun _ hk => ⟨hk.2, hk.1⟩))⟩; have n1_ : Aside0 (Kd.R (Kd.int .u8) 5 w11 w.heap.size (fun _ => True) v137 t136) := ⟨by rw [← hq_]; exact (by (with_reducible repeat (first | apply Kd.R_alloc | apply Kd.R_drewN | apply Kd.R_drew)); exact HO138.out)⟩; have n2_ : Aside0 (w11.heap[gb132]? = some (.cells #[.bool false, .slice none 0 0, .int .u64 0] 25 (0, 0))) := ⟨by rw [← hq_]; exact (by (with_reducible repeat (first | refine blk_drewN ?_ _ | refine blk_drew ?_ | refine blk_alloc ?_ _)); exact BK132.out)⟩; have n3_ : Aside0 (Below w.heap.size w w11) := ⟨by rw [← hq_]; exact (by repeat (first | (with_reducible first | exact HB.out | apply below_alloc | apply pw_below_drewN | apply below_drew1 | refine below_set ?_ GE132.out) | exact HB.out))⟩; clear HO135 HO138 BK132 HB hq_; have HO135 := n0_; have HO138 := n1_; have BK132 := n2_; have HB := n3_; clear n0_ n1_ n2_ n3_)); obtain ⟨Ao12, co12, eo12⟩ := Kd.R_slice HO138.out; subst eo12; have hcz13_0 : w11.cell? ⟨gb132, 0, none⟩ = some (.bool false) := (blk_cell BK132.out 0).trans rfl; have hcz13_1 : w11.cell? ⟨gb132, 1, none⟩ = some (.slice none 0 0) := (blk_cell BK132.out 1).trans rfl; have hcz13_2 : w11.cell? ⟨gb132, 2, none⟩ = some (.int .u64 0) := (blk_cell BK132.out 2).trans rfl; have hfz13_0 := blk_frozen BK132.out 0; have hfz13_1 := blk_frozen BK132.out 1; have hfz13_2 := blk_frozen BK132.out 2))
    refine bodyPost_ret (results_cell_row rfl _ _ gb132 25 #[.bool true, .slice Ao12 t136.length co12, .int .u64 t139] (0, 0) _ rfl (by (with_reducible repeat (first | refine blk_drewN ?_ _ | refine blk_drew ?_ | refine blk_alloc ?_ _)); refine blk_put (cs := #[.bool true, .slice Ao12 t136.length co12, .int .u64 0]) ?_ 2 _ rfl; (with_reducible repeat (first | refine blk_drewN ?_ _ | refine blk_drew ?_ | refine blk_alloc ?_ _)); refine blk_put (cs := #[.bool true, .slice none 0 0, .int .u64 0]) ?_ 1 _ rfl; (with_reducible repeat (first | refine blk_drewN ?_ _ | refine blk_drew ?_ | refine blk_alloc ?_ _)); refine blk_put (cs := #[.bool false, .slice none 0 0, .int .u64 0]) ?_ 0 _ rfl; (with_reducible repeat (first | refine blk_drewN ?_ _ | refine blk_drew ?_ | refine blk_alloc ?_ _)); exact BK132.out) Try.underlying25 rfl (by kernel_rfl)) rfl ?_
    exact ⟨_, by first | rfl | (simp [errW_none, errW_some] <;> rfl) | (simp [*, errW_none, errW_some] <;> rfl), by (with_reducible repeat (first | apply Kd.R_alloc | apply Kd.R_drewN | apply Kd.R_drew)); exact Kd.R_mono (Kd.R_far (p := ⟨gb132, 2, none⟩) (Kd.R_far (p := ⟨gb132, 1, none⟩) (Kd.R_far (p := ⟨gb132, 0, none⟩) (Kd.R_types HO138.out BK132.out (by decide)) (fun _ hk => hk.2) (.bool true)) (fun _ hk => hk.2) (.slice Ao12 t136.length co12)) (fun _ hk => hk.2) (.int .u64 t139)) (fun _ hk => trivial), by repeat (first | (with_reducible first | exact HB.out | apply below_alloc | apply pw_below_drewN | apply below_drew1 | refine below_set ?_ GE132.out) | exact HB.out)⟩

end Go.Proofs.YtbbncbjdpopkiaaQ.QE
