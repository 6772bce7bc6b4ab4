-- Lines that a program has printed for this claim: functions as plain Lean functions, and their walks.
import Derived.Test.YtbbncbjdpopkiaaDoorQL0
namespace Go.Proofs.YtbbncbjdpopkiaaDoorQ.QL
open Go.RowKit Go.Proofs.YtbbncbjdpopkiaaDoorQ.Ext Go.Proofs.YtbbncbjdpopkiaaDoorW.PrintWords Go.Proofs.YtbbncbjdpopkiaaDoorW.PrintLast Go.Proofs.YtbbncbjdpopkiaaDoorW.PrintMore
attribute [local go_sem] max2_int min2_int max_two min_two max_three min_three max_four min_four   -- for this text's walks alone
set_option linter.unusedVariables false
set_option linter.unusedSimpArgs false

/-! ### spec_HeadOf: function 41 -/
def spec_HeadOf.f (l0_0 : List Int) (l0_1 : List Int) (a0_2 : Int) (a0_3 : Int) (a0_4 : Int) : Option (Int × Int × Int × Int × Int) := some (((l0_0.length : Int)) % 4294967296, ((l0_1.length : Int)) % 4294967296, a0_2, a0_3, a0_4)
set_option maxHeartbeats 8000000 in
set_option maxRecDepth 100000 in
theorem spec_HeadOf.calls (A0_0 : Option Addr) (c0_0 : Nat) (l0_0 : List Int) (A0_1 : Option Addr) (c0_1 : Nat) (l0_1 : List Int) (a0_2 : Int) (a0_3 : Int) (a0_4 : Int) (r1 : Int) (r2 : Int) (r3 : Int) (r4 : Int) (r5 : Int) (w : World) (hr0_0 : Kd.C (Kd.int .u8) w A0_0 l0_0.length l0_0) (hc0_0 : l0_0.length ≤ c0_0) (hr0_1 : Kd.C (Kd.int .u8) w A0_1 l0_1.length l0_1) (hc0_1 : l0_1.length ≤ c0_1) (h : spec_HeadOf.f l0_0 l0_1 a0_2 a0_3 a0_4 = some (r1, r2, r3, r4, r5)) :
    Calls Tryd.prog 41 #[.agg #[.slice A0_0 l0_0.length c0_0, .slice A0_1 l0_1.length c0_1, .int .u64 a0_2, .int .u8 a0_3, .int .u8 a0_4]] w fun e w' => e = .returned (.agg #[.int .u32 r1, .int .u32 r2, .int .u64 r3, .int .u8 r4, .int .u8 r5]) ∧ Below w.heap.size w w' := by
  have hu40 := Tryd.underlying40
  have hu76 := Tryd.underlying76
  have HR0_0 := Aside0.mk hr0_0
  have HC0_0 := Aside0.mk hc0_0
  clear hr0_0 hc0_0
  have HR0_1 := Aside0.mk hr0_1
  have HC0_1 := Aside0.mk hc0_1
  clear hr0_1 hc0_1
  have HB := Aside0.mk (Below.refl w.heap.size w)
  have H : (some (((l0_0.length : Int)) % 4294967296, ((l0_1.length : Int)) % 4294967296, a0_2, a0_3, a0_4)) = some (r1, r2, r3, r4, r5) := h
  clear h
  simp only [Option.some.injEq, Prod.mk.injEq] at H
  obtain ⟨rfl, rfl, rfl, rfl, rfl⟩ := H
  go_enter Tryd.func41, Tryd.ntmps41
  go_wp2_with (first | ((with_reducible refine gate_dst (N := 1) rfl ?_); refine box_event ?hg (N := 1) ?hd (cs := #[.slice A0_0 l0_0.length c0_0, .slice A0_1 l0_1.length c0_1, .int .u64 a0_2, .int .u8 a0_3, .int .u8 a0_4]) (t := 40) ?hr ?_; (case hd => rfl); (case hg => rfl); (case hr => first | (go_simp; done) | (go_simp; rfl)); intro gb101 hg w2 hbox hb; have n0_ := Aside0.mk (below_step (by repeat (first | (with_reducible first | exact HB.out | apply below_alloc | apply pw_below_drewN | apply below_drew1) | exact HB.out)) hb); have n1_ := Aside0.mk (hbox); have n2_ := Aside0.mk ((by rw [hg]; exact (below_size (by repeat (first | (with_reducible first | exact HB.out | apply below_alloc | apply pw_below_drewN | apply below_drew1) | exact HB.out))) : w.heap.size ≤ gb101)); have n3_ := Aside0.mk ((by rw [hg]; exact (below_size (by repeat (first | (with_reducible first | exact HB.out | apply below_alloc | apply pw_below_drewN | apply below_drew1) | exact HB.out))) : w.heap.size ≤ gb101)); clear HB; have HB := n0_; have BK101 := n1_; have GW101 := n2_; have GE101 := n3_; clear n0_ n1_ n2_ n3_; clear hb hbox hg) | ((with_reducible refine gate_dst (N := 2) rfl ?_); refine box_event ?hg (N := 2) ?hd (cs := #[.int .u32 0, .int .u32 0, .int .u64 0, .int .u8 0, .int .u8 0]) (t := 76) ?hr ?_; (case hd => rfl); (case hg => rfl); (case hr => first | (go_simp; done) | (go_simp; rfl)); intro gb102 hg w3 hbox hb; have n0_ := Aside0.mk (blk_below (g := gb101) (o := .cells #[.slice A0_0 l0_0.length c0_0, .slice A0_1 l0_1.length c0_1, .int .u64 a0_2, .int .u8 a0_3, .int .u8 a0_4] 40 (0, 0)) (by (with_reducible repeat (first | refine blk_drewN ?_ _ | refine blk_drew ?_ | refine blk_alloc ?_ _)); exact BK101.out) hb); have n1_ := Aside0.mk (below_step (by repeat (first | (with_reducible first | exact HB.out | apply below_alloc | apply pw_below_drewN | apply below_drew1 | refine below_set ?_ GE101.out) | exact HB.out)) hb); have n2_ := Aside0.mk (hbox); have n3_ := Aside0.mk ((by rw [hg]; exact (below_size (by repeat (first | (with_reducible first | exact HB.out | apply below_alloc | apply pw_below_drewN | apply below_drew1 | refine below_set ?_ GE101.out) | exact HB.out))) : w.heap.size ≤ gb102)); have n4_ := Aside0.mk ((by rw [hg]; exact (below_size (by repeat (first | (with_reducible first | exact HB.out | apply below_alloc | apply pw_below_drewN | apply below_drew1 | refine below_set ?_ GE101.out) | exact HB.out))) : w.heap.size ≤ gb102)); have n5_ := Aside0.mk ((by rw [hg]; exact Nat.ne_of_lt (blk_lt (g := gb101) (o := .cells #[.slice A0_0 l0_0.length c0_0, .slice A0_1 l0_1.length c0_1, .int .u64 a0_2, .int .u8 a0_3, .int .u8 a0_4] 40 (0, 0)) (by (with_reducible repeat (first | refine blk_drewN ?_ _ | refine blk_drew ?_ | refine blk_alloc ?_ _)); exact BK101.out)) : gb101 ≠ gb102)); have n6_ := Aside0.mk ((by rw [hg]; exact Nat.ne_of_gt (blk_lt (g := gb101) (o := .cells #[.slice A0_0 l0_0.length c0_0, .slice A0_1 l0_1.length c0_1, .int .u64 a0_2, .int .u8 a0_3, .int .u8 a0_4] 40 (0, 0)) (by (with_reducible repeat (first | refine blk_drewN ?_ _ | refine blk_drew ?_ | refine blk_alloc ?_ _)); exact BK101.out)) : gb102 ≠ gb101)); clear BK101; clear HB; have BK101 := n0_; have HB := n1_; have BK102 := n2_; have GW102 := n3_; have GE102 := n4_; have NB101_102 := n5_; have NB102_101 := n6_; clear n0_ n1_ n2_ n3_ n4_ n5_ n6_; clear hb hbox hg; have hnb4 := NB101_102.out; have hnc4 := NB102_101.out; have hcz5_0 : w3.cell? ⟨gb101, 0, none⟩ = some (.slice A0_0 l0_0.length c0_0) := (blk_cell BK101.out 0).trans rfl; have hcz5_1 : w3.cell? ⟨gb101, 1, none⟩ = some (.slice A0_1 l0_1.length c0_1) := (blk_cell BK101.out 1).trans rfl; have hcz5_2 : w3.cell? ⟨gb101, 2, none⟩ = some (.int .u64 a0_2) := (blk_cell BK101.out 2).trans rfl; have hcz5_3 : w3.cell? ⟨gb101, 3, none⟩ = some (.int .u8 a0_3) := (blk_cell BK101.out 3).trans rfl; have hcz5_4 : w3.cell? ⟨gb101, 4, none⟩ = some (.int .u8 a0_4) := (blk_cell BK101.out 4).trans rfl; have hfz5_0 := blk_frozen BK101.out 0; have hfz5_1 := blk_frozen BK101.out 1; have hfz5_2 := blk_frozen BK101.out 2; have hfz5_3 := blk_frozen BK101.out 3; have hfz5_4 := blk_frozen BK101.out 4; have hcz6_0 : w3.cell? ⟨gb102, 0, none⟩ = some (.int .u32 0) := (blk_cell BK102.out 0).trans rfl; have hcz6_1 : w3.cell? ⟨gb102, 1, none⟩ = some (.int .u32 0) := (blk_cell BK102.out 1).trans rfl; have hcz6_2 : w3.cell? ⟨gb102, 2, none⟩ = some (.int .u64 0) := (blk_cell BK102.out 2).trans rfl; have hcz6_3 : w3.cell? ⟨gb102, 3, none⟩ = some (.int .u8 0) := (blk_cell BK102.out 3).trans rfl; have hcz6_4 : w3.cell? ⟨gb102, 4, none⟩ = some (.int .u8 0) := (blk_cell BK102.out 4).trans rfl; have hfz6_0 := blk_frozen BK102.out 0; have hfz6_1 := blk_frozen BK102.out 1; have hfz6_2 := blk_frozen BK102.out 2; have hfz6_3 := blk_frozen BK102.out 3; have hfz6_4 := blk_frozen BK102.out 4))
  refine bodyPost_ret (results_cell_row rfl _ _ gb102 76 #[.int .u32 (((l0_0.length : Int)) % 4294967296), .int .u32 (((l0_1.length : Int)) % 4294967296), .int .u64 a0_2, .int .u8 a0_3, .int .u8 a0_4] (0, 0) _ rfl (by (with_reducible repeat (first | refine blk_drewN ?_ _ | refine blk_drew ?_ | refine blk_alloc ?_ _)); refine blk_put (cs := #[.int .u32 (((l0_0.length : Int)) % 4294967296), .int .u32 (((l0_1.length : Int)) % 4294967296), .int .u64 a0_2, .int .u8 a0_3, .int .u8 0]) ?_ 4 _ rfl; (with_reducible repeat (first | refine blk_drewN ?_ _ | refine blk_drew ?_ | refine blk_alloc ?_ _)); refine blk_put (cs := #[.int .u32 (((l0_0.length : Int)) % 4294967296), .int .u32 (((l0_1.length : Int)) % 4294967296), .int .u64 a0_2, .int .u8 0, .int .u8 0]) ?_ 3 _ rfl; (with_reducible repeat (first | refine blk_drewN ?_ _ | refine blk_drew ?_ | refine blk_alloc ?_ _)); refine blk_put (cs := #[.int .u32 (((l0_0.length : Int)) % 4294967296), .int .u32 (((l0_1.length : Int)) % 4294967296), .int .u64 0, .int .u8 0, .int .u8 0]) ?_ 2 _ rfl; (with_reducible repeat (first | refine blk_drewN ?_ _ | refine blk_drew ?_ | refine blk_alloc ?_ _)); refine blk_put (cs := #[.int .u32 (((l0_0.length : Int)) % 4294967296), .int .u32 0, .int .u64 0, .int .u8 0, .int .u8 0]) ?_ 1 _ rfl; (with_reducible repeat (first | refine blk_drewN ?_ _ | refine blk_drew ?_ | refine blk_alloc ?_ _)); refine blk_put (cs := #[.int .u32 0, .int .u32 0, .int .u64 0, .int .u8 0, .int .u8 0]) ?_ 0 _ rfl; (with_reducible repeat (first | refine blk_drewN ?_ _ | refine blk_drew ?_ | refine blk_alloc ?_ _)); exact BK102.out) Tryd.underlying76 rfl (by kernel_rfl)) rfl ?_
  exact ⟨by first | rfl | (simp [errW_none, errW_some] <;> rfl) | (simp [*, errW_none, errW_some] <;> rfl), by repeat (first | (with_reducible first | exact HB.out | apply below_alloc | apply pw_below_drewN | apply below_drew1 | refine below_set ?_ GE101.out | refine below_set ?_ GE102.out) | exact HB.out)⟩

/-! ### spec_RecBytes: function 21 -/
def spec_RecBytes.f (l0_0 : List Int) (l0_1 : List Int) (a0_2 : Int) (a0_3 : Int) (a0_4 : Int) : Option (List Int) := (spec_HeadOf.f l0_0 l0_1 a0_2 a0_3 a0_4).bind fun bt104 => ((spec_HeadBytes.f bt104.1 bt104.2.1 bt104.2.2.1 bt104.2.2.2.1 bt104.2.2.2.2).bind fun t109 => ((spec_Join.f (([t109, l0_0, l0_1] : List (List Int)))).bind fun t115 => ((spec_Castagnoli.f t115).bind fun t118 => ((spec_High.f (IntKind.u64.wrap (t118)) 4).bind fun t119 => ((spec_Join.f (([t115, t119] : List (List Int)))).bind fun t125 => (some t125))))))
def spec_RecBytes.T1 : Bool × List (List Nat × List Nat) := (true, [([], []), ([0], [0]), ([1, 1], [1]), ([], []), ([3], [3]), ([], []), ([5], [5]), ([2, 4, 6], [2, 4, 6]), ([7, 2], [7]), ([8, 8, 0, 1, 2, 3, 4, 5, 6, 7, 8], [8])])
def spec_RecBytes.B1 : List Nat := [0, 1, 3, 0, 8, 0, 32, 127, 255, 511]
theorem spec_RecBytes.tab1 : rtab .any (opsOf Tryd.f21 1) = spec_RecBytes.T1 := by kernel_rfl
theorem spec_RecBytes.bits1 : waitsOk spec_RecBytes.T1.2 spec_RecBytes.B1 = true := by kernel_rfl
set_option maxHeartbeats 8000000 in
set_option maxRecDepth 100000 in
theorem spec_RecBytes.calls (P0_0_ : Nat → Prop) (A0_0 : Option Addr) (c0_0 : Nat) (l0_0 : List Int) (P0_1_ : Nat → Prop) (A0_1 : Option Addr) (c0_1 : Nat) (l0_1 : List Int) (a0_2 : Int) (a0_3 : Int) (a0_4 : Int) (r : List Int) (w : World) (hs0_0 : Kd.V (Kd.int .u8) 5 w w.heap.size (fun k_ => P0_0_ k_) (.slice A0_0 l0_0.length c0_0) l0_0) (hs0_1 : Kd.V (Kd.int .u8) 5 w w.heap.size (fun k_ => P0_1_ k_) (.slice A0_1 l0_1.length c0_1) l0_1) (h : spec_RecBytes.f l0_0 l0_1 a0_2 a0_3 a0_4 = some r) :
    Calls Tryd.prog 21 #[.agg #[.slice A0_0 l0_0.length c0_0, .slice A0_1 l0_1.length c0_1, .int .u64 a0_2, .int .u8 a0_3, .int .u8 a0_4]] w fun e w' => ∃ v0_ : Value, e = .returned (v0_) ∧ Kd.R (Kd.int .u8) 5 w' w.heap.size (fun k_ => (w.heap.size ≤ k_)) v0_ r ∧ Below w.heap.size w w' := by
  have hu40 := Tryd.underlying40
  have HO0_0 := Aside0.mk (show Kd.V (Kd.int .u8) 5 w w.heap.size (fun k_ => ((P0_0_ k_ ∨ P0_1_ k_) ∨ w.heap.size ≤ k_)) (.slice A0_0 l0_0.length c0_0) l0_0 from Kd.V_mono hs0_0 (fun k_ hk => .inl (.inl hk)))
  have HO0_1 := Aside0.mk (show Kd.V (Kd.int .u8) 5 w w.heap.size (fun k_ => ((P0_0_ k_ ∨ P0_1_ k_) ∨ w.heap.size ≤ k_)) (.slice A0_1 l0_1.length c0_1) l0_1 from Kd.V_mono hs0_1 (fun k_ hk => .inl (.inr hk)))
  have HB := Aside0.mk (Below.refl w.heap.size w)
  have H : ((spec_HeadOf.f l0_0 l0_1 a0_2 a0_3 a0_4).bind fun bt104 => ((spec_HeadBytes.f bt104.1 bt104.2.1 bt104.2.2.1 bt104.2.2.2.1 bt104.2.2.2.2).bind fun t109 => ((spec_Join.f (([t109, l0_0, l0_1] : List (List Int)))).bind fun t115 => ((spec_Castagnoli.f t115).bind fun t118 => ((spec_High.f (IntKind.u64.wrap (t118)) 4).bind fun t119 => ((spec_Join.f (([t115, t119] : List (List Int)))).bind fun t125 => (some t125))))))) = some r := h
  clear h
  replace H := Option.bind_eq_some_iff.mp H
  obtain ⟨⟨t104, t105, t106, t107, t108⟩, A20, H⟩ := H
  replace H : ((spec_HeadBytes.f t104 t105 t106 t107 t108).bind fun t109 => ((spec_Join.f (([t109, l0_0, l0_1] : List (List Int)))).bind fun t115 => ((spec_Castagnoli.f t115).bind fun t118 => ((spec_High.f (IntKind.u64.wrap (t118)) 4).bind fun t119 => ((spec_Join.f (([t115, t119] : List (List Int)))).bind fun t125 => (some t125)))))) = some r := H
  have A2 := Aside0.mk A20
  clear A20
  replace H := Option.bind_eq_some_iff.mp H
  obtain ⟨t109, A30, H⟩ := H
  replace H : ((spec_Join.f (([t109, l0_0, l0_1] : List (List Int)))).bind fun t115 => ((spec_Castagnoli.f t115).bind fun t118 => ((spec_High.f (IntKind.u64.wrap (t118)) 4).bind fun t119 => ((spec_Join.f (([t115, t119] : List (List Int)))).bind fun t125 => (some t125))))) = some r := H
  have A3 := Aside0.mk A30
  clear A30
  obtain ⟨y112, hy112⟩ : ∃ y_ : List (List Int), y_ = (([t109, l0_0, l0_1] : List (List Int))) := ⟨_, rfl⟩
  replace H : ((spec_Join.f y112).bind fun t115 => ((spec_Castagnoli.f t115).bind fun t118 => ((spec_High.f (IntKind.u64.wrap (t118)) 4).bind fun t119 => ((spec_Join.f (([t115, t119] : List (List Int)))).bind fun t125 => (some t125))))) = some r := by first | (rw [hy112]; with_reducible exact H) | (have H2_ := (Option.bind_some _ _).symm.trans H; rw [hy112]; with_reducible exact H2_) | (have H2_ := (Option.bind_some _ _).symm.trans H; with_reducible exact H2_) | with_reducible exact H | (rw [hy112]; exact H) | exact H
  have Ny112 := Aside0.mk hy112
  clear hy112
  replace H := Option.bind_eq_some_iff.mp H
  obtain ⟨t115, A40, H⟩ := H
  replace H : ((spec_Castagnoli.f t115).bind fun t118 => ((spec_High.f (IntKind.u64.wrap (t118)) 4).bind fun t119 => ((spec_Join.f (([t115, t119] : List (List Int)))).bind fun t125 => (some t125)))) = some r := H
  have A4 := Aside0.mk A40
  clear A40
  replace H := Option.bind_eq_some_iff.mp H
  obtain ⟨t118, A50, H⟩ := H
  replace H : ((spec_High.f (IntKind.u64.wrap (t118)) 4).bind fun t119 => ((spec_Join.f (([t115, t119] : List (List Int)))).bind fun t125 => (some t125))) = some r := H
  have A5 := Aside0.mk A50
  clear A50
  replace H := Option.bind_eq_some_iff.mp H
  obtain ⟨t119, A60, H⟩ := H
  replace H : ((spec_Join.f (([t115, t119] : List (List Int)))).bind fun t125 => (some t125)) = some r := H
  have A6 := Aside0.mk A60
  clear A60
  obtain ⟨y122, hy122⟩ : ∃ y_ : List (List Int), y_ = (([t115, t119] : List (List Int))) := ⟨_, rfl⟩
  replace H : ((spec_Join.f y122).bind fun t125 => (some t125)) = some r := by first | (rw [hy122]; with_reducible exact H) | (have H2_ := (Option.bind_some _ _).symm.trans H; rw [hy122]; with_reducible exact H2_) | (have H2_ := (Option.bind_some _ _).symm.trans H; with_reducible exact H2_) | with_reducible exact H | (rw [hy122]; exact H) | exact H
  have Ny122 := Aside0.mk hy122
  clear hy122
  replace H := Option.bind_eq_some_iff.mp H
  obtain ⟨t125, A70, H⟩ := H
  replace H : (some t125) = some r := H
  have A7 := Aside0.mk A70
  clear A70
  obtain rfl := Option.some.inj H
  go_enter Tryd.func21, Tryd.ntmps21
  try go_wp2_with (first | ((with_reducible refine gate_dst (N := 1) rfl ?_); refine box_event ?hg (N := 1) ?hd (cs := #[.slice A0_0 l0_0.length c0_0, .slice A0_1 l0_1.length c0_1, .int .u64 a0_2, .int .u8 a0_3, .int .u8 a0_4]) (t := 40) ?hr ?_; (case hd => rfl); (case hg => rfl); (case hr => first | (go_simp; done) | (go_simp; rfl)); intro gb103 hg w8 hbox hb; have n0_ := Aside0.mk (Kd.V_below (Kd.V_elderB (by (with_reducible repeat (first | apply Kd.V_alloc | apply Kd.V_drewN | apply Kd.V_drew)); exact HO0_0.out) gb103 (Nat.le_of_eq hg.symm)) hb); have n1_ := Aside0.mk (Kd.V_below (Kd.V_elderB (by (with_reducible repeat (first | apply Kd.V_alloc | apply Kd.V_drewN | apply Kd.V_drew)); exact HO0_1.out) gb103 (Nat.le_of_eq hg.symm)) hb); have n2_ := Aside0.mk (below_step (by repeat (first | (with_reducible first | exact HB.out | apply below_alloc | apply pw_below_drewN | apply below_drew1) | exact HB.out)) hb); have n3_ := Aside0.mk (hbox); have n4_ := Aside0.mk ((by rw [hg]; exact (below_size (by repeat (first | (with_reducible first | exact HB.out | apply below_alloc | apply pw_below_drewN | apply below_drew1) | exact HB.out))) : w.heap.size ≤ gb103)); have n5_ := Aside0.mk ((by rw [hg]; exact (below_size (by repeat (first | (with_reducible first | exact HB.out | apply below_alloc | apply pw_below_drewN | apply below_drew1) | exact HB.out))) : w.heap.size ≤ gb103)); clear HO0_0; clear HO0_1; clear HB; have HO0_0 := n0_; have HO0_1 := n1_; have HB := n2_; have BK103 := n3_; have GW103 := n4_; have GE103 := n5_; clear n0_ n1_ n2_ n3_ n4_ n5_; clear hb hbox hg))
  have n0_ := Aside0.mk (Kd.V_drew HO0_0.out)
  have n1_ := Aside0.mk (Kd.V_drew HO0_1.out)
  have n2_ := Aside0.mk (blk_drew BK103.out)
  have n3_ := Aside0.mk (below_drew1 HB.out)
  clear HO0_0
  clear HO0_1
  clear BK103
  clear HB
  have HO0_0 := n0_
  have HO0_1 := n1_
  have BK103 := n2_
  have HB := n3_
  clear n0_ n1_ n2_ n3_
  refine start_ (n := 10) (S := fun w' => w'.cell? ⟨gb103, 0, none⟩ = some (.slice A0_0 l0_0.length c0_0) ∧ w'.cell? ⟨gb103, 1, none⟩ = some (.slice A0_1 l0_1.length c0_1) ∧ w'.cell? ⟨gb103, 2, none⟩ = some (.int .u64 a0_2) ∧ w'.cell? ⟨gb103, 3, none⟩ = some (.int .u8 a0_3) ∧ w'.cell? ⟨gb103, 4, none⟩ = some (.int .u8 a0_4)) (ds := []) #[false, false, false, false, false, false, false, false, false, false] (by kernel_rfl) rfl rfl ⟨(blk_cell BK103.out 0).trans rfl, (blk_cell BK103.out 1).trans rfl, (blk_cell BK103.out 2).trans rfl, (blk_cell BK103.out 3).trans rfl, (blk_cell BK103.out 4).trans rfl⟩ (fun hHeld => ?_); refine with_tabW spec_RecBytes.tab1 spec_RecBytes.bits1 (fun HT_ HW_ => ?_)
  generalize w8.drew = w9 at HO0_0 HO0_1 BK103 HB hHeld ⊢
  refine pure_ (i := 3) (N := some 7) (v := ?_) (a' := ?_) #[false, false, false, true, false, false, false, false, false, false] rfl rfl (any_of HT_.out (by kernel_rfl)) (fun _ _ _ h => h) (Or.inl ⟨by rfl, ?_⟩) ?_ ?_
  rotate_left
  · intro w'
    go_simp
    with_reducible rfl
  rotate_left
  · simp only [Act.put, List.setIfInBounds_toArray, List.set_cons_zero, List.set_cons_succ, i64_w, i32_w]
    rfl
  refine pure_ (i := 5) (N := some 9) (v := ?_) (a' := ?_) #[false, false, false, true, false, true, false, false, false, false] rfl rfl (any_of HT_.out (by kernel_rfl)) (fun _ _ _ h => h) (Or.inl ⟨by rfl, ?_⟩) ?_ ?_
  rotate_left
  · intro w'
    go_simp
    with_reducible rfl
  rotate_left
  · simp only [Act.put, List.setIfInBounds_toArray, List.set_cons_zero, List.set_cons_succ, i64_w, i32_w]
    rfl
  refine take_ (i := 0) (N := some 4) (v := ?_) (a' := ?_) #[true, false, false, true, false, true, false, false, false, false] rfl rfl (take_ofW HT_.out HW_.out (by kernel_rfl)) (fun _ _ _ h => h) (Or.inl ⟨by rfl, ?_⟩) hHeld ?_ ?_
  rotate_left
  · rintro w' ⟨s0, s1, s2, s3, s4⟩
    go_simp
    with_reducible rfl
  rotate_left
  · simp only [Act.put, List.setIfInBounds_toArray, List.set_cons_zero, List.set_cons_succ, i64_w, i32_w]
    rfl
  refine take_ (i := 4) (N := some 8) (v := ?_) (a' := ?_) #[true, false, false, true, true, true, false, false, false, false] rfl rfl (take_ofW HT_.out HW_.out (by kernel_rfl)) (fun _ _ _ h => h) (Or.inl ⟨by rfl, ?_⟩) hHeld ?_ ?_
  rotate_left
  · rintro w' ⟨s0, s1, s2, s3, s4⟩
    go_simp
    with_reducible rfl
  rotate_left
  · simp only [Act.put, List.setIfInBounds_toArray, List.set_cons_zero, List.set_cons_succ, i64_w, i32_w]
    rfl
  refine take_ (i := 6) (N := some 10) (v := ?_) (a' := ?_) #[true, false, false, true, true, true, true, false, false, false] rfl rfl (take_ofW HT_.out HW_.out (by kernel_rfl)) (fun _ _ _ h => h) (Or.inl ⟨by rfl, ?_⟩) hHeld ?_ ?_
  rotate_left
  · rintro w' ⟨s0, s1, s2, s3, s4⟩
    go_simp
    with_reducible rfl
  rotate_left
  · simp only [Act.put, List.setIfInBounds_toArray, List.set_cons_zero, List.set_cons_succ, i64_w, i32_w]
    rfl
  refine one_ (i := 1) (N := some 5) #[true, true, false, true, true, true, true, false, false, false] rfl rfl (one_of HT_.out (by kernel_rfl)) (by decide) (fun K hK => ?_)
  refine goes_ Tryd.func41 (by kernel_rfl) rfl #[.agg #[.slice A0_0 l0_0.length c0_0, .slice A0_1 l0_1.length c0_1, .int .u64 a0_2, .int .u8 a0_3, .int .u8 a0_4]] (by rfl) rfl rfl (by (try simp only [List.map_toArray, List.map_cons, List.map_nil]); first | done | rfl | (simp only [List.length_drop, List.length_take]; rfl)) ?_
  with_reducible refine (spec_HeadOf.calls _ _ l0_0 _ _ l0_1 a0_2 a0_3 a0_4 t104 t105 t106 t107 t108 _ ?side1 ?side2 ?side3 ?side4 A2.out).mono ?_
  (case side1 => repeat (first | exact (Kd.V_reads' HO0_0.out).2.2 | (with_reducible refine Kd.C_alloc ?_ _) | (with_reducible refine Kd.C_drewN ?_ _) | (with_reducible refine Kd.C_drew ?_)))
  (case side2 => exact (Kd.V_reads' HO0_0.out).2.1)
  (case side3 => repeat (first | exact (Kd.V_reads' HO0_1.out).2.2 | (with_reducible refine Kd.C_alloc ?_ _) | (with_reducible refine Kd.C_drewN ?_ _) | (with_reducible refine Kd.C_drew ?_)))
  (case side4 => exact (Kd.V_reads' HO0_1.out).2.1)
  rintro e w10 ⟨rfl, hb⟩
  refine ⟨_, rfl, ?_⟩
  have n0_ := Aside0.mk (Kd.V_below (by (with_reducible repeat (first | apply Kd.V_alloc | apply Kd.V_drewN | apply Kd.V_drew)); exact HO0_0.out) hb)
  have n1_ := Aside0.mk (Kd.V_below (by (with_reducible repeat (first | apply Kd.V_alloc | apply Kd.V_drewN | apply Kd.V_drew)); exact HO0_1.out) hb)
  have n2_ := Aside0.mk (blk_below (g := gb103) (o := .cells #[.slice A0_0 l0_0.length c0_0, .slice A0_1 l0_1.length c0_1, .int .u64 a0_2, .int .u8 a0_3, .int .u8 a0_4] 40 (0, 0)) (by (with_reducible repeat (first | refine blk_drewN ?_ _ | refine blk_drew ?_ | refine blk_alloc ?_ _)); exact BK103.out) hb)
  have n3_ := Aside0.mk (below_step (by repeat (first | (with_reducible first | exact HB.out | apply below_alloc | apply pw_below_drewN | apply below_drew1 | refine below_set ?_ GE103.out) | exact HB.out)) hb)
  clear HO0_0
  clear HO0_1
  clear BK103
  clear HB
  have HO0_0 := n0_
  have HO0_1 := n1_
  have BK103 := n2_
  have HB := n3_
  clear n0_ n1_ n2_ n3_
  (try clear hb)
  (try clear hb2)
  (try clear hk)
  (try clear hi)
  refine hK.out _ _ ⟨(blk_cell BK103.out 0).trans rfl, (blk_cell BK103.out 1).trans rfl, (blk_cell BK103.out 2).trans rfl, (blk_cell BK103.out 3).trans rfl, (blk_cell BK103.out 4).trans rfl⟩ (fun hHeld => ?_)
  clear hK K
  refine norm_ (a' := ?_) ?_ ?_
  rotate_left
  · show Act.put _ (some 5) _ = _
    simp only [Act.put, List.setIfInBounds_toArray, List.set_cons_zero, List.set_cons_succ, i64_w, i32_w]
    rfl
  refine one_ (i := 2) (N := some 6) #[true, true, true, true, true, true, true, false, false, false] rfl rfl (one_of HT_.out (by kernel_rfl)) (by decide) (fun K hK => ?_)
  refine goes_ Tryd.func40 (by kernel_rfl) rfl #[.agg #[.int .u32 t104, .int .u32 t105, .int .u64 t106, .int .u8 t107, .int .u8 t108]] (by rfl) rfl rfl (by (try simp only [List.map_toArray, List.map_cons, List.map_nil]); first | done | rfl | (simp only [List.length_drop, List.length_take]; rfl)) ?_
  with_reducible refine (spec_HeadBytes.calls t104 t105 t106 t107 t108 t109 _ A3.out).mono ?_
  rintro e w11 ⟨v110, rfl, ho0, hb⟩
  refine ⟨_, rfl, ?_⟩
  have n0_ := Aside0.mk (Kd.V_elder' (by (with_reducible repeat (first | apply Kd.V_alloc | apply Kd.V_drewN | apply Kd.V_drew)); exact HO0_0.out) (Kd.R_base ho0) hb)
  have n1_ := Aside0.mk (Kd.V_elder' (by (with_reducible repeat (first | apply Kd.V_alloc | apply Kd.V_drewN | apply Kd.V_drew)); exact HO0_1.out) (Kd.R_base ho0) hb)
  have n2_ := Aside0.mk (Kd.R_lower (Kd.R_newM (M := fun k_ => (w.heap.size ≤ k_)) ho0 (below_size (by repeat (first | (with_reducible first | exact HB.out | apply below_alloc | apply pw_below_drewN | apply below_drew1 | refine below_set ?_ GE103.out) | exact HB.out))) (fun k_ h_ => h_)) (below_size (by repeat (first | (with_reducible first | exact HB.out | apply below_alloc | apply pw_below_drewN | apply below_drew1 | refine below_set ?_ GE103.out) | exact HB.out))))
  have n3_ := Aside0.mk (blk_below (g := gb103) (o := .cells #[.slice A0_0 l0_0.length c0_0, .slice A0_1 l0_1.length c0_1, .int .u64 a0_2, .int .u8 a0_3, .int .u8 a0_4] 40 (0, 0)) (by (with_reducible repeat (first | refine blk_drewN ?_ _ | refine blk_drew ?_ | refine blk_alloc ?_ _)); exact BK103.out) hb)
  have n4_ := Aside0.mk (below_step (by repeat (first | (with_reducible first | exact HB.out | apply below_alloc | apply pw_below_drewN | apply below_drew1 | refine below_set ?_ GE103.out) | exact HB.out)) hb)
  clear HO0_0
  clear HO0_1
  clear BK103
  clear HB
  have HO0_0 := n0_
  have HO0_1 := n1_
  have HO111 := n2_
  have BK103 := n3_
  have HB := n4_
  clear n0_ n1_ n2_ n3_ n4_
  (try clear hb)
  (try clear hb2)
  (try clear hk)
  (try clear hi)
  (try clear ho0)
  obtain ⟨Ao12, co12, eo12⟩ := Kd.R_slice HO111.out
  (first | subst eo12 | (injection eo12 with f1_ f2_ f3_; have f4_ := f1_.symm; have f5_ := f3_.symm; clear f1_ f2_ f3_; subst f4_; subst f5_))
  refine hK.out _ _ ⟨(blk_cell BK103.out 0).trans rfl, (blk_cell BK103.out 1).trans rfl, (blk_cell BK103.out 2).trans rfl, (blk_cell BK103.out 3).trans rfl, (blk_cell BK103.out 4).trans rfl⟩ (fun hHeld => ?_)
  clear hK K
  refine norm_ (a' := ?_) ?_ ?_
  rotate_left
  · show Act.put _ (some 6) _ = _
    simp only [Act.put, List.setIfInBounds_toArray, List.set_cons_zero, List.set_cons_succ, i64_w, i32_w]
    rfl
  refine one_ (i := 7) (N := some 11) #[true, true, true, true, true, true, true, true, false, false] rfl rfl (one_of HT_.out (by kernel_rfl)) (by decide) (fun K hK => ?_)
  refine Kd.N_lit_step (Kd.slice 5 (Kd.int .u8)) _ 22 ?hg (N' := 11) ?hd (xs := ([t109, l0_0, l0_1] : List (List Int))) (inner := [.slice Ao12 t109.length co12, .slice A0_0 l0_0.length c0_0, .slice A0_1 l0_1.length c0_1]) (ok := (fun k_ => ((P0_0_ k_ ∨ P0_1_ k_) ∨ w.heap.size ≤ k_) ∧ k_ ≠ gb103)) (okp := (fun k_ => ((P0_0_ k_ ∨ P0_1_ k_) ∨ w.heap.size ≤ k_) ∧ k_ ≠ gb103)) ?hr ?hp (fun _ hk => hk) ((show ∀ k_, w11.heap.size ≤ k_ → (fun k_ => ((P0_0_ k_ ∨ P0_1_ k_) ∨ w.heap.size ≤ k_) ∧ k_ ≠ gb103) k_ from fun k_ hk => ⟨(.inr (Nat.le_trans (below_size (by repeat (first | (with_reducible first | exact HB.out | apply below_alloc | apply pw_below_drewN | apply below_drew1 | refine below_set ?_ GE103.out) | exact HB.out))) hk)), Kd.freshB (g := gb103) (o := .cells #[.slice A0_0 l0_0.length c0_0, .slice A0_1 l0_1.length c0_1, .int .u64 a0_2, .int .u8 a0_3, .int .u8 a0_4] 40 (0, 0)) (by (with_reducible repeat (first | refine blk_drewN ?_ _ | refine blk_drew ?_ | refine blk_alloc ?_ _)); exact BK103.out) k_ hk⟩) _ (Nat.le_refl _)) (Below.refl _ _) (Nat.le_refl _) (by simp) ?_; (case hd => rfl); (case hg => rfl); (case hr => first | (go_simp; done) | (go_simp; rfl)); (case hp => first | exact (Reps.one (show Kd.FK (Kd.slice 5 (Kd.int .u8)) _ _ t109 [.slice Ao12 t109.length co12] from (Kd.FK_slice_mk (Kd.R_reads' (Kd.R_mono (ok' := (fun k_ => ((P0_0_ k_ ∨ P0_1_ k_) ∨ w.heap.size ≤ k_) ∧ k_ ≠ gb103)) (Kd.R_types (HO111.out) BK103.out (by decide)) (fun k_ hk => ⟨(.inr (hk.1.1)), hk.2⟩))).2.1 (Kd.R_F (Kd.R_mono (ok' := (fun k_ => ((P0_0_ k_ ∨ P0_1_ k_) ∨ w.heap.size ≤ k_) ∧ k_ ≠ gb103)) (Kd.R_types (HO111.out) BK103.out (by decide)) (fun k_ hk => ⟨(.inr (hk.1.1)), hk.2⟩))))) (Reps.one (show Kd.FK (Kd.slice 5 (Kd.int .u8)) _ _ l0_0 [.slice A0_0 l0_0.length c0_0] from (Kd.FK_slice_mk (Kd.V_reads' (Kd.V_mono (ok' := (fun k_ => ((P0_0_ k_ ∨ P0_1_ k_) ∨ w.heap.size ≤ k_) ∧ k_ ≠ gb103)) (HO0_0.out) (fun k_ hk => ⟨hk.1.1, hk.1.2⟩))).2.1 (Kd.V_F (Kd.V_mono (ok' := (fun k_ => ((P0_0_ k_ ∨ P0_1_ k_) ∨ w.heap.size ≤ k_) ∧ k_ ≠ gb103)) (HO0_0.out) (fun k_ hk => ⟨hk.1.1, hk.1.2⟩))))) (Reps.one (show Kd.FK (Kd.slice 5 (Kd.int .u8)) _ _ l0_1 [.slice A0_1 l0_1.length c0_1] from (Kd.FK_slice_mk (Kd.V_reads' (Kd.V_mono (ok' := (fun k_ => ((P0_0_ k_ ∨ P0_1_ k_) ∨ w.heap.size ≤ k_) ∧ k_ ≠ gb103)) (HO0_1.out) (fun k_ hk => ⟨hk.1.1, hk.1.2⟩))).2.1 (Kd.V_F (Kd.V_mono (ok' := (fun k_ => ((P0_0_ k_ ∨ P0_1_ k_) ∨ w.heap.size ≤ k_) ∧ k_ ≠ gb103)) (HO0_1.out) (fun k_ hk => ⟨hk.1.1, hk.1.2⟩))))) (Reps.none _ _)))) | exact (Reps.one (show Kd.FK (Kd.slice 5 (Kd.int .u8)) _ _ t109 [.slice Ao12 t109.length co12] from (Kd.FK_slice_mk (Kd.R_reads' (Kd.R_mono (ok' := (fun k_ => ((P0_0_ k_ ∨ P0_1_ k_) ∨ w.heap.size ≤ k_) ∧ k_ ≠ gb103)) (Kd.R_types (HO111.out) BK103.out (by decide)) (fun k_ hk => ⟨(.inr (hk.1.1)), hk.2⟩))).2.1 (Kd.R_F (Kd.R_mono (ok' := (fun k_ => ((P0_0_ k_ ∨ P0_1_ k_) ∨ w.heap.size ≤ k_) ∧ k_ ≠ gb103)) (Kd.R_types (HO111.out) BK103.out (by decide)) (fun k_ hk => ⟨(.inr (hk.1.1)), hk.2⟩))))) (Reps.one (show Kd.FK (Kd.slice 5 (Kd.int .u8)) _ _ l0_0 [.slice A0_0 l0_0.length c0_0] from (Kd.FK_slice_mk (Kd.V_reads' (Kd.V_mono (ok' := (fun k_ => ((P0_0_ k_ ∨ P0_1_ k_) ∨ w.heap.size ≤ k_) ∧ k_ ≠ gb103)) (HO0_0.out) (fun k_ hk => ⟨hk.1.1, hk.1.2⟩))).2.1 (Kd.V_F (Kd.V_mono (ok' := (fun k_ => ((P0_0_ k_ ∨ P0_1_ k_) ∨ w.heap.size ≤ k_) ∧ k_ ≠ gb103)) (Kd.V_drewN HO0_0.out _) (fun k_ hk => ⟨hk.1.1, hk.1.2⟩))))) (Reps.one (show Kd.FK (Kd.slice 5 (Kd.int .u8)) _ _ l0_1 [.slice A0_1 l0_1.length c0_1] from (Kd.FK_slice_mk (Kd.V_reads' (Kd.V_mono (ok' := (fun k_ => ((P0_0_ k_ ∨ P0_1_ k_) ∨ w.heap.size ≤ k_) ∧ k_ ≠ gb103)) (HO0_1.out) (fun k_ hk => ⟨hk.1.1, hk.1.2⟩))).2.1 (Kd.V_F (Kd.V_mono (ok' := (fun k_ => ((P0_0_ k_ ∨ P0_1_ k_) ∨ w.heap.size ≤ k_) ∧ k_ ≠ gb103)) (Kd.V_drewN HO0_1.out _) (fun k_ hk => ⟨hk.1.1, hk.1.2⟩))))) (Reps.none _ _)))))
  intro v113 w13 ho14 hb hg_ hnew_
  clear hg_ hnew_
  (first | rw [← Ny112.out] at ho14 | (simp only [Int.reduceToNat] at ho14; rw [← Ny112.out] at ho14))
  have n0_ := Aside0.mk (Kd.V_elder' (by (with_reducible repeat (first | apply Kd.V_alloc | apply Kd.V_drewN | apply Kd.V_drew)); exact HO0_0.out) (Kd.N_base ho14) hb)
  have n1_ := Aside0.mk (Kd.V_elder' (by (with_reducible repeat (first | apply Kd.V_alloc | apply Kd.V_drewN | apply Kd.V_drew)); exact HO0_1.out) (Kd.N_base ho14) hb)
  have n2_ := Aside0.mk (Kd.N_lower ho14 (below_size (by repeat (first | (with_reducible first | exact HB.out | apply below_alloc | apply pw_below_drewN | apply below_drew1 | refine below_set ?_ GE103.out) | exact HB.out))))
  have n3_ := Aside0.mk (blk_below (g := gb103) (o := .cells #[.slice A0_0 l0_0.length c0_0, .slice A0_1 l0_1.length c0_1, .int .u64 a0_2, .int .u8 a0_3, .int .u8 a0_4] 40 (0, 0)) (by (with_reducible repeat (first | refine blk_drewN ?_ _ | refine blk_drew ?_ | refine blk_alloc ?_ _)); exact BK103.out) hb)
  have n4_ := Aside0.mk (below_step (by repeat (first | (with_reducible first | exact HB.out | apply below_alloc | apply pw_below_drewN | apply below_drew1 | refine below_set ?_ GE103.out) | exact HB.out)) hb)
  clear HO0_0
  clear HO0_1
  clear BK103
  clear HB
  clear HO111
  have HO0_0 := n0_
  have HO0_1 := n1_
  have HO114 := n2_
  have BK103 := n3_
  have HB := n4_
  clear n0_ n1_ n2_ n3_ n4_
  clear hb ho14
  obtain ⟨Ao15, co15, eo15⟩ := Kd.N_slice HO114.out
  (first | subst eo15 | (injection eo15 with f1_ f2_ f3_; have f4_ := f1_.symm; have f5_ := f3_.symm; clear f1_ f2_ f3_; subst f4_; subst f5_))
  refine hK.out _ _ ⟨(blk_cell BK103.out 0).trans rfl, (blk_cell BK103.out 1).trans rfl, (blk_cell BK103.out 2).trans rfl, (blk_cell BK103.out 3).trans rfl, (blk_cell BK103.out 4).trans rfl⟩ (fun hHeld => ?_)
  clear hK K
  refine norm_ (a' := ?_) ?_ ?_
  rotate_left
  · show Act.put _ (some 11) _ = _
    simp only [Act.put, List.setIfInBounds_toArray, List.set_cons_zero, List.set_cons_succ, i64_w, i32_w]
    rfl
  refine one_ (i := 8) (N := some 12) #[true, true, true, true, true, true, true, true, true, false] rfl rfl (one_of HT_.out (by kernel_rfl)) (by decide) (fun K hK => ?_)
  refine goes_ Tryd.func12 (by kernel_rfl) rfl #[.slice Ao15 y112.length co15] (by rfl) rfl rfl (by (try simp only [List.map_toArray, List.map_cons, List.map_nil]); first | done | rfl | (simp only [List.length_drop, List.length_take]; rfl)) ?_
  with_reducible refine (spec_Join.calls _ _ y112 t115 _ ?side1 ?side2 A4.out).mono ?_
  (case side1 => repeat (first | exact (Kd.N_reads' HO114.out).2.2 | (with_reducible refine Kd.C_alloc ?_ _) | (with_reducible refine Kd.C_drewN ?_ _) | (with_reducible refine Kd.C_drew ?_)))
  (case side2 => exact (Kd.N_reads' HO114.out).2.1)
  rintro e w16 ⟨v116, rfl, ho0, hb⟩
  refine ⟨_, rfl, ?_⟩
  have n0_ := Aside0.mk (Kd.V_elder' (by (with_reducible repeat (first | apply Kd.V_alloc | apply Kd.V_drewN | apply Kd.V_drew)); exact HO0_0.out) (Kd.R_base ho0) hb)
  have n1_ := Aside0.mk (Kd.V_elder' (by (with_reducible repeat (first | apply Kd.V_alloc | apply Kd.V_drewN | apply Kd.V_drew)); exact HO0_1.out) (Kd.R_base ho0) hb)
  have n2_ := Aside0.mk (Kd.N_elder' (by (with_reducible repeat (first | apply Kd.N_alloc | apply Kd.N_drewN | apply Kd.N_drew)); exact HO114.out) (Kd.R_base ho0) hb)
  have n3_ := Aside0.mk (Kd.R_lower (Kd.R_newM (M := fun k_ => (w.heap.size ≤ k_)) ho0 (below_size (by repeat (first | (with_reducible first | exact HB.out | apply below_alloc | apply pw_below_drewN | apply below_drew1 | refine below_set ?_ GE103.out) | exact HB.out))) (fun k_ h_ => h_)) (below_size (by repeat (first | (with_reducible first | exact HB.out | apply below_alloc | apply pw_below_drewN | apply below_drew1 | refine below_set ?_ GE103.out) | exact HB.out))))
  have n4_ := Aside0.mk (blk_below (g := gb103) (o := .cells #[.slice A0_0 l0_0.length c0_0, .slice A0_1 l0_1.length c0_1, .int .u64 a0_2, .int .u8 a0_3, .int .u8 a0_4] 40 (0, 0)) (by (with_reducible repeat (first | refine blk_drewN ?_ _ | refine blk_drew ?_ | refine blk_alloc ?_ _)); exact BK103.out) hb)
  have n5_ := Aside0.mk (below_step (by repeat (first | (with_reducible first | exact HB.out | apply below_alloc | apply pw_below_drewN | apply below_drew1 | refine below_set ?_ GE103.out) | exact HB.out)) hb)
  clear HO0_0
  clear HO0_1
  clear HO114
  clear BK103
  clear HB
  have HO0_0 := n0_
  have HO0_1 := n1_
  have HO114 := n2_
  have HO117 := n3_
  have BK103 := n4_
  have HB := n5_
  clear n0_ n1_ n2_ n3_ n4_ n5_
  (try clear hb)
  (try clear hb2)
  (try clear hk)
  (try clear hi)
  (try clear ho0)
  refine hK.out _ _ ⟨(blk_cell BK103.out 0).trans rfl, (blk_cell BK103.out 1).trans rfl, (blk_cell BK103.out 2).trans rfl, (blk_cell BK103.out 3).trans rfl, (blk_cell BK103.out 4).trans rfl⟩ (fun hHeld => ?_)
  clear hK K
  refine norm_ (a' := ?_) ?_ ?_
  rotate_left
  · show Act.put _ (some 12) _ = _
    simp only [Act.put, List.setIfInBounds_toArray, List.set_cons_zero, List.set_cons_succ, i64_w, i32_w]
    rfl
  refine pure_ (i := 9) (N := some 3) (v := ?_) (a' := ?_) #[true, true, true, true, true, true, true, true, true, true] rfl rfl (any_of HT_.out (by kernel_rfl)) (fun _ _ _ h => h) (Or.inl ⟨by rfl, ?_⟩) ?_ ?_
  rotate_left
  · intro w'
    go_simp
    with_reducible rfl
  rotate_left
  · simp only [Act.put, List.setIfInBounds_toArray, List.set_cons_zero, List.set_cons_succ, i64_w, i32_w]
    rfl
  refine done_ (done_of HT_.out (by kernel_rfl)) ?_
  obtain ⟨Ao17, co17, eo17⟩ := Kd.R_slice HO117.out
  subst eo17
  try go_wp2_with (first | ((with_reducible refine gate_callee (f := 10) rfl ?_); refine goesL_ (some 15) rfl rfl Tryd.func10 (by kernel_rfl) rfl #[.slice Ao17 t115.length co17] rfl (by (try simp only [List.map_toArray, List.map_cons, List.map_nil]); first | done | rfl | (simp only [List.length_drop, List.length_take]; rfl)) ?_; (with_reducible refine (spec_Castagnoli.calls _ _ t115 t118 _ ?side1 ?side2 A5.out).mono ?_); (case side1 => repeat (first | exact (Kd.R_reads' HO117.out).2.2 | (with_reducible refine Kd.C_alloc ?_ _) | (with_reducible refine Kd.C_drewN ?_ _) | (with_reducible refine Kd.C_drew ?_))); (case side2 => exact (Kd.R_reads' HO117.out).2.1); rintro e w18 ⟨rfl, hb⟩; refine ⟨_, rfl, ?_⟩; have n0_ := Aside0.mk (Kd.V_below (by (with_reducible repeat (first | apply Kd.V_alloc | apply Kd.V_drewN | apply Kd.V_drew)); exact HO0_0.out) hb); have n1_ := Aside0.mk (Kd.V_below (by (with_reducible repeat (first | apply Kd.V_alloc | apply Kd.V_drewN | apply Kd.V_drew)); exact HO0_1.out) hb); have n2_ := Aside0.mk (Kd.N_below (by (with_reducible repeat (first | apply Kd.N_alloc | apply Kd.N_drewN | apply Kd.N_drew)); exact HO114.out) hb); have n3_ := Aside0.mk (Kd.R_below (by (with_reducible repeat (first | apply Kd.R_alloc | apply Kd.R_drewN | apply Kd.R_drew)); exact HO117.out) hb); have n4_ := Aside0.mk (blk_below (g := gb103) (o := .cells #[.slice A0_0 l0_0.length c0_0, .slice A0_1 l0_1.length c0_1, .int .u64 a0_2, .int .u8 a0_3, .int .u8 a0_4] 40 (0, 0)) (by (with_reducible repeat (first | refine blk_drewN ?_ _ | refine blk_drew ?_ | refine blk_alloc ?_ _)); exact BK103.out) hb); have n5_ := Aside0.mk (below_step (by repeat (first | (with_reducible first | exact HB.out | apply below_alloc | apply pw_below_drewN | apply below_drew1 | refine below_set ?_ GE103.out) | exact HB.out)) hb); clear HO0_0; clear HO0_1; clear HO114; clear HO117; clear BK103; clear HB; have HO0_0 := n0_; have HO0_1 := n1_; have HO114 := n2_; have HO117 := n3_; have BK103 := n4_; have HB := n5_; clear n0_ n1_ n2_ n3_ n4_ n5_; (try clear hb); (try clear hb2); (try clear hk); (try clear hi)) | ((with_reducible refine gate_callee (f := 42) rfl ?_); refine goesL_ (some 17) rfl rfl Tryd.func42 (by kernel_rfl) rfl #[.int .u64 (IntKind.u64.wrap (t118)), .int .i64 4] rfl (by (try simp only [List.map_toArray, List.map_cons, List.map_nil]); first | done | rfl | (simp only [List.length_drop, List.length_take]; rfl)) ?_; (with_reducible refine (spec_High.calls (IntKind.u64.wrap (t118)) 4 t119 _ A6.out).mono ?_); rintro e w19 ⟨v120, rfl, ho0, hb⟩; refine ⟨_, rfl, ?_⟩; have n0_ := Aside0.mk (Kd.V_elder' (by (with_reducible repeat (first | apply Kd.V_alloc | apply Kd.V_drewN | apply Kd.V_drew)); exact HO0_0.out) (Kd.R_base ho0) hb); have n1_ := Aside0.mk (Kd.V_elder' (by (with_reducible repeat (first | apply Kd.V_alloc | apply Kd.V_drewN | apply Kd.V_drew)); exact HO0_1.out) (Kd.R_base ho0) hb); have n2_ := Aside0.mk (Kd.N_elder' (by (with_reducible repeat (first | apply Kd.N_alloc | apply Kd.N_drewN | apply Kd.N_drew)); exact HO114.out) (Kd.R_base ho0) hb); have n3_ := Aside0.mk (Kd.R_elder' (by (with_reducible repeat (first | apply Kd.R_alloc | apply Kd.R_drewN | apply Kd.R_drew)); exact HO117.out) (Kd.R_base ho0) hb); have n4_ := Aside0.mk (Kd.R_lower (Kd.R_new' (Kd.R_newM (M := fun k_ => (w.heap.size ≤ k_)) ho0 (below_size (by repeat (first | (with_reducible first | exact HB.out | apply below_alloc | apply pw_below_drewN | apply below_drew1 | refine below_set ?_ GE103.out) | exact HB.out))) (fun k_ h_ => h_)) (Kd.R_lt (by (with_reducible repeat (first | apply Kd.R_alloc | apply Kd.R_drewN | apply Kd.R_drew)); exact HO117.out))) (below_size (by repeat (first | (with_reducible first | exact HB.out | apply below_alloc | apply pw_below_drewN | apply below_drew1 | refine below_set ?_ GE103.out) | exact HB.out)))); have n5_ := Aside0.mk (blk_below (g := gb103) (o := .cells #[.slice A0_0 l0_0.length c0_0, .slice A0_1 l0_1.length c0_1, .int .u64 a0_2, .int .u8 a0_3, .int .u8 a0_4] 40 (0, 0)) (by (with_reducible repeat (first | refine blk_drewN ?_ _ | refine blk_drew ?_ | refine blk_alloc ?_ _)); exact BK103.out) hb); have n6_ := Aside0.mk (below_step (by repeat (first | (with_reducible first | exact HB.out | apply below_alloc | apply pw_below_drewN | apply below_drew1 | refine below_set ?_ GE103.out) | exact HB.out)) hb); clear HO0_0; clear HO0_1; clear HO114; clear HO117; clear BK103; clear HB; have HO0_0 := n0_; have HO0_1 := n1_; have HO114 := n2_; have HO117 := n3_; have HO121 := n4_; have BK103 := n5_; have HB := n6_; clear n0_ n1_ n2_ n3_ n4_ n5_ n6_; (try clear hb); (try clear hb2); (try clear hk); (try clear hi); (try clear ho0); obtain ⟨Ao20, co20, eo20⟩ := Kd.R_slice HO121.out; subst eo20) | ((with_reducible refine gate_dst (N := 18) rfl ?_); refine Kd.N_lit (Kd.slice 5 (Kd.int .u8)) _ 22 ?hg (N' := 18) ?hd (xs := ([t115, t119] : List (List Int))) (inner := [.slice Ao17 t115.length co17, .slice Ao20 t119.length co20]) (ok := (fun k_ => ((P0_0_ k_ ∨ P0_1_ k_) ∨ w.heap.size ≤ k_) ∧ some k_ ≠ (.slice Ao15 y112.length co15 : Value).ownBlock ∧ k_ ≠ gb103)) (okp := (fun k_ => ((P0_0_ k_ ∨ P0_1_ k_) ∨ w.heap.size ≤ k_) ∧ some k_ ≠ (.slice Ao15 y112.length co15 : Value).ownBlock ∧ k_ ≠ gb103)) ?hr ?hp (fun _ hk => hk) ((show ∀ k_, w19.heap.size ≤ k_ → (fun k_ => ((P0_0_ k_ ∨ P0_1_ k_) ∨ w.heap.size ≤ k_) ∧ some k_ ≠ (.slice Ao15 y112.length co15 : Value).ownBlock ∧ k_ ≠ gb103) k_ from fun k_ hk => ⟨(.inr (Nat.le_trans (below_size (by repeat (first | (with_reducible first | exact HB.out | apply below_alloc | apply pw_below_drewN | apply below_drew1 | refine below_set ?_ GE103.out) | exact HB.out))) hk)), Kd.fresh' (Kd.N_lt (by (with_reducible repeat (first | apply Kd.N_alloc | apply Kd.N_drewN | apply Kd.N_drew)); exact HO114.out)) k_ hk, Kd.freshB (g := gb103) (o := .cells #[.slice A0_0 l0_0.length c0_0, .slice A0_1 l0_1.length c0_1, .int .u64 a0_2, .int .u8 a0_3, .int .u8 a0_4] 40 (0, 0)) (by (with_reducible repeat (first | refine blk_drewN ?_ _ | refine blk_drew ?_ | refine blk_alloc ?_ _)); exact BK103.out) k_ hk⟩) _ (Nat.le_refl _)) (Below.refl _ _) (Nat.le_refl _) (by simp) ?_; (case hd => rfl); (case hg => rfl); (case hr => first | (go_simp; done) | (go_simp; rfl)); (case hp => exact (Reps.one (show Kd.FK (Kd.slice 5 (Kd.int .u8)) _ _ t115 [.slice Ao17 t115.length co17] from (Kd.FK_slice_mk (Kd.R_reads' (Kd.R_mono (ok' := (fun k_ => ((P0_0_ k_ ∨ P0_1_ k_) ∨ w.heap.size ≤ k_) ∧ some k_ ≠ (.slice Ao15 y112.length co15 : Value).ownBlock ∧ k_ ≠ gb103)) (Kd.R_types (Kd.R_apart' (HO117.out) (Kd.N_typed HO114.out) (by decide)) BK103.out (by decide)) (fun k_ hk => ⟨(.inr (hk.1.1.1.1)), ⟨hk.1.2, hk.2⟩⟩))).2.1 (Kd.R_F (Kd.R_mono (ok' := (fun k_ => ((P0_0_ k_ ∨ P0_1_ k_) ∨ w.heap.size ≤ k_) ∧ some k_ ≠ (.slice Ao15 y112.length co15 : Value).ownBlock ∧ k_ ≠ gb103)) (Kd.R_types (Kd.R_apart' (HO117.out) (Kd.N_typed HO114.out) (by decide)) BK103.out (by decide)) (fun k_ hk => ⟨(.inr (hk.1.1.1.1)), ⟨hk.1.2, hk.2⟩⟩))))) (Reps.one (show Kd.FK (Kd.slice 5 (Kd.int .u8)) _ _ t119 [.slice Ao20 t119.length co20] from (Kd.FK_slice_mk (Kd.R_reads' (Kd.R_mono (ok' := (fun k_ => ((P0_0_ k_ ∨ P0_1_ k_) ∨ w.heap.size ≤ k_) ∧ some k_ ≠ (.slice Ao15 y112.length co15 : Value).ownBlock ∧ k_ ≠ gb103)) (Kd.R_types (Kd.R_apart' (HO121.out) (Kd.N_typed HO114.out) (by decide)) BK103.out (by decide)) (fun k_ hk => ⟨(.inr (hk.1.1.1.1)), ⟨hk.1.2, hk.2⟩⟩))).2.1 (Kd.R_F (Kd.R_mono (ok' := (fun k_ => ((P0_0_ k_ ∨ P0_1_ k_) ∨ w.heap.size ≤ k_) ∧ some k_ ≠ (.slice Ao15 y112.length co15 : Value).ownBlock ∧ k_ ≠ gb103)) (Kd.R_types (Kd.R_apart' (HO121.out) (Kd.N_typed HO114.out) (by decide)) BK103.out (by decide)) (fun k_ hk => ⟨(.inr (hk.1.1.1.1)), ⟨hk.1.2, hk.2⟩⟩))))) (Reps.none _ _)))); intro v123 w21 ho22 hb hg_ hnew_; clear hg_ hnew_; (first | rw [← Ny122.out] at ho22 | (simp only [Int.reduceToNat] at ho22; rw [← Ny122.out] at ho22)); have n0_ := Aside0.mk (Kd.V_elder' (by (with_reducible repeat (first | apply Kd.V_alloc | apply Kd.V_drewN | apply Kd.V_drew)); exact HO0_0.out) (Kd.N_base ho22) hb); have n1_ := Aside0.mk (Kd.V_elder' (by (with_reducible repeat (first | apply Kd.V_alloc | apply Kd.V_drewN | apply Kd.V_drew)); exact HO0_1.out) (Kd.N_base ho22) hb); have n2_ := Aside0.mk (Kd.N_elder' (by (with_reducible repeat (first | apply Kd.N_alloc | apply Kd.N_drewN | apply Kd.N_drew)); exact HO114.out) (Kd.N_base ho22) hb); have n3_ := Aside0.mk (Kd.N_lower ho22 (below_size (by repeat (first | (with_reducible first | exact HB.out | apply below_alloc | apply pw_below_drewN | apply below_drew1 | refine below_set ?_ GE103.out) | exact HB.out)))); have n4_ := Aside0.mk (blk_below (g := gb103) (o := .cells #[.slice A0_0 l0_0.length c0_0, .slice A0_1 l0_1.length c0_1, .int .u64 a0_2, .int .u8 a0_3, .int .u8 a0_4] 40 (0, 0)) (by (with_reducible repeat (first | refine blk_drewN ?_ _ | refine blk_drew ?_ | refine blk_alloc ?_ _)); exact BK103.out) hb); have n5_ := Aside0.mk (below_step (by repeat (first | (with_reducible first | exact HB.out | apply below_alloc | apply pw_below_drewN | apply below_drew1 | refine below_set ?_ GE103.out) | exact HB.out)) hb); clear HO0_0; clear HO0_1; clear HO114; clear BK103; clear HB; clear HO117; clear HO121; have HO0_0 := n0_; have HO0_1 := n1_; have HO114 := n2_; have HO124 := n3_; have BK103 := n4_; have HB := n5_; clear n0_ n1_ n2_ n3_ n4_ n5_; clear hb ho22; obtain ⟨Ao23, co23, eo23⟩ := Kd.N_slice HO124.out; subst eo23) | ((with_reducible refine gate_callee (f := 12) rfl ?_); refine goesL_ (some 19) rfl rfl Tryd.func12 (by kernel_rfl) rfl #[.slice Ao23 y122.length co23] rfl (by (try simp only [List.map_toArray, List.map_cons, List.map_nil]); first | done | rfl | (simp only [List.length_drop, List.length_take]; rfl)) ?_; (with_reducible refine (spec_Join.calls _ _ y122 t125 _ ?side1 ?side2 A7.out).mono ?_); (case side1 => repeat (first | exact (Kd.N_reads' HO124.out).2.2 | (with_reducible refine Kd.C_alloc ?_ _) | (with_reducible refine Kd.C_drewN ?_ _) | (with_reducible refine Kd.C_drew ?_))); (case side2 => exact (Kd.N_reads' HO124.out).2.1); rintro e w24 ⟨v126, rfl, ho0, hb⟩; refine ⟨_, rfl, ?_⟩; have n0_ := Aside0.mk (Kd.V_elder' (by (with_reducible repeat (first | apply Kd.V_alloc | apply Kd.V_drewN | apply Kd.V_drew)); exact HO0_0.out) (Kd.R_base ho0) hb); have n1_ := Aside0.mk (Kd.V_elder' (by (with_reducible repeat (first | apply Kd.V_alloc | apply Kd.V_drewN | apply Kd.V_drew)); exact HO0_1.out) (Kd.R_base ho0) hb); have n2_ := Aside0.mk (Kd.N_elder' (by (with_reducible repeat (first | apply Kd.N_alloc | apply Kd.N_drewN | apply Kd.N_drew)); exact HO114.out) (Kd.R_base ho0) hb); have n3_ := Aside0.mk (Kd.N_elder' (by (with_reducible repeat (first | apply Kd.N_alloc | apply Kd.N_drewN | apply Kd.N_drew)); exact HO124.out) (Kd.R_base ho0) hb); have n4_ := Aside0.mk (Kd.R_lower (Kd.R_newM (M := fun k_ => (w.heap.size ≤ k_)) ho0 (below_size (by repeat (first | (with_reducible first | exact HB.out | apply below_alloc | apply pw_below_drewN | apply below_drew1 | refine below_set ?_ GE103.out) | exact HB.out))) (fun k_ h_ => h_)) (below_size (by repeat (first | (with_reducible first | exact HB.out | apply below_alloc | apply pw_below_drewN | apply below_drew1 | refine below_set ?_ GE103.out) | exact HB.out)))); have n5_ := Aside0.mk (blk_below (g := gb103) (o := .cells #[.slice A0_0 l0_0.length c0_0, .slice A0_1 l0_1.length c0_1, .int .u64 a0_2, .int .u8 a0_3, .int .u8 a0_4] 40 (0, 0)) (by (with_reducible repeat (first | refine blk_drewN ?_ _ | refine blk_drew ?_ | refine blk_alloc ?_ _)); exact BK103.out) hb); have n6_ := Aside0.mk (below_step (by repeat (first | (with_reducible first | exact HB.out | apply below_alloc | apply pw_below_drewN | apply below_drew1 | refine below_set ?_ GE103.out) | exact HB.out)) hb); clear HO0_0; clear HO0_1; clear HO114; clear HO124; clear BK103; clear HB; have HO0_0 := n0_; have HO0_1 := n1_; have HO114 := n2_; have HO124 := n3_; have HO127 := n4_; have BK103 := n5_; have HB := n6_; clear n0_ n1_ n2_ n3_ n4_ n5_ n6_; (try clear hb); (try clear hb2); (try clear hk); (try clear hi); (try clear ho0)))
  go_ret
  exact ⟨_, by first | rfl | (simp [errW_none, errW_some] <;> rfl) | (simp [*, errW_none, errW_some] <;> rfl), by (with_reducible repeat (first | apply Kd.R_alloc | apply Kd.R_drewN | apply Kd.R_drew)); exact Kd.R_mono HO127.out (fun _ hk => hk.1), by repeat (first | (with_reducible first | exact HB.out | apply below_alloc | apply pw_below_drewN | apply below_drew1 | refine below_set ?_ GE103.out) | exact HB.out)⟩

/-! ### laws_zzFits10: function 18 -/
def laws_zzFits10.f (l0_0 : List Int) (l0_1 : List Int) (a0_2 : Int) (a0_3 : Int) (a0_4 : Int) : Option (Bool) := if (l0_0.length : Int) > 2147483647 then (some false) else (if (l0_1.length : Int) > 2147483647 then (some false) else (some true))
set_option maxHeartbeats 8000000 in
set_option maxRecDepth 100000 in
theorem laws_zzFits10.calls (A0_0 : Option Addr) (c0_0 : Nat) (l0_0 : List Int) (A0_1 : Option Addr) (c0_1 : Nat) (l0_1 : List Int) (a0_2 : Int) (a0_3 : Int) (a0_4 : Int) (r : Bool) (w : World) (hr0_0 : Kd.C (Kd.int .u8) w A0_0 l0_0.length l0_0) (hc0_0 : l0_0.length ≤ c0_0) (hr0_1 : Kd.C (Kd.int .u8) w A0_1 l0_1.length l0_1) (hc0_1 : l0_1.length ≤ c0_1) (h : laws_zzFits10.f l0_0 l0_1 a0_2 a0_3 a0_4 = some r) :
    Calls Tryd.prog 18 #[.agg #[.slice A0_0 l0_0.length c0_0, .slice A0_1 l0_1.length c0_1, .int .u64 a0_2, .int .u8 a0_3, .int .u8 a0_4]] w fun e w' => e = .returned (.bool r) ∧ Below w.heap.size w w' := by
  have hu40 := Tryd.underlying40
  have HR0_0 := Aside0.mk hr0_0
  have HC0_0 := Aside0.mk hc0_0
  clear hr0_0 hc0_0
  have HR0_1 := Aside0.mk hr0_1
  have HC0_1 := Aside0.mk hc0_1
  clear hr0_1 hc0_1
  have HB := Aside0.mk (Below.refl w.heap.size w)
  have H : (if (l0_0.length : Int) > 2147483647 then (some false) else (if (l0_1.length : Int) > 2147483647 then (some false) else (some true))) = some r := h
  clear h
  by_cases c2 : (l0_0.length : Int) > 2147483647
  · rw [if_pos c2] at H
    have c2b0 : decide (2147483647 < (l0_0.length : Int)) = true := decide_eq_true c2
    have c2b1 : decide (2147483647 < l0_0.length) = true := decide_eq_true (by omega)
    clear c2
    obtain rfl := Option.some.inj H
    go_enter Tryd.func18, Tryd.ntmps18
    go_wp2_with (first | ((with_reducible refine gate_dst (N := 1) rfl ?_); refine box_event ?hg (N := 1) ?hd (cs := #[.slice A0_0 l0_0.length c0_0, .slice A0_1 l0_1.length c0_1, .int .u64 a0_2, .int .u8 a0_3, .int .u8 a0_4]) (t := 40) ?hr ?_; (case hd => rfl); (case hg => rfl); (case hr => first | (go_simp; done) | (go_simp; rfl)); intro gb128 hg w3 hbox hb; have n0_ := Aside0.mk (below_step (by repeat (first | (with_reducible first | exact HB.out | apply below_alloc | apply pw_below_drewN | apply below_drew1) | exact HB.out)) hb); have n1_ := Aside0.mk (hbox); have n2_ := Aside0.mk ((by rw [hg]; exact (below_size (by repeat (first | (with_reducible first | exact HB.out | apply below_alloc | apply pw_below_drewN | apply below_drew1) | exact HB.out))) : w.heap.size ≤ gb128)); have n3_ := Aside0.mk ((by rw [hg]; exact (below_size (by repeat (first | (with_reducible first | exact HB.out | apply below_alloc | apply pw_below_drewN | apply below_drew1) | exact HB.out))) : w.heap.size ≤ gb128)); clear HB; have HB := n0_; have BK128 := n1_; have GW128 := n2_; have GE128 := n3_; clear n0_ n1_ n2_ n3_; clear hb hbox hg; have hcz4_0 : w3.cell? ⟨gb128, 0, none⟩ = some (.slice A0_0 l0_0.length c0_0) := (blk_cell BK128.out 0).trans rfl; have hcz4_1 : w3.cell? ⟨gb128, 1, none⟩ = some (.slice A0_1 l0_1.length c0_1) := (blk_cell BK128.out 1).trans rfl; have hcz4_2 : w3.cell? ⟨gb128, 2, none⟩ = some (.int .u64 a0_2) := (blk_cell BK128.out 2).trans rfl; have hcz4_3 : w3.cell? ⟨gb128, 3, none⟩ = some (.int .u8 a0_3) := (blk_cell BK128.out 3).trans rfl; have hcz4_4 : w3.cell? ⟨gb128, 4, none⟩ = some (.int .u8 a0_4) := (blk_cell BK128.out 4).trans rfl; have hfz4_0 := blk_frozen BK128.out 0; have hfz4_1 := blk_frozen BK128.out 1; have hfz4_2 := blk_frozen BK128.out 2; have hfz4_3 := blk_frozen BK128.out 3; have hfz4_4 := blk_frozen BK128.out 4))
    go_ret
    exact ⟨by first | rfl | (simp [errW_none, errW_some] <;> rfl) | (simp [*, errW_none, errW_some] <;> rfl), by repeat (first | (with_reducible first | exact HB.out | apply below_alloc | apply pw_below_drewN | apply below_drew1 | refine below_set ?_ GE128.out) | exact HB.out)⟩
  · rw [if_neg c2] at H
    have c2b0 : decide (2147483647 < (l0_0.length : Int)) = false := decide_eq_false c2
    have c2b1 : decide (2147483647 < l0_0.length) = false := decide_eq_false (by omega)
    clear c2
    by_cases c5 : (l0_1.length : Int) > 2147483647
    · rw [if_pos c5] at H
      have c5b0 : decide (2147483647 < (l0_1.length : Int)) = true := decide_eq_true c5
      have c5b1 : decide (2147483647 < l0_1.length) = true := decide_eq_true (by omega)
      clear c5
      obtain rfl := Option.some.inj H
      go_enter Tryd.func18, Tryd.ntmps18
      go_wp2_with (first | ((with_reducible refine gate_dst (N := 1) rfl ?_); refine box_event ?hg (N := 1) ?hd (cs := #[.slice A0_0 l0_0.length c0_0, .slice A0_1 l0_1.length c0_1, .int .u64 a0_2, .int .u8 a0_3, .int .u8 a0_4]) (t := 40) ?hr ?_; (case hd => rfl); (case hg => rfl); (case hr => first | (go_simp; done) | (go_simp; rfl)); intro gb128 hg w6 hbox hb; have n0_ := Aside0.mk (below_step (by repeat (first | (with_reducible first | exact HB.out | apply below_alloc | apply pw_below_drewN | apply below_drew1) | exact HB.out)) hb); have n1_ := Aside0.mk (hbox); have n2_ := Aside0.mk ((by rw [hg]; exact (below_size (by repeat (first | (with_reducible first | exact HB.out | apply below_alloc | apply pw_below_drewN | apply below_drew1) | exact HB.out))) : w.heap.size ≤ gb128)); have n3_ := Aside0.mk ((by rw [hg]; exact (below_size (by repeat (first | (with_reducible first | exact HB.out | apply below_alloc | apply pw_below_drewN | apply below_drew1) | exact HB.out))) : w.heap.size ≤ gb128)); clear HB; have HB := n0_; have BK128 := n1_; have GW128 := n2_; have GE128 := n3_; clear n0_ n1_ n2_ n3_; clear hb hbox hg; have hcz7_0 : w6.cell? ⟨gb128, 0, none⟩ = some (.slice A0_0 l0_0.length c0_0) := (blk_cell BK128.out 0).trans rfl; have hcz7_1 : w6.cell? ⟨gb128, 1, none⟩ = some (.slice A0_1 l0_1.length c0_1) := (blk_cell BK128.out 1).trans rfl; have hcz7_2 : w6.cell? ⟨gb128, 2, none⟩ = some (.int .u64 a0_2) := (blk_cell BK128.out 2).trans rfl; have hcz7_3 : w6.cell? ⟨gb128, 3, none⟩ = some (.int .u8 a0_3) := (blk_cell BK128.out 3).trans rfl; have hcz7_4 : w6.cell? ⟨gb128, 4, none⟩ = some (.int .u8 a0_4) := (blk_cell BK128.out 4).trans rfl; have hfz7_0 := blk_frozen BK128.out 0; have hfz7_1 := blk_frozen BK128.out 1; have hfz7_2 := blk_frozen BK128.out 2; have hfz7_3 := blk_frozen BK128.out 3; have hfz7_4 := blk_frozen BK128.out 4))
      go_ret
      exact ⟨by first | rfl | (simp [errW_none, errW_some] <;> rfl) | (simp [*, errW_none, errW_some] <;> rfl), by repeat (first | (with_reducible first | exact HB.out | apply below_alloc | apply pw_below_drewN | apply below_drew1 | refine below_set ?_ GE128.out) | exact HB.out)⟩
    · rw [if_neg c5] at H
      have c5b0 : decide (2147483647 < (l0_1.length : Int)) = false := decide_eq_false c5
      have c5b1 : decide (2147483647 < l0_1.length) = false := decide_eq_false (by omega)
      clear c5
      obtain rfl := Option.some.inj H
      go_enter Tryd.func18, Tryd.ntmps18
      go_wp2_with (first | ((with_reducible refine gate_dst (N := 1) rfl ?_); refine box_event ?hg (N := 1) ?hd (cs := #[.slice A0_0 l0_0.length c0_0, .slice A0_1 l0_1.length c0_1, .int .u64 a0_2, .int .u8 a0_3, .int .u8 a0_4]) (t := 40) ?hr ?_; (case hd => rfl); (case hg => rfl); (case hr => first | (go_simp; done) | (go_simp; rfl)); intro gb128 hg w8 hbox hb; have n0_ := Aside0.mk (below_step (by repeat (first | (with_reducible first | exact HB.out | apply below_alloc | apply pw_below_drewN | apply below_drew1) | exact HB.out)) hb); have n1_ := Aside0.mk (hbox); have n2_ := Aside0.mk ((by rw [hg]; exact (below_size (by repeat (first | (with_reducible first | exact HB.out | apply below_alloc | apply pw_below_drewN | apply below_drew1) | exact HB.out))) : w.heap.size ≤ gb128)); have n3_ := Aside0.mk ((by rw [hg]; exact (below_size (by repeat (first | (with_reducible first | exact HB.out | apply below_alloc | apply pw_below_drewN | apply below_drew1) | exact HB.out))) : w.heap.size ≤ gb128)); clear HB; have HB := n0_; have BK128 := n1_; have GW128 := n2_; have GE128 := n3_; clear n0_ n1_ n2_ n3_; clear hb hbox hg; have hcz9_0 : w8.cell? ⟨gb128, 0, none⟩ = some (.slice A0_0 l0_0.length c0_0) := (blk_cell BK128.out 0).trans rfl; have hcz9_1 : w8.cell? ⟨gb128, 1, none⟩ = some (.slice A0_1 l0_1.length c0_1) := (blk_cell BK128.out 1).trans rfl; have hcz9_2 : w8.cell? ⟨gb128, 2, none⟩ = some (.int .u64 a0_2) := (blk_cell BK128.out 2).trans rfl; have hcz9_3 : w8.cell? ⟨gb128, 3, none⟩ = some (.int .u8 a0_3) := (blk_cell BK128.out 3).trans rfl; have hcz9_4 : w8.cell? ⟨gb128, 4, none⟩ = some (.int .u8 a0_4) := (blk_cell BK128.out 4).trans rfl; have hfz9_0 := blk_frozen BK128.out 0; have hfz9_1 := blk_frozen BK128.out 1; have hfz9_2 := blk_frozen BK128.out 2; have hfz9_3 := blk_frozen BK128.out 3; have hfz9_4 := blk_frozen BK128.out 4))
      go_ret
      exact ⟨by first | rfl | (simp [errW_none, errW_some] <;> rfl) | (simp [*, errW_none, errW_some] <;> rfl), by repeat (first | (with_reducible first | exact HB.out | apply below_alloc | apply pw_below_drewN | apply below_drew1 | refine below_set ?_ GE128.out) | exact HB.out)⟩

/-! ### laws_zzFits13: function 56 -/
def laws_zzFits13.l0 : Nat → List (S40) → Int → Int → Option (Bool)
  | 0, _, _, _ => none
  | k + 1, x8, x9, x10 => if x10 < x9 then (if 0 ≤ x10 then (if x10 < (x8.length : Int) then ((laws_zzFits10.f ((rd_T40 x8 x10).f0) ((rd_T40 x8 x10).f1) ((rd_T40 x8 x10).f2) ((rd_T40 x8 x10).f3) ((rd_T40 x8 x10).f4)).bind fun t131 => (if t131 = true then (laws_zzFits13.l0 k x8 x9 (wrap64 (x10 + 1))) else (some false))) else (none)) else (none)) else (some true)
def laws_zzFits13.f (k : Nat) (l0 : List (S40)) : Option (Bool) := if (l0.length : Int) > 2147483647 then (some false) else (laws_zzFits13.l0 k l0 (l0.length : Int) 0)
theorem laws_zzFits13.mono_l : ∀ k, (∀ y0 y1 y2, LeO (laws_zzFits13.l0 k y0 y1 y2) (laws_zzFits13.l0 (k + 1) y0 y1 y2))
  | 0 => fun _ _ _ r h => by simp [laws_zzFits13.l0] at h
  | k + 1 => by
    have ih0 := laws_zzFits13.mono_l k
    · intro y0 y1 y2
      unfold laws_zzFits13.l0
      repeat' first
      | (with_reducible exact ih0 _ _ _)
      | (with_reducible exact LeO.refl _)
      | (with_reducible exact LeO.none _)
      | (with_reducible refine LeO.ite ?_ ?_)
      | (with_reducible refine LeO.bind ?_ (fun _ => ?_))
      | exact ih0 _ _ _
      | exact LeO.none _
      | refine LeO.ite ?_ ?_
      | refine LeO.bind ?_ (fun _ => ?_)
theorem laws_zzFits13.mono : ∀ a0 k, LeO (laws_zzFits13.f k a0) (laws_zzFits13.f (k + 1) a0) := by
  intro a0 k
  have ih0 := laws_zzFits13.mono_l k
  unfold laws_zzFits13.f
  repeat' first
      | (with_reducible exact ih0 _ _ _)
      | (with_reducible exact LeO.refl _)
      | (with_reducible exact LeO.none _)
      | (with_reducible refine LeO.ite ?_ ?_)
      | (with_reducible refine LeO.bind ?_ (fun _ => ?_))
      | exact ih0 _ _ _
      | exact LeO.none _
      | refine LeO.ite ?_ ?_
      | refine LeO.bind ?_ (fun _ => ?_)
set_option maxHeartbeats 8000000 in
set_option maxRecDepth 100000 in
theorem laws_zzFits13.calls (k : Nat) (A0 : Option Addr) (c0 : Nat) (l0 : List (S40)) (r : Bool) (w : World) (hr0 : Kd.C k40 w A0 l0.length l0) (hc0 : l0.length ≤ c0) (h : laws_zzFits13.f k l0 = some r) :
    Calls Tryd.prog 56 #[.slice A0 l0.length c0] w fun e w' => e = .returned (.bool r) ∧ Below w.heap.size w w' := by
  have hu40 := Tryd.underlying40
  have HR0 := Aside0.mk hr0
  have HC0 := Aside0.mk hc0
  clear hr0 hc0
  have HB := Aside0.mk (Below.refl w.heap.size w)
  have H : (if (l0.length : Int) > 2147483647 then (some false) else (laws_zzFits13.l0 k l0 (l0.length : Int) 0)) = some r := h
  clear h
  by_cases c2 : (l0.length : Int) > 2147483647
  · rw [if_pos c2] at H
    have c2b0 : decide (2147483647 < (l0.length : Int)) = true := decide_eq_true c2
    have c2b1 : decide (2147483647 < l0.length) = true := decide_eq_true (by omega)
    clear c2
    obtain rfl := Option.some.inj H
    go_enter Tryd.func56, Tryd.ntmps56
    go_wp2
    go_ret
    exact ⟨by first | rfl | (simp [errW_none, errW_some] <;> rfl) | (simp [*, errW_none, errW_some] <;> rfl), by repeat (first | (with_reducible first | exact HB.out | apply below_alloc | apply pw_below_drewN | apply below_drew1) | exact HB.out)⟩
  · rw [if_neg c2] at H
    have c2b0 : decide (2147483647 < (l0.length : Int)) = false := decide_eq_false c2
    have c2b1 : decide (2147483647 < l0.length) = false := decide_eq_false (by omega)
    clear c2
    have H' := Aside0.mk H
    clear H
    go_enter Tryd.func56, Tryd.ntmps56
    go_wp2
    go_loopg [10] k (fun kq v10 w' => ∃ (x10_1 : Int), v10 = .int .i64 x10_1 ∧ Aside0 (laws_zzFits13.l0 kq l0 (l0.length : Int) x10_1 = some r) ∧ Aside0 (kq ≤ k) ∧ Aside0 (Below w.heap.size w w'))
    case atStart => exact ⟨(0), (by first | rfl | (simp; done) | (simp [*]; done)), H', ⟨Nat.le_refl _⟩, ⟨by repeat (first | (with_reducible first | exact HB.out | apply below_alloc | apply pw_below_drewN | apply below_drew1) | exact HB.out)⟩⟩
    case round =>
      clear H'
      try clear c2
      try clear c2b0
      try clear c2b1
      try clear p2
      obtain ⟨x10_1, rfl, HA, HK1, HB⟩ := hrel
      cases gk with
      | zero => exact absurd HA.out (by simp [laws_zzFits13.l0])
      | succ k1 =>
        have H := HA.out
        clear HA
        simp only [laws_zzFits13.l0] at H
        by_cases c3 : x10_1 < (l0.length : Int)
        · rw [if_pos c3] at H
          have c3b0 : decide (x10_1 < (l0.length : Int)) = true := decide_eq_true c3
          clear c3
          by_cases c4 : 0 ≤ x10_1
          · rw [if_pos c4] at H
            have c4b0 : decide (0 ≤ x10_1) = true := decide_eq_true c4
            clear c4
            by_cases c5 : x10_1 < (l0.length : Int)
            · rw [if_pos c5] at H
              have c5b0 : decide (x10_1 < (l0.length : Int)) = true := decide_eq_true c5
              clear c5
              replace H := Option.bind_eq_some_iff.mp H
              obtain ⟨t131, A60, H⟩ := H
              replace H : (if t131 = true then (laws_zzFits13.l0 k1 l0 (l0.length : Int) (wrap64 (x10_1 + 1))) else (some false)) = some r := H
              have A6 := Aside0.mk A60
              clear A60
              by_cases c7 : t131 = true
              · subst c7
                have H1 : (laws_zzFits13.l0 k1 l0 (l0.length : Int) (wrap64 (x10_1 + 1))) = some r := by rw [if_pos rfl] at H; exact H
                clear H
                have H := H1
                clear H1
                have H' := Aside0.mk H
                clear H
                have p129 : 0 ≤ (x10_1 : Int) := of_decide_eq_true (by first | (with_reducible assumption) | assumption)
                have q129 : x10_1 < (l0.length : Int) := of_decide_eq_true (by first | (with_reducible assumption) | assumption)
                obtain ⟨ad129, A129_0, c129_0, A129_1, c129_1, e129, hx129_0, hx129_1, hx129_2, hx129_3, hx129_4, hl129_0, hi129_0, hl129_1, hi129_1⟩ := at_T40 HR0.out x10_1 p129 q129
                cases e129
                replace hx129_0 := (HB.out.cell (World.block_lt_of_cell? w _ hx129_0)).trans hx129_0
                replace hx129_1 := (HB.out.cell (World.block_lt_of_cell? w _ hx129_1)).trans hx129_1
                replace hx129_2 := (HB.out.cell (World.block_lt_of_cell? w _ hx129_2)).trans hx129_2
                replace hx129_3 := (HB.out.cell (World.block_lt_of_cell? w _ hx129_3)).trans hx129_3
                replace hx129_4 := (HB.out.cell (World.block_lt_of_cell? w _ hx129_4)).trans hx129_4
                have HR129_0 := Aside0.mk hi129_0
                have HC129_0 := Aside0.mk hl129_0
                clear hi129_0 hl129_0
                have HR129_1 := Aside0.mk hi129_1
                have HC129_1 := Aside0.mk hl129_1
                clear hi129_1 hl129_1
                replace p129 := eq_true p129
                replace q129 := eq_true q129
                go_wp2_with (first | ((with_reducible refine gate_dst (N := 4) rfl ?_); refine box_event ?hg (N := 4) ?hd (cs := #[.slice none 0 0, .slice none 0 0, .int .u64 0, .int .u8 0, .int .u8 0]) (t := 40) ?hr ?_; (case hd => rfl); (case hg => rfl); (case hr => first | (go_simp; done) | (go_simp; rfl)); intro gb130 hg w8 hbox hb; have n0_ := Aside0.mk (below_step (by repeat (first | (with_reducible first | exact HB.out | apply below_alloc | apply pw_below_drewN | apply below_drew1) | exact HB.out)) hb); have n1_ := Aside0.mk (hbox); have n2_ := Aside0.mk ((by rw [hg]; exact (below_size (by repeat (first | (with_reducible first | exact HB.out | apply below_alloc | apply pw_below_drewN | apply below_drew1) | exact HB.out))) : w.heap.size ≤ gb130)); have n3_ := Aside0.mk ((by rw [hg]; exact (below_size (by repeat (first | (with_reducible first | exact HB.out | apply below_alloc | apply pw_below_drewN | apply below_drew1) | exact HB.out))) : w.heap.size ≤ gb130)); clear HB; have HB := n0_; have BK130 := n1_; have GW130 := n2_; have GE130 := n3_; clear n0_ n1_ n2_ n3_; clear hb hbox hg; have hcz9_0 : w8.cell? ⟨gb130, 0, none⟩ = some (.slice none 0 0) := (blk_cell BK130.out 0).trans rfl; have hcz9_1 : w8.cell? ⟨gb130, 1, none⟩ = some (.slice none 0 0) := (blk_cell BK130.out 1).trans rfl; have hcz9_2 : w8.cell? ⟨gb130, 2, none⟩ = some (.int .u64 0) := (blk_cell BK130.out 2).trans rfl; have hcz9_3 : w8.cell? ⟨gb130, 3, none⟩ = some (.int .u8 0) := (blk_cell BK130.out 3).trans rfl; have hcz9_4 : w8.cell? ⟨gb130, 4, none⟩ = some (.int .u8 0) := (blk_cell BK130.out 4).trans rfl; have hfz9_0 := blk_frozen BK130.out 0; have hfz9_1 := blk_frozen BK130.out 1; have hfz9_2 := blk_frozen BK130.out 2; have hfz9_3 := blk_frozen BK130.out 3; have hfz9_4 := blk_frozen BK130.out 4) | ((with_reducible refine gate_callee (f := 18) rfl ?_); refine goesL_ (some 15) rfl rfl Tryd.func18 (by kernel_rfl) rfl #[.agg #[.slice A129_0 ((rd_T40 l0 x10_1).f0).length c129_0, .slice A129_1 ((rd_T40 l0 x10_1).f1).length c129_1, .int .u64 ((rd_T40 l0 x10_1).f2), .int .u8 ((rd_T40 l0 x10_1).f3), .int .u8 ((rd_T40 l0 x10_1).f4)]] rfl (by (try simp only [List.map_toArray, List.map_cons, List.map_nil]); first | done | rfl | (simp only [List.length_drop, List.length_take]; rfl)) ?_; (with_reducible refine (laws_zzFits10.calls _ _ ((rd_T40 l0 x10_1).f0) _ _ ((rd_T40 l0 x10_1).f1) ((rd_T40 l0 x10_1).f2) ((rd_T40 l0 x10_1).f3) ((rd_T40 l0 x10_1).f4) true _ ?side1 ?side2 ?side3 ?side4 A6.out).mono ?_); (case side1 => exact Kd.C_below HR129_0.out (by repeat (first | (with_reducible first | exact HB.out | apply below_alloc | apply pw_below_drewN | apply below_drew1 | refine below_set ?_ GE130.out) | exact HB.out))); (case side2 => exact HC129_0.out); (case side3 => exact Kd.C_below HR129_1.out (by repeat (first | (with_reducible first | exact HB.out | apply below_alloc | apply pw_below_drewN | apply below_drew1 | refine below_set ?_ GE130.out) | exact HB.out))); (case side4 => exact HC129_1.out); rintro e w10 ⟨rfl, hb⟩; refine ⟨_, rfl, ?_⟩; have n0_ := Aside0.mk (blk_below (g := gb130) (o := .cells #[.slice A129_0 ((rd_T40 l0 x10_1).f0).length c129_0, .slice A129_1 ((rd_T40 l0 x10_1).f1).length c129_1, .int .u64 ((rd_T40 l0 x10_1).f2), .int .u8 ((rd_T40 l0 x10_1).f3), .int .u8 ((rd_T40 l0 x10_1).f4)] 40 (0, 0)) (by (with_reducible repeat (first | refine blk_drewN ?_ _ | refine blk_drew ?_ | refine blk_alloc ?_ _)); refine blk_put (cs := #[.slice A129_0 ((rd_T40 l0 x10_1).f0).length c129_0, .slice A129_1 ((rd_T40 l0 x10_1).f1).length c129_1, .int .u64 ((rd_T40 l0 x10_1).f2), .int .u8 ((rd_T40 l0 x10_1).f3), .int .u8 0]) ?_ 4 _ rfl; (with_reducible repeat (first | refine blk_drewN ?_ _ | refine blk_drew ?_ | refine blk_alloc ?_ _)); refine blk_put (cs := #[.slice A129_0 ((rd_T40 l0 x10_1).f0).length c129_0, .slice A129_1 ((rd_T40 l0 x10_1).f1).length c129_1, .int .u64 ((rd_T40 l0 x10_1).f2), .int .u8 0, .int .u8 0]) ?_ 3 _ rfl; (with_reducible repeat (first | refine blk_drewN ?_ _ | refine blk_drew ?_ | refine blk_alloc ?_ _)); refine blk_put (cs := #[.slice A129_0 ((rd_T40 l0 x10_1).f0).length c129_0, .slice A129_1 ((rd_T40 l0 x10_1).f1).length c129_1, .int .u64 0, .int .u8 0, .int .u8 0]) ?_ 2 _ rfl; (with_reducible repeat (first | refine blk_drewN ?_ _ | refine blk_drew ?_ | refine blk_alloc ?_ _)); refine blk_put (cs := #[.slice A129_0 ((rd_T40 l0 x10_1).f0).length c129_0, .slice none 0 0, .int .u64 0, .int .u8 0, .int .u8 0]) ?_ 1 _ rfl; (with_reducible repeat (first | refine blk_drewN ?_ _ | refine blk_drew ?_ | refine blk_alloc ?_ _)); refine blk_put (cs := #[.slice none 0 0, .slice none 0 0, .int .u64 0, .int .u8 0, .int .u8 0]) ?_ 0 _ rfl; (with_reducible repeat (first | refine blk_drewN ?_ _ | refine blk_drew ?_ | refine blk_alloc ?_ _)); exact BK130.out) hb); have n1_ := Aside0.mk (below_step (by repeat (first | (with_reducible first | exact HB.out | apply below_alloc | apply pw_below_drewN | apply below_drew1 | refine below_set ?_ GE130.out) | exact HB.out)) hb); clear BK130; clear HB; have BK130 := n0_; have HB := n1_; clear n0_ n1_; (try clear hb); (try clear hb2); (try clear hk); (try clear hi)))
                go_roundg k1
                case measure => have := HK1.out; omega
                case rel => exact ⟨(wrap64 (x10_1 + 1)), (by first | rfl | (simp; done) | (simp [*]; done)), H', ⟨by have := HK1.out; omega⟩, ⟨by repeat (first | (with_reducible first | exact HB.out | apply below_alloc | apply pw_below_drewN | apply below_drew1 | refine below_set ?_ GE130.out) | exact HB.out)⟩⟩
              · replace c7 := Bool.eq_false_iff.mpr c7
                subst c7
                have H1 : (some false) = some r := by rw [if_neg (show ¬ (false = true) by decide)] at H; exact H
                clear H
                have H := H1
                clear H1
                obtain rfl := Option.some.inj H
                have p129 : 0 ≤ (x10_1 : Int) := of_decide_eq_true (by first | (with_reducible assumption) | assumption)
                have q129 : x10_1 < (l0.length : Int) := of_decide_eq_true (by first | (with_reducible assumption) | assumption)
                obtain ⟨ad129, A129_0, c129_0, A129_1, c129_1, e129, hx129_0, hx129_1, hx129_2, hx129_3, hx129_4, hl129_0, hi129_0, hl129_1, hi129_1⟩ := at_T40 HR0.out x10_1 p129 q129
                cases e129
                replace hx129_0 := (HB.out.cell (World.block_lt_of_cell? w _ hx129_0)).trans hx129_0
                replace hx129_1 := (HB.out.cell (World.block_lt_of_cell? w _ hx129_1)).trans hx129_1
                replace hx129_2 := (HB.out.cell (World.block_lt_of_cell? w _ hx129_2)).trans hx129_2
                replace hx129_3 := (HB.out.cell (World.block_lt_of_cell? w _ hx129_3)).trans hx129_3
                replace hx129_4 := (HB.out.cell (World.block_lt_of_cell? w _ hx129_4)).trans hx129_4
                have HR129_0 := Aside0.mk hi129_0
                have HC129_0 := Aside0.mk hl129_0
                clear hi129_0 hl129_0
                have HR129_1 := Aside0.mk hi129_1
                have HC129_1 := Aside0.mk hl129_1
                clear hi129_1 hl129_1
                replace p129 := eq_true p129
                replace q129 := eq_true q129
                go_wp2_with (first | ((with_reducible refine gate_dst (N := 4) rfl ?_); refine box_event ?hg (N := 4) ?hd (cs := #[.slice none 0 0, .slice none 0 0, .int .u64 0, .int .u8 0, .int .u8 0]) (t := 40) ?hr ?_; (case hd => rfl); (case hg => rfl); (case hr => first | (go_simp; done) | (go_simp; rfl)); intro gb130 hg w11 hbox hb; have n0_ := Aside0.mk (below_step (by repeat (first | (with_reducible first | exact HB.out | apply below_alloc | apply pw_below_drewN | apply below_drew1) | exact HB.out)) hb); have n1_ := Aside0.mk (hbox); have n2_ := Aside0.mk ((by rw [hg]; exact (below_size (by repeat (first | (with_reducible first | exact HB.out | apply below_alloc | apply pw_below_drewN | apply below_drew1) | exact HB.out))) : w.heap.size ≤ gb130)); have n3_ := Aside0.mk ((by rw [hg]; exact (below_size (by repeat (first | (with_reducible first | exact HB.out | apply below_alloc | apply pw_below_drewN | apply below_drew1) | exact HB.out))) : w.heap.size ≤ gb130)); clear HB; have HB := n0_; have BK130 := n1_; have GW130 := n2_; have GE130 := n3_; clear n0_ n1_ n2_ n3_; clear hb hbox hg; have hcz12_0 : w11.cell? ⟨gb130, 0, none⟩ = some (.slice none 0 0) := (blk_cell BK130.out 0).trans rfl; have hcz12_1 : w11.cell? ⟨gb130, 1, none⟩ = some (.slice none 0 0) := (blk_cell BK130.out 1).trans rfl; have hcz12_2 : w11.cell? ⟨gb130, 2, none⟩ = some (.int .u64 0) := (blk_cell BK130.out 2).trans rfl; have hcz12_3 : w11.cell? ⟨gb130, 3, none⟩ = some (.int .u8 0) := (blk_cell BK130.out 3).trans rfl; have hcz12_4 : w11.cell? ⟨gb130, 4, none⟩ = some (.int .u8 0) := (blk_cell BK130.out 4).trans rfl; have hfz12_0 := blk_frozen BK130.out 0; have hfz12_1 := blk_frozen BK130.out 1; have hfz12_2 := blk_frozen BK130.out 2; have hfz12_3 := blk_frozen BK130.out 3; have hfz12_4 := blk_frozen BK130.out 4) | ((with_reducible refine gate_callee (f := 18) rfl ?_); refine goesL_ (some 15) rfl rfl Tryd.func18 (by kernel_rfl) rfl #[.agg #[.slice A129_0 ((rd_T40 l0 x10_1).f0).length c129_0, .slice A129_1 ((rd_T40 l0 x10_1).f1).length c129_1, .int .u64 ((rd_T40 l0 x10_1).f2), .int .u8 ((rd_T40 l0 x10_1).f3), .int .u8 ((rd_T40 l0 x10_1).f4)]] rfl (by (try simp only [List.map_toArray, List.map_cons, List.map_nil]); first | done | rfl | (simp only [List.length_drop, List.length_take]; rfl)) ?_; (with_reducible refine (laws_zzFits10.calls _ _ ((rd_T40 l0 x10_1).f0) _ _ ((rd_T40 l0 x10_1).f1) ((rd_T40 l0 x10_1).f2) ((rd_T40 l0 x10_1).f3) ((rd_T40 l0 x10_1).f4) false _ ?side1 ?side2 ?side3 ?side4 A6.out).mono ?_); (case side1 => exact Kd.C_below HR129_0.out (by repeat (first | (with_reducible first | exact HB.out | apply below_alloc | apply pw_below_drewN | apply below_drew1 | refine below_set ?_ GE130.out) | exact HB.out))); (case side2 => exact HC129_0.out); (case side3 => exact Kd.C_below HR129_1.out (by repeat (first | (with_reducible first | exact HB.out | apply below_alloc | apply pw_below_drewN | apply below_drew1 | refine below_set ?_ GE130.out) | exact HB.out))); (case side4 => exact HC129_1.out); rintro e w13 ⟨rfl, hb⟩; refine ⟨_, rfl, ?_⟩; have n0_ := Aside0.mk (blk_below (g := gb130) (o := .cells #[.slice A129_0 ((rd_T40 l0 x10_1).f0).length c129_0, .slice A129_1 ((rd_T40 l0 x10_1).f1).length c129_1, .int .u64 ((rd_T40 l0 x10_1).f2), .int .u8 ((rd_T40 l0 x10_1).f3), .int .u8 ((rd_T40 l0 x10_1).f4)] 40 (0, 0)) (by (with_reducible repeat (first | refine blk_drewN ?_ _ | refine blk_drew ?_ | refine blk_alloc ?_ _)); refine blk_put (cs := #[.slice A129_0 ((rd_T40 l0 x10_1).f0).length c129_0, .slice A129_1 ((rd_T40 l0 x10_1).f1).length c129_1, .int .u64 ((rd_T40 l0 x10_1).f2), .int .u8 ((rd_T40 l0 x10_1).f3), .int .u8 0]) ?_ 4 _ rfl; (with_reducible repeat (first | refine blk_drewN ?_ _ | refine blk_drew ?_ | refine blk_alloc ?_ _)); refine blk_put (cs := #[.slice A129_0 ((rd_T40 l0 x10_1).f0).length c129_0, .slice A129_1 ((rd_T40 l0 x10_1).f1).length c129_1, .int .u64 ((rd_T40 l0 x10_1).f2), .int .u8 0, .int .u8 0]) ?_ 3 _ rfl; (with_reducible repeat (first | refine blk_drewN ?_ _ | refine blk_drew ?_ | refine blk_alloc ?_ _)); refine blk_put (cs := #[.slice A129_0 ((rd_T40 l0 x10_1).f0).length c129_0, .slice A129_1 ((rd_T40 l0 x10_1).f1).length c129_1, .int .u64 0, .int .u8 0, .int .u8 0]) ?_ 2 _ rfl; (with_reducible repeat (first | refine blk_drewN ?_ _ | refine blk_drew ?_ | refine blk_alloc ?_ _)); refine blk_put (cs := #[.slice A129_0 ((rd_T40 l0 x10_1).f0).length c129_0, .slice none 0 0, .int .u64 0, .int .u8 0, .int .u8 0]) ?_ 1 _ rfl; (with_reducible repeat (first | refine blk_drewN ?_ _ | refine blk_drew ?_ | refine blk_alloc ?_ _)); refine blk_put (cs := #[.slice none 0 0, .slice none 0 0, .int .u64 0, .int .u8 0, .int .u8 0]) ?_ 0 _ rfl; (with_reducible repeat (first | refine blk_drewN ?_ _ | refine blk_drew ?_ | refine blk_alloc ?_ _)); exact BK130.out) hb); have n1_ := Aside0.mk (below_step (by repeat (first | (with_reducible first | exact HB.out | apply below_alloc | apply pw_below_drewN | apply below_drew1 | refine below_set ?_ GE130.out) | exact HB.out)) hb); clear BK130; clear HB; have BK130 := n0_; have HB := n1_; clear n0_ n1_; (try clear hb); (try clear hb2); (try clear hk); (try clear hi)))
                go_ret
                exact ⟨by first | rfl | (simp [errW_none, errW_some] <;> rfl) | (simp [*, errW_none, errW_some] <;> rfl), by repeat (first | (with_reducible first | exact HB.out | apply below_alloc | apply pw_below_drewN | apply below_drew1 | refine below_set ?_ GE130.out) | exact HB.out)⟩
            · rw [if_neg c5] at H
              exact absurd H (by simp)
          · rw [if_neg c4] at H
            exact absurd H (by simp)
        · rw [if_neg c3] at H
          have c3b0 : decide (x10_1 < (l0.length : Int)) = false := decide_eq_false c3
          clear c3
          obtain rfl := Option.some.inj H
          go_wp2
          go_ret
          exact ⟨by first | rfl | (simp [errW_none, errW_some] <;> rfl) | (simp [*, errW_none, errW_some] <;> rfl), by repeat (first | (with_reducible first | exact HB.out | apply below_alloc | apply pw_below_drewN | apply below_drew1) | exact HB.out)⟩

/-! ### laws_zzFits12: function 43 -/
def laws_zzFits12.f (k : Nat) (l0_0 : List (S40)) (a0_1 : Bool) (a0_2 : Int) (a0_3 : Bool) : Option (Bool) := (laws_zzFits13.f k l0_0).bind fun t133 => (if t133 = true then (some true) else (some false))
theorem laws_zzFits12.mono : ∀ a0 a1 a2 a3 k, LeO (laws_zzFits12.f k a0 a1 a2 a3) (laws_zzFits12.f (k + 1) a0 a1 a2 a3) := by
  intro a0 a1 a2 a3 k
  unfold laws_zzFits12.f
  repeat' first
      | (with_reducible exact laws_zzFits13.mono _ _)
      | (with_reducible exact LeO.refl _)
      | (with_reducible exact LeO.none _)
      | (with_reducible refine LeO.ite ?_ ?_)
      | (with_reducible refine LeO.bind ?_ (fun _ => ?_))
      | exact laws_zzFits13.mono _ _
      | exact LeO.none _
      | refine LeO.ite ?_ ?_
      | refine LeO.bind ?_ (fun _ => ?_)
set_option maxHeartbeats 8000000 in
set_option maxRecDepth 100000 in
theorem laws_zzFits12.calls (k : Nat) (A0_0 : Option Addr) (c0_0 : Nat) (l0_0 : List (S40)) (a0_1 : Bool) (a0_2 : Int) (a0_3 : Bool) (r : Bool) (w : World) (hr0_0 : Kd.C k40 w A0_0 l0_0.length l0_0) (hc0_0 : l0_0.length ≤ c0_0) (h : laws_zzFits12.f k l0_0 a0_1 a0_2 a0_3 = some r) :
    Calls Tryd.prog 43 #[.agg #[.slice A0_0 l0_0.length c0_0, .bool a0_1, .int .u64 a0_2, .bool a0_3]] w fun e w' => e = .returned (.bool r) ∧ Below w.heap.size w w' := by
  have hu80 := Tryd.underlying80
  have HR0_0 := Aside0.mk hr0_0
  have HC0_0 := Aside0.mk hc0_0
  clear hr0_0 hc0_0
  have HB := Aside0.mk (Below.refl w.heap.size w)
  have H : ((laws_zzFits13.f k l0_0).bind fun t133 => (if t133 = true then (some true) else (some false))) = some r := h
  clear h
  replace H := Option.bind_eq_some_iff.mp H
  obtain ⟨t133, A20, H⟩ := H
  replace H : (if t133 = true then (some true) else (some false)) = some r := H
  have A2 := Aside0.mk A20
  clear A20
  by_cases c3 : t133 = true
  · subst c3
    have H1 : (some true) = some r := by rw [if_pos rfl] at H; exact H
    clear H
    have H := H1
    clear H1
    obtain rfl := Option.some.inj H
    go_enter Tryd.func43, Tryd.ntmps43
    go_wp2_with (first | ((with_reducible refine gate_dst (N := 1) rfl ?_); refine box_event ?hg (N := 1) ?hd (cs := #[.slice A0_0 l0_0.length c0_0, .bool a0_1, .int .u64 a0_2, .bool a0_3]) (t := 80) ?hr ?_; (case hd => rfl); (case hg => rfl); (case hr => first | (go_simp; done) | (go_simp; rfl)); intro gb132 hg w4 hbox hb; have n0_ := Aside0.mk (below_step (by repeat (first | (with_reducible first | exact HB.out | apply below_alloc | apply pw_below_drewN | apply below_drew1) | exact HB.out)) hb); have n1_ := Aside0.mk (hbox); have n2_ := Aside0.mk ((by rw [hg]; exact (below_size (by repeat (first | (with_reducible first | exact HB.out | apply below_alloc | apply pw_below_drewN | apply below_drew1) | exact HB.out))) : w.heap.size ≤ gb132)); have n3_ := Aside0.mk ((by rw [hg]; exact (below_size (by repeat (first | (with_reducible first | exact HB.out | apply below_alloc | apply pw_below_drewN | apply below_drew1) | exact HB.out))) : w.heap.size ≤ gb132)); clear HB; have HB := n0_; have BK132 := n1_; have GW132 := n2_; have GE132 := n3_; clear n0_ n1_ n2_ n3_; clear hb hbox hg; have hcz5_0 : w4.cell? ⟨gb132, 0, none⟩ = some (.slice A0_0 l0_0.length c0_0) := (blk_cell BK132.out 0).trans rfl; have hcz5_1 : w4.cell? ⟨gb132, 1, none⟩ = some (.bool a0_1) := (blk_cell BK132.out 1).trans rfl; have hcz5_2 : w4.cell? ⟨gb132, 2, none⟩ = some (.int .u64 a0_2) := (blk_cell BK132.out 2).trans rfl; have hcz5_3 : w4.cell? ⟨gb132, 3, none⟩ = some (.bool a0_3) := (blk_cell BK132.out 3).trans rfl; have hfz5_0 := blk_frozen BK132.out 0; have hfz5_1 := blk_frozen BK132.out 1; have hfz5_2 := blk_frozen BK132.out 2; have hfz5_3 := blk_frozen BK132.out 3) | ((with_reducible refine gate_callee (f := 56) rfl ?_); refine goesL_ (some 5) rfl rfl Tryd.func56 (by kernel_rfl) rfl #[.slice A0_0 l0_0.length c0_0] rfl (by (try simp only [List.map_toArray, List.map_cons, List.map_nil]); first | done | rfl | (simp only [List.length_drop, List.length_take]; rfl)) ?_; (with_reducible refine (laws_zzFits13.calls k _ _ l0_0 true _ ?side1 ?side2 A2.out).mono ?_); (case side1 => repeat (first | exact (Kd.C_below HR0_0.out HB.out) | (with_reducible refine Kd.C_alloc ?_ _) | (with_reducible refine Kd.C_drewN ?_ _) | (with_reducible refine Kd.C_drew ?_))); (case side2 => exact HC0_0.out); rintro e w6 ⟨rfl, hb⟩; refine ⟨_, rfl, ?_⟩; have n0_ := Aside0.mk (blk_below (g := gb132) (o := .cells #[.slice A0_0 l0_0.length c0_0, .bool a0_1, .int .u64 a0_2, .bool a0_3] 80 (0, 0)) (by (with_reducible repeat (first | refine blk_drewN ?_ _ | refine blk_drew ?_ | refine blk_alloc ?_ _)); exact BK132.out) hb); have n1_ := Aside0.mk (below_step (by repeat (first | (with_reducible first | exact HB.out | apply below_alloc | apply pw_below_drewN | apply below_drew1 | refine below_set ?_ GE132.out) | exact HB.out)) hb); clear BK132; clear HB; have BK132 := n0_; have HB := n1_; clear n0_ n1_; (try clear hb); (try clear hb2); (try clear hk); (try clear hi)))
    go_ret
    exact ⟨by first | rfl | (simp [errW_none, errW_some] <;> rfl) | (simp [*, errW_none, errW_some] <;> rfl), by repeat (first | (with_reducible first | exact HB.out | apply below_alloc | apply pw_below_drewN | apply below_drew1 | refine below_set ?_ GE132.out) | exact HB.out)⟩
  · replace c3 := Bool.eq_false_iff.mpr c3
    subst c3
    have H1 : (some false) = some r := by rw [if_neg (show ¬ (false = true) by decide)] at H; exact H
    clear H
    have H := H1
    clear H1
    obtain rfl := Option.some.inj H
    go_enter Tryd.func43, Tryd.ntmps43
    go_wp2_with (first | ((with_reducible refine gate_dst (N := 1) rfl ?_); refine box_event ?hg (N := 1) ?hd (cs := #[.slice A0_0 l0_0.length c0_0, .bool a0_1, .int .u64 a0_2, .bool a0_3]) (t := 80) ?hr ?_; (case hd => rfl); (case hg => rfl); (case hr => first | (go_simp; done) | (go_simp; rfl)); intro gb132 hg w7 hbox hb; have n0_ := Aside0.mk (below_step (by repeat (first | (with_reducible first | exact HB.out | apply below_alloc | apply pw_below_drewN | apply below_drew1) | exact HB.out)) hb); have n1_ := Aside0.mk (hbox); have n2_ := Aside0.mk ((by rw [hg]; exact (below_size (by repeat (first | (with_reducible first | exact HB.out | apply below_alloc | apply pw_below_drewN | apply below_drew1) | exact HB.out))) : w.heap.size ≤ gb132)); have n3_ := Aside0.mk ((by rw [hg]; exact (below_size (by repeat (first | (with_reducible first | exact HB.out | apply below_alloc | apply pw_below_drewN | apply below_drew1) | exact HB.out))) : w.heap.size ≤ gb132)); clear HB; have HB := n0_; have BK132 := n1_; have GW132 := n2_; have GE132 := n3_; clear n0_ n1_ n2_ n3_; clear hb hbox hg; have hcz8_0 : w7.cell? ⟨gb132, 0, none⟩ = some (.slice A0_0 l0_0.length c0_0) := (blk_cell BK132.out 0).trans rfl; have hcz8_1 : w7.cell? ⟨gb132, 1, none⟩ = some (.bool a0_1) := (blk_cell BK132.out 1).trans rfl; have hcz8_2 : w7.cell? ⟨gb132, 2, none⟩ = some (.int .u64 a0_2) := (blk_cell BK132.out 2).trans rfl; have hcz8_3 : w7.cell? ⟨gb132, 3, none⟩ = some (.bool a0_3) := (blk_cell BK132.out 3).trans rfl; have hfz8_0 := blk_frozen BK132.out 0; have hfz8_1 := blk_frozen BK132.out 1; have hfz8_2 := blk_frozen BK132.out 2; have hfz8_3 := blk_frozen BK132.out 3) | ((with_reducible refine gate_callee (f := 56) rfl ?_); refine goesL_ (some 5) rfl rfl Tryd.func56 (by kernel_rfl) rfl #[.slice A0_0 l0_0.length c0_0] rfl (by (try simp only [List.map_toArray, List.map_cons, List.map_nil]); first | done | rfl | (simp only [List.length_drop, List.length_take]; rfl)) ?_; (with_reducible refine (laws_zzFits13.calls k _ _ l0_0 false _ ?side1 ?side2 A2.out).mono ?_); (case side1 => repeat (first | exact (Kd.C_below HR0_0.out HB.out) | (with_reducible refine Kd.C_alloc ?_ _) | (with_reducible refine Kd.C_drewN ?_ _) | (with_reducible refine Kd.C_drew ?_))); (case side2 => exact HC0_0.out); rintro e w9 ⟨rfl, hb⟩; refine ⟨_, rfl, ?_⟩; have n0_ := Aside0.mk (blk_below (g := gb132) (o := .cells #[.slice A0_0 l0_0.length c0_0, .bool a0_1, .int .u64 a0_2, .bool a0_3] 80 (0, 0)) (by (with_reducible repeat (first | refine blk_drewN ?_ _ | refine blk_drew ?_ | refine blk_alloc ?_ _)); exact BK132.out) hb); have n1_ := Aside0.mk (below_step (by repeat (first | (with_reducible first | exact HB.out | apply below_alloc | apply pw_below_drewN | apply below_drew1 | refine below_set ?_ GE132.out) | exact HB.out)) hb); clear BK132; clear HB; have BK132 := n0_; have HB := n1_; clear n0_ n1_; (try clear hb); (try clear hb2); (try clear hk); (try clear hi)))
    go_ret
    exact ⟨by first | rfl | (simp [errW_none, errW_some] <;> rfl) | (simp [*, errW_none, errW_some] <;> rfl), by repeat (first | (with_reducible first | exact HB.out | apply below_alloc | apply pw_below_drewN | apply below_drew1 | refine below_set ?_ GE132.out) | exact HB.out)⟩

/-! ### laws_zzFits11: function 22 -/
def laws_zzFits11.l0 : Nat → List (S80) → Int → Int → Option (Bool)
  | 0, _, _, _ => none
  | k + 1, x8, x9, x10 => if x10 < x9 then (if 0 ≤ x10 then (if x10 < (x8.length : Int) then ((laws_zzFits12.f k ((rd_T80 x8 x10).f0) ((rd_T80 x8 x10).f1) ((rd_T80 x8 x10).f2) ((rd_T80 x8 x10).f3)).bind fun t136 => (if t136 = true then (laws_zzFits11.l0 k x8 x9 (wrap64 (x10 + 1))) else (some false))) else (none)) else (none)) else (some true)
def laws_zzFits11.f (k : Nat) (l0 : List (S80)) : Option (Bool) := if (l0.length : Int) > 2147483647 then (some false) else (laws_zzFits11.l0 k l0 (l0.length : Int) 0)
theorem laws_zzFits11.mono_l : ∀ k, (∀ y0 y1 y2, LeO (laws_zzFits11.l0 k y0 y1 y2) (laws_zzFits11.l0 (k + 1) y0 y1 y2))
  | 0 => fun _ _ _ r h => by simp [laws_zzFits11.l0] at h
  | k + 1 => by
    have ih0 := laws_zzFits11.mono_l k
    · intro y0 y1 y2
      unfold laws_zzFits11.l0
      repeat' first
      | (with_reducible exact ih0 _ _ _)
      | (with_reducible exact laws_zzFits12.mono _ _ _ _ _)
      | (with_reducible exact LeO.refl _)
      | (with_reducible exact LeO.none _)
      | (with_reducible refine LeO.ite ?_ ?_)
      | (with_reducible refine LeO.bind ?_ (fun _ => ?_))
      | exact ih0 _ _ _
      | exact laws_zzFits12.mono _ _ _ _ _
      | exact LeO.none _
      | refine LeO.ite ?_ ?_
      | refine LeO.bind ?_ (fun _ => ?_)
theorem laws_zzFits11.mono : ∀ a0 k, LeO (laws_zzFits11.f k a0) (laws_zzFits11.f (k + 1) a0) := by
  intro a0 k
  have ih0 := laws_zzFits11.mono_l k
  unfold laws_zzFits11.f
  repeat' first
      | (with_reducible exact ih0 _ _ _)
      | (with_reducible exact laws_zzFits12.mono _ _ _ _ _)
      | (with_reducible exact LeO.refl _)
      | (with_reducible exact LeO.none _)
      | (with_reducible refine LeO.ite ?_ ?_)
      | (with_reducible refine LeO.bind ?_ (fun _ => ?_))
      | exact ih0 _ _ _
      | exact laws_zzFits12.mono _ _ _ _ _
      | exact LeO.none _
      | refine LeO.ite ?_ ?_
      | refine LeO.bind ?_ (fun _ => ?_)
set_option maxHeartbeats 8000000 in
set_option maxRecDepth 100000 in
theorem laws_zzFits11.calls (k : Nat) (A0 : Option Addr) (c0 : Nat) (l0 : List (S80)) (r : Bool) (w : World) (hr0 : Kd.C k80 w A0 l0.length l0) (hc0 : l0.length ≤ c0) (h : laws_zzFits11.f k l0 = some r) :
    Calls Tryd.prog 22 #[.slice A0 l0.length c0] w fun e w' => e = .returned (.bool r) ∧ Below w.heap.size w w' := by
  have hu80 := Tryd.underlying80
  have HR0 := Aside0.mk hr0
  have HC0 := Aside0.mk hc0
  clear hr0 hc0
  have HB := Aside0.mk (Below.refl w.heap.size w)
  have H : (if (l0.length : Int) > 2147483647 then (some false) else (laws_zzFits11.l0 k l0 (l0.length : Int) 0)) = some r := h
  clear h
  by_cases c2 : (l0.length : Int) > 2147483647
  · rw [if_pos c2] at H
    have c2b0 : decide (2147483647 < (l0.length : Int)) = true := decide_eq_true c2
    have c2b1 : decide (2147483647 < l0.length) = true := decide_eq_true (by omega)
    clear c2
    obtain rfl := Option.some.inj H
    go_enter Tryd.func22, Tryd.ntmps22
    go_wp2
    go_ret
    exact ⟨by first | rfl | (simp [errW_none, errW_some] <;> rfl) | (simp [*, errW_none, errW_some] <;> rfl), by repeat (first | (with_reducible first | exact HB.out | apply below_alloc | apply pw_below_drewN | apply below_drew1) | exact HB.out)⟩
  · rw [if_neg c2] at H
    have c2b0 : decide (2147483647 < (l0.length : Int)) = false := decide_eq_false c2
    have c2b1 : decide (2147483647 < l0.length) = false := decide_eq_false (by omega)
    clear c2
    have H' := Aside0.mk H
    clear H
    go_enter Tryd.func22, Tryd.ntmps22
    go_wp2
    go_loopg [10] k (fun kq v10 w' => ∃ (x10_1 : Int), v10 = .int .i64 x10_1 ∧ Aside0 (laws_zzFits11.l0 kq l0 (l0.length : Int) x10_1 = some r) ∧ Aside0 (kq ≤ k) ∧ Aside0 (Below w.heap.size w w'))
    case atStart => exact ⟨(0), (by first | rfl | (simp; done) | (simp [*]; done)), H', ⟨Nat.le_refl _⟩, ⟨by repeat (first | (with_reducible first | exact HB.out | apply below_alloc | apply pw_below_drewN | apply below_drew1) | exact HB.out)⟩⟩
    case round =>
      clear H'
      try clear c2
      try clear c2b0
      try clear c2b1
      try clear p2
      obtain ⟨x10_1, rfl, HA, HK1, HB⟩ := hrel
      cases gk with
      | zero => exact absurd HA.out (by simp [laws_zzFits11.l0])
      | succ k1 =>
        have H := HA.out
        clear HA
        simp only [laws_zzFits11.l0] at H
        by_cases c3 : x10_1 < (l0.length : Int)
        · rw [if_pos c3] at H
          have c3b0 : decide (x10_1 < (l0.length : Int)) = true := decide_eq_true c3
          clear c3
          by_cases c4 : 0 ≤ x10_1
          · rw [if_pos c4] at H
            have c4b0 : decide (0 ≤ x10_1) = true := decide_eq_true c4
            clear c4
            by_cases c5 : x10_1 < (l0.length : Int)
            · rw [if_pos c5] at H
              have c5b0 : decide (x10_1 < (l0.length : Int)) = true := decide_eq_true c5
              clear c5
              replace H := Option.bind_eq_some_iff.mp H
              obtain ⟨t136, A60, H⟩ := H
              replace H : (if t136 = true then (laws_zzFits11.l0 k1 l0 (l0.length : Int) (wrap64 (x10_1 + 1))) else (some false)) = some r := H
              have A6 := Aside0.mk A60
              clear A60
              by_cases c7 : t136 = true
              · subst c7
                have H1 : (laws_zzFits11.l0 k1 l0 (l0.length : Int) (wrap64 (x10_1 + 1))) = some r := by rw [if_pos rfl] at H; exact H
                clear H
                have H := H1
                clear H1
                have H' := Aside0.mk H
                clear H
                have p134 : 0 ≤ (x10_1 : Int) := of_decide_eq_true (by first | (with_reducible assumption) | assumption)
                have q134 : x10_1 < (l0.length : Int) := of_decide_eq_true (by first | (with_reducible assumption) | assumption)
                obtain ⟨ad134, A134_0, c134_0, e134, hx134_0, hx134_1, hx134_2, hx134_3, hl134_0, hi134_0⟩ := at_T80 HR0.out x10_1 p134 q134
                cases e134
                replace hx134_0 := (HB.out.cell (World.block_lt_of_cell? w _ hx134_0)).trans hx134_0
                replace hx134_1 := (HB.out.cell (World.block_lt_of_cell? w _ hx134_1)).trans hx134_1
                replace hx134_2 := (HB.out.cell (World.block_lt_of_cell? w _ hx134_2)).trans hx134_2
                replace hx134_3 := (HB.out.cell (World.block_lt_of_cell? w _ hx134_3)).trans hx134_3
                have HR134_0 := Aside0.mk hi134_0
                have HC134_0 := Aside0.mk hl134_0
                clear hi134_0 hl134_0
                replace p134 := eq_true p134
                replace q134 := eq_true q134
                go_wp2_with (first | ((with_reducible refine gate_dst (N := 4) rfl ?_); refine box_event ?hg (N := 4) ?hd (cs := #[.slice none 0 0, .bool false, .int .u64 0, .bool false]) (t := 80) ?hr ?_; (case hd => rfl); (case hg => rfl); (case hr => first | (go_simp; done) | (go_simp; rfl)); intro gb135 hg w8 hbox hb; have n0_ := Aside0.mk (below_step (by repeat (first | (with_reducible first | exact HB.out | apply below_alloc | apply pw_below_drewN | apply below_drew1) | exact HB.out)) hb); have n1_ := Aside0.mk (hbox); have n2_ := Aside0.mk ((by rw [hg]; exact (below_size (by repeat (first | (with_reducible first | exact HB.out | apply below_alloc | apply pw_below_drewN | apply below_drew1) | exact HB.out))) : w.heap.size ≤ gb135)); have n3_ := Aside0.mk ((by rw [hg]; exact (below_size (by repeat (first | (with_reducible first | exact HB.out | apply below_alloc | apply pw_below_drewN | apply below_drew1) | exact HB.out))) : w.heap.size ≤ gb135)); clear HB; have HB := n0_; have BK135 := n1_; have GW135 := n2_; have GE135 := n3_; clear n0_ n1_ n2_ n3_; clear hb hbox hg; have hcz9_0 : w8.cell? ⟨gb135, 0, none⟩ = some (.slice none 0 0) := (blk_cell BK135.out 0).trans rfl; have hcz9_1 : w8.cell? ⟨gb135, 1, none⟩ = some (.bool false) := (blk_cell BK135.out 1).trans rfl; have hcz9_2 : w8.cell? ⟨gb135, 2, none⟩ = some (.int .u64 0) := (blk_cell BK135.out 2).trans rfl; have hcz9_3 : w8.cell? ⟨gb135, 3, none⟩ = some (.bool false) := (blk_cell BK135.out 3).trans rfl; have hfz9_0 := blk_frozen BK135.out 0; have hfz9_1 := blk_frozen BK135.out 1; have hfz9_2 := blk_frozen BK135.out 2; have hfz9_3 := blk_frozen BK135.out 3) | ((with_reducible refine gate_callee (f := 43) rfl ?_); refine goesL_ (some 15) rfl rfl Tryd.func43 (by kernel_rfl) rfl #[.agg #[.slice A134_0 ((rd_T80 l0 x10_1).f0).length c134_0, .bool ((rd_T80 l0 x10_1).f1), .int .u64 ((rd_T80 l0 x10_1).f2), .bool ((rd_T80 l0 x10_1).f3)]] rfl (by (try simp only [List.map_toArray, List.map_cons, List.map_nil]); first | done | rfl | (simp only [List.length_drop, List.length_take]; rfl)) ?_; (with_reducible refine (laws_zzFits12.calls k1 _ _ ((rd_T80 l0 x10_1).f0) ((rd_T80 l0 x10_1).f1) ((rd_T80 l0 x10_1).f2) ((rd_T80 l0 x10_1).f3) true _ ?side1 ?side2 A6.out).mono ?_); (case side1 => exact Kd.C_below HR134_0.out (by repeat (first | (with_reducible first | exact HB.out | apply below_alloc | apply pw_below_drewN | apply below_drew1 | refine below_set ?_ GE135.out) | exact HB.out))); (case side2 => exact HC134_0.out); rintro e w10 ⟨rfl, hb⟩; refine ⟨_, rfl, ?_⟩; have n0_ := Aside0.mk (blk_below (g := gb135) (o := .cells #[.slice A134_0 ((rd_T80 l0 x10_1).f0).length c134_0, .bool ((rd_T80 l0 x10_1).f1), .int .u64 ((rd_T80 l0 x10_1).f2), .bool ((rd_T80 l0 x10_1).f3)] 80 (0, 0)) (by (with_reducible repeat (first | refine blk_drewN ?_ _ | refine blk_drew ?_ | refine blk_alloc ?_ _)); refine blk_put (cs := #[.slice A134_0 ((rd_T80 l0 x10_1).f0).length c134_0, .bool ((rd_T80 l0 x10_1).f1), .int .u64 ((rd_T80 l0 x10_1).f2), .bool false]) ?_ 3 _ rfl; (with_reducible repeat (first | refine blk_drewN ?_ _ | refine blk_drew ?_ | refine blk_alloc ?_ _)); refine blk_put (cs := #[.slice A134_0 ((rd_T80 l0 x10_1).f0).length c134_0, .bool ((rd_T80 l0 x10_1).f1), .int .u64 0, .bool false]) ?_ 2 _ rfl; (with_reducible repeat (first | refine blk_drewN ?_ _ | refine blk_drew ?_ | refine blk_alloc ?_ _)); refine blk_put (cs := #[.slice A134_0 ((rd_T80 l0 x10_1).f0).length c134_0, .bool false, .int .u64 0, .bool false]) ?_ 1 _ rfl; (with_reducible repeat (first | refine blk_drewN ?_ _ | refine blk_drew ?_ | refine blk_alloc ?_ _)); refine blk_put (cs := #[.slice none 0 0, .bool false, .int .u64 0, .bool false]) ?_ 0 _ rfl; (with_reducible repeat (first | refine blk_drewN ?_ _ | refine blk_drew ?_ | refine blk_alloc ?_ _)); exact BK135.out) hb); have n1_ := Aside0.mk (below_step (by repeat (first | (with_reducible first | exact HB.out | apply below_alloc | apply pw_below_drewN | apply below_drew1 | refine below_set ?_ GE135.out) | exact HB.out)) hb); clear BK135; clear HB; have BK135 := n0_; have HB := n1_; clear n0_ n1_; (try clear hb); (try clear hb2); (try clear hk); (try clear hi)))
                go_roundg k1
                case measure => have := HK1.out; omega
                case rel => exact ⟨(wrap64 (x10_1 + 1)), (by first | rfl | (simp; done) | (simp [*]; done)), H', ⟨by have := HK1.out; omega⟩, ⟨by repeat (first | (with_reducible first | exact HB.out | apply below_alloc | apply pw_below_drewN | apply below_drew1 | refine below_set ?_ GE135.out) | exact HB.out)⟩⟩
              · replace c7 := Bool.eq_false_iff.mpr c7
                subst c7
                have H1 : (some false) = some r := by rw [if_neg (show ¬ (false = true) by decide)] at H; exact H
                clear H
                have H := H1
                clear H1
                obtain rfl := Option.some.inj H
                have p134 : 0 ≤ (x10_1 : Int) := of_decide_eq_true (by first | (with_reducible assumption) | assumption)
                have q134 : x10_1 < (l0.length : Int) := of_decide_eq_true (by first | (with_reducible assumption) | assumption)
                obtain ⟨ad134, A134_0, c134_0, e134, hx134_0, hx134_1, hx134_2, hx134_3, hl134_0, hi134_0⟩ := at_T80 HR0.out x10_1 p134 q134
                cases e134
                replace hx134_0 := (HB.out.cell (World.block_lt_of_cell? w _ hx134_0)).trans hx134_0
                replace hx134_1 := (HB.out.cell (World.block_lt_of_cell? w _ hx134_1)).trans hx134_1
                replace hx134_2 := (HB.out.cell (World.block_lt_of_cell? w _ hx134_2)).trans hx134_2
                replace hx134_3 := (HB.out.cell (World.block_lt_of_cell? w _ hx134_3)).trans hx134_3
                have HR134_0 := Aside0.mk hi134_0
                have HC134_0 := Aside0.mk hl134_0
                clear hi134_0 hl134_0
                replace p134 := eq_true p134
                replace q134 := eq_true q134
                go_wp2_with (first | ((with_reducible refine gate_dst (N := 4) rfl ?_); refine box_event ?hg (N := 4) ?hd (cs := #[.slice none 0 0, .bool false, .int .u64 0, .bool false]) (t := 80) ?hr ?_; (case hd => rfl); (case hg => rfl); (case hr => first | (go_simp; done) | (go_simp; rfl)); intro gb135 hg w11 hbox hb; have n0_ := Aside0.mk (below_step (by repeat (first | (with_reducible first | exact HB.out | apply below_alloc | apply pw_below_drewN | apply below_drew1) | exact HB.out)) hb); have n1_ := Aside0.mk (hbox); have n2_ := Aside0.mk ((by rw [hg]; exact (below_size (by repeat (first | (with_reducible first | exact HB.out | apply below_alloc | apply pw_below_drewN | apply below_drew1) | exact HB.out))) : w.heap.size ≤ gb135)); have n3_ := Aside0.mk ((by rw [hg]; exact (below_size (by repeat (first | (with_reducible first | exact HB.out | apply below_alloc | apply pw_below_drewN | apply below_drew1) | exact HB.out))) : w.heap.size ≤ gb135)); clear HB; have HB := n0_; have BK135 := n1_; have GW135 := n2_; have GE135 := n3_; clear n0_ n1_ n2_ n3_; clear hb hbox hg; have hcz12_0 : w11.cell? ⟨gb135, 0, none⟩ = some (.slice none 0 0) := (blk_cell BK135.out 0).trans rfl; have hcz12_1 : w11.cell? ⟨gb135, 1, none⟩ = some (.bool false) := (blk_cell BK135.out 1).trans rfl; have hcz12_2 : w11.cell? ⟨gb135, 2, none⟩ = some (.int .u64 0) := (blk_cell BK135.out 2).trans rfl; have hcz12_3 : w11.cell? ⟨gb135, 3, none⟩ = some (.bool false) := (blk_cell BK135.out 3).trans rfl; have hfz12_0 := blk_frozen BK135.out 0; have hfz12_1 := blk_frozen BK135.out 1; have hfz12_2 := blk_frozen BK135.out 2; have hfz12_3 := blk_frozen BK135.out 3) | ((with_reducible refine gate_callee (f := 43) rfl ?_); refine goesL_ (some 15) rfl rfl Tryd.func43 (by kernel_rfl) rfl #[.agg #[.slice A134_0 ((rd_T80 l0 x10_1).f0).length c134_0, .bool ((rd_T80 l0 x10_1).f1), .int .u64 ((rd_T80 l0 x10_1).f2), .bool ((rd_T80 l0 x10_1).f3)]] rfl (by (try simp only [List.map_toArray, List.map_cons, List.map_nil]); first | done | rfl | (simp only [List.length_drop, List.length_take]; rfl)) ?_; (with_reducible refine (laws_zzFits12.calls k1 _ _ ((rd_T80 l0 x10_1).f0) ((rd_T80 l0 x10_1).f1) ((rd_T80 l0 x10_1).f2) ((rd_T80 l0 x10_1).f3) false _ ?side1 ?side2 A6.out).mono ?_); (case side1 => exact Kd.C_below HR134_0.out (by repeat (first | (with_reducible first | exact HB.out | apply below_alloc | apply pw_below_drewN | apply below_drew1 | refine below_set ?_ GE135.out) | exact HB.out))); (case side2 => exact HC134_0.out); rintro e w13 ⟨rfl, hb⟩; refine ⟨_, rfl, ?_⟩; have n0_ := Aside0.mk (blk_below (g := gb135) (o := .cells #[.slice A134_0 ((rd_T80 l0 x10_1).f0).length c134_0, .bool ((rd_T80 l0 x10_1).f1), .int .u64 ((rd_T80 l0 x10_1).f2), .bool ((rd_T80 l0 x10_1).f3)] 80 (0, 0)) (by (with_reducible repeat (first | refine blk_drewN ?_ _ | refine blk_drew ?_ | refine blk_alloc ?_ _)); refine blk_put (cs := #[.slice A134_0 ((rd_T80 l0 x10_1).f0).length c134_0, .bool ((rd_T80 l0 x10_1).f1), .int .u64 ((rd_T80 l0 x10_1).f2), .bool false]) ?_ 3 _ rfl; (with_reducible repeat (first | refine blk_drewN ?_ _ | refine blk_drew ?_ | refine blk_alloc ?_ _)); refine blk_put (cs := #[.slice A134_0 ((rd_T80 l0 x10_1).f0).length c134_0, .bool ((rd_T80 l0 x10_1).f1), .int .u64 0, .bool false]) ?_ 2 _ rfl; (with_reducible repeat (first | refine blk_drewN ?_ _ | refine blk_drew ?_ | refine blk_alloc ?_ _)); refine blk_put (cs := #[.slice A134_0 ((rd_T80 l0 x10_1).f0).length c134_0, .bool false, .int .u64 0, .bool false]) ?_ 1 _ rfl; (with_reducible repeat (first | refine blk_drewN ?_ _ | refine blk_drew ?_ | refine blk_alloc ?_ _)); refine blk_put (cs := #[.slice none 0 0, .bool false, .int .u64 0, .bool false]) ?_ 0 _ rfl; (with_reducible repeat (first | refine blk_drewN ?_ _ | refine blk_drew ?_ | refine blk_alloc ?_ _)); exact BK135.out) hb); have n1_ := Aside0.mk (below_step (by repeat (first | (with_reducible first | exact HB.out | apply below_alloc | apply pw_below_drewN | apply below_drew1 | refine below_set ?_ GE135.out) | exact HB.out)) hb); clear BK135; clear HB; have BK135 := n0_; have HB := n1_; clear n0_ n1_; (try clear hb); (try clear hb2); (try clear hk); (try clear hi)))
                go_ret
                exact ⟨by first | rfl | (simp [errW_none, errW_some] <;> rfl) | (simp [*, errW_none, errW_some] <;> rfl), by repeat (first | (with_reducible first | exact HB.out | apply below_alloc | apply pw_below_drewN | apply below_drew1 | refine below_set ?_ GE135.out) | exact HB.out)⟩
            · rw [if_neg c5] at H
              exact absurd H (by simp)
          · rw [if_neg c4] at H
            exact absurd H (by simp)
        · rw [if_neg c3] at H
          have c3b0 : decide (x10_1 < (l0.length : Int)) = false := decide_eq_false c3
          clear c3
          obtain rfl := Option.some.inj H
          go_wp2
          go_ret
          exact ⟨by first | rfl | (simp [errW_none, errW_some] <;> rfl) | (simp [*, errW_none, errW_some] <;> rfl), by repeat (first | (with_reducible first | exact HB.out | apply below_alloc | apply pw_below_drewN | apply below_drew1) | exact HB.out)⟩

/-! ### laws_recOk: function 19 -/
def laws_recOk.f (l0_0 : List Int) (l0_1 : List Int) (a0_2 : Int) (a0_3 : Int) (a0_4 : Int) : Option (Bool) := if (l0_0.length : Int) ≥ 1 then (if (l0_0.length : Int) ≤ 40 then (some (decide ((l0_1.length : Int) ≤ 200))) else (some false)) else (some false)
set_option maxHeartbeats 8000000 in
set_option maxRecDepth 100000 in
theorem laws_recOk.calls (A0_0 : Option Addr) (c0_0 : Nat) (l0_0 : List Int) (A0_1 : Option Addr) (c0_1 : Nat) (l0_1 : List Int) (a0_2 : Int) (a0_3 : Int) (a0_4 : Int) (r : Bool) (w : World) (hr0_0 : Kd.C (Kd.int .u8) w A0_0 l0_0.length l0_0) (hc0_0 : l0_0.length ≤ c0_0) (hr0_1 : Kd.C (Kd.int .u8) w A0_1 l0_1.length l0_1) (hc0_1 : l0_1.length ≤ c0_1) (h : laws_recOk.f l0_0 l0_1 a0_2 a0_3 a0_4 = some r) :
    Calls Tryd.prog 19 #[.agg #[.slice A0_0 l0_0.length c0_0, .slice A0_1 l0_1.length c0_1, .int .u64 a0_2, .int .u8 a0_3, .int .u8 a0_4]] w fun e w' => e = .returned (.bool r) ∧ Below w.heap.size w w' := by
  have hu40 := Tryd.underlying40
  have HR0_0 := Aside0.mk hr0_0
  have HC0_0 := Aside0.mk hc0_0
  clear hr0_0 hc0_0
  have HR0_1 := Aside0.mk hr0_1
  have HC0_1 := Aside0.mk hc0_1
  clear hr0_1 hc0_1
  have HB := Aside0.mk (Below.refl w.heap.size w)
  have H : (if (l0_0.length : Int) ≥ 1 then (if (l0_0.length : Int) ≤ 40 then (some (decide ((l0_1.length : Int) ≤ 200))) else (some false)) else (some false)) = some r := h
  clear h
  by_cases c2 : (l0_0.length : Int) ≥ 1
  · rw [if_pos c2] at H
    have c2b0 : decide (1 ≤ (l0_0.length : Int)) = true := decide_eq_true c2
    have c2b1 : decide (1 ≤ l0_0.length) = true := decide_eq_true (by omega)
    clear c2
    by_cases c3 : (l0_0.length : Int) ≤ 40
    · rw [if_pos c3] at H
      have c3b0 : decide ((l0_0.length : Int) ≤ 40) = true := decide_eq_true c3
      have c3b1 : decide (l0_0.length ≤ 40) = true := decide_eq_true (by omega)
      clear c3
      obtain rfl := Option.some.inj H
      go_enter Tryd.func19, Tryd.ntmps19
      go_wp2_with (first | ((with_reducible refine gate_dst (N := 1) rfl ?_); (try (refine gate_guard (by rfl) ?_; dsimp only)); refine box_event ?hg (N := 1) ?hd (cs := #[.slice A0_0 l0_0.length c0_0, .slice A0_1 l0_1.length c0_1, .int .u64 a0_2, .int .u8 a0_3, .int .u8 a0_4]) (t := 40) ?hr ?_; (case hd => rfl); (case hg => rfl); (case hr => first | (go_simp; done) | (go_simp; rfl)); intro gb137 hg w4 hbox hb; have n0_ := Aside0.mk (below_step (by repeat (first | (with_reducible first | exact HB.out | apply below_alloc | apply pw_below_drewN | apply below_drew1) | exact HB.out)) hb); have n1_ := Aside0.mk (hbox); have n2_ := Aside0.mk ((by rw [hg]; exact (below_size (by repeat (first | (with_reducible first | exact HB.out | apply below_alloc | apply pw_below_drewN | apply below_drew1) | exact HB.out))) : w.heap.size ≤ gb137)); have n3_ := Aside0.mk ((by rw [hg]; exact (below_size (by repeat (first | (with_reducible first | exact HB.out | apply below_alloc | apply pw_below_drewN | apply below_drew1) | exact HB.out))) : w.heap.size ≤ gb137)); clear HB; have HB := n0_; have BK137 := n1_; have GW137 := n2_; have GE137 := n3_; clear n0_ n1_ n2_ n3_; clear hb hbox hg; have hcz5_0 : w4.cell? ⟨gb137, 0, none⟩ = some (.slice A0_0 l0_0.length c0_0) := (blk_cell BK137.out 0).trans rfl; have hcz5_1 : w4.cell? ⟨gb137, 1, none⟩ = some (.slice A0_1 l0_1.length c0_1) := (blk_cell BK137.out 1).trans rfl; have hcz5_2 : w4.cell? ⟨gb137, 2, none⟩ = some (.int .u64 a0_2) := (blk_cell BK137.out 2).trans rfl; have hcz5_3 : w4.cell? ⟨gb137, 3, none⟩ = some (.int .u8 a0_3) := (blk_cell BK137.out 3).trans rfl; have hcz5_4 : w4.cell? ⟨gb137, 4, none⟩ = some (.int .u8 a0_4) := (blk_cell BK137.out 4).trans rfl; have hfz5_0 := blk_frozen BK137.out 0; have hfz5_1 := blk_frozen BK137.out 1; have hfz5_2 := blk_frozen BK137.out 2; have hfz5_3 := blk_frozen BK137.out 3; have hfz5_4 := blk_frozen BK137.out 4))
      go_ret
      exact ⟨by first | rfl | (simp [errW_none, errW_some] <;> rfl) | (simp [*, errW_none, errW_some] <;> rfl), by repeat (first | (with_reducible first | exact HB.out | apply below_alloc | apply pw_below_drewN | apply below_drew1 | refine below_set ?_ GE137.out) | exact HB.out)⟩
    · rw [if_neg c3] at H
      have c3b0 : decide ((l0_0.length : Int) ≤ 40) = false := decide_eq_false c3
      have c3b1 : decide (l0_0.length ≤ 40) = false := decide_eq_false (by omega)
      clear c3
      obtain rfl := Option.some.inj H
      go_enter Tryd.func19, Tryd.ntmps19
      go_wp2_with (first | ((with_reducible refine gate_dst (N := 1) rfl ?_); (try (refine gate_guard (by rfl) ?_; dsimp only)); refine box_event ?hg (N := 1) ?hd (cs := #[.slice A0_0 l0_0.length c0_0, .slice A0_1 l0_1.length c0_1, .int .u64 a0_2, .int .u8 a0_3, .int .u8 a0_4]) (t := 40) ?hr ?_; (case hd => rfl); (case hg => rfl); (case hr => first | (go_simp; done) | (go_simp; rfl)); intro gb137 hg w6 hbox hb; have n0_ := Aside0.mk (below_step (by repeat (first | (with_reducible first | exact HB.out | apply below_alloc | apply pw_below_drewN | apply below_drew1) | exact HB.out)) hb); have n1_ := Aside0.mk (hbox); have n2_ := Aside0.mk ((by rw [hg]; exact (below_size (by repeat (first | (with_reducible first | exact HB.out | apply below_alloc | apply pw_below_drewN | apply below_drew1) | exact HB.out))) : w.heap.size ≤ gb137)); have n3_ := Aside0.mk ((by rw [hg]; exact (below_size (by repeat (first | (with_reducible first | exact HB.out | apply below_alloc | apply pw_below_drewN | apply below_drew1) | exact HB.out))) : w.heap.size ≤ gb137)); clear HB; have HB := n0_; have BK137 := n1_; have GW137 := n2_; have GE137 := n3_; clear n0_ n1_ n2_ n3_; clear hb hbox hg; have hcz7_0 : w6.cell? ⟨gb137, 0, none⟩ = some (.slice A0_0 l0_0.length c0_0) := (blk_cell BK137.out 0).trans rfl; have hcz7_1 : w6.cell? ⟨gb137, 1, none⟩ = some (.slice A0_1 l0_1.length c0_1) := (blk_cell BK137.out 1).trans rfl; have hcz7_2 : w6.cell? ⟨gb137, 2, none⟩ = some (.int .u64 a0_2) := (blk_cell BK137.out 2).trans rfl; have hcz7_3 : w6.cell? ⟨gb137, 3, none⟩ = some (.int .u8 a0_3) := (blk_cell BK137.out 3).trans rfl; have hcz7_4 : w6.cell? ⟨gb137, 4, none⟩ = some (.int .u8 a0_4) := (blk_cell BK137.out 4).trans rfl; have hfz7_0 := blk_frozen BK137.out 0; have hfz7_1 := blk_frozen BK137.out 1; have hfz7_2 := blk_frozen BK137.out 2; have hfz7_3 := blk_frozen BK137.out 3; have hfz7_4 := blk_frozen BK137.out 4))
      go_ret
      exact ⟨by first | rfl | (simp [errW_none, errW_some] <;> rfl) | (simp [*, errW_none, errW_some] <;> rfl), by repeat (first | (with_reducible first | exact HB.out | apply below_alloc | apply pw_below_drewN | apply below_drew1 | refine below_set ?_ GE137.out) | exact HB.out)⟩
  · rw [if_neg c2] at H
    have c2b0 : decide (1 ≤ (l0_0.length : Int)) = false := decide_eq_false c2
    have c2b1 : decide (1 ≤ l0_0.length) = false := decide_eq_false (by omega)
    clear c2
    obtain rfl := Option.some.inj H
    go_enter Tryd.func19, Tryd.ntmps19
    go_wp2_with (first | ((with_reducible refine gate_dst (N := 1) rfl ?_); (try (refine gate_guard (by rfl) ?_; dsimp only)); refine box_event ?hg (N := 1) ?hd (cs := #[.slice A0_0 l0_0.length c0_0, .slice A0_1 l0_1.length c0_1, .int .u64 a0_2, .int .u8 a0_3, .int .u8 a0_4]) (t := 40) ?hr ?_; (case hd => rfl); (case hg => rfl); (case hr => first | (go_simp; done) | (go_simp; rfl)); intro gb137 hg w8 hbox hb; have n0_ := Aside0.mk (below_step (by repeat (first | (with_reducible first | exact HB.out | apply below_alloc | apply pw_below_drewN | apply below_drew1) | exact HB.out)) hb); have n1_ := Aside0.mk (hbox); have n2_ := Aside0.mk ((by rw [hg]; exact (below_size (by repeat (first | (with_reducible first | exact HB.out | apply below_alloc | apply pw_below_drewN | apply below_drew1) | exact HB.out))) : w.heap.size ≤ gb137)); have n3_ := Aside0.mk ((by rw [hg]; exact (below_size (by repeat (first | (with_reducible first | exact HB.out | apply below_alloc | apply pw_below_drewN | apply below_drew1) | exact HB.out))) : w.heap.size ≤ gb137)); clear HB; have HB := n0_; have BK137 := n1_; have GW137 := n2_; have GE137 := n3_; clear n0_ n1_ n2_ n3_; clear hb hbox hg; have hcz9_0 : w8.cell? ⟨gb137, 0, none⟩ = some (.slice A0_0 l0_0.length c0_0) := (blk_cell BK137.out 0).trans rfl; have hcz9_1 : w8.cell? ⟨gb137, 1, none⟩ = some (.slice A0_1 l0_1.length c0_1) := (blk_cell BK137.out 1).trans rfl; have hcz9_2 : w8.cell? ⟨gb137, 2, none⟩ = some (.int .u64 a0_2) := (blk_cell BK137.out 2).trans rfl; have hcz9_3 : w8.cell? ⟨gb137, 3, none⟩ = some (.int .u8 a0_3) := (blk_cell BK137.out 3).trans rfl; have hcz9_4 : w8.cell? ⟨gb137, 4, none⟩ = some (.int .u8 a0_4) := (blk_cell BK137.out 4).trans rfl; have hfz9_0 := blk_frozen BK137.out 0; have hfz9_1 := blk_frozen BK137.out 1; have hfz9_2 := blk_frozen BK137.out 2; have hfz9_3 := blk_frozen BK137.out 3; have hfz9_4 := blk_frozen BK137.out 4))
    go_ret
    exact ⟨by first | rfl | (simp [errW_none, errW_some] <;> rfl) | (simp [*, errW_none, errW_some] <;> rfl), by repeat (first | (with_reducible first | exact HB.out | apply below_alloc | apply pw_below_drewN | apply below_drew1 | refine below_set ?_ GE137.out) | exact HB.out)⟩

end Go.Proofs.YtbbncbjdpopkiaaDoorQ.QL
