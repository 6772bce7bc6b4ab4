-- Lines that a program has printed for this claim: functions as plain Lean functions, and their walks.
import Derived.Test.YtbbncbjdpopkiaaDoorQL0
import Derived.Test.YtbbncbjdpopkiaaDoorQL3
namespace Go.Proofs.YtbbncbjdpopkiaaDoorQ.QL
open Go.RowKit Go.Proofs.YtbbncbjdpopkiaaDoorQ.Ext Go.Proofs.YtbbncbjdpopkiaaDoorW.PrintWords Go.Proofs.YtbbncbjdpopkiaaDoorW.PrintLast Go.Proofs.YtbbncbjdpopkiaaDoorW.PrintMore
attribute [local go_sem] max2_int min2_int max_two min_two max_three min_three max_four min_four   -- for this text's walks alone
set_option linter.unusedVariables false
set_option linter.unusedSimpArgs false

/-! ### spec_LogRecs: function 24 -/
def spec_LogRecs.l0 : Nat → List (S40) → List (S80) → Int → Int → Option ((List (S40)))
  | 0, _, _, _, _ => none
  | k + 1, x3, x7, x8, x9 => if x9 < x8 then (if 0 ≤ x9 then (if x9 < (x7.length : Int) then ((spec_Unit_written.f k ((rd_T80 x7 x9).f0) ((rd_T80 x7 x9).f1) ((rd_T80 x7 x9).f2) ((rd_T80 x7 x9).f3)).bind fun t184 => (if x3.length + t184.length < 2199023255552 then (spec_LogRecs.l0 k (x3 ++ t184) x7 x8 (wrap64 (x9 + 1))) else (none))) else (none)) else (none)) else (some x3)
def spec_LogRecs.f (k : Nat) (l0 : List (S80)) : Option ((List (S40))) := spec_LogRecs.l0 k (([] : List (S40))) l0 (l0.length : Int) 0
theorem spec_LogRecs.mono_l : ∀ k, (∀ y0 y1 y2 y3, LeO (spec_LogRecs.l0 k y0 y1 y2 y3) (spec_LogRecs.l0 (k + 1) y0 y1 y2 y3))
  | 0 => fun _ _ _ _ r h => by simp [spec_LogRecs.l0] at h
  | k + 1 => by
    have ih0 := spec_LogRecs.mono_l k
    · intro y0 y1 y2 y3
      unfold spec_LogRecs.l0
      repeat' first
      | (with_reducible exact ih0 _ _ _ _)
      | (with_reducible exact spec_Unit_written.mono _ _ _ _ _)
      | (with_reducible exact LeO.refl _)
      | (with_reducible exact LeO.none _)
      | (with_reducible refine LeO.ite ?_ ?_)
      | (with_reducible refine LeO.bind ?_ (fun _ => ?_))
      | exact ih0 _ _ _ _
      | exact spec_Unit_written.mono _ _ _ _ _
      | exact LeO.none _
      | refine LeO.ite ?_ ?_
      | refine LeO.bind ?_ (fun _ => ?_)
theorem spec_LogRecs.mono : ∀ a0 k, LeO (spec_LogRecs.f k a0) (spec_LogRecs.f (k + 1) a0) := by
  intro a0 k
  have ih0 := spec_LogRecs.mono_l k
  unfold spec_LogRecs.f
  repeat' first
      | (with_reducible exact ih0 _ _ _ _)
      | (with_reducible exact spec_Unit_written.mono _ _ _ _ _)
      | (with_reducible exact LeO.refl _)
      | (with_reducible exact LeO.none _)
      | (with_reducible refine LeO.ite ?_ ?_)
      | (with_reducible refine LeO.bind ?_ (fun _ => ?_))
      | exact ih0 _ _ _ _
      | exact spec_Unit_written.mono _ _ _ _ _
      | exact LeO.none _
      | refine LeO.ite ?_ ?_
      | refine LeO.bind ?_ (fun _ => ?_)
set_option maxHeartbeats 8000000 in
set_option maxRecDepth 100000 in
theorem spec_LogRecs.calls (k : Nat) (P0_ : Nat → Prop) (A0 : Option Addr) (c0 : Nat) (l0 : List (S80)) (r : List (S40)) (w : World) (hs0 : Kd.V k80 80 w w.heap.size (fun k_ => P0_ k_) (.slice A0 l0.length c0) l0) (h : spec_LogRecs.f k l0 = some r) :
    Calls Tryd.prog 24 #[.slice A0 l0.length c0] w fun e w' => ∃ v0_ : Value, e = .returned (v0_) ∧ Kd.N k40 40 w' w.heap.size (fun k_ => (P0_ k_ ∨ w.heap.size ≤ k_)) v0_ r ∧ Below w.heap.size w w' := by
  have hu80 := Tryd.underlying80
  have HO0 := Aside0.mk (show Kd.V k80 80 w w.heap.size (fun k_ => (P0_ k_ ∨ w.heap.size ≤ k_)) (.slice A0 l0.length c0) l0 from Kd.V_mono hs0 (fun k_ hk => .inl hk))
  have HB := Aside0.mk (Below.refl w.heap.size w)
  have H : (spec_LogRecs.l0 k (([] : List (S40))) l0 (l0.length : Int) 0) = some r := h
  clear h
  obtain ⟨y179, hy179⟩ : ∃ y_ : List (S40), y_ = (([] : List (S40))) := ⟨_, rfl⟩
  replace H : (spec_LogRecs.l0 k y179 l0 (l0.length : Int) 0) = some r := by first | (rw [hy179]; with_reducible exact H) | (have H2_ := (Option.bind_some _ _).symm.trans H; rw [hy179]; with_reducible exact H2_) | (have H2_ := (Option.bind_some _ _).symm.trans H; with_reducible exact H2_) | with_reducible exact H | (rw [hy179]; exact H) | exact H
  have Ny179 := Aside0.mk hy179
  clear hy179
  have H' := Aside0.mk H
  clear H
  go_enter Tryd.func24, Tryd.ntmps24
  go_wp2_with (first | ((with_reducible refine gate_dst (N := 6) rfl ?_); refine Kd.N_lit k40 _ 40 ?hg (N' := 6) ?hd (xs := ([] : List (S40))) (inner := []) (ok := (fun k_ => (P0_ k_ ∨ w.heap.size ≤ k_))) (okp := (fun k_ => (P0_ k_ ∨ w.heap.size ≤ k_))) ?hr ?hp (fun _ hk => hk) ((show ∀ k_, w.heap.size ≤ k_ → (fun k_ => (P0_ k_ ∨ w.heap.size ≤ k_)) k_ from fun k_ hk => (.inr (Nat.le_trans (below_size (by repeat (first | (with_reducible first | exact HB.out | apply below_alloc | apply pw_below_drewN | apply below_drew1) | exact HB.out))) hk))) _ (Nat.le_refl _)) (Below.refl _ _) (Nat.le_refl _) (by simp) ?_; (case hd => rfl); (case hg => rfl); (case hr => first | (go_simp; done) | (go_simp; rfl)); (case hp => exact (Reps.none _ _)); intro v180 w2 ho3 hb hg_ hnew_; clear hg_ hnew_; (first | rw [← Ny179.out] at ho3 | (simp only [Int.reduceToNat] at ho3; rw [← Ny179.out] at ho3)); have n0_ := Aside0.mk (Kd.V_elder' (by (with_reducible repeat (first | apply Kd.V_alloc | apply Kd.V_drewN | apply Kd.V_drew)); exact HO0.out) (Kd.N_base ho3) hb); have n1_ := Aside0.mk (Kd.N_lower ho3 (below_size (by repeat (first | (with_reducible first | exact HB.out | apply below_alloc | apply pw_below_drewN | apply below_drew1) | exact HB.out)))); have n2_ := Aside0.mk (below_step (by repeat (first | (with_reducible first | exact HB.out | apply below_alloc | apply pw_below_drewN | apply below_drew1) | exact HB.out)) hb); clear HO0; clear HB; have HO0 := n0_; have HO181 := n1_; have HB := n2_; clear n0_ n1_ n2_; clear hb ho3))
  go_loopg [3, 9] k (fun kq v3 v9 w' => ∃ (x3_1 : List (S40)) (x9_1 : Int), v9 = .int .i64 x9_1 ∧ Aside0 (spec_LogRecs.l0 kq x3_1 l0 (l0.length : Int) x9_1 = some r) ∧ Aside0 (kq ≤ k) ∧ Aside0 (Kd.N k40 40 w' w.heap.size (fun k_ => (P0_ k_ ∨ w.heap.size ≤ k_)) v3 x3_1) ∧ Aside0 (Kd.V k80 80 w' w.heap.size (fun k_ => (P0_ k_ ∨ w.heap.size ≤ k_) ∧ some k_ ≠ (v3 : Value).ownBlock) (.slice A0 l0.length c0) l0) ∧ Aside0 (Below w.heap.size w w'))
  case atStart => exact ⟨(y179), (0), (by first | rfl | (simp; done) | (simp [*]; done)), H', ⟨Nat.le_refl _⟩, ⟨by (with_reducible repeat (first | apply Kd.N_alloc | apply Kd.N_drewN | apply Kd.N_drew)); exact HO181.out⟩, ⟨by (with_reducible repeat (first | apply Kd.V_alloc | apply Kd.V_drewN | apply Kd.V_drew)); exact HO0.out⟩, ⟨by repeat (first | (with_reducible first | exact HB.out | apply below_alloc | apply pw_below_drewN | apply below_drew1) | exact HB.out)⟩⟩
  case round =>
    clear H'
    try clear c2
    try clear p2
    obtain ⟨x3_1, x9_1, rfl, HA, HK1, HO_3, HO_7, HB⟩ := hrel
    cases gk with
    | zero => exact absurd HA.out (by simp [spec_LogRecs.l0])
    | succ k1 =>
      have H := HA.out
      clear HA
      simp only [spec_LogRecs.l0] at H
      by_cases c4 : x9_1 < (l0.length : Int)
      · rw [if_pos c4] at H
        have c4b0 : decide (x9_1 < (l0.length : Int)) = true := decide_eq_true c4
        clear c4
        by_cases c5 : 0 ≤ x9_1
        · rw [if_pos c5] at H
          have c5b0 : decide (0 ≤ x9_1) = true := decide_eq_true c5
          clear c5
          by_cases c6 : x9_1 < (l0.length : Int)
          · rw [if_pos c6] at H
            have c6b0 : decide (x9_1 < (l0.length : Int)) = true := decide_eq_true c6
            clear c6
            replace H := Option.bind_eq_some_iff.mp H
            obtain ⟨t184, A70, H⟩ := H
            replace H : (if x3_1.length + t184.length < 2199023255552 then (spec_LogRecs.l0 k1 (x3_1 ++ t184) l0 (l0.length : Int) (wrap64 (x9_1 + 1))) else (none)) = some r := H
            have A7 := Aside0.mk A70
            clear A70
            by_cases c8 : x3_1.length + t184.length < 2199023255552
            · rw [if_pos c8] at H
              have LMc8 := Aside0.mk c8
              clear c8
              obtain ⟨y187, hy187⟩ : ∃ y_ : List (S40), y_ = (x3_1 ++ t184) := ⟨_, rfl⟩
              replace H : (spec_LogRecs.l0 k1 y187 l0 (l0.length : Int) (wrap64 (x9_1 + 1))) = some r := by first | (rw [hy187]; with_reducible exact H) | (have H2_ := (Option.bind_some _ _).symm.trans H; rw [hy187]; with_reducible exact H2_) | (have H2_ := (Option.bind_some _ _).symm.trans H; with_reducible exact H2_) | with_reducible exact H | (rw [hy187]; exact H) | exact H
              have Ny187 := Aside0.mk hy187
              clear hy187
              have H' := Aside0.mk H
              clear H
              have p182 : 0 ≤ (x9_1 : Int) := of_decide_eq_true (by first | (with_reducible assumption) | assumption)
              have q182 : x9_1 < (l0.length : Int) := of_decide_eq_true (by first | (with_reducible assumption) | assumption)
              obtain ⟨ad182, A182_0, c182_0, e182, hx182_0, hx182_1, hx182_2, hx182_3, hl182_0, hi182_0⟩ := at_T80 (Kd.V_reads' HO_7.out).2.2 x9_1 p182 q182
              cases e182
              obtain ⟨ce182, hce182, hMe182, hcc182⟩ := Kd.V_get HO_7.out z80 x9_1 p182 (by first | exact q182 | exact of_decide_eq_true (by first | (with_reducible assumption) | assumption) | (have e_ := (Kd.V_reads' HO_7.out).1; omega))
              obtain ⟨ua182_0, uc182_0, rfl, ul182_0, ge182_0⟩ := k80_openF hMe182
              have hv182_0 := hcc182 0 _ rfl
              rw [Nat.add_zero] at hv182_0
              replace hv182_0 := Option.some.inj (hv182_0.symm.trans hx182_0)
              injection hv182_0 with hva_ hvn_ hvc_
              rw [hva_] at ge182_0
              rw [hvc_] at ul182_0
              have HL182_0 := Aside0.mk (show Kd.V k40 40 _ w.heap.size _ _ ((rd_T80 l0 x9_1).f0) from Kd.V_mk ul182_0 ge182_0)
              clear hva_ hvn_ hvc_ ge182_0 ul182_0
              clear hcc182 hce182
              have HR182_0 := Aside0.mk hi182_0
              have HC182_0 := Aside0.mk hl182_0
              clear hi182_0 hl182_0
              replace p182 := eq_true p182
              replace q182 := eq_true q182
              go_wp2_with (first | ((with_reducible refine gate_dst (N := 5) rfl ?_); refine box_event ?hg (N := 5) ?hd (cs := #[.slice none 0 0, .bool false, .int .u64 0, .bool false]) (t := 80) ?hr ?_; (case hd => rfl); (case hg => rfl); (case hr => first | (go_simp; done) | (go_simp; rfl)); intro gb183 hg w9 hbox hb; have n0_ := Aside0.mk (Kd.N_below (Kd.N_elderB (by (with_reducible repeat (first | apply Kd.N_alloc | apply Kd.N_drewN | apply Kd.N_drew)); exact HO_3.out) gb183 (Nat.le_of_eq hg.symm)) hb); have n1_ := Aside0.mk (Kd.V_below (Kd.V_elderB (by (with_reducible repeat (first | apply Kd.V_alloc | apply Kd.V_drewN | apply Kd.V_drew)); exact HO_7.out) gb183 (Nat.le_of_eq hg.symm)) hb); have n2_ := Aside0.mk (Kd.V_below (Kd.V_elderB (by (with_reducible repeat (first | apply Kd.V_alloc | apply Kd.V_drewN | apply Kd.V_drew)); exact HL182_0.out) gb183 (Nat.le_of_eq hg.symm)) hb); (first | (have n3_ := Aside0.mk (Kd.C_below (by repeat (first | (with_reducible exact HR182_0.out) | (with_reducible refine Kd.C_alloc ?_ _) | (with_reducible refine Kd.C_drewN ?_ _) | (with_reducible refine Kd.C_drew ?_) | exact HR182_0.out)) hb)) | (have n3_ := Aside0.mk trivial)); have n4_ := Aside0.mk (below_step (by repeat (first | (with_reducible first | exact HB.out | apply below_alloc | apply pw_below_drewN | apply below_drew1) | exact HB.out)) hb); have n5_ := Aside0.mk (hbox); have n6_ := Aside0.mk ((by rw [hg]; exact (below_size (by repeat (first | (with_reducible first | exact HB.out | apply below_alloc | apply pw_below_drewN | apply below_drew1) | exact HB.out))) : w.heap.size ≤ gb183)); have n7_ := Aside0.mk ((by rw [hg]; exact (below_size (by repeat (first | (with_reducible first | exact HB.out | apply below_alloc | apply pw_below_drewN | apply below_drew1) | exact HB.out))) : w.heap.size ≤ gb183)); clear HO_3; clear HO_7; clear HL182_0; clear HR182_0; clear HB; have HO_3 := n0_; have HO_7 := n1_; have HL182_0 := n2_; have HR182_0 := n3_; have HB := n4_; have BK183 := n5_; have GW183 := n6_; have GE183 := n7_; clear n0_ n1_ n2_ n3_ n4_ n5_ n6_ n7_; clear hb hbox hg; have hcz10_0 : w9.cell? ⟨gb183, 0, none⟩ = some (.slice none 0 0) := (blk_cell BK183.out 0).trans rfl; have hcz10_1 : w9.cell? ⟨gb183, 1, none⟩ = some (.bool false) := (blk_cell BK183.out 1).trans rfl; have hcz10_2 : w9.cell? ⟨gb183, 2, none⟩ = some (.int .u64 0) := (blk_cell BK183.out 2).trans rfl; have hcz10_3 : w9.cell? ⟨gb183, 3, none⟩ = some (.bool false) := (blk_cell BK183.out 3).trans rfl; have hfz10_0 := blk_frozen BK183.out 0; have hfz10_1 := blk_frozen BK183.out 1; have hfz10_2 := blk_frozen BK183.out 2; have hfz10_3 := blk_frozen BK183.out 3) | ((with_reducible refine gate_store (t := 80) (p := 5) rfl ?_); refine store_event (t := 80) (p := 5) (v := ?vo_w11) (w1 := ((((w9.setCell ⟨gb183, 0, none⟩ (.slice A182_0 ((rd_T80 l0 x9_1).f0).length c182_0)).setCell ⟨gb183, 1, none⟩ (.bool ((rd_T80 l0 x9_1).f1))).setCell ⟨gb183, 2, none⟩ (.int .u64 ((rd_T80 l0 x9_1).f2))).setCell ⟨gb183, 3, none⟩ (.bool ((rd_T80 l0 x9_1).f3)))) ?hg ?ho ?hn ?hr ?_; (case ho => rfl); (case hg => rfl); (case hn => rfl); (case hr => first | (go_simp; done) | (go_simp; rfl)); intro w11 hw; have n0_ : Aside0 (Kd.N k40 40 w11 w.heap.size (fun k_ => (P0_ k_ ∨ w.heap.size ≤ k_) ∧ k_ ≠ gb183) u3 x3_1) := ⟨(by rw [hw]; exact (by (with_reducible repeat (first | apply Kd.N_alloc | apply Kd.N_drewN | apply Kd.N_drew)); exact Kd.N_mono (Kd.N_far (p := ⟨gb183, 3, none⟩) (Kd.N_far (p := ⟨gb183, 2, none⟩) (Kd.N_far (p := ⟨gb183, 1, none⟩) (Kd.N_far (p := ⟨gb183, 0, none⟩) (Kd.N_mono HO_3.out (fun k_ hk => (⟨hk, hk.2⟩ : _ ∧ k_ ≠ gb183))) (fun _ hk => hk.2) (.slice A182_0 ((rd_T80 l0 x9_1).f0).length c182_0)) (fun _ hk => hk.2) (.bool ((rd_T80 l0 x9_1).f1))) (fun _ hk => hk.2) (.int .u64 ((rd_T80 l0 x9_1).f2))) (fun _ hk => hk.2) (.bool ((rd_T80 l0 x9_1).f3))) (fun _ hk => ⟨hk.1.1, hk.1.2⟩)))⟩; have n1_ : Aside0 (Kd.V k80 80 w11 w.heap.size (fun k_ => (P0_ k_ ∨ w.heap.size ≤ k_) ∧ some k_ ≠ (u3 : Value).ownBlock ∧ k_ ≠ gb183) (.slice (some ad182) l0.length c0) l0) := ⟨(by rw [hw]; exact (by (with_reducible repeat (first | apply Kd.V_alloc | apply Kd.V_drewN | apply Kd.V_drew)); exact Kd.V_mono (Kd.V_far (p := ⟨gb183, 3, none⟩) (Kd.V_far (p := ⟨gb183, 2, none⟩) (Kd.V_far (p := ⟨gb183, 1, none⟩) (Kd.V_far (p := ⟨gb183, 0, none⟩) (Kd.V_mono HO_7.out (fun k_ hk => (⟨hk, hk.2⟩ : _ ∧ k_ ≠ gb183))) (fun _ hk => hk.2) (.slice A182_0 ((rd_T80 l0 x9_1).f0).length c182_0)) (fun _ hk => hk.2) (.bool ((rd_T80 l0 x9_1).f1))) (fun _ hk => hk.2) (.int .u64 ((rd_T80 l0 x9_1).f2))) (fun _ hk => hk.2) (.bool ((rd_T80 l0 x9_1).f3))) (fun _ hk => ⟨hk.1.1.1, ⟨hk.1.1.2, hk.1.2⟩⟩)))⟩; have n2_ : Aside0 (Kd.V k40 40 w11 w.heap.size (fun k_ => (P0_ k_ ∨ w.heap.size ≤ k_) ∧ some k_ ≠ (u3 : Value).ownBlock ∧ k_ ≠ gb183) (.slice A182_0 ((rd_T80 l0 x9_1).f0).length c182_0) ((rd_T80 l0 x9_1).f0)) := ⟨(by rw [hw]; exact (by (with_reducible repeat (first | apply Kd.V_alloc | apply Kd.V_drewN | apply Kd.V_drew)); exact Kd.V_mono (Kd.V_far (p := ⟨gb183, 3, none⟩) (Kd.V_far (p := ⟨gb183, 2, none⟩) (Kd.V_far (p := ⟨gb183, 1, none⟩) (Kd.V_far (p := ⟨gb183, 0, none⟩) (Kd.V_mono HL182_0.out (fun k_ hk => (⟨hk, hk.2⟩ : _ ∧ k_ ≠ gb183))) (fun _ hk => hk.2) (.slice A182_0 ((rd_T80 l0 x9_1).f0).length c182_0)) (fun _ hk => hk.2) (.bool ((rd_T80 l0 x9_1).f1))) (fun _ hk => hk.2) (.int .u64 ((rd_T80 l0 x9_1).f2))) (fun _ hk => hk.2) (.bool ((rd_T80 l0 x9_1).f3))) (fun _ hk => ⟨hk.1.1.1, ⟨hk.1.1.2, hk.1.2⟩⟩)))⟩; have n3_ : Aside0 (w11.heap[gb183]? = some (.cells #[.slice A182_0 ((rd_T80 l0 x9_1).f0).length c182_0, .bool ((rd_T80 l0 x9_1).f1), .int .u64 ((rd_T80 l0 x9_1).f2), .bool ((rd_T80 l0 x9_1).f3)] 80 (0, 0))) := ⟨(by rw [hw]; exact (by (with_reducible repeat (first | refine blk_drewN ?_ _ | refine blk_drew ?_ | refine blk_alloc ?_ _)); refine blk_put (cs := #[.slice A182_0 ((rd_T80 l0 x9_1).f0).length c182_0, .bool ((rd_T80 l0 x9_1).f1), .int .u64 ((rd_T80 l0 x9_1).f2), .bool false]) ?_ 3 _ rfl; (with_reducible repeat (first | refine blk_drewN ?_ _ | refine blk_drew ?_ | refine blk_alloc ?_ _)); refine blk_put (cs := #[.slice A182_0 ((rd_T80 l0 x9_1).f0).length c182_0, .bool ((rd_T80 l0 x9_1).f1), .int .u64 0, .bool false]) ?_ 2 _ rfl; (with_reducible repeat (first | refine blk_drewN ?_ _ | refine blk_drew ?_ | refine blk_alloc ?_ _)); refine blk_put (cs := #[.slice A182_0 ((rd_T80 l0 x9_1).f0).length c182_0, .bool false, .int .u64 0, .bool false]) ?_ 1 _ rfl; (with_reducible repeat (first | refine blk_drewN ?_ _ | refine blk_drew ?_ | refine blk_alloc ?_ _)); refine blk_put (cs := #[.slice none 0 0, .bool false, .int .u64 0, .bool false]) ?_ 0 _ rfl; (with_reducible repeat (first | refine blk_drewN ?_ _ | refine blk_drew ?_ | refine blk_alloc ?_ _)); exact BK183.out))⟩; have n4_ : Aside0 (Below w.heap.size w w11) := ⟨(by rw [hw]; exact (by repeat (first | (with_reducible first | exact HB.out | apply below_alloc | apply pw_below_drewN | apply below_drew1 | refine below_set ?_ GE183.out) | exact HB.out)))⟩; clear hw; clear HO_3; clear HO_7; clear HL182_0; clear BK183; clear HB; have HO_3 := n0_; have HO_7 := n1_; have HL182_0 := n2_; have BK183 := n3_; have HB := n4_; clear n0_ n1_ n2_ n3_ n4_; have hcz12_0 : w11.cell? ⟨gb183, 0, none⟩ = some (.slice A182_0 ((rd_T80 l0 x9_1).f0).length c182_0) := (blk_cell BK183.out 0).trans rfl; have hcz12_1 : w11.cell? ⟨gb183, 1, none⟩ = some (.bool ((rd_T80 l0 x9_1).f1)) := (blk_cell BK183.out 1).trans rfl; have hcz12_2 : w11.cell? ⟨gb183, 2, none⟩ = some (.int .u64 ((rd_T80 l0 x9_1).f2)) := (blk_cell BK183.out 2).trans rfl; have hcz12_3 : w11.cell? ⟨gb183, 3, none⟩ = some (.bool ((rd_T80 l0 x9_1).f3)) := (blk_cell BK183.out 3).trans rfl; have hfz12_0 := blk_frozen BK183.out 0; have hfz12_1 := blk_frozen BK183.out 1; have hfz12_2 := blk_frozen BK183.out 2; have hfz12_3 := blk_frozen BK183.out 3) | ((with_reducible refine gate_callee (f := 44) rfl ?_); refine goesL_ (some 15) rfl rfl Tryd.func44 (by kernel_rfl) rfl #[.agg #[.slice A182_0 ((rd_T80 l0 x9_1).f0).length c182_0, .bool ((rd_T80 l0 x9_1).f1), .int .u64 ((rd_T80 l0 x9_1).f2), .bool ((rd_T80 l0 x9_1).f3)]] rfl (by (try simp only [List.map_toArray, List.map_cons, List.map_nil]); first | done | rfl | (simp only [List.length_drop, List.length_take]; rfl)) ?_; (with_reducible refine (spec_Unit_written.calls k1 (fun k_ => ((P0_ k_ ∨ w.heap.size ≤ k_) ∧ (some k_ ≠ (u3 : Value).ownBlock ∧ k_ ≠ gb183))) _ _ ((rd_T80 l0 x9_1).f0) ((rd_T80 l0 x9_1).f1) ((rd_T80 l0 x9_1).f2) ((rd_T80 l0 x9_1).f3) t184 _ ?side1 A7.out).mono ?_); (case side1 => exact HL182_0.out); rintro e w13 ⟨v185, rfl, ho0, hb⟩; refine ⟨_, rfl, ?_⟩; have n0_ := Aside0.mk (Kd.N_elder' (by (with_reducible repeat (first | apply Kd.N_alloc | apply Kd.N_drewN | apply Kd.N_drew)); exact HO_3.out) (Kd.N_base ho0) hb); have n1_ := Aside0.mk (Kd.V_elder' (by (with_reducible repeat (first | apply Kd.V_alloc | apply Kd.V_drewN | apply Kd.V_drew)); exact HO_7.out) (Kd.N_base ho0) hb); have n2_ := Aside0.mk (Kd.V_elder' (by (with_reducible repeat (first | apply Kd.V_alloc | apply Kd.V_drewN | apply Kd.V_drew)); exact HL182_0.out) (Kd.N_base ho0) hb); have n3_ := Aside0.mk (Kd.N_lower (Kd.N_mono (ok' := fun k_ => (P0_ k_ ∨ w.heap.size ≤ k_) ∧ some k_ ≠ (u3 : Value).ownBlock ∧ k_ ≠ gb183) ho0 (fun k_ hk_ => ⟨Or.elim hk_ (fun hs_ => hs_.1) (fun hn_ => (.inr (Nat.le_trans (below_size (by repeat (first | (with_reducible first | exact HB.out | apply below_alloc | apply pw_below_drewN | apply below_drew1 | refine below_set ?_ GE183.out) | exact HB.out))) hn_))), Or.elim hk_ (fun hs_ => hs_.2.1) (fun hn_ => (Kd.fresh' (Kd.N_lt (by (with_reducible repeat (first | apply Kd.N_alloc | apply Kd.N_drewN | apply Kd.N_drew)); exact HO_3.out)) k_ hn_)), Or.elim hk_ (fun hs_ => hs_.2.2) (fun hn_ => (Kd.freshB (g := gb183) (o := .cells #[.slice A182_0 ((rd_T80 l0 x9_1).f0).length c182_0, .bool ((rd_T80 l0 x9_1).f1), .int .u64 ((rd_T80 l0 x9_1).f2), .bool ((rd_T80 l0 x9_1).f3)] 80 (0, 0)) (by (with_reducible repeat (first | refine blk_drewN ?_ _ | refine blk_drew ?_ | refine blk_alloc ?_ _)); exact BK183.out) k_ hn_))⟩)) (below_size (by repeat (first | (with_reducible first | exact HB.out | apply below_alloc | apply pw_below_drewN | apply below_drew1 | refine below_set ?_ GE183.out) | exact HB.out)))); (first | (have n4_ := Aside0.mk (Kd.C_below (by repeat (first | (with_reducible exact HR182_0.out) | (with_reducible refine Kd.C_alloc ?_ _) | (with_reducible refine Kd.C_drewN ?_ _) | (with_reducible refine Kd.C_drew ?_) | exact HR182_0.out)) hb)) | (have n4_ := Aside0.mk trivial)); have n5_ := Aside0.mk (blk_below (g := gb183) (o := .cells #[.slice A182_0 ((rd_T80 l0 x9_1).f0).length c182_0, .bool ((rd_T80 l0 x9_1).f1), .int .u64 ((rd_T80 l0 x9_1).f2), .bool ((rd_T80 l0 x9_1).f3)] 80 (0, 0)) (by (with_reducible repeat (first | refine blk_drewN ?_ _ | refine blk_drew ?_ | refine blk_alloc ?_ _)); exact BK183.out) hb); have n6_ := Aside0.mk (below_step (by repeat (first | (with_reducible first | exact HB.out | apply below_alloc | apply pw_below_drewN | apply below_drew1 | refine below_set ?_ GE183.out) | exact HB.out)) hb); clear HO_3; clear HO_7; clear HL182_0; clear HR182_0; clear BK183; clear HB; have HO_3 := n0_; have HO_7 := n1_; have HL182_0 := n2_; have HO186 := n3_; have HR182_0 := n4_; have BK183 := n5_; have HB := n6_; clear n0_ n1_ n2_ n3_ n4_ n5_ n6_; (try clear hb); (try clear hb2); (try clear hk); (try clear hi); (try clear ho0); obtain ⟨Ao15, co15, eo15⟩ := Kd.N_slice HO186.out; subst eo15) | ((with_reducible refine gate_builtin (b := .append) (xs := #[.tmp 13, .tmp 15]) rfl ?_); at_builtin; refine Kd.N_append_rows k40 (w0 := w) w.heap.size rfl (.tmp 13) (.tmp 15) 45 40 (.agg #[(.slice none 0 0), (.slice none 0 0), (.int .u64 0), (.int .u8 0), (.int .u8 0)]) 64 rfl Tryd.underlying45 info40 rfl (by decide) (by omega) u3 x3_1 t184 _ _ _ (fun k_ => (P0_ k_ ∨ w.heap.size ≤ k_) ∧ k_ ≠ gb183) (fun k_ => ((fun k_ => (P0_ k_ ∨ w.heap.size ≤ k_) ∧ k_ ≠ gb183)) k_ ∧ some k_ ≠ (u3 : Value).ownBlock) rfl rfl ?aO ?aR (fun _ hk => hk) ?aF ?aB ?aS ?aL ?_; (case aR => exact (by skip; exact Kd.N_F (Kd.N_mono (ok' := (fun k_ => ((fun k_ => (P0_ k_ ∨ w.heap.size ≤ k_) ∧ k_ ≠ gb183)) k_ ∧ some k_ ≠ (u3 : Value).ownBlock)) (HO186.out) (fun k_ hk => ⟨⟨hk.1, hk.2.2⟩, hk.2.1⟩)))); (case aB => exact (by repeat (first | (with_reducible first | exact HB.out | apply below_alloc | apply pw_below_drewN | apply below_drew1 | refine below_set ?_ GE183.out) | exact HB.out))); (case aF => exact (fun k_ hk => ⟨(.inr (Nat.le_trans (below_size (by repeat (first | (with_reducible first | exact HB.out | apply below_alloc | apply pw_below_drewN | apply below_drew1 | refine below_set ?_ GE183.out) | exact HB.out))) hk)), Kd.freshB (g := gb183) (o := .cells #[.slice A182_0 ((rd_T80 l0 x9_1).f0).length c182_0, .bool ((rd_T80 l0 x9_1).f1), .int .u64 ((rd_T80 l0 x9_1).f2), .bool ((rd_T80 l0 x9_1).f3)] 80 (0, 0)) (by (with_reducible repeat (first | refine blk_drewN ?_ _ | refine blk_drew ?_ | refine blk_alloc ?_ _)); exact BK183.out) k_ hk⟩)); (case aO => exact (by (with_reducible repeat (first | apply Kd.N_alloc | apply Kd.N_drewN | apply Kd.N_drew)); exact Kd.N_mono HO_3.out (fun _ hk => ⟨hk.1.1, hk.1.2⟩))); (case aS => exact (below_size (by repeat (first | (with_reducible first | exact HB.out | apply below_alloc | apply pw_below_drewN | apply below_drew1 | refine below_set ?_ GE183.out) | exact HB.out)))); (case aL => have := LMc8.out; omega); intro v188 w14 ho hb hg hat; rw [← Ny187.out] at ho; have n0_ := Aside0.mk (Kd.V_afterv (ok := (fun k_ => (P0_ k_ ∨ w.heap.size ≤ k_) ∧ some k_ ≠ (.slice Ao15 t184.length co15 : Value).ownBlock ∧ k_ ≠ gb183)) (by (with_reducible repeat (first | apply Kd.V_alloc | apply Kd.V_drewN | apply Kd.V_drew)); exact Kd.V_mono HO_7.out (fun _ hk => ⟨⟨hk.1.1, ⟨hk.2, hk.1.2.2⟩⟩, hk.1.2.1⟩)) hg hat); have n1_ := Aside0.mk (Kd.V_afterv (ok := (fun k_ => (P0_ k_ ∨ w.heap.size ≤ k_) ∧ some k_ ≠ (.slice Ao15 t184.length co15 : Value).ownBlock ∧ k_ ≠ gb183)) (by (with_reducible repeat (first | apply Kd.V_alloc | apply Kd.V_drewN | apply Kd.V_drew)); exact Kd.V_mono HL182_0.out (fun _ hk => ⟨⟨hk.1.1, ⟨hk.2, hk.1.2.2⟩⟩, hk.1.2.1⟩)) hg hat); have n2_ := Aside0.mk (blk_grown (g := gb183) (o := .cells #[.slice A182_0 ((rd_T80 l0 x9_1).f0).length c182_0, .bool ((rd_T80 l0 x9_1).f1), .int .u64 ((rd_T80 l0 x9_1).f2), .bool ((rd_T80 l0 x9_1).f3)] 80 (0, 0)) (by (with_reducible repeat (first | refine blk_drewN ?_ _ | refine blk_drew ?_ | refine blk_alloc ?_ _)); exact BK183.out) hg (Kd.N_ne HO_3.out BK183.out (by decide))); have n3_ := Aside0.mk (Kd.N_afterv (ok := (fun k_ => (P0_ k_ ∨ w.heap.size ≤ k_) ∧ k_ ≠ gb183)) (by (with_reducible repeat (first | apply Kd.N_alloc | apply Kd.N_drewN | apply Kd.N_drew)); exact Kd.N_mono HO186.out (fun _ hk => ⟨⟨hk.1, hk.2.2⟩, hk.2.1⟩)) hg hat); have n4_ := Aside0.mk (hb); have n5_ := Aside0.mk (ho); clear HO_7; clear HL182_0; clear BK183; clear HO186; clear HB; clear HO_3; have HO_7 := n0_; have HL182_0 := n1_; have BK183 := n2_; have HO186 := n3_; have HB := n4_; have HO189 := n5_; clear n0_ n1_ n2_ n3_ n4_ n5_; clear ho hb hg hat))
              go_roundg k1
              case measure => have := HK1.out; omega
              case rel => exact ⟨(y187), (wrap64 (x9_1 + 1)), (by first | rfl | (simp; done) | (simp [*]; done)), H', ⟨by have := HK1.out; omega⟩, ⟨by (with_reducible repeat (first | apply Kd.N_alloc | apply Kd.N_drewN | apply Kd.N_drew)); exact Kd.N_mono HO189.out (fun _ hk => hk.1)⟩, ⟨by (with_reducible repeat (first | apply Kd.V_alloc | apply Kd.V_drewN | apply Kd.V_drew)); exact Kd.V_mono HO_7.out (fun _ hk => ⟨hk.1.1, hk.2⟩)⟩, ⟨by repeat (first | (with_reducible first | exact HB.out | apply below_alloc | apply pw_below_drewN | apply below_drew1 | refine below_set ?_ GE183.out) | exact HB.out)⟩⟩
            · rw [if_neg c8] at H
              exact absurd H (by simp)
          · rw [if_neg c6] at H
            exact absurd H (by simp)
        · rw [if_neg c5] at H
          exact absurd H (by simp)
      · rw [if_neg c4] at H
        have c4b0 : decide (x9_1 < (l0.length : Int)) = false := decide_eq_false c4
        clear c4
        obtain rfl := Option.some.inj H
        go_wp2
        go_ret
        exact ⟨_, by first | rfl | (simp [errW_none, errW_some] <;> rfl) | (simp [*, errW_none, errW_some] <;> rfl), by (with_reducible repeat (first | apply Kd.N_alloc | apply Kd.N_drewN | apply Kd.N_drew)); exact HO_3.out, by repeat (first | (with_reducible first | exact HB.out | apply below_alloc | apply pw_below_drewN | apply below_drew1) | exact HB.out)⟩

/-! ### impl_givenRec: function 39 -/
def impl_givenRec.f (l0_0 : List Int) (l0_1 : List Int) (a0_2 : Int) (a0_3 : Int) (a0_4 : Int) : Option (List Int × List Int × Int × Int × Int) := (impl_own.f l0_0).bind fun t192 => ((impl_own.f l0_1).bind fun t195 => (some (t192, t195, a0_2, a0_3, a0_4)))
def impl_givenRec.T1 : Bool × List (List Nat × List Nat) := (true, [([], []), ([0], [0]), ([1], [1]), ([], []), ([3], [3]), ([4, 2], [4]), ([], []), ([6], [6]), ([], []), ([8], [8]), ([], []), ([10], [10]), ([2, 5, 7, 9, 11], [2, 5, 7, 9, 11]), ([12, 5, 0, 1, 2, 3, 4, 5, 6, 7, 8, 9, 10, 11, 12], [12])])
def impl_givenRec.B1 : List Nat := [0, 1, 3, 0, 8, 31, 0, 64, 0, 256, 0, 1024, 4095, 8191]
theorem impl_givenRec.tab1 : rtab .any (opsOf Tryd.f39 1) = impl_givenRec.T1 := by kernel_rfl
theorem impl_givenRec.bits1 : waitsOk impl_givenRec.T1.2 impl_givenRec.B1 = true := by kernel_rfl
set_option maxHeartbeats 8000000 in
set_option maxRecDepth 100000 in
theorem impl_givenRec.calls (A0_0 : Option Addr) (c0_0 : Nat) (l0_0 : List Int) (A0_1 : Option Addr) (c0_1 : Nat) (l0_1 : List Int) (a0_2 : Int) (a0_3 : Int) (a0_4 : Int) (r1 : List Int) (r2 : List Int) (r3 : Int) (r4 : Int) (r5 : Int) (w : World) (hr0_0 : Kd.C (Kd.int .u8) w A0_0 l0_0.length l0_0) (hc0_0 : l0_0.length ≤ c0_0) (hr0_1 : Kd.C (Kd.int .u8) w A0_1 l0_1.length l0_1) (hc0_1 : l0_1.length ≤ c0_1) (h : impl_givenRec.f l0_0 l0_1 a0_2 a0_3 a0_4 = some (r1, r2, r3, r4, r5)) :
    Calls Tryd.prog 39 #[.agg #[.slice A0_0 l0_0.length c0_0, .slice A0_1 l0_1.length c0_1, .int .u64 a0_2, .int .u8 a0_3, .int .u8 a0_4]] w fun e w' => ∃ v0_ v1_ : Value, e = .returned (.agg #[v0_, v1_, .int .u64 r3, .int .u8 r4, .int .u8 r5]) ∧ Kd.R (Kd.int .u8) 5 w' w.heap.size (fun k_ => some k_ ≠ (v1_ : Value).ownBlock) v0_ r1 ∧ Kd.R (Kd.int .u8) 5 w' w.heap.size (fun k_ => some k_ ≠ (v0_ : Value).ownBlock) v1_ r2 ∧ Below w.heap.size w w' := by
  have hu40 := Tryd.underlying40
  have hu72 := Tryd.underlying72
  have HR0_0 := Aside0.mk hr0_0
  have HC0_0 := Aside0.mk hc0_0
  clear hr0_0 hc0_0
  have HR0_1 := Aside0.mk hr0_1
  have HC0_1 := Aside0.mk hc0_1
  clear hr0_1 hc0_1
  have HB := Aside0.mk (Below.refl w.heap.size w)
  have H : ((impl_own.f l0_0).bind fun t192 => ((impl_own.f l0_1).bind fun t195 => (some (t192, t195, a0_2, a0_3, a0_4)))) = some (r1, r2, r3, r4, r5) := h
  clear h
  replace H := Option.bind_eq_some_iff.mp H
  obtain ⟨t192, A20, H⟩ := H
  replace H : ((impl_own.f l0_1).bind fun t195 => (some (t192, t195, a0_2, a0_3, a0_4))) = some (r1, r2, r3, r4, r5) := H
  have A2 := Aside0.mk A20
  clear A20
  replace H := Option.bind_eq_some_iff.mp H
  obtain ⟨t195, A30, H⟩ := H
  replace H : (some (t192, t195, a0_2, a0_3, a0_4)) = some (r1, r2, r3, r4, r5) := H
  have A3 := Aside0.mk A30
  clear A30
  simp only [Option.some.injEq, Prod.mk.injEq] at H
  obtain ⟨rfl, rfl, rfl, rfl, rfl⟩ := H
  go_enter Tryd.func39, Tryd.ntmps39
  try go_wp2_with (first | ((with_reducible refine gate_dst (N := 1) rfl ?_); refine box_event ?hg (N := 1) ?hd (cs := #[.slice A0_0 l0_0.length c0_0, .slice A0_1 l0_1.length c0_1, .int .u64 a0_2, .int .u8 a0_3, .int .u8 a0_4]) (t := 40) ?hr ?_; (case hd => rfl); (case hg => rfl); (case hr => first | (go_simp; done) | (go_simp; rfl)); intro gb190 hg w4 hbox hb; have n0_ := Aside0.mk (below_step (by repeat (first | (with_reducible first | exact HB.out | apply below_alloc | apply pw_below_drewN | apply below_drew1) | exact HB.out)) hb); have n1_ := Aside0.mk (hbox); have n2_ := Aside0.mk ((by rw [hg]; exact (below_size (by repeat (first | (with_reducible first | exact HB.out | apply below_alloc | apply pw_below_drewN | apply below_drew1) | exact HB.out))) : w.heap.size ≤ gb190)); have n3_ := Aside0.mk ((by rw [hg]; exact (below_size (by repeat (first | (with_reducible first | exact HB.out | apply below_alloc | apply pw_below_drewN | apply below_drew1) | exact HB.out))) : w.heap.size ≤ gb190)); clear HB; have HB := n0_; have BK190 := n1_; have GW190 := n2_; have GE190 := n3_; clear n0_ n1_ n2_ n3_; clear hb hbox hg) | ((with_reducible refine gate_dst (N := 2) rfl ?_); refine box_event ?hg (N := 2) ?hd (cs := #[.slice none 0 0, .slice none 0 0, .int .u64 0, .int .u8 0, .int .u8 0]) (t := 72) ?hr ?_; (case hd => rfl); (case hg => rfl); (case hr => first | (go_simp; done) | (go_simp; rfl)); intro gb191 hg w5 hbox hb; have n0_ := Aside0.mk (blk_below (g := gb190) (o := .cells #[.slice A0_0 l0_0.length c0_0, .slice A0_1 l0_1.length c0_1, .int .u64 a0_2, .int .u8 a0_3, .int .u8 a0_4] 40 (0, 0)) (by (with_reducible repeat (first | refine blk_drewN ?_ _ | refine blk_drew ?_ | refine blk_alloc ?_ _)); exact BK190.out) hb); have n1_ := Aside0.mk (below_step (by repeat (first | (with_reducible first | exact HB.out | apply below_alloc | apply pw_below_drewN | apply below_drew1 | refine below_set ?_ GE190.out) | exact HB.out)) hb); have n2_ := Aside0.mk (hbox); have n3_ := Aside0.mk ((by rw [hg]; exact (below_size (by repeat (first | (with_reducible first | exact HB.out | apply below_alloc | apply pw_below_drewN | apply below_drew1 | refine below_set ?_ GE190.out) | exact HB.out))) : w.heap.size ≤ gb191)); have n4_ := Aside0.mk ((by rw [hg]; exact (below_size (by repeat (first | (with_reducible first | exact HB.out | apply below_alloc | apply pw_below_drewN | apply below_drew1 | refine below_set ?_ GE190.out) | exact HB.out))) : w.heap.size ≤ gb191)); have n5_ := Aside0.mk ((by rw [hg]; exact Nat.ne_of_lt (blk_lt (g := gb190) (o := .cells #[.slice A0_0 l0_0.length c0_0, .slice A0_1 l0_1.length c0_1, .int .u64 a0_2, .int .u8 a0_3, .int .u8 a0_4] 40 (0, 0)) (by (with_reducible repeat (first | refine blk_drewN ?_ _ | refine blk_drew ?_ | refine blk_alloc ?_ _)); exact BK190.out)) : gb190 ≠ gb191)); have n6_ := Aside0.mk ((by rw [hg]; exact Nat.ne_of_gt (blk_lt (g := gb190) (o := .cells #[.slice A0_0 l0_0.length c0_0, .slice A0_1 l0_1.length c0_1, .int .u64 a0_2, .int .u8 a0_3, .int .u8 a0_4] 40 (0, 0)) (by (with_reducible repeat (first | refine blk_drewN ?_ _ | refine blk_drew ?_ | refine blk_alloc ?_ _)); exact BK190.out)) : gb191 ≠ gb190)); clear BK190; clear HB; have BK190 := n0_; have HB := n1_; have BK191 := n2_; have GW191 := n3_; have GE191 := n4_; have NB190_191 := n5_; have NB191_190 := n6_; clear n0_ n1_ n2_ n3_ n4_ n5_ n6_; clear hb hbox hg))
  have n0_ := Aside0.mk (blk_drew BK190.out)
  have n1_ := Aside0.mk (blk_drew BK191.out)
  have n2_ := Aside0.mk (below_drew1 HB.out)
  clear BK190
  clear BK191
  clear HB
  have BK190 := n0_
  have BK191 := n1_
  have HB := n2_
  clear n0_ n1_ n2_
  refine start_ (n := 14) (S := fun w' => w'.cell? ⟨gb190, 0, none⟩ = some (.slice A0_0 l0_0.length c0_0) ∧ w'.cell? ⟨gb190, 1, none⟩ = some (.slice A0_1 l0_1.length c0_1) ∧ w'.cell? ⟨gb190, 2, none⟩ = some (.int .u64 a0_2) ∧ w'.cell? ⟨gb190, 3, none⟩ = some (.int .u8 a0_3) ∧ w'.cell? ⟨gb190, 4, none⟩ = some (.int .u8 a0_4)) (ds := []) #[false, false, false, false, false, false, false, false, false, false, false, false, false, false] (by kernel_rfl) rfl rfl ⟨(blk_cell BK190.out 0).trans rfl, (blk_cell BK190.out 1).trans rfl, (blk_cell BK190.out 2).trans rfl, (blk_cell BK190.out 3).trans rfl, (blk_cell BK190.out 4).trans rfl⟩ (fun hHeld => ?_); refine with_tabW impl_givenRec.tab1 impl_givenRec.bits1 (fun HT_ HW_ => ?_)
  generalize w5.drew = w6 at BK190 BK191 HB hHeld ⊢
  refine pure_ (i := 0) (N := some 3) (v := ?_) (a' := ?_) #[true, false, false, false, false, false, false, false, false, false, false, false, false, false] rfl rfl (any_of HT_.out (by kernel_rfl)) (fun _ _ _ h => h) (Or.inl ⟨by rfl, ?_⟩) ?_ ?_
  rotate_left
  · intro w'
    go_simp
    with_reducible rfl
  rotate_left
  · simp only [Act.put, List.setIfInBounds_toArray, List.set_cons_zero, List.set_cons_succ, i64_w, i32_w]
    rfl
  refine pure_ (i := 3) (N := some 6) (v := ?_) (a' := ?_) #[true, false, false, true, false, false, false, false, false, false, false, false, false, false] rfl rfl (any_of HT_.out (by kernel_rfl)) (fun _ _ _ h => h) (Or.inl ⟨by rfl, ?_⟩) ?_ ?_
  rotate_left
  · intro w'
    go_simp
    with_reducible rfl
  rotate_left
  · simp only [Act.put, List.setIfInBounds_toArray, List.set_cons_zero, List.set_cons_succ, i64_w, i32_w]
    rfl
  refine pure_ (i := 6) (N := some 9) (v := ?_) (a' := ?_) #[true, false, false, true, false, false, true, false, false, false, false, false, false, false] rfl rfl (any_of HT_.out (by kernel_rfl)) (fun _ _ _ h => h) (Or.inl ⟨by rfl, ?_⟩) ?_ ?_
  rotate_left
  · intro w'
    go_simp
    with_reducible rfl
  rotate_left
  · simp only [Act.put, List.setIfInBounds_toArray, List.set_cons_zero, List.set_cons_succ, i64_w, i32_w]
    rfl
  refine pure_ (i := 8) (N := some 11) (v := ?_) (a' := ?_) #[true, false, false, true, false, false, true, false, true, false, false, false, false, false] rfl rfl (any_of HT_.out (by kernel_rfl)) (fun _ _ _ h => h) (Or.inl ⟨by rfl, ?_⟩) ?_ ?_
  rotate_left
  · intro w'
    go_simp
    with_reducible rfl
  rotate_left
  · simp only [Act.put, List.setIfInBounds_toArray, List.set_cons_zero, List.set_cons_succ, i64_w, i32_w]
    rfl
  refine pure_ (i := 10) (N := some 13) (v := ?_) (a' := ?_) #[true, false, false, true, false, false, true, false, true, false, true, false, false, false] rfl rfl (any_of HT_.out (by kernel_rfl)) (fun _ _ _ h => h) (Or.inl ⟨by rfl, ?_⟩) ?_ ?_
  rotate_left
  · intro w'
    go_simp
    with_reducible rfl
  rotate_left
  · simp only [Act.put, List.setIfInBounds_toArray, List.set_cons_zero, List.set_cons_succ, i64_w, i32_w]
    rfl
  refine take_ (i := 1) (N := some 4) (v := ?_) (a' := ?_) #[true, true, false, true, false, false, true, false, true, false, true, false, false, false] rfl rfl (take_ofW HT_.out HW_.out (by kernel_rfl)) (fun _ _ _ h => h) (Or.inl ⟨by rfl, ?_⟩) hHeld ?_ ?_
  rotate_left
  · rintro w' ⟨s0, s1, s2, s3, s4⟩
    go_simp
    with_reducible rfl
  rotate_left
  · simp only [Act.put, List.setIfInBounds_toArray, List.set_cons_zero, List.set_cons_succ, i64_w, i32_w]
    rfl
  refine take_ (i := 4) (N := some 7) (v := ?_) (a' := ?_) #[true, true, false, true, true, false, true, false, true, false, true, false, false, false] rfl rfl (take_ofW HT_.out HW_.out (by kernel_rfl)) (fun _ _ _ h => h) (Or.inl ⟨by rfl, ?_⟩) hHeld ?_ ?_
  rotate_left
  · rintro w' ⟨s0, s1, s2, s3, s4⟩
    go_simp
    with_reducible rfl
  rotate_left
  · simp only [Act.put, List.setIfInBounds_toArray, List.set_cons_zero, List.set_cons_succ, i64_w, i32_w]
    rfl
  refine take_ (i := 7) (N := some 10) (v := ?_) (a' := ?_) #[true, true, false, true, true, false, true, true, true, false, true, false, false, false] rfl rfl (take_ofW HT_.out HW_.out (by kernel_rfl)) (fun _ _ _ h => h) (Or.inl ⟨by rfl, ?_⟩) hHeld ?_ ?_
  rotate_left
  · rintro w' ⟨s0, s1, s2, s3, s4⟩
    go_simp
    with_reducible rfl
  rotate_left
  · simp only [Act.put, List.setIfInBounds_toArray, List.set_cons_zero, List.set_cons_succ, i64_w, i32_w]
    rfl
  refine take_ (i := 9) (N := some 12) (v := ?_) (a' := ?_) #[true, true, false, true, true, false, true, true, true, true, true, false, false, false] rfl rfl (take_ofW HT_.out HW_.out (by kernel_rfl)) (fun _ _ _ h => h) (Or.inl ⟨by rfl, ?_⟩) hHeld ?_ ?_
  rotate_left
  · rintro w' ⟨s0, s1, s2, s3, s4⟩
    go_simp
    with_reducible rfl
  rotate_left
  · simp only [Act.put, List.setIfInBounds_toArray, List.set_cons_zero, List.set_cons_succ, i64_w, i32_w]
    rfl
  refine take_ (i := 11) (N := some 14) (v := ?_) (a' := ?_) #[true, true, false, true, true, false, true, true, true, true, true, true, false, false] rfl rfl (take_ofW HT_.out HW_.out (by kernel_rfl)) (fun _ _ _ h => h) (Or.inl ⟨by rfl, ?_⟩) hHeld ?_ ?_
  rotate_left
  · rintro w' ⟨s0, s1, s2, s3, s4⟩
    go_simp
    with_reducible rfl
  rotate_left
  · simp only [Act.put, List.setIfInBounds_toArray, List.set_cons_zero, List.set_cons_succ, i64_w, i32_w]
    rfl
  refine one_ (i := 2) (N := some 5) #[true, true, true, true, true, false, true, true, true, true, true, true, false, false] rfl rfl (one_of HT_.out (by kernel_rfl)) (by decide) (fun K hK => ?_)
  refine goes_ Tryd.func29 (by kernel_rfl) rfl #[.slice A0_0 l0_0.length c0_0] (by rfl) rfl rfl (by (try simp only [List.map_toArray, List.map_cons, List.map_nil]); first | done | rfl | (simp only [List.length_drop, List.length_take]; rfl)) ?_
  with_reducible refine (impl_own.calls _ _ l0_0 t192 _ ?side1 ?side2 A2.out).mono ?_
  (case side1 => repeat (first | exact (Kd.C_below HR0_0.out HB.out) | (with_reducible refine Kd.C_alloc ?_ _) | (with_reducible refine Kd.C_drewN ?_ _) | (with_reducible refine Kd.C_drew ?_)))
  (case side2 => exact HC0_0.out)
  rintro e w7 ⟨v193, rfl, ho0, hb⟩
  refine ⟨_, rfl, ?_⟩
  have n0_ := Aside0.mk (Kd.R_lower ho0 (below_size (by repeat (first | (with_reducible first | exact HB.out | apply below_alloc | apply pw_below_drewN | apply below_drew1 | refine below_set ?_ GE190.out | refine below_set ?_ GE191.out) | exact HB.out))))
  have n1_ := Aside0.mk (blk_below (g := gb190) (o := .cells #[.slice A0_0 l0_0.length c0_0, .slice A0_1 l0_1.length c0_1, .int .u64 a0_2, .int .u8 a0_3, .int .u8 a0_4] 40 (0, 0)) (by (with_reducible repeat (first | refine blk_drewN ?_ _ | refine blk_drew ?_ | refine blk_alloc ?_ _)); exact BK190.out) hb)
  have n2_ := Aside0.mk (blk_below (g := gb191) (o := .cells #[.slice none 0 0, .slice none 0 0, .int .u64 0, .int .u8 0, .int .u8 0] 72 (0, 0)) (by (with_reducible repeat (first | refine blk_drewN ?_ _ | refine blk_drew ?_ | refine blk_alloc ?_ _)); exact BK191.out) hb)
  have n3_ := Aside0.mk (below_step (by repeat (first | (with_reducible first | exact HB.out | apply below_alloc | apply pw_below_drewN | apply below_drew1 | refine below_set ?_ GE190.out | refine below_set ?_ GE191.out) | exact HB.out)) hb)
  clear BK190
  clear BK191
  clear HB
  have HO194 := n0_
  have BK190 := n1_
  have BK191 := n2_
  have HB := n3_
  clear n0_ n1_ n2_ n3_
  (try clear hb)
  (try clear hb2)
  (try clear hk)
  (try clear hi)
  (try clear ho0)
  refine hK.out _ _ ⟨(blk_cell BK190.out 0).trans rfl, (blk_cell BK190.out 1).trans rfl, (blk_cell BK190.out 2).trans rfl, (blk_cell BK190.out 3).trans rfl, (blk_cell BK190.out 4).trans rfl⟩ (fun hHeld => ?_)
  clear hK K
  refine norm_ (a' := ?_) ?_ ?_
  rotate_left
  · show Act.put _ (some 5) _ = _
    simp only [Act.put, List.setIfInBounds_toArray, List.set_cons_zero, List.set_cons_succ, i64_w, i32_w]
    rfl
  refine one_ (i := 5) (N := some 8) #[true, true, true, true, true, true, true, true, true, true, true, true, false, false] rfl rfl (one_of HT_.out (by kernel_rfl)) (by decide) (fun K hK => ?_)
  refine goes_ Tryd.func29 (by kernel_rfl) rfl #[.slice A0_1 l0_1.length c0_1] (by rfl) rfl rfl (by (try simp only [List.map_toArray, List.map_cons, List.map_nil]); first | done | rfl | (simp only [List.length_drop, List.length_take]; rfl)) ?_
  with_reducible refine (impl_own.calls _ _ l0_1 t195 _ ?side1 ?side2 A3.out).mono ?_
  (case side1 => repeat (first | exact (Kd.C_below HR0_1.out HB.out) | (with_reducible refine Kd.C_alloc ?_ _) | (with_reducible refine Kd.C_drewN ?_ _) | (with_reducible refine Kd.C_drew ?_)))
  (case side2 => exact HC0_1.out)
  rintro e w8 ⟨v196, rfl, ho0, hb⟩
  refine ⟨_, rfl, ?_⟩
  have n0_ := Aside0.mk (Kd.R_elder' (by (with_reducible repeat (first | apply Kd.R_alloc | apply Kd.R_drewN | apply Kd.R_drew)); exact HO194.out) (Kd.R_base ho0) hb)
  have n1_ := Aside0.mk (Kd.R_lower (Kd.R_new' ho0 (Kd.R_lt (by (with_reducible repeat (first | apply Kd.R_alloc | apply Kd.R_drewN | apply Kd.R_drew)); exact HO194.out))) (below_size (by repeat (first | (with_reducible first | exact HB.out | apply below_alloc | apply pw_below_drewN | apply below_drew1 | refine below_set ?_ GE190.out | refine below_set ?_ GE191.out) | exact HB.out))))
  have n2_ := Aside0.mk (blk_below (g := gb190) (o := .cells #[.slice A0_0 l0_0.length c0_0, .slice A0_1 l0_1.length c0_1, .int .u64 a0_2, .int .u8 a0_3, .int .u8 a0_4] 40 (0, 0)) (by (with_reducible repeat (first | refine blk_drewN ?_ _ | refine blk_drew ?_ | refine blk_alloc ?_ _)); exact BK190.out) hb)
  have n3_ := Aside0.mk (blk_below (g := gb191) (o := .cells #[.slice none 0 0, .slice none 0 0, .int .u64 0, .int .u8 0, .int .u8 0] 72 (0, 0)) (by (with_reducible repeat (first | refine blk_drewN ?_ _ | refine blk_drew ?_ | refine blk_alloc ?_ _)); exact BK191.out) hb)
  have n4_ := Aside0.mk (below_step (by repeat (first | (with_reducible first | exact HB.out | apply below_alloc | apply pw_below_drewN | apply below_drew1 | refine below_set ?_ GE190.out | refine below_set ?_ GE191.out) | exact HB.out)) hb)
  clear HO194
  clear BK190
  clear BK191
  clear HB
  have HO194 := n0_
  have HO197 := n1_
  have BK190 := n2_
  have BK191 := n3_
  have HB := n4_
  clear n0_ n1_ n2_ n3_ n4_
  (try clear hb)
  (try clear hb2)
  (try clear hk)
  (try clear hi)
  (try clear ho0)
  obtain ⟨Ao9, co9, eo9⟩ := Kd.R_slice HO197.out
  (first | subst eo9 | (injection eo9 with f1_ f2_ f3_; have f4_ := f1_.symm; have f5_ := f3_.symm; clear f1_ f2_ f3_; subst f4_; subst f5_))
  obtain ⟨Ao10, co10, eo10⟩ := Kd.R_slice HO194.out
  (first | subst eo10 | (injection eo10 with f1_ f2_ f3_; have f4_ := f1_.symm; have f5_ := f3_.symm; clear f1_ f2_ f3_; subst f4_; subst f5_))
  refine hK.out _ _ ⟨(blk_cell BK190.out 0).trans rfl, (blk_cell BK190.out 1).trans rfl, (blk_cell BK190.out 2).trans rfl, (blk_cell BK190.out 3).trans rfl, (blk_cell BK190.out 4).trans rfl⟩ (fun hHeld => ?_)
  clear hK K
  refine norm_ (a' := ?_) ?_ ?_
  rotate_left
  · show Act.put _ (some 8) _ = _
    simp only [Act.put, List.setIfInBounds_toArray, List.set_cons_zero, List.set_cons_succ, i64_w, i32_w]
    rfl
  refine pure_ (i := 12) (N := some 15) (v := ?_) (a' := ?_) #[true, true, true, true, true, true, true, true, true, true, true, true, true, false] rfl rfl (any_of HT_.out (by kernel_rfl)) (fun _ _ _ h => h) (Or.inl ⟨by rfl, ?_⟩) ?_ ?_
  rotate_left
  · intro w'
    go_simp
    with_reducible rfl
  rotate_left
  · simp only [Act.put, List.setIfInBounds_toArray, List.set_cons_zero, List.set_cons_succ, i64_w, i32_w]
    rfl
  refine one_ (i := 13) (N := none) #[true, true, true, true, true, true, true, true, true, true, true, true, true, true] rfl rfl (one_of HT_.out (by kernel_rfl)) (by decide) (fun K hK => ?_)
  have hs11 : w8.cell? ⟨gb191, 0, none⟩ = some (.slice none 0 0) := (blk_cell BK191.out 0).trans rfl
  have hfs11 := blk_frozen BK191.out 0
  have hns11_0 := NB190_191.out
  have hms11_0 := NB191_190.out
  have hs12 : w8.cell? ⟨gb191, 1, none⟩ = some (.slice none 0 0) := (blk_cell BK191.out 1).trans rfl
  have hfs12 := blk_frozen BK191.out 1
  have hns12_0 := NB190_191.out
  have hms12_0 := NB191_190.out
  have hs13 : w8.cell? ⟨gb191, 2, none⟩ = some (.int .u64 0) := (blk_cell BK191.out 2).trans rfl
  have hfs13 := blk_frozen BK191.out 2
  have hns13_0 := NB190_191.out
  have hms13_0 := NB191_190.out
  have hs14 : w8.cell? ⟨gb191, 3, none⟩ = some (.int .u8 0) := (blk_cell BK191.out 3).trans rfl
  have hfs14 := blk_frozen BK191.out 3
  have hns14_0 := NB190_191.out
  have hms14_0 := NB191_190.out
  have hs15 : w8.cell? ⟨gb191, 4, none⟩ = some (.int .u8 0) := (blk_cell BK191.out 4).trans rfl
  have hfs15 := blk_frozen BK191.out 4
  have hns15_0 := NB190_191.out
  have hms15_0 := NB191_190.out
  refine skip_ (w1 := ?_) (by rfl) rfl ?_ ?_
  rotate_left
  · go_simp
    rfl
  refine hK.out _ _ ⟨((cell_far (p := ⟨gb191, _, none⟩) NB190_191.out _).trans (((cell_far (p := ⟨gb191, _, none⟩) NB190_191.out _).trans (((cell_far (p := ⟨gb191, _, none⟩) NB190_191.out _).trans (((cell_far (p := ⟨gb191, _, none⟩) NB190_191.out _).trans (((cell_far (p := ⟨gb191, _, none⟩) NB190_191.out _).trans (hHeld.1)))))))))), ((cell_far (p := ⟨gb191, _, none⟩) NB190_191.out _).trans (((cell_far (p := ⟨gb191, _, none⟩) NB190_191.out _).trans (((cell_far (p := ⟨gb191, _, none⟩) NB190_191.out _).trans (((cell_far (p := ⟨gb191, _, none⟩) NB190_191.out _).trans (((cell_far (p := ⟨gb191, _, none⟩) NB190_191.out _).trans (hHeld.2.1)))))))))), ((cell_far (p := ⟨gb191, _, none⟩) NB190_191.out _).trans (((cell_far (p := ⟨gb191, _, none⟩) NB190_191.out _).trans (((cell_far (p := ⟨gb191, _, none⟩) NB190_191.out _).trans (((cell_far (p := ⟨gb191, _, none⟩) NB190_191.out _).trans (((cell_far (p := ⟨gb191, _, none⟩) NB190_191.out _).trans (hHeld.2.2.1)))))))))), ((cell_far (p := ⟨gb191, _, none⟩) NB190_191.out _).trans (((cell_far (p := ⟨gb191, _, none⟩) NB190_191.out _).trans (((cell_far (p := ⟨gb191, _, none⟩) NB190_191.out _).trans (((cell_far (p := ⟨gb191, _, none⟩) NB190_191.out _).trans (((cell_far (p := ⟨gb191, _, none⟩) NB190_191.out _).trans (hHeld.2.2.2.1)))))))))), ((cell_far (p := ⟨gb191, _, none⟩) NB190_191.out _).trans (((cell_far (p := ⟨gb191, _, none⟩) NB190_191.out _).trans (((cell_far (p := ⟨gb191, _, none⟩) NB190_191.out _).trans (((cell_far (p := ⟨gb191, _, none⟩) NB190_191.out _).trans (((cell_far (p := ⟨gb191, _, none⟩) NB190_191.out _).trans (hHeld.2.2.2.2))))))))))⟩ (fun hHeld => ?_)
  clear hK K
  refine done_ (done_of HT_.out (by kernel_rfl)) ?_
  try go_wp2
  refine bodyPost_ret (results_cell_row rfl _ _ gb191 72 #[.slice Ao10 t192.length co10, .slice Ao9 t195.length co9, .int .u64 a0_2, .int .u8 a0_3, .int .u8 a0_4] (0, 0) _ rfl (by (with_reducible repeat (first | refine blk_drewN ?_ _ | refine blk_drew ?_ | refine blk_alloc ?_ _)); refine blk_put (cs := #[.slice Ao10 t192.length co10, .slice Ao9 t195.length co9, .int .u64 a0_2, .int .u8 a0_3, .int .u8 0]) ?_ 4 _ rfl; (with_reducible repeat (first | refine blk_drewN ?_ _ | refine blk_drew ?_ | refine blk_alloc ?_ _)); refine blk_put (cs := #[.slice Ao10 t192.length co10, .slice Ao9 t195.length co9, .int .u64 a0_2, .int .u8 0, .int .u8 0]) ?_ 3 _ rfl; (with_reducible repeat (first | refine blk_drewN ?_ _ | refine blk_drew ?_ | refine blk_alloc ?_ _)); refine blk_put (cs := #[.slice Ao10 t192.length co10, .slice Ao9 t195.length co9, .int .u64 0, .int .u8 0, .int .u8 0]) ?_ 2 _ rfl; (with_reducible repeat (first | refine blk_drewN ?_ _ | refine blk_drew ?_ | refine blk_alloc ?_ _)); refine blk_put (cs := #[.slice Ao10 t192.length co10, .slice none 0 0, .int .u64 0, .int .u8 0, .int .u8 0]) ?_ 1 _ rfl; (with_reducible repeat (first | refine blk_drewN ?_ _ | refine blk_drew ?_ | refine blk_alloc ?_ _)); refine blk_put (cs := #[.slice none 0 0, .slice none 0 0, .int .u64 0, .int .u8 0, .int .u8 0]) ?_ 0 _ rfl; (with_reducible repeat (first | refine blk_drewN ?_ _ | refine blk_drew ?_ | refine blk_alloc ?_ _)); exact BK191.out) Tryd.underlying72 rfl (by kernel_rfl)) rfl ?_
  exact ⟨_, _, by first | rfl | (simp [errW_none, errW_some] <;> rfl) | (simp [*, errW_none, errW_some] <;> rfl), by (with_reducible repeat (first | apply Kd.R_alloc | apply Kd.R_drewN | apply Kd.R_drew)); exact Kd.R_mono (Kd.R_far (p := ⟨gb191, 4, none⟩) (Kd.R_far (p := ⟨gb191, 3, none⟩) (Kd.R_far (p := ⟨gb191, 2, none⟩) (Kd.R_far (p := ⟨gb191, 1, none⟩) (Kd.R_far (p := ⟨gb191, 0, none⟩) (Kd.R_types HO194.out BK191.out (by decide)) (fun _ hk => hk.2) (.slice Ao10 t192.length co10)) (fun _ hk => hk.2) (.slice Ao9 t195.length co9)) (fun _ hk => hk.2) (.int .u64 a0_2)) (fun _ hk => hk.2) (.int .u8 a0_3)) (fun _ hk => hk.2) (.int .u8 a0_4)) (fun _ hk => hk.1.2), by (with_reducible repeat (first | apply Kd.R_alloc | apply Kd.R_drewN | apply Kd.R_drew)); exact Kd.R_mono (Kd.R_far (p := ⟨gb191, 4, none⟩) (Kd.R_far (p := ⟨gb191, 3, none⟩) (Kd.R_far (p := ⟨gb191, 2, none⟩) (Kd.R_far (p := ⟨gb191, 1, none⟩) (Kd.R_far (p := ⟨gb191, 0, none⟩) (Kd.R_types HO197.out BK191.out (by decide)) (fun _ hk => hk.2) (.slice Ao10 t192.length co10)) (fun _ hk => hk.2) (.slice Ao9 t195.length co9)) (fun _ hk => hk.2) (.int .u64 a0_2)) (fun _ hk => hk.2) (.int .u8 a0_3)) (fun _ hk => hk.2) (.int .u8 a0_4)) (fun _ hk => hk.1.2), by repeat (first | (with_reducible first | exact HB.out | apply below_alloc | apply pw_below_drewN | apply below_drew1 | refine below_set ?_ GE190.out | refine below_set ?_ GE191.out) | exact HB.out)⟩

/-! ### badgerlog_Log: function 45 -/
def badgerlog_Log.l0 : Nat → List Int → List (S72) → Int → Int → Option (List Int)
  | 0, _, _, _, _ => none
  | k + 1, x3, x7, x8, x9 => if x9 < x8 then (if 0 ≤ x9 then (if x9 < (x7.length : Int) then ((badgerlog_EncodeEntry.f ((rd_T72 x7 x9).f0) ((rd_T72 x7 x9).f1) ((rd_T72 x7 x9).f2) ((rd_T72 x7 x9).f3) ((rd_T72 x7 x9).f4)).bind fun t203 => (if x3.length + t203.length < 140737488355328 then (badgerlog_Log.l0 k (x3 ++ t203) x7 x8 (wrap64 (x9 + 1))) else (none))) else (none)) else (none)) else (some x3)
def badgerlog_Log.f (k : Nat) (l0 : List (S72)) : Option (List Int) := if 20 ≤ 281474976710656 then (badgerlog_Log.l0 k (List.replicate 20 0) l0 (l0.length : Int) 0) else (none)
theorem badgerlog_Log.mono_l : ∀ k, (∀ y0 y1 y2 y3, LeO (badgerlog_Log.l0 k y0 y1 y2 y3) (badgerlog_Log.l0 (k + 1) y0 y1 y2 y3))
  | 0 => fun _ _ _ _ r h => by simp [badgerlog_Log.l0] at h
  | k + 1 => by
    have ih0 := badgerlog_Log.mono_l k
    · intro y0 y1 y2 y3
      unfold badgerlog_Log.l0
      repeat' first
      | (with_reducible exact ih0 _ _ _ _)
      | (with_reducible exact LeO.refl _)
      | (with_reducible exact LeO.none _)
      | (with_reducible refine LeO.ite ?_ ?_)
      | (with_reducible refine LeO.bind ?_ (fun _ => ?_))
      | exact ih0 _ _ _ _
      | exact LeO.none _
      | refine LeO.ite ?_ ?_
      | refine LeO.bind ?_ (fun _ => ?_)
theorem badgerlog_Log.mono : ∀ a0 k, LeO (badgerlog_Log.f k a0) (badgerlog_Log.f (k + 1) a0) := by
  intro a0 k
  have ih0 := badgerlog_Log.mono_l k
  unfold badgerlog_Log.f
  repeat' first
      | (with_reducible exact ih0 _ _ _ _)
      | (with_reducible exact LeO.refl _)
      | (with_reducible exact LeO.none _)
      | (with_reducible refine LeO.ite ?_ ?_)
      | (with_reducible refine LeO.bind ?_ (fun _ => ?_))
      | exact ih0 _ _ _ _
      | exact LeO.none _
      | refine LeO.ite ?_ ?_
      | refine LeO.bind ?_ (fun _ => ?_)
set_option maxHeartbeats 8000000 in
set_option maxRecDepth 100000 in
theorem badgerlog_Log.calls (k : Nat) (A0 : Option Addr) (c0 : Nat) (l0 : List (S72)) (r : List Int) (w : World) (hr0 : Kd.C k72 w A0 l0.length l0) (hc0 : l0.length ≤ c0) (h : badgerlog_Log.f k l0 = some r) :
    Calls Tryd.prog 45 #[.slice A0 l0.length c0] w fun e w' => ∃ v0_ : Value, e = .returned (v0_) ∧ Kd.R (Kd.int .u8) 5 w' w.heap.size (fun _ => True) v0_ r ∧ Below w.heap.size w w' := by
  have hu72 := Tryd.underlying72
  have HR0 := Aside0.mk hr0
  have HC0 := Aside0.mk hc0
  clear hr0 hc0
  have HB := Aside0.mk (Below.refl w.heap.size w)
  have H : (if 20 ≤ 281474976710656 then (badgerlog_Log.l0 k (List.replicate 20 0) l0 (l0.length : Int) 0) else (none)) = some r := h
  clear h
  by_cases c2 : 20 ≤ 281474976710656
  · rw [if_pos c2] at H
    have c2b0 := eq_true c2
    have c2b1 : decide (20 ≤ 281474976710656) = true := decide_eq_true c2
    clear c2
    obtain ⟨y198, hy198⟩ : ∃ y_ : List Int, y_ = (List.replicate 20 0) := ⟨_, rfl⟩
    replace H : (badgerlog_Log.l0 k y198 l0 (l0.length : Int) 0) = some r := by first | (rw [hy198]; with_reducible exact H) | (have H2_ := (Option.bind_some _ _).symm.trans H; rw [hy198]; with_reducible exact H2_) | (have H2_ := (Option.bind_some _ _).symm.trans H; with_reducible exact H2_) | with_reducible exact H | (rw [hy198]; exact H) | exact H
    have Ny198 := Aside0.mk hy198
    clear hy198
    have H' := Aside0.mk H
    clear H
    go_enter Tryd.func45, Tryd.ntmps45
    go_wp2_with (first | ((with_reducible refine gate_dst (N := 6) rfl ?_); refine Kd.R_make (Kd.int .u8) _ 5 rfl (N := 6) rfl 22 _ _ rfl 20 rfl rfl Tryd.underlying22 (.int .u8 0) 1 info5 rfl (by decide) (by omega) 0 (ok := fun _ => True) (okp := fun _ => True) rfl (fun _ hk => hk) trivial (by omega) (by omega) (Below.refl _ _) (Nat.le_refl _) ?_; intro v199 w3 ho4 hb hg_ hnew_; clear hg_ hnew_; (first | rw [← Ny198.out] at ho4 | (simp only [Int.reduceToNat] at ho4; rw [← Ny198.out] at ho4)); have n0_ := Aside0.mk (Kd.R_lower ho4 (below_size (by repeat (first | (with_reducible first | exact HB.out | apply below_alloc | apply pw_below_drewN | apply below_drew1) | exact HB.out)))); have n1_ := Aside0.mk (below_step (by repeat (first | (with_reducible first | exact HB.out | apply below_alloc | apply pw_below_drewN | apply below_drew1) | exact HB.out)) hb); clear HB; have HO200 := n0_; have HB := n1_; clear n0_ n1_; clear hb ho4))
    go_loopg [3, 9] k (fun kq v3 v9 w' => ∃ (x3_1 : List Int) (x9_1 : Int), v9 = .int .i64 x9_1 ∧ Aside0 (badgerlog_Log.l0 kq x3_1 l0 (l0.length : Int) x9_1 = some r) ∧ Aside0 (kq ≤ k) ∧ Aside0 (Kd.R (Kd.int .u8) 5 w' w.heap.size (fun _ => True) v3 x3_1) ∧ Aside0 (Below w.heap.size w w'))
    case atStart => exact ⟨(y198), (0), (by first | rfl | (simp; done) | (simp [*]; done)), H', ⟨Nat.le_refl _⟩, ⟨by (with_reducible repeat (first | apply Kd.R_alloc | apply Kd.R_drewN | apply Kd.R_drew)); exact HO200.out⟩, ⟨by repeat (first | (with_reducible first | exact HB.out | apply below_alloc | apply pw_below_drewN | apply below_drew1) | exact HB.out)⟩⟩
    case round =>
      clear H'
      try clear c2
      try clear c2b0
      try clear c2b1
      try clear p2
      try clear c4
      obtain ⟨x3_1, x9_1, rfl, HA, HK1, HO_3, HB⟩ := hrel
      cases gk with
      | zero => exact absurd HA.out (by simp [badgerlog_Log.l0])
      | succ k1 =>
        have H := HA.out
        clear HA
        simp only [badgerlog_Log.l0] at H
        by_cases c5 : x9_1 < (l0.length : Int)
        · rw [if_pos c5] at H
          have c5b0 : decide (x9_1 < (l0.length : Int)) = true := decide_eq_true c5
          clear c5
          by_cases c6 : 0 ≤ x9_1
          · rw [if_pos c6] at H
            have c6b0 : decide (0 ≤ x9_1) = true := decide_eq_true c6
            clear c6
            by_cases c7 : x9_1 < (l0.length : Int)
            · rw [if_pos c7] at H
              have c7b0 : decide (x9_1 < (l0.length : Int)) = true := decide_eq_true c7
              clear c7
              replace H := Option.bind_eq_some_iff.mp H
              obtain ⟨t203, A80, H⟩ := H
              replace H : (if x3_1.length + t203.length < 140737488355328 then (badgerlog_Log.l0 k1 (x3_1 ++ t203) l0 (l0.length : Int) (wrap64 (x9_1 + 1))) else (none)) = some r := H
              have A8 := Aside0.mk A80
              clear A80
              by_cases c9 : x3_1.length + t203.length < 140737488355328
              · rw [if_pos c9] at H
                have LMc9 := Aside0.mk c9
                clear c9
                obtain ⟨y206, hy206⟩ : ∃ y_ : List Int, y_ = (x3_1 ++ t203) := ⟨_, rfl⟩
                replace H : (badgerlog_Log.l0 k1 y206 l0 (l0.length : Int) (wrap64 (x9_1 + 1))) = some r := by first | (rw [hy206]; with_reducible exact H) | (have H2_ := (Option.bind_some _ _).symm.trans H; rw [hy206]; with_reducible exact H2_) | (have H2_ := (Option.bind_some _ _).symm.trans H; with_reducible exact H2_) | with_reducible exact H | (rw [hy206]; exact H) | exact H
                have Ny206 := Aside0.mk hy206
                clear hy206
                have H' := Aside0.mk H
                clear H
                have p201 : 0 ≤ (x9_1 : Int) := of_decide_eq_true (by first | (with_reducible assumption) | assumption)
                have q201 : x9_1 < (l0.length : Int) := of_decide_eq_true (by first | (with_reducible assumption) | assumption)
                obtain ⟨ad201, A201_0, c201_0, A201_1, c201_1, e201, hx201_0, hx201_1, hx201_2, hx201_3, hx201_4, hl201_0, hi201_0, hl201_1, hi201_1⟩ := at_T72 HR0.out x9_1 p201 q201
                cases e201
                replace hx201_0 := (HB.out.cell (World.block_lt_of_cell? w _ hx201_0)).trans hx201_0
                replace hx201_1 := (HB.out.cell (World.block_lt_of_cell? w _ hx201_1)).trans hx201_1
                replace hx201_2 := (HB.out.cell (World.block_lt_of_cell? w _ hx201_2)).trans hx201_2
                replace hx201_3 := (HB.out.cell (World.block_lt_of_cell? w _ hx201_3)).trans hx201_3
                replace hx201_4 := (HB.out.cell (World.block_lt_of_cell? w _ hx201_4)).trans hx201_4
                have HR201_0 := Aside0.mk hi201_0
                have HC201_0 := Aside0.mk hl201_0
                clear hi201_0 hl201_0
                have HR201_1 := Aside0.mk hi201_1
                have HC201_1 := Aside0.mk hl201_1
                clear hi201_1 hl201_1
                replace p201 := eq_true p201
                replace q201 := eq_true q201
                go_wp2_with (first | ((with_reducible refine gate_dst (N := 5) rfl ?_); refine box_event ?hg (N := 5) ?hd (cs := #[.slice none 0 0, .slice none 0 0, .int .u64 0, .int .u8 0, .int .u8 0]) (t := 72) ?hr ?_; (case hd => rfl); (case hg => rfl); (case hr => first | (go_simp; done) | (go_simp; rfl)); intro gb202 hg w10 hbox hb; have n0_ := Aside0.mk (Kd.R_below (by (with_reducible repeat (first | apply Kd.R_alloc | apply Kd.R_drewN | apply Kd.R_drew)); exact HO_3.out) hb); have n1_ := Aside0.mk (below_step (by repeat (first | (with_reducible first | exact HB.out | apply below_alloc | apply pw_below_drewN | apply below_drew1) | exact HB.out)) hb); have n2_ := Aside0.mk (hbox); have n3_ := Aside0.mk ((by rw [hg]; exact (below_size (by repeat (first | (with_reducible first | exact HB.out | apply below_alloc | apply pw_below_drewN | apply below_drew1) | exact HB.out))) : w.heap.size ≤ gb202)); have n4_ := Aside0.mk ((by rw [hg]; exact (below_size (by repeat (first | (with_reducible first | exact HB.out | apply below_alloc | apply pw_below_drewN | apply below_drew1) | exact HB.out))) : w.heap.size ≤ gb202)); clear HO_3; clear HB; have HO_3 := n0_; have HB := n1_; have BK202 := n2_; have GW202 := n3_; have GE202 := n4_; clear n0_ n1_ n2_ n3_ n4_; clear hb hbox hg; have hcz11_0 : w10.cell? ⟨gb202, 0, none⟩ = some (.slice none 0 0) := (blk_cell BK202.out 0).trans rfl; have hcz11_1 : w10.cell? ⟨gb202, 1, none⟩ = some (.slice none 0 0) := (blk_cell BK202.out 1).trans rfl; have hcz11_2 : w10.cell? ⟨gb202, 2, none⟩ = some (.int .u64 0) := (blk_cell BK202.out 2).trans rfl; have hcz11_3 : w10.cell? ⟨gb202, 3, none⟩ = some (.int .u8 0) := (blk_cell BK202.out 3).trans rfl; have hcz11_4 : w10.cell? ⟨gb202, 4, none⟩ = some (.int .u8 0) := (blk_cell BK202.out 4).trans rfl; have hfz11_0 := blk_frozen BK202.out 0; have hfz11_1 := blk_frozen BK202.out 1; have hfz11_2 := blk_frozen BK202.out 2; have hfz11_3 := blk_frozen BK202.out 3; have hfz11_4 := blk_frozen BK202.out 4) | ((with_reducible refine gate_callee (f := 38) rfl ?_); refine goesL_ (some 15) rfl rfl Tryd.func38 (by kernel_rfl) rfl #[.agg #[.slice A201_0 ((rd_T72 l0 x9_1).f0).length c201_0, .slice A201_1 ((rd_T72 l0 x9_1).f1).length c201_1, .int .u64 ((rd_T72 l0 x9_1).f2), .int .u8 ((rd_T72 l0 x9_1).f3), .int .u8 ((rd_T72 l0 x9_1).f4)]] rfl (by (try simp only [List.map_toArray, List.map_cons, List.map_nil]); first | done | rfl | (simp only [List.length_drop, List.length_take]; rfl)) ?_; (with_reducible refine (badgerlog_EncodeEntry.calls _ _ ((rd_T72 l0 x9_1).f0) _ _ ((rd_T72 l0 x9_1).f1) ((rd_T72 l0 x9_1).f2) ((rd_T72 l0 x9_1).f3) ((rd_T72 l0 x9_1).f4) t203 _ ?side1 ?side2 ?side3 ?side4 A8.out).mono ?_); (case side1 => exact Kd.C_below HR201_0.out (by repeat (first | (with_reducible first | exact HB.out | apply below_alloc | apply pw_below_drewN | apply below_drew1 | refine below_set ?_ GE202.out) | exact HB.out))); (case side2 => exact HC201_0.out); (case side3 => exact Kd.C_below HR201_1.out (by repeat (first | (with_reducible first | exact HB.out | apply below_alloc | apply pw_below_drewN | apply below_drew1 | refine below_set ?_ GE202.out) | exact HB.out))); (case side4 => exact HC201_1.out); rintro e w12 ⟨v204, rfl, ho0, hb⟩; refine ⟨_, rfl, ?_⟩; have n0_ := Aside0.mk (Kd.R_elder' (by (with_reducible repeat (first | apply Kd.R_alloc | apply Kd.R_drewN | apply Kd.R_drew)); exact (Kd.R_mono (Kd.R_far (p := ⟨gb202, 4, none⟩) (Kd.R_far (p := ⟨gb202, 3, none⟩) (Kd.R_far (p := ⟨gb202, 2, none⟩) (Kd.R_far (p := ⟨gb202, 1, none⟩) (Kd.R_far (p := ⟨gb202, 0, none⟩) (Kd.R_types HO_3.out BK202.out (by decide)) (fun _ hk => hk.2) (.slice A201_0 ((rd_T72 l0 x9_1).f0).length c201_0)) (fun _ hk => hk.2) (.slice A201_1 ((rd_T72 l0 x9_1).f1).length c201_1)) (fun _ hk => hk.2) (.int .u64 ((rd_T72 l0 x9_1).f2))) (fun _ hk => hk.2) (.int .u8 ((rd_T72 l0 x9_1).f3))) (fun _ hk => hk.2) (.int .u8 ((rd_T72 l0 x9_1).f4))) (fun _ h_ => h_.1))) (Kd.R_base ho0) hb); have n1_ := Aside0.mk (Kd.R_lower (Kd.R_new' ho0 (Kd.R_lt (by (with_reducible repeat (first | apply Kd.R_alloc | apply Kd.R_drewN | apply Kd.R_drew)); exact (Kd.R_mono (Kd.R_far (p := ⟨gb202, 4, none⟩) (Kd.R_far (p := ⟨gb202, 3, none⟩) (Kd.R_far (p := ⟨gb202, 2, none⟩) (Kd.R_far (p := ⟨gb202, 1, none⟩) (Kd.R_far (p := ⟨gb202, 0, none⟩) (Kd.R_types HO_3.out BK202.out (by decide)) (fun _ hk => hk.2) (.slice A201_0 ((rd_T72 l0 x9_1).f0).length c201_0)) (fun _ hk => hk.2) (.slice A201_1 ((rd_T72 l0 x9_1).f1).length c201_1)) (fun _ hk => hk.2) (.int .u64 ((rd_T72 l0 x9_1).f2))) (fun _ hk => hk.2) (.int .u8 ((rd_T72 l0 x9_1).f3))) (fun _ hk => hk.2) (.int .u8 ((rd_T72 l0 x9_1).f4))) (fun _ h_ => h_.1))))) (below_size (by repeat (first | (with_reducible first | exact HB.out | apply below_alloc | apply pw_below_drewN | apply below_drew1 | refine below_set ?_ GE202.out) | exact HB.out)))); have n2_ := Aside0.mk (blk_below (g := gb202) (o := .cells #[.slice A201_0 ((rd_T72 l0 x9_1).f0).length c201_0, .slice A201_1 ((rd_T72 l0 x9_1).f1).length c201_1, .int .u64 ((rd_T72 l0 x9_1).f2), .int .u8 ((rd_T72 l0 x9_1).f3), .int .u8 ((rd_T72 l0 x9_1).f4)] 72 (0, 0)) (by (with_reducible repeat (first | refine blk_drewN ?_ _ | refine blk_drew ?_ | refine blk_alloc ?_ _)); refine blk_put (cs := #[.slice A201_0 ((rd_T72 l0 x9_1).f0).length c201_0, .slice A201_1 ((rd_T72 l0 x9_1).f1).length c201_1, .int .u64 ((rd_T72 l0 x9_1).f2), .int .u8 ((rd_T72 l0 x9_1).f3), .int .u8 0]) ?_ 4 _ rfl; (with_reducible repeat (first | refine blk_drewN ?_ _ | refine blk_drew ?_ | refine blk_alloc ?_ _)); refine blk_put (cs := #[.slice A201_0 ((rd_T72 l0 x9_1).f0).length c201_0, .slice A201_1 ((rd_T72 l0 x9_1).f1).length c201_1, .int .u64 ((rd_T72 l0 x9_1).f2), .int .u8 0, .int .u8 0]) ?_ 3 _ rfl; (with_reducible repeat (first | refine blk_drewN ?_ _ | refine blk_drew ?_ | refine blk_alloc ?_ _)); refine blk_put (cs := #[.slice A201_0 ((rd_T72 l0 x9_1).f0).length c201_0, .slice A201_1 ((rd_T72 l0 x9_1).f1).length c201_1, .int .u64 0, .int .u8 0, .int .u8 0]) ?_ 2 _ rfl; (with_reducible repeat (first | refine blk_drewN ?_ _ | refine blk_drew ?_ | refine blk_alloc ?_ _)); refine blk_put (cs := #[.slice A201_0 ((rd_T72 l0 x9_1).f0).length c201_0, .slice none 0 0, .int .u64 0, .int .u8 0, .int .u8 0]) ?_ 1 _ rfl; (with_reducible repeat (first | refine blk_drewN ?_ _ | refine blk_drew ?_ | refine blk_alloc ?_ _)); refine blk_put (cs := #[.slice none 0 0, .slice none 0 0, .int .u64 0, .int .u8 0, .int .u8 0]) ?_ 0 _ rfl; (with_reducible repeat (first | refine blk_drewN ?_ _ | refine blk_drew ?_ | refine blk_alloc ?_ _)); exact BK202.out) hb); have n3_ := Aside0.mk (below_step (by repeat (first | (with_reducible first | exact HB.out | apply below_alloc | apply pw_below_drewN | apply below_drew1 | refine below_set ?_ GE202.out) | exact HB.out)) hb); clear HO_3; clear BK202; clear HB; have HO_3 := n0_; have HO205 := n1_; have BK202 := n2_; have HB := n3_; clear n0_ n1_ n2_ n3_; (try clear hb); (try clear hb2); (try clear hk); (try clear hi); (try clear ho0); obtain ⟨Ao14, co14, eo14⟩ := Kd.R_slice HO205.out; subst eo14) | ((with_reducible refine gate_builtin (b := .append) (xs := #[.tmp 13, .tmp 15]) rfl ?_); at_builtin; refine Kd.R_append_rows (Kd.int .u8) (w0 := w) w.heap.size rfl (.tmp 13) (.tmp 15) 22 5 (.int .u8 0) 1 rfl Tryd.underlying22 info5 rfl (by decide) (by omega) u3 x3_1 t203 _ _ _ (fun k_ => some k_ ≠ (.slice Ao14 t203.length co14 : Value).ownBlock) (fun _ => False) rfl rfl ?aO ?aR (fun _ _ h => h) (fun _ h => h.elim) ?aF ?aB ?aS ?aL ?_; (case aR => repeat (first | exact (Kd.R_reads' HO205.out).2.2 | (with_reducible refine Kd.C_alloc ?_ _) | (with_reducible refine Kd.C_drewN ?_ _) | (with_reducible refine Kd.C_drew ?_))); (case aB => exact (by repeat (first | (with_reducible first | exact HB.out | apply below_alloc | apply pw_below_drewN | apply below_drew1 | refine below_set ?_ GE202.out) | exact HB.out))); (case aF => exact (fun k_ hk => Kd.fresh' (Kd.R_lt (by (with_reducible repeat (first | apply Kd.R_alloc | apply Kd.R_drewN | apply Kd.R_drew)); exact HO205.out)) k_ hk)); (case aO => exact (by (with_reducible repeat (first | apply Kd.R_alloc | apply Kd.R_drewN | apply Kd.R_drew)); exact Kd.R_mono HO_3.out (fun _ hk => hk.2))); (case aS => exact (below_size (by repeat (first | (with_reducible first | exact HB.out | apply below_alloc | apply pw_below_drewN | apply below_drew1 | refine below_set ?_ GE202.out) | exact HB.out)))); (case aL => have := LMc9.out; omega); intro v207 w13 ho hb hg hat; rw [← Ny206.out] at ho; have n0_ := Aside0.mk (blk_grown (g := gb202) (o := .cells #[.slice A201_0 ((rd_T72 l0 x9_1).f0).length c201_0, .slice A201_1 ((rd_T72 l0 x9_1).f1).length c201_1, .int .u64 ((rd_T72 l0 x9_1).f2), .int .u8 ((rd_T72 l0 x9_1).f3), .int .u8 ((rd_T72 l0 x9_1).f4)] 72 (0, 0)) (by (with_reducible repeat (first | refine blk_drewN ?_ _ | refine blk_drew ?_ | refine blk_alloc ?_ _)); exact BK202.out) hg (Kd.R_ne HO_3.out BK202.out (by decide))); have n1_ := Aside0.mk (Kd.R_after (ok := (fun _ => True)) (by (with_reducible repeat (first | apply Kd.R_alloc | apply Kd.R_drewN | apply Kd.R_drew)); exact HO205.out) hg hat); have n2_ := Aside0.mk (hb); have n3_ := Aside0.mk (ho); clear BK202; clear HO205; clear HB; clear HO_3; have BK202 := n0_; have HO205 := n1_; have HB := n2_; have HO208 := n3_; clear n0_ n1_ n2_ n3_; clear ho hb hg hat))
                go_roundg k1
                case measure => have := HK1.out; omega
                case rel => exact ⟨(y206), (wrap64 (x9_1 + 1)), (by first | rfl | (simp; done) | (simp [*]; done)), H', ⟨by have := HK1.out; omega⟩, ⟨by (with_reducible repeat (first | apply Kd.R_alloc | apply Kd.R_drewN | apply Kd.R_drew)); exact Kd.R_mono HO208.out (fun _ hk => trivial)⟩, ⟨by repeat (first | (with_reducible first | exact HB.out | apply below_alloc | apply pw_below_drewN | apply below_drew1 | refine below_set ?_ GE202.out) | exact HB.out)⟩⟩
              · rw [if_neg c9] at H
                exact absurd H (by simp)
            · rw [if_neg c7] at H
              exact absurd H (by simp)
          · rw [if_neg c6] at H
            exact absurd H (by simp)
        · rw [if_neg c5] at H
          have c5b0 : decide (x9_1 < (l0.length : Int)) = false := decide_eq_false c5
          clear c5
          obtain rfl := Option.some.inj H
          go_wp2
          go_ret
          exact ⟨_, by first | rfl | (simp [errW_none, errW_some] <;> rfl) | (simp [*, errW_none, errW_some] <;> rfl), by (with_reducible repeat (first | apply Kd.R_alloc | apply Kd.R_drewN | apply Kd.R_drew)); exact HO_3.out, by repeat (first | (with_reducible first | exact HB.out | apply below_alloc | apply pw_below_drewN | apply below_drew1) | exact HB.out)⟩
  · rw [if_neg c2] at H
    exact absurd H (by simp)

/-! ### impl_LogOf: function 25 -/
def impl_LogOf.l0 : Nat → List (S72) → List (S40) → Int → Int → Option (List Int)
  | 0, _, _, _, _ => none
  | k + 1, x3, x7, x8, x9 => if x9 < x8 then (if 0 ≤ x9 then (if x9 < (x7.length : Int) then ((impl_givenRec.f ((rd_T40 x7 x9).f0) ((rd_T40 x7 x9).f1) ((rd_T40 x7 x9).f2) ((rd_T40 x7 x9).f3) ((rd_T40 x7 x9).f4)).bind fun bt214 => (if x3.length < 2199023255552 then (impl_LogOf.l0 k (x3 ++ [(⟨bt214.1, bt214.2.1, bt214.2.2.1, bt214.2.2.2.1, bt214.2.2.2.2⟩ : S72)]) x7 x8 (wrap64 (x9 + 1))) else (none))) else (none)) else (none)) else ((badgerlog_Log.f k x3).bind fun t226 => ((impl_own.f t226).bind fun t229 => (some t229)))
def impl_LogOf.f (k : Nat) (l0 : List (S40)) : Option (List Int) := impl_LogOf.l0 k (([] : List (S72))) l0 (l0.length : Int) 0
theorem impl_LogOf.mono_l : ∀ k, (∀ y0 y1 y2 y3, LeO (impl_LogOf.l0 k y0 y1 y2 y3) (impl_LogOf.l0 (k + 1) y0 y1 y2 y3))
  | 0 => fun _ _ _ _ r h => by simp [impl_LogOf.l0] at h
  | k + 1 => by
    have ih0 := impl_LogOf.mono_l k
    · intro y0 y1 y2 y3
      unfold impl_LogOf.l0
      repeat' first
      | (with_reducible exact ih0 _ _ _ _)
      | (with_reducible exact badgerlog_Log.mono _ _)
      | (with_reducible exact LeO.refl _)
      | (with_reducible exact LeO.none _)
      | (with_reducible refine LeO.ite ?_ ?_)
      | (with_reducible refine LeO.bind ?_ (fun _ => ?_))
      | exact ih0 _ _ _ _
      | exact badgerlog_Log.mono _ _
      | exact LeO.none _
      | refine LeO.ite ?_ ?_
      | refine LeO.bind ?_ (fun _ => ?_)
theorem impl_LogOf.mono : ∀ a0 k, LeO (impl_LogOf.f k a0) (impl_LogOf.f (k + 1) a0) := by
  intro a0 k
  have ih0 := impl_LogOf.mono_l k
  unfold impl_LogOf.f
  repeat' first
      | (with_reducible exact ih0 _ _ _ _)
      | (with_reducible exact badgerlog_Log.mono _ _)
      | (with_reducible exact LeO.refl _)
      | (with_reducible exact LeO.none _)
      | (with_reducible refine LeO.ite ?_ ?_)
      | (with_reducible refine LeO.bind ?_ (fun _ => ?_))
      | exact ih0 _ _ _ _
      | exact badgerlog_Log.mono _ _
      | exact LeO.none _
      | refine LeO.ite ?_ ?_
      | refine LeO.bind ?_ (fun _ => ?_)
set_option maxHeartbeats 8000000 in
set_option maxRecDepth 100000 in
theorem impl_LogOf.calls (k : Nat) (A0 : Option Addr) (c0 : Nat) (l0 : List (S40)) (r : List Int) (w : World) (hr0 : Kd.C k40 w A0 l0.length l0) (hc0 : l0.length ≤ c0) (h : impl_LogOf.f k l0 = some r) :
    Calls Tryd.prog 25 #[.slice A0 l0.length c0] w fun e w' => ∃ v0_ : Value, e = .returned (v0_) ∧ Kd.R (Kd.int .u8) 5 w' w.heap.size (fun _ => True) v0_ r ∧ Below w.heap.size w w' := by
  have hu40 := Tryd.underlying40
  have HR0 := Aside0.mk hr0
  have HC0 := Aside0.mk hc0
  clear hr0 hc0
  have HB := Aside0.mk (Below.refl w.heap.size w)
  have H : (impl_LogOf.l0 k (([] : List (S72))) l0 (l0.length : Int) 0) = some r := h
  clear h
  obtain ⟨y209, hy209⟩ : ∃ y_ : List (S72), y_ = (([] : List (S72))) := ⟨_, rfl⟩
  replace H : (impl_LogOf.l0 k y209 l0 (l0.length : Int) 0) = some r := by first | (rw [hy209]; with_reducible exact H) | (have H2_ := (Option.bind_some _ _).symm.trans H; rw [hy209]; with_reducible exact H2_) | (have H2_ := (Option.bind_some _ _).symm.trans H; with_reducible exact H2_) | with_reducible exact H | (rw [hy209]; exact H) | exact H
  have Ny209 := Aside0.mk hy209
  clear hy209
  have H' := Aside0.mk H
  clear H
  go_enter Tryd.func25, Tryd.ntmps25
  go_wp2_with (first | ((with_reducible refine gate_dst (N := 6) rfl ?_); refine Kd.S_lit k72 _ 72 ?hg (N := 6) ?hd (xs := ([] : List (S72))) (inner := []) (ok := fun _ => True) (okp := fun _ => True) ?hr ?hp (fun _ hk => hk) trivial (Below.refl _ _) (Nat.le_refl _) (by simp) ?_; (case hd => rfl); (case hg => rfl); (case hr => first | (go_simp; done) | (go_simp; rfl)); (case hp => exact (Reps.none _ _)); intro v210 w2 ho3 hb hg_ hnew_; clear hg_ hnew_; (first | rw [← Ny209.out] at ho3 | (simp only [Int.reduceToNat] at ho3; rw [← Ny209.out] at ho3)); have n0_ := Aside0.mk (Kd.S_lower ho3 (below_size (by repeat (first | (with_reducible first | exact HB.out | apply below_alloc | apply pw_below_drewN | apply below_drew1) | exact HB.out)))); have n1_ := Aside0.mk (below_step (by repeat (first | (with_reducible first | exact HB.out | apply below_alloc | apply pw_below_drewN | apply below_drew1) | exact HB.out)) hb); clear HB; have HO211 := n0_; have HB := n1_; clear n0_ n1_; clear hb ho3))
  go_loopg [3, 9] k (fun kq v3 v9 w' => ∃ (x3_1 : List (S72)) (x9_1 : Int), v9 = .int .i64 x9_1 ∧ Aside0 (impl_LogOf.l0 kq x3_1 l0 (l0.length : Int) x9_1 = some r) ∧ Aside0 (kq ≤ k) ∧ Aside0 (Kd.S k72 72 w' w.heap.size (fun _ => True) v3 x3_1) ∧ Aside0 (Below w.heap.size w w'))
  case atStart => exact ⟨(y209), (0), (by first | rfl | (simp; done) | (simp [*]; done)), H', ⟨Nat.le_refl _⟩, ⟨by (with_reducible repeat (first | apply Kd.S_alloc | apply Kd.S_drewN | apply Kd.S_drew)); exact HO211.out⟩, ⟨by repeat (first | (with_reducible first | exact HB.out | apply below_alloc | apply pw_below_drewN | apply below_drew1) | exact HB.out)⟩⟩
  case round =>
    clear H'
    try clear c2
    try clear p2
    obtain ⟨x3_1, x9_1, rfl, HA, HK1, HO_3, HB⟩ := hrel
    cases gk with
    | zero => exact absurd HA.out (by simp [impl_LogOf.l0])
    | succ k1 =>
      have H := HA.out
      clear HA
      simp only [impl_LogOf.l0] at H
      by_cases c4 : x9_1 < (l0.length : Int)
      · rw [if_pos c4] at H
        have c4b0 : decide (x9_1 < (l0.length : Int)) = true := decide_eq_true c4
        clear c4
        by_cases c5 : 0 ≤ x9_1
        · rw [if_pos c5] at H
          have c5b0 : decide (0 ≤ x9_1) = true := decide_eq_true c5
          clear c5
          by_cases c6 : x9_1 < (l0.length : Int)
          · rw [if_pos c6] at H
            have c6b0 : decide (x9_1 < (l0.length : Int)) = true := decide_eq_true c6
            clear c6
            replace H := Option.bind_eq_some_iff.mp H
            obtain ⟨⟨t214, t217, t220, t221, t222⟩, A70, H⟩ := H
            replace H : (if x3_1.length < 2199023255552 then (impl_LogOf.l0 k1 (x3_1 ++ [(⟨t214, t217, t220, t221, t222⟩ : S72)]) l0 (l0.length : Int) (wrap64 (x9_1 + 1))) else (none)) = some r := H
            have A7 := Aside0.mk A70
            clear A70
            by_cases c8 : x3_1.length < 2199023255552
            · rw [if_pos c8] at H
              have LMc8 := Aside0.mk c8
              clear c8
              obtain ⟨y223, hy223⟩ : ∃ y_ : List (S72), y_ = (x3_1 ++ [(⟨t214, t217, t220, t221, t222⟩ : S72)]) := ⟨_, rfl⟩
              replace H : (impl_LogOf.l0 k1 y223 l0 (l0.length : Int) (wrap64 (x9_1 + 1))) = some r := by first | (rw [hy223]; with_reducible exact H) | (have H2_ := (Option.bind_some _ _).symm.trans H; rw [hy223]; with_reducible exact H2_) | (have H2_ := (Option.bind_some _ _).symm.trans H; with_reducible exact H2_) | with_reducible exact H | (rw [hy223]; exact H) | exact H
              have Ny223 := Aside0.mk hy223
              clear hy223
              have H' := Aside0.mk H
              clear H
              have p212 : 0 ≤ (x9_1 : Int) := of_decide_eq_true (by first | (with_reducible assumption) | assumption)
              have q212 : x9_1 < (l0.length : Int) := of_decide_eq_true (by first | (with_reducible assumption) | assumption)
              obtain ⟨ad212, A212_0, c212_0, A212_1, c212_1, e212, hx212_0, hx212_1, hx212_2, hx212_3, hx212_4, hl212_0, hi212_0, hl212_1, hi212_1⟩ := at_T40 HR0.out x9_1 p212 q212
              cases e212
              replace hx212_0 := (HB.out.cell (World.block_lt_of_cell? w _ hx212_0)).trans hx212_0
              replace hx212_1 := (HB.out.cell (World.block_lt_of_cell? w _ hx212_1)).trans hx212_1
              replace hx212_2 := (HB.out.cell (World.block_lt_of_cell? w _ hx212_2)).trans hx212_2
              replace hx212_3 := (HB.out.cell (World.block_lt_of_cell? w _ hx212_3)).trans hx212_3
              replace hx212_4 := (HB.out.cell (World.block_lt_of_cell? w _ hx212_4)).trans hx212_4
              have HR212_0 := Aside0.mk hi212_0
              have HC212_0 := Aside0.mk hl212_0
              clear hi212_0 hl212_0
              have HR212_1 := Aside0.mk hi212_1
              have HC212_1 := Aside0.mk hl212_1
              clear hi212_1 hl212_1
              replace p212 := eq_true p212
              replace q212 := eq_true q212
              go_wp2_with (first | ((with_reducible refine gate_dst (N := 5) rfl ?_); refine box_event ?hg (N := 5) ?hd (cs := #[.slice none 0 0, .slice none 0 0, .int .u64 0, .int .u8 0, .int .u8 0]) (t := 40) ?hr ?_; (case hd => rfl); (case hg => rfl); (case hr => first | (go_simp; done) | (go_simp; rfl)); intro gb213 hg w9 hbox hb; have n0_ := Aside0.mk (Kd.S_below (by (with_reducible repeat (first | apply Kd.S_alloc | apply Kd.S_drewN | apply Kd.S_drew)); exact HO_3.out) hb); have n1_ := Aside0.mk (below_step (by repeat (first | (with_reducible first | exact HB.out | apply below_alloc | apply pw_below_drewN | apply below_drew1) | exact HB.out)) hb); have n2_ := Aside0.mk (hbox); have n3_ := Aside0.mk ((by rw [hg]; exact (below_size (by repeat (first | (with_reducible first | exact HB.out | apply below_alloc | apply pw_below_drewN | apply below_drew1) | exact HB.out))) : w.heap.size ≤ gb213)); have n4_ := Aside0.mk ((by rw [hg]; exact (below_size (by repeat (first | (with_reducible first | exact HB.out | apply below_alloc | apply pw_below_drewN | apply below_drew1) | exact HB.out))) : w.heap.size ≤ gb213)); clear HO_3; clear HB; have HO_3 := n0_; have HB := n1_; have BK213 := n2_; have GW213 := n3_; have GE213 := n4_; clear n0_ n1_ n2_ n3_ n4_; clear hb hbox hg; have hcz10_0 : w9.cell? ⟨gb213, 0, none⟩ = some (.slice none 0 0) := (blk_cell BK213.out 0).trans rfl; have hcz10_1 : w9.cell? ⟨gb213, 1, none⟩ = some (.slice none 0 0) := (blk_cell BK213.out 1).trans rfl; have hcz10_2 : w9.cell? ⟨gb213, 2, none⟩ = some (.int .u64 0) := (blk_cell BK213.out 2).trans rfl; have hcz10_3 : w9.cell? ⟨gb213, 3, none⟩ = some (.int .u8 0) := (blk_cell BK213.out 3).trans rfl; have hcz10_4 : w9.cell? ⟨gb213, 4, none⟩ = some (.int .u8 0) := (blk_cell BK213.out 4).trans rfl; have hfz10_0 := blk_frozen BK213.out 0; have hfz10_1 := blk_frozen BK213.out 1; have hfz10_2 := blk_frozen BK213.out 2; have hfz10_3 := blk_frozen BK213.out 3; have hfz10_4 := blk_frozen BK213.out 4) | ((with_reducible refine gate_callee (f := 39) rfl ?_); refine goesL_ (some 15) rfl rfl Tryd.func39 (by kernel_rfl) rfl #[.agg #[.slice A212_0 ((rd_T40 l0 x9_1).f0).length c212_0, .slice A212_1 ((rd_T40 l0 x9_1).f1).length c212_1, .int .u64 ((rd_T40 l0 x9_1).f2), .int .u8 ((rd_T40 l0 x9_1).f3), .int .u8 ((rd_T40 l0 x9_1).f4)]] rfl (by (try simp only [List.map_toArray, List.map_cons, List.map_nil]); first | done | rfl | (simp only [List.length_drop, List.length_take]; rfl)) ?_; (with_reducible refine (impl_givenRec.calls _ _ ((rd_T40 l0 x9_1).f0) _ _ ((rd_T40 l0 x9_1).f1) ((rd_T40 l0 x9_1).f2) ((rd_T40 l0 x9_1).f3) ((rd_T40 l0 x9_1).f4) t214 t217 t220 t221 t222 _ ?side1 ?side2 ?side3 ?side4 A7.out).mono ?_); (case side1 => exact Kd.C_below HR212_0.out (by repeat (first | (with_reducible first | exact HB.out | apply below_alloc | apply pw_below_drewN | apply below_drew1 | refine below_set ?_ GE213.out) | exact HB.out))); (case side2 => exact HC212_0.out); (case side3 => exact Kd.C_below HR212_1.out (by repeat (first | (with_reducible first | exact HB.out | apply below_alloc | apply pw_below_drewN | apply below_drew1 | refine below_set ?_ GE213.out) | exact HB.out))); (case side4 => exact HC212_1.out); rintro e w11 ⟨v215, v218, rfl, ho0, ho1, hb⟩; refine ⟨_, rfl, ?_⟩; have n0_ := Aside0.mk (Kd.S_mono (Kd.S_told (Kd.S_told (Kd.S_old (by (with_reducible repeat (first | apply Kd.S_alloc | apply Kd.S_drewN | apply Kd.S_drew)); exact (Kd.S_mono (Kd.S_far (p := ⟨gb213, 4, none⟩) (Kd.S_far (p := ⟨gb213, 3, none⟩) (Kd.S_far (p := ⟨gb213, 2, none⟩) (Kd.S_far (p := ⟨gb213, 1, none⟩) (Kd.S_far (p := ⟨gb213, 0, none⟩) (Kd.S_types HO_3.out BK213.out (by decide)) (fun _ hk => hk.2) (.slice A212_0 ((rd_T40 l0 x9_1).f0).length c212_0)) (fun _ hk => hk.2) (.slice A212_1 ((rd_T40 l0 x9_1).f1).length c212_1)) (fun _ hk => hk.2) (.int .u64 ((rd_T40 l0 x9_1).f2))) (fun _ hk => hk.2) (.int .u8 ((rd_T40 l0 x9_1).f3))) (fun _ hk => hk.2) (.int .u8 ((rd_T40 l0 x9_1).f4))) (fun _ h_ => h_.1))) hb) (Kd.R_base ho0)) (Kd.R_base ho1)) (fun _ h_ => h_.1)); have n1_ := Aside0.mk (Kd.R_lower ho0 (below_size (by repeat (first | (with_reducible first | exact HB.out | apply below_alloc | apply pw_below_drewN | apply below_drew1 | refine below_set ?_ GE213.out) | exact HB.out)))); have n2_ := Aside0.mk (Kd.R_lower ho1 (below_size (by repeat (first | (with_reducible first | exact HB.out | apply below_alloc | apply pw_below_drewN | apply below_drew1 | refine below_set ?_ GE213.out) | exact HB.out)))); have n3_ := Aside0.mk (blk_below (g := gb213) (o := .cells #[.slice A212_0 ((rd_T40 l0 x9_1).f0).length c212_0, .slice A212_1 ((rd_T40 l0 x9_1).f1).length c212_1, .int .u64 ((rd_T40 l0 x9_1).f2), .int .u8 ((rd_T40 l0 x9_1).f3), .int .u8 ((rd_T40 l0 x9_1).f4)] 40 (0, 0)) (by (with_reducible repeat (first | refine blk_drewN ?_ _ | refine blk_drew ?_ | refine blk_alloc ?_ _)); refine blk_put (cs := #[.slice A212_0 ((rd_T40 l0 x9_1).f0).length c212_0, .slice A212_1 ((rd_T40 l0 x9_1).f1).length c212_1, .int .u64 ((rd_T40 l0 x9_1).f2), .int .u8 ((rd_T40 l0 x9_1).f3), .int .u8 0]) ?_ 4 _ rfl; (with_reducible repeat (first | refine blk_drewN ?_ _ | refine blk_drew ?_ | refine blk_alloc ?_ _)); refine blk_put (cs := #[.slice A212_0 ((rd_T40 l0 x9_1).f0).length c212_0, .slice A212_1 ((rd_T40 l0 x9_1).f1).length c212_1, .int .u64 ((rd_T40 l0 x9_1).f2), .int .u8 0, .int .u8 0]) ?_ 3 _ rfl; (with_reducible repeat (first | refine blk_drewN ?_ _ | refine blk_drew ?_ | refine blk_alloc ?_ _)); refine blk_put (cs := #[.slice A212_0 ((rd_T40 l0 x9_1).f0).length c212_0, .slice A212_1 ((rd_T40 l0 x9_1).f1).length c212_1, .int .u64 0, .int .u8 0, .int .u8 0]) ?_ 2 _ rfl; (with_reducible repeat (first | refine blk_drewN ?_ _ | refine blk_drew ?_ | refine blk_alloc ?_ _)); refine blk_put (cs := #[.slice A212_0 ((rd_T40 l0 x9_1).f0).length c212_0, .slice none 0 0, .int .u64 0, .int .u8 0, .int .u8 0]) ?_ 1 _ rfl; (with_reducible repeat (first | refine blk_drewN ?_ _ | refine blk_drew ?_ | refine blk_alloc ?_ _)); refine blk_put (cs := #[.slice none 0 0, .slice none 0 0, .int .u64 0, .int .u8 0, .int .u8 0]) ?_ 0 _ rfl; (with_reducible repeat (first | refine blk_drewN ?_ _ | refine blk_drew ?_ | refine blk_alloc ?_ _)); exact BK213.out) hb); have n4_ := Aside0.mk (below_step (by repeat (first | (with_reducible first | exact HB.out | apply below_alloc | apply pw_below_drewN | apply below_drew1 | refine below_set ?_ GE213.out) | exact HB.out)) hb); clear HO_3; clear BK213; clear HB; have HO_3 := n0_; have HO216 := n1_; have HO219 := n2_; have BK213 := n3_; have HB := n4_; clear n0_ n1_ n2_ n3_ n4_; (try clear hb); (try clear hb2); (try clear hk); (try clear hi); (try clear ho0); (try clear ho1); obtain ⟨Ao13, co13, eo13⟩ := Kd.R_slice HO216.out; subst eo13; obtain ⟨Ao14, co14, eo14⟩ := Kd.R_slice HO219.out; subst eo14) | ((with_reducible refine gate_builtin (b := .append) (xs := #[.tmp 13, .tmp 16]) rfl ?_); at_builtin; refine Kd.S_append k72 (w0 := w) w.heap.size rfl (.tmp 13) (.tmp 16) 83 72 (.agg #[(.slice none 0 0), (.slice none 0 0), (.int .u64 0), (.int .u8 0), (.int .u8 0)]) 64 rfl Tryd.underlying83 info72 rfl (by decide) (by omega) u3 x3_1 (⟨t214, t217, t220, t221, t222⟩ : S72) [.slice Ao13 t214.length co13, .slice Ao14 t217.length co14, .int .u64 t220, .int .u8 t221, .int .u8 t222] (fun _ => True) (fun k_ => some k_ = (.slice Ao13 t214.length co13 : Value).ownBlock ∨ some k_ = (.slice Ao14 t217.length co14 : Value).ownBlock) rfl rfl ?aP (fun k_ hk_ => hk_.elim (fun h_ => ((Kd.R_mono (ok' := fun k_ => ((fun _ => True)) k_ ∧ some k_ ≠ (u3 : Value).ownBlock) (Kd.R_apart' (HO216.out) (Kd.S_typed HO_3.out) (by decide)) (fun k_ hk => ⟨trivial, hk.2⟩))).1 k_ h_.symm) (fun h_ => ((Kd.R_mono (ok' := fun k_ => ((fun _ => True)) k_ ∧ some k_ ≠ (u3 : Value).ownBlock) (Kd.R_apart' (HO219.out) (Kd.S_typed HO_3.out) (by decide)) (fun k_ hk => ⟨trivial, hk.2⟩))).1 k_ h_.symm)) ?aF ?aO ?aB ?aS ?aL ?_; (case aP => exact k72_mkM _ _ _ (⟨t214, t217, t220, t221, t222⟩ : S72) (Kd.R_mono (Kd.R_tight rfl (Kd.R_mono (ok' := fun k_ => ((fun _ => True)) k_ ∧ some k_ ≠ (u3 : Value).ownBlock) (Kd.R_apart' (HO216.out) (Kd.S_typed HO_3.out) (by decide)) (fun k_ hk => ⟨trivial, hk.2⟩))) (fun _ h_ => Or.inl h_)) (Kd.R_mono (Kd.R_tight rfl (Kd.R_mono (ok' := fun k_ => ((fun _ => True)) k_ ∧ some k_ ≠ (u3 : Value).ownBlock) (Kd.R_apart' (HO219.out) (Kd.S_typed HO_3.out) (by decide)) (fun k_ hk => ⟨trivial, hk.2⟩))) (fun _ h_ => Or.inr (h_)))); (case aB => exact (by repeat (first | (with_reducible first | exact HB.out | apply below_alloc | apply pw_below_drewN | apply below_drew1 | refine below_set ?_ GE213.out) | exact HB.out))); (case aF => exact (fun _ _ => trivial)); (case aO => exact (by (with_reducible repeat (first | apply Kd.S_alloc | apply Kd.S_drewN | apply Kd.S_drew)); exact Kd.S_mono HO_3.out (fun k_ hk => ⟨trivial, fun e_ => e_.elim (fun h_ => hk.1.2 h_) (fun h_ => hk.2 h_)⟩))); (case aS => exact (below_size (by repeat (first | (with_reducible first | exact HB.out | apply below_alloc | apply pw_below_drewN | apply below_drew1 | refine below_set ?_ GE213.out) | exact HB.out)))); (case aL => have := LMc8.out; omega); intro v224 w12 ho hb hg hat; rw [← Ny223.out] at ho; have n0_ := Aside0.mk (blk_grown (g := gb213) (o := .cells #[.slice A212_0 ((rd_T40 l0 x9_1).f0).length c212_0, .slice A212_1 ((rd_T40 l0 x9_1).f1).length c212_1, .int .u64 ((rd_T40 l0 x9_1).f2), .int .u8 ((rd_T40 l0 x9_1).f3), .int .u8 ((rd_T40 l0 x9_1).f4)] 40 (0, 0)) (by (with_reducible repeat (first | refine blk_drewN ?_ _ | refine blk_drew ?_ | refine blk_alloc ?_ _)); exact BK213.out) hg (Kd.S_ne HO_3.out BK213.out (by decide))); have n1_ := Aside0.mk (hb); have n2_ := Aside0.mk (ho); clear BK213; clear HB; clear HO_3; clear HO216; clear HO219; have BK213 := n0_; have HB := n1_; have HO225 := n2_; clear n0_ n1_ n2_; clear ho hb hg hat))
              go_roundg k1
              case measure => have := HK1.out; omega
              case rel => exact ⟨(y223), (wrap64 (x9_1 + 1)), (by first | rfl | (simp; done) | (simp [*]; done)), H', ⟨by have := HK1.out; omega⟩, ⟨by (with_reducible repeat (first | apply Kd.S_alloc | apply Kd.S_drewN | apply Kd.S_drew)); exact HO225.out⟩, ⟨by repeat (first | (with_reducible first | exact HB.out | apply below_alloc | apply pw_below_drewN | apply below_drew1 | refine below_set ?_ GE213.out) | exact HB.out)⟩⟩
            · rw [if_neg c8] at H
              exact absurd H (by simp)
          · rw [if_neg c6] at H
            exact absurd H (by simp)
        · rw [if_neg c5] at H
          exact absurd H (by simp)
      · rw [if_neg c4] at H
        have c4b0 : decide (x9_1 < (l0.length : Int)) = false := decide_eq_false c4
        clear c4
        replace H := Option.bind_eq_some_iff.mp H
        obtain ⟨t226, A150, H⟩ := H
        replace H : ((impl_own.f t226).bind fun t229 => (some t229)) = some r := H
        have A15 := Aside0.mk A150
        clear A150
        replace H := Option.bind_eq_some_iff.mp H
        obtain ⟨t229, A160, H⟩ := H
        replace H : (some t229) = some r := H
        have A16 := Aside0.mk A160
        clear A160
        obtain rfl := Option.some.inj H
        obtain ⟨Ao17, co17, eo17⟩ := Kd.S_slice HO_3.out
        subst eo17
        go_wp2_with (first | ((with_reducible refine gate_callee (f := 45) rfl ?_); refine goesL_ (some 20) rfl rfl Tryd.func45 (by kernel_rfl) rfl #[.slice Ao17 x3_1.length co17] rfl (by (try simp only [List.map_toArray, List.map_cons, List.map_nil]); first | done | rfl | (simp only [List.length_drop, List.length_take]; rfl)) ?_; (with_reducible refine (badgerlog_Log.calls k1 _ _ x3_1 t226 _ ?side1 ?side2 A15.out).mono ?_); (case side1 => repeat (first | exact (Kd.S_reads' HO_3.out).2.2 | (with_reducible refine Kd.C_alloc ?_ _) | (with_reducible refine Kd.C_drewN ?_ _) | (with_reducible refine Kd.C_drew ?_))); (case side2 => exact (Kd.S_reads' HO_3.out).2.1); rintro e w18 ⟨v227, rfl, ho0, hb⟩; refine ⟨_, rfl, ?_⟩; have n0_ := Aside0.mk (Kd.S_elder' (by (with_reducible repeat (first | apply Kd.S_alloc | apply Kd.S_drewN | apply Kd.S_drew)); exact HO_3.out) (Kd.R_base ho0) hb); have n1_ := Aside0.mk (Kd.R_lower ho0 (below_size (by repeat (first | (with_reducible first | exact HB.out | apply below_alloc | apply pw_below_drewN | apply below_drew1) | exact HB.out)))); have n2_ := Aside0.mk (below_step (by repeat (first | (with_reducible first | exact HB.out | apply below_alloc | apply pw_below_drewN | apply below_drew1) | exact HB.out)) hb); clear HO_3; clear HB; have HO_3 := n0_; have HO228 := n1_; have HB := n2_; clear n0_ n1_ n2_; (try clear hb); (try clear hb2); (try clear hk); (try clear hi); (try clear ho0); obtain ⟨Ao19, co19, eo19⟩ := Kd.R_slice HO228.out; subst eo19) | ((with_reducible refine gate_callee (f := 29) rfl ?_); refine goesL_ (some 21) rfl rfl Tryd.func29 (by kernel_rfl) rfl #[.slice Ao19 t226.length co19] rfl (by (try simp only [List.map_toArray, List.map_cons, List.map_nil]); first | done | rfl | (simp only [List.length_drop, List.length_take]; rfl)) ?_; (with_reducible refine (impl_own.calls _ _ t226 t229 _ ?side1 ?side2 A16.out).mono ?_); (case side1 => repeat (first | exact (Kd.R_reads' HO228.out).2.2 | (with_reducible refine Kd.C_alloc ?_ _) | (with_reducible refine Kd.C_drewN ?_ _) | (with_reducible refine Kd.C_drew ?_))); (case side2 => exact (Kd.R_reads' HO228.out).2.1); rintro e w20 ⟨v230, rfl, ho0, hb⟩; refine ⟨_, rfl, ?_⟩; have n0_ := Aside0.mk (Kd.S_elder' (by (with_reducible repeat (first | apply Kd.S_alloc | apply Kd.S_drewN | apply Kd.S_drew)); exact HO_3.out) (Kd.R_base ho0) hb); have n1_ := Aside0.mk (Kd.R_elder' (by (with_reducible repeat (first | apply Kd.R_alloc | apply Kd.R_drewN | apply Kd.R_drew)); exact HO228.out) (Kd.R_base ho0) hb); have n2_ := Aside0.mk (Kd.R_lower (Kd.R_new' ho0 (Kd.R_lt (by (with_reducible repeat (first | apply Kd.R_alloc | apply Kd.R_drewN | apply Kd.R_drew)); exact HO228.out))) (below_size (by repeat (first | (with_reducible first | exact HB.out | apply below_alloc | apply pw_below_drewN | apply below_drew1) | exact HB.out)))); have n3_ := Aside0.mk (below_step (by repeat (first | (with_reducible first | exact HB.out | apply below_alloc | apply pw_below_drewN | apply below_drew1) | exact HB.out)) hb); clear HO_3; clear HO228; clear HB; have HO_3 := n0_; have HO228 := n1_; have HO231 := n2_; have HB := n3_; clear n0_ n1_ n2_ n3_; (try clear hb); (try clear hb2); (try clear hk); (try clear hi); (try clear ho0)))
        go_ret
        exact ⟨_, by first | rfl | (simp [errW_none, errW_some] <;> rfl) | (simp [*, errW_none, errW_some] <;> rfl), by (with_reducible repeat (first | apply Kd.R_alloc | apply Kd.R_drewN | apply Kd.R_drew)); exact Kd.R_mono HO231.out (fun _ hk => trivial), by repeat (first | (with_reducible first | exact HB.out | apply below_alloc | apply pw_below_drewN | apply below_drew1) | exact HB.out)⟩

end Go.Proofs.YtbbncbjdpopkiaaDoorQ.QL
