-- Lines that a program has printed for this claim: functions as plain Lean functions, and their walks.
import Derived.Test.YtpfmmbhbmdbmeaaGreatDoorQL0
import Derived.Test.YtpfmmbhbmdbmeaaGreatDoorQL4
import Derived.Test.YtpfmmbhbmdbmeaaGreatDoorMK
namespace Go.Proofs.YtpfmmbhbmdbmeaaGreatDoorQ.QL
open Go.RowKit Go.Proofs.YtpfmmbhbmdbmeaaGreatDoorQ.Ext Go.Proofs.YtpfmmbhbmdbmeaaGreatDoorW.PrintWords Go.Proofs.YtpfmmbhbmdbmeaaGreatDoorW.PrintLast Go.Proofs.YtpfmmbhbmdbmeaaGreatDoorW.PrintMore
attribute [local go_sem] max2_int min2_int max_two min_two max_three min_three max_four min_four   -- for this text's walks alone
set_option linter.unusedVariables false
set_option linter.unusedSimpArgs false

/-! ### spec_Unit_written: function 17 -/
mutual
def spec_Unit_written.l0 : Nat → List (S31) → List (S31) → Int → Int → List (S31) → Bool → Int → Bool → Option ((List (S31)))
  | 0, _, _, _, _, _, _, _, _ => none
  | k + 1, x3, x8, x9, x10, x126000, x126001, x126002, x126003 => if x10 < x9 then (if 0 ≤ x10 then (if x10 < (x8.length : Int) then (if x126001 = true then ((spec_KeyBytes.f ((rd_T31 x8 x10).f0) x126002).bind fun t131 => (if x3.length < 2199023255552 then (spec_Unit_written.l0 k (x3 ++ [(⟨t131, (rd_T31 x8 x10).f1, (rd_T31 x8 x10).f2, Go.bits .or .u8 (Go.bits .andNot .u8 ((rd_T31 x8 x10).f3) 192) 64, (rd_T31 x8 x10).f4⟩ : S31)]) x8 x9 (wrap64 (x10 + 1)) x126000 x126001 x126002 x126003) else (none))) else (if x3.length < 2199023255552 then (spec_Unit_written.l0 k (x3 ++ [(⟨(rd_T31 x8 x10).f0, (rd_T31 x8 x10).f1, (rd_T31 x8 x10).f2, Go.bits .andNot .u8 ((rd_T31 x8 x10).f3) 192, (rd_T31 x8 x10).f4⟩ : S31)]) x8 x9 (wrap64 (x10 + 1)) x126000 x126001 x126002 x126003) else (none))) else (none)) else (none)) else (if x126001 = true then (spec_Unit_written.j1 k x3 (!x126003) x126000 x126001 x126002 x126003) else (spec_Unit_written.j1 k x3 false x126000 x126001 x126002 x126003))
def spec_Unit_written.j1 : Nat → List (S31) → Bool → List (S31) → Bool → Int → Bool → Option ((List (S31)))
  | 0, _, _, _, _, _, _ => none
  | k + 1, x3, x41, x126000, x126001, x126002, x126003 => if x41 = true then ((spec_KeyBytes.f (([33, 98, 97, 100, 103, 101, 114, 33, 116, 120, 110] : List Int)) x126002).bind fun t143 => ((spec_decimal.f k x126002).bind fun t146 => (if x3.length < 2199023255552 then (some (x3 ++ [(⟨t143, t146, 0, 128, 0⟩ : S31)])) else (none)))) else (some x3)
end
def spec_Unit_written.f (k : Nat) (l0_0 : List (S31)) (a0_1 : Bool) (a0_2 : Int) (a0_3 : Bool) : Option ((List (S31))) := spec_Unit_written.l0 k (([] : List (S31))) l0_0 (l0_0.length : Int) 0 l0_0 a0_1 a0_2 a0_3
def spec_Unit_written.T12 : Bool × List (List Nat × List Nat) := (true, [([], []), ([], []), ([1], [1]), ([], []), ([3], [3]), ([2, 4], [2, 4]), ([], []), ([6], [6]), ([7, 5], [7]), ([5, 8], [5, 8]), ([9], [9]), ([0, 10, 8], [0, 10]), ([11, 11, 0, 1, 2, 3, 4, 5, 6, 7, 8, 9, 10, 11], [0, 11])])
def spec_Unit_written.B12 : List Nat := [0, 0, 2, 0, 8, 30, 0, 64, 254, 510, 1022, 2047, 4095]
theorem spec_Unit_written.tab12 : rtab .any (opsOf Tryz.f17 12) = spec_Unit_written.T12 := by kernel_rfl
theorem spec_Unit_written.bits12 : waitsOk spec_Unit_written.T12.2 spec_Unit_written.B12 = true := by kernel_rfl
set_option maxHeartbeats 8000000 in
set_option maxRecDepth 100000 in
theorem spec_Unit_written.calls (k : Nat) (P0_0_ : Nat → Prop) (A0_0 : Option Addr) (c0_0 : Nat) (l0_0 : List (S31)) (a0_1 : Bool) (a0_2 : Int) (a0_3 : Bool) (r : List (S31)) (w : World) (hs0_0 : Kd.V k31 31 w w.heap.size (fun k_ => P0_0_ k_) (.slice A0_0 l0_0.length c0_0) l0_0) (h : spec_Unit_written.f k l0_0 a0_1 a0_2 a0_3 = some r) :
    Calls Tryz.prog 17 #[.agg #[.slice A0_0 l0_0.length c0_0, .bool a0_1, .int .u64 a0_2, .bool a0_3]] w fun e w' => ∃ v0_ : Value, e = .returned (v0_) ∧ Kd.N k31 31 w' w.heap.size (fun k_ => (P0_0_ k_ ∨ w.heap.size ≤ k_)) v0_ r ∧ Below w.heap.size w w' := by
  have hu45 := Tryz.underlying45
  have hu31 := Tryz.underlying31
  have HO0_0 := Aside0.mk (show Kd.V k31 31 w w.heap.size (fun k_ => (P0_0_ k_ ∨ w.heap.size ≤ k_)) (.slice A0_0 l0_0.length c0_0) l0_0 from Kd.V_mono hs0_0 (fun k_ hk => .inl hk))
  have HB := Aside0.mk (Below.refl w.heap.size w)
  have H : (spec_Unit_written.l0 k (([] : List (S31))) l0_0 (l0_0.length : Int) 0 l0_0 a0_1 a0_2 a0_3) = some r := h
  clear h
  obtain ⟨y126, hy126⟩ : ∃ y_ : List (S31), y_ = (([] : List (S31))) := ⟨_, rfl⟩
  replace H : (spec_Unit_written.l0 k y126 l0_0 (l0_0.length : Int) 0 l0_0 a0_1 a0_2 a0_3) = some r := by first | (rw [hy126]; with_reducible exact H) | (have H2_ := (Option.bind_some _ _).symm.trans H; rw [hy126]; with_reducible exact H2_) | (have H2_ := (Option.bind_some _ _).symm.trans H; with_reducible exact H2_) | with_reducible exact H | (rw [hy126]; exact H) | exact H
  have Ny126 := Aside0.mk hy126
  clear hy126
  have H' := Aside0.mk H
  clear H
  go_enter Tryz.func17, Tryz.ntmps17
  go_wp2_with (first | ((with_reducible refine gate_dst (N := 1) rfl ?_); refine box_event ?hg (N := 1) ?hd (cs := #[.slice A0_0 l0_0.length c0_0, .bool a0_1, .int .u64 a0_2, .bool a0_3]) (t := 45) ?hr ?_; (case hd => rfl); (case hg => rfl); (case hr => first | (go_simp; done) | (go_simp; rfl)); intro gb125 hg w2 hbox hb; have n0_ := Aside0.mk (Kd.V_below (Kd.V_elderB (by (with_reducible repeat (first | apply Kd.V_alloc | apply Kd.V_drewN | apply Kd.V_drew)); exact HO0_0.out) gb125 (Nat.le_of_eq hg.symm)) hb); have n1_ := Aside0.mk (below_step (by repeat (first | (with_reducible first | exact HB.out | apply below_alloc | apply pw_below_drewN | apply below_drew1) | exact HB.out)) hb); have n2_ := Aside0.mk (hbox); have n3_ := Aside0.mk ((by rw [hg]; exact (below_size (by repeat (first | (with_reducible first | exact HB.out | apply below_alloc | apply pw_below_drewN | apply below_drew1) | exact HB.out))) : w.heap.size ≤ gb125)); have n4_ := Aside0.mk ((by rw [hg]; exact (below_size (by repeat (first | (with_reducible first | exact HB.out | apply below_alloc | apply pw_below_drewN | apply below_drew1) | exact HB.out))) : w.heap.size ≤ gb125)); clear HO0_0; clear HB; have HO0_0 := n0_; have HB := n1_; have BK125 := n2_; have GW125 := n3_; have GE125 := n4_; clear n0_ n1_ n2_ n3_ n4_; clear hb hbox hg) | ((with_reducible refine gate_dst (N := 6) rfl ?_); refine Kd.N_lit k31 _ 31 ?hg (N' := 6) ?hd (xs := ([] : List (S31))) (inner := []) (ok := (fun k_ => (P0_0_ k_ ∨ w.heap.size ≤ k_) ∧ k_ ≠ gb125)) (okp := (fun k_ => (P0_0_ k_ ∨ w.heap.size ≤ k_) ∧ k_ ≠ gb125)) ?hr ?hp (fun _ hk => hk) ((show ∀ k_, w2.heap.size ≤ k_ → (fun k_ => (P0_0_ k_ ∨ w.heap.size ≤ k_) ∧ k_ ≠ gb125) k_ from fun k_ hk => ⟨(.inr (Nat.le_trans (below_size (by repeat (first | (with_reducible first | exact HB.out | apply below_alloc | apply pw_below_drewN | apply below_drew1 | refine below_set ?_ GE125.out) | exact HB.out))) hk)), Kd.freshB (g := gb125) (o := .cells #[.slice A0_0 l0_0.length c0_0, .bool a0_1, .int .u64 a0_2, .bool a0_3] 45 (0, 0)) (by (with_reducible repeat (first | refine blk_drewN ?_ _ | refine blk_drew ?_ | refine blk_alloc ?_ _)); exact BK125.out) k_ hk⟩) _ (Nat.le_refl _)) (Below.refl _ _) (Nat.le_refl _) (by simp) ?_; (case hd => rfl); (case hg => rfl); (case hr => first | (go_simp; done) | (go_simp; rfl)); (case hp => exact (Reps.none _ _)); intro v127 w3 ho4 hb hg_ hnew_; clear hg_ hnew_; (first | rw [← Ny126.out] at ho4 | (simp only [Int.reduceToNat] at ho4; rw [← Ny126.out] at ho4)); have n0_ := Aside0.mk (Kd.V_elder' (by (with_reducible repeat (first | apply Kd.V_alloc | apply Kd.V_drewN | apply Kd.V_drew)); exact HO0_0.out) (Kd.N_base ho4) hb); have n1_ := Aside0.mk (Kd.N_lower ho4 (below_size (by repeat (first | (with_reducible first | exact HB.out | apply below_alloc | apply pw_below_drewN | apply below_drew1 | refine below_set ?_ GE125.out) | exact HB.out)))); have n2_ := Aside0.mk (blk_below (g := gb125) (o := .cells #[.slice A0_0 l0_0.length c0_0, .bool a0_1, .int .u64 a0_2, .bool a0_3] 45 (0, 0)) (by (with_reducible repeat (first | refine blk_drewN ?_ _ | refine blk_drew ?_ | refine blk_alloc ?_ _)); exact BK125.out) hb); have n3_ := Aside0.mk (below_step (by repeat (first | (with_reducible first | exact HB.out | apply below_alloc | apply pw_below_drewN | apply below_drew1 | refine below_set ?_ GE125.out) | exact HB.out)) hb); clear HO0_0; clear BK125; clear HB; have HO0_0 := n0_; have HO128 := n1_; have BK125 := n2_; have HB := n3_; clear n0_ n1_ n2_ n3_; clear hb ho4; have hcz5_0 : w3.cell? ⟨gb125, 0, none⟩ = some (.slice A0_0 l0_0.length c0_0) := (blk_cell BK125.out 0).trans rfl; have hcz5_1 : w3.cell? ⟨gb125, 1, none⟩ = some (.bool a0_1) := (blk_cell BK125.out 1).trans rfl; have hcz5_2 : w3.cell? ⟨gb125, 2, none⟩ = some (.int .u64 a0_2) := (blk_cell BK125.out 2).trans rfl; have hcz5_3 : w3.cell? ⟨gb125, 3, none⟩ = some (.bool a0_3) := (blk_cell BK125.out 3).trans rfl; have hfz5_0 := blk_frozen BK125.out 0; have hfz5_1 := blk_frozen BK125.out 1; have hfz5_2 := blk_frozen BK125.out 2; have hfz5_3 := blk_frozen BK125.out 3))
  go_loopg [3, 10] k (fun kq v3 v10 w' => ∃ (x3_1 : List (S31)) (x10_1 : Int), v10 = .int .i64 x10_1 ∧ Aside0 (spec_Unit_written.l0 kq x3_1 l0_0 (l0_0.length : Int) x10_1 l0_0 a0_1 a0_2 a0_3 = some r) ∧ Aside0 (kq ≤ k) ∧ Aside0 (Kd.N k31 31 w' w.heap.size (fun k_ => (P0_0_ k_ ∨ w.heap.size ≤ k_) ∧ k_ ≠ gb125) v3 x3_1) ∧ Aside0 (Kd.V k31 31 w' w.heap.size (fun k_ => (P0_0_ k_ ∨ w.heap.size ≤ k_) ∧ some k_ ≠ (v3 : Value).ownBlock ∧ k_ ≠ gb125) (.slice A0_0 l0_0.length c0_0) l0_0) ∧ Aside0 (Kd.V k31 31 w' w.heap.size (fun k_ => (P0_0_ k_ ∨ w.heap.size ≤ k_) ∧ some k_ ≠ (v3 : Value).ownBlock ∧ k_ ≠ gb125) (.slice A0_0 l0_0.length c0_0) l0_0) ∧ Aside0 (w'.heap[gb125]? = some (.cells #[(.slice A0_0 l0_0.length c0_0), .bool a0_1, .int .u64 a0_2, .bool a0_3] 45 (0, 0))) ∧ Aside0 (Below w.heap.size w w'))
  case atStart => exact ⟨(y126), (0), (by first | rfl | (simp; done) | (simp [*]; done)), H', ⟨Nat.le_refl _⟩, ⟨by (with_reducible repeat (first | apply Kd.N_alloc | apply Kd.N_drewN | apply Kd.N_drew)); exact HO128.out⟩, ⟨by (with_reducible repeat (first | apply Kd.V_alloc | apply Kd.V_drewN | apply Kd.V_drew)); exact Kd.V_mono HO0_0.out (fun _ hk => ⟨hk.1.1, ⟨hk.2, hk.1.2⟩⟩)⟩, ⟨by (with_reducible repeat (first | apply Kd.V_alloc | apply Kd.V_drewN | apply Kd.V_drew)); exact Kd.V_mono HO0_0.out (fun _ hk => ⟨hk.1.1, ⟨hk.2, hk.1.2⟩⟩)⟩, ⟨by (with_reducible repeat (first | refine blk_drewN ?_ _ | refine blk_drew ?_ | refine blk_alloc ?_ _)); exact BK125.out⟩, ⟨by repeat (first | (with_reducible first | exact HB.out | apply below_alloc | apply pw_below_drewN | apply below_drew1 | refine below_set ?_ GE125.out) | exact HB.out)⟩⟩
  case round =>
    clear H'
    try clear c1
    try clear p2
    try clear hcz5_0
    try clear hcz5_1
    try clear hcz5_2
    try clear hcz5_3
    try clear hfz5_0
    try clear hfz5_1
    try clear hfz5_2
    try clear hfz5_3
    obtain ⟨x3_1, x10_1, rfl, HA, HK1, HO_3, HO_8, HO_126000, BK125, HB⟩ := hrel
    cases gk with
    | zero => exact absurd HA.out (by simp [spec_Unit_written.l0])
    | succ k1 =>
      have H := HA.out
      clear HA
      simp only [spec_Unit_written.l0] at H
      by_cases c6 : x10_1 < (l0_0.length : Int)
      · rw [if_pos c6] at H
        have c6b0 : decide (x10_1 < (l0_0.length : Int)) = true := decide_eq_true c6
        clear c6
        by_cases c7 : 0 ≤ x10_1
        · rw [if_pos c7] at H
          have c7b0 : decide (0 ≤ x10_1) = true := decide_eq_true c7
          clear c7
          by_cases c8 : x10_1 < (l0_0.length : Int)
          · rw [if_pos c8] at H
            have c8b0 : decide (x10_1 < (l0_0.length : Int)) = true := decide_eq_true c8
            clear c8
            by_cases c9 : a0_1 = true
            · subst c9
              have H1 : ((spec_KeyBytes.f ((rd_T31 l0_0 x10_1).f0) a0_2).bind fun t131 => (if x3_1.length < 2199023255552 then (spec_Unit_written.l0 k1 (x3_1 ++ [(⟨t131, (rd_T31 l0_0 x10_1).f1, (rd_T31 l0_0 x10_1).f2, Go.bits .or .u8 (Go.bits .andNot .u8 ((rd_T31 l0_0 x10_1).f3) 192) 64, (rd_T31 l0_0 x10_1).f4⟩ : S31)]) l0_0 (l0_0.length : Int) (wrap64 (x10_1 + 1)) l0_0 true a0_2 a0_3) else (none))) = some r := by rw [if_pos rfl] at H; exact H
              clear H
              have H := H1
              clear H1
              replace H := Option.bind_eq_some_iff.mp H
              obtain ⟨t131, A100, H⟩ := H
              replace H : (if x3_1.length < 2199023255552 then (spec_Unit_written.l0 k1 (x3_1 ++ [(⟨t131, (rd_T31 l0_0 x10_1).f1, (rd_T31 l0_0 x10_1).f2, Go.bits .or .u8 (Go.bits .andNot .u8 ((rd_T31 l0_0 x10_1).f3) 192) 64, (rd_T31 l0_0 x10_1).f4⟩ : S31)]) l0_0 (l0_0.length : Int) (wrap64 (x10_1 + 1)) l0_0 true a0_2 a0_3) else (none)) = some r := H
              have A10 := Aside0.mk A100
              clear A100
              by_cases c11 : x3_1.length < 2199023255552
              · rw [if_pos c11] at H
                have LMc11 := Aside0.mk c11
                clear c11
                obtain ⟨y134, hy134⟩ : ∃ y_ : List (S31), y_ = (x3_1 ++ [(⟨t131, (rd_T31 l0_0 x10_1).f1, (rd_T31 l0_0 x10_1).f2, Go.bits .or .u8 (Go.bits .andNot .u8 ((rd_T31 l0_0 x10_1).f3) 192) 64, (rd_T31 l0_0 x10_1).f4⟩ : S31)]) := ⟨_, rfl⟩
                replace H : (spec_Unit_written.l0 k1 y134 l0_0 (l0_0.length : Int) (wrap64 (x10_1 + 1)) l0_0 true a0_2 a0_3) = some r := by first | (rw [hy134]; with_reducible exact H) | (have H2_ := (Option.bind_some _ _).symm.trans H; rw [hy134]; with_reducible exact H2_) | (have H2_ := (Option.bind_some _ _).symm.trans H; with_reducible exact H2_) | with_reducible exact H | (rw [hy134]; exact H) | exact H
                have Ny134 := Aside0.mk hy134
                clear hy134
                have H' := Aside0.mk H
                clear H
                have p129 : 0 ≤ (x10_1 : Int) := of_decide_eq_true (by first | (with_reducible assumption) | assumption)
                have q129 : x10_1 < (l0_0.length : Int) := of_decide_eq_true (by first | (with_reducible assumption) | assumption)
                obtain ⟨ad129, A129_0, c129_0, A129_1, c129_1, e129, hx129_0, hx129_1, hx129_2, hx129_3, hx129_4, hl129_0, hi129_0, hl129_1, hi129_1⟩ := at_T31 (Kd.V_reads' HO_8.out).2.2 x10_1 p129 q129
                cases e129
                obtain ⟨ce129, hce129, hMe129, hcc129⟩ := Kd.V_get HO_8.out z31 x10_1 p129 (by first | exact q129 | exact of_decide_eq_true (by first | (with_reducible assumption) | assumption) | (have e_ := (Kd.V_reads' HO_8.out).1; omega))
                obtain ⟨ua129_0, uc129_0, ua129_1, uc129_1, rfl, ul129_0, ge129_0, ul129_1, ge129_1⟩ := k31_openF hMe129
                have hv129_0 := hcc129 0 _ rfl
                rw [Nat.add_zero] at hv129_0
                replace hv129_0 := Option.some.inj (hv129_0.symm.trans hx129_0)
                injection hv129_0 with hva_ hvn_ hvc_
                rw [hva_] at ge129_0
                rw [hvc_] at ul129_0
                have HL129_0 := Aside0.mk (show Kd.V (Kd.int .u8) 5 _ w.heap.size _ _ ((rd_T31 l0_0 x10_1).f0) from Kd.V_mk ul129_0 ge129_0)
                clear hva_ hvn_ hvc_ ge129_0 ul129_0
                have hv129_1 := hcc129 1 _ rfl
                rw [add_field _ _ 1 (by omega)] at hv129_1
                replace hv129_1 := Option.some.inj (hv129_1.symm.trans hx129_1)
                injection hv129_1 with hva_ hvn_ hvc_
                rw [hva_] at ge129_1
                rw [hvc_] at ul129_1
                have HL129_1 := Aside0.mk (show Kd.V (Kd.int .u8) 5 _ w.heap.size _ _ ((rd_T31 l0_0 x10_1).f1) from Kd.V_mk ul129_1 ge129_1)
                clear hva_ hvn_ hvc_ ge129_1 ul129_1
                clear hcc129 hce129
                have HR129_0 := Aside0.mk hi129_0
                have HC129_0 := Aside0.mk hl129_0
                clear hi129_0 hl129_0
                have HR129_1 := Aside0.mk hi129_1
                have HC129_1 := Aside0.mk hl129_1
                clear hi129_1 hl129_1
                replace p129 := eq_true p129
                replace q129 := eq_true q129
                go_wp2_with (first | ((with_reducible refine gate_dst (N := 5) rfl ?_); refine box_event ?hg (N := 5) ?hd (cs := #[.slice none 0 0, .slice none 0 0, .int .u64 0, .int .u8 0, .int .u8 0]) (t := 31) ?hr ?_; (case hd => rfl); (case hg => rfl); (case hr => first | (go_simp; done) | (go_simp; rfl)); intro gb130 hg w12 hbox hb; have n0_ := Aside0.mk (Kd.N_below (Kd.N_elderB (by (with_reducible repeat (first | apply Kd.N_alloc | apply Kd.N_drewN | apply Kd.N_drew)); exact HO_3.out) gb130 (Nat.le_of_eq hg.symm)) hb); have n1_ := Aside0.mk (Kd.V_below (Kd.V_elderB (by (with_reducible repeat (first | apply Kd.V_alloc | apply Kd.V_drewN | apply Kd.V_drew)); exact HO_8.out) gb130 (Nat.le_of_eq hg.symm)) hb); have n2_ := Aside0.mk (Kd.V_below (Kd.V_elderB (by (with_reducible repeat (first | apply Kd.V_alloc | apply Kd.V_drewN | apply Kd.V_drew)); exact HO_126000.out) gb130 (Nat.le_of_eq hg.symm)) hb); have n3_ := Aside0.mk (Kd.V_below (Kd.V_elderB (by (with_reducible repeat (first | apply Kd.V_alloc | apply Kd.V_drewN | apply Kd.V_drew)); exact HL129_0.out) gb130 (Nat.le_of_eq hg.symm)) hb); have n4_ := Aside0.mk (Kd.V_below (Kd.V_elderB (by (with_reducible repeat (first | apply Kd.V_alloc | apply Kd.V_drewN | apply Kd.V_drew)); exact HL129_1.out) gb130 (Nat.le_of_eq hg.symm)) hb); have n5_ := Aside0.mk (blk_below (g := gb125) (o := .cells #[.slice (some ad129) l0_0.length c0_0, .bool true, .int .u64 a0_2, .bool a0_3] 45 (0, 0)) (by (with_reducible repeat (first | refine blk_drewN ?_ _ | refine blk_drew ?_ | refine blk_alloc ?_ _)); exact BK125.out) hb); (first | (have n6_ := Aside0.mk (Kd.C_below (by repeat (first | (with_reducible exact HR129_0.out) | (with_reducible refine Kd.C_alloc ?_ _) | (with_reducible refine Kd.C_drewN ?_ _) | (with_reducible refine Kd.C_drew ?_) | exact HR129_0.out)) hb)) | (have n6_ := Aside0.mk trivial)); (first | (have n7_ := Aside0.mk (Kd.C_below (by repeat (first | (with_reducible exact HR129_1.out) | (with_reducible refine Kd.C_alloc ?_ _) | (with_reducible refine Kd.C_drewN ?_ _) | (with_reducible refine Kd.C_drew ?_) | exact HR129_1.out)) hb)) | (have n7_ := Aside0.mk trivial)); have n8_ := Aside0.mk (below_step (by repeat (first | (with_reducible first | exact HB.out | apply below_alloc | apply pw_below_drewN | apply below_drew1 | refine below_set ?_ GE125.out) | exact HB.out)) hb); have n9_ := Aside0.mk (hbox); have n10_ := Aside0.mk ((by rw [hg]; exact (below_size (by repeat (first | (with_reducible first | exact HB.out | apply below_alloc | apply pw_below_drewN | apply below_drew1 | refine below_set ?_ GE125.out) | exact HB.out))) : w.heap.size ≤ gb130)); have n11_ := Aside0.mk ((by rw [hg]; exact (below_size (by repeat (first | (with_reducible first | exact HB.out | apply below_alloc | apply pw_below_drewN | apply below_drew1 | refine below_set ?_ GE125.out) | exact HB.out))) : w.heap.size ≤ gb130)); have n12_ := Aside0.mk ((by rw [hg]; exact Nat.ne_of_lt (blk_lt (g := gb125) (o := .cells #[.slice (some ad129) l0_0.length c0_0, .bool true, .int .u64 a0_2, .bool a0_3] 45 (0, 0)) (by (with_reducible repeat (first | refine blk_drewN ?_ _ | refine blk_drew ?_ | refine blk_alloc ?_ _)); exact BK125.out)) : gb125 ≠ gb130)); have n13_ := Aside0.mk ((by rw [hg]; exact Nat.ne_of_gt (blk_lt (g := gb125) (o := .cells #[.slice (some ad129) l0_0.length c0_0, .bool true, .int .u64 a0_2, .bool a0_3] 45 (0, 0)) (by (with_reducible repeat (first | refine blk_drewN ?_ _ | refine blk_drew ?_ | refine blk_alloc ?_ _)); exact BK125.out)) : gb130 ≠ gb125)); clear HO_3; clear HO_8; clear HO_126000; clear HL129_0; clear HL129_1; clear BK125; clear HR129_0; clear HR129_1; clear HB; have HO_3 := n0_; have HO_8 := n1_; have HO_126000 := n2_; have HL129_0 := n3_; have HL129_1 := n4_; have BK125 := n5_; have HR129_0 := n6_; have HR129_1 := n7_; have HB := n8_; have BK130 := n9_; have GW130 := n10_; have GE130 := n11_; have NB125_130 := n12_; have NB130_125 := n13_; clear n0_ n1_ n2_ n3_ n4_ n5_ n6_ n7_ n8_ n9_ n10_ n11_ n12_ n13_; clear hb hbox hg; have hnb13 := NB130_125.out; have hnc13 := NB125_130.out; have hcz14_0 : w12.cell? ⟨gb130, 0, none⟩ = some (.slice none 0 0) := (blk_cell BK130.out 0).trans rfl; have hcz14_1 : w12.cell? ⟨gb130, 1, none⟩ = some (.slice none 0 0) := (blk_cell BK130.out 1).trans rfl; have hcz14_2 : w12.cell? ⟨gb130, 2, none⟩ = some (.int .u64 0) := (blk_cell BK130.out 2).trans rfl; have hcz14_3 : w12.cell? ⟨gb130, 3, none⟩ = some (.int .u8 0) := (blk_cell BK130.out 3).trans rfl; have hcz14_4 : w12.cell? ⟨gb130, 4, none⟩ = some (.int .u8 0) := (blk_cell BK130.out 4).trans rfl; have hfz14_0 := blk_frozen BK130.out 0; have hfz14_1 := blk_frozen BK130.out 1; have hfz14_2 := blk_frozen BK130.out 2; have hfz14_3 := blk_frozen BK130.out 3; have hfz14_4 := blk_frozen BK130.out 4; have hcz15_0 : w12.cell? ⟨gb125, 0, none⟩ = some (.slice (some ad129) l0_0.length c0_0) := (blk_cell BK125.out 0).trans rfl; have hcz15_1 : w12.cell? ⟨gb125, 1, none⟩ = some (.bool true) := (blk_cell BK125.out 1).trans rfl; have hcz15_2 : w12.cell? ⟨gb125, 2, none⟩ = some (.int .u64 a0_2) := (blk_cell BK125.out 2).trans rfl; have hcz15_3 : w12.cell? ⟨gb125, 3, none⟩ = some (.bool a0_3) := (blk_cell BK125.out 3).trans rfl; have hfz15_0 := blk_frozen BK125.out 0; have hfz15_1 := blk_frozen BK125.out 1; have hfz15_2 := blk_frozen BK125.out 2; have hfz15_3 := blk_frozen BK125.out 3) | ((with_reducible refine gate_callee (f := 29) rfl ?_); refine goesL_ (some 24) rfl rfl Tryz.func29 (by kernel_rfl) rfl #[.slice A129_0 ((rd_T31 l0_0 x10_1).f0).length c129_0, .int .u64 a0_2] rfl (by (try simp only [List.map_toArray, List.map_cons, List.map_nil]); first | done | rfl | (simp only [List.length_drop, List.length_take]; rfl)) ?_; (with_reducible refine (spec_KeyBytes.calls _ _ ((rd_T31 l0_0 x10_1).f0) a0_2 t131 _ ?side1 ?side2 A10.out).mono ?_); (case side1 => repeat (first | exact ((Kd.V_reads' (by (with_reducible repeat (first | apply Kd.V_alloc | apply Kd.V_drewN | apply Kd.V_drew)); exact (Kd.V_mono (Kd.V_far (p := ⟨gb130, 3, none⟩) (Kd.V_far (p := ⟨gb130, 4, none⟩) (Kd.V_far (p := ⟨gb130, 3, none⟩) (Kd.V_far (p := ⟨gb130, 2, none⟩) (Kd.V_far (p := ⟨gb130, 1, none⟩) (Kd.V_far (p := ⟨gb130, 0, none⟩) (Kd.V_mono HL129_0.out (fun k_ hk => (⟨hk, hk.2⟩ : _ ∧ k_ ≠ gb130))) (fun _ hk => hk.2) (.slice A129_0 ((rd_T31 l0_0 x10_1).f0).length c129_0)) (fun _ hk => hk.2) (.slice A129_1 ((rd_T31 l0_0 x10_1).f1).length c129_1)) (fun _ hk => hk.2) (.int .u64 ((rd_T31 l0_0 x10_1).f2))) (fun _ hk => hk.2) (.int .u8 ((rd_T31 l0_0 x10_1).f3))) (fun _ hk => hk.2) (.int .u8 ((rd_T31 l0_0 x10_1).f4))) (fun _ hk => hk.2) (.int .u8 (Go.bits .andNot .u8 ((rd_T31 l0_0 x10_1).f3) 192))) (fun _ h_ => h_.1)))).2.2) | (with_reducible refine Kd.C_alloc ?_ _) | (with_reducible refine Kd.C_drewN ?_ _) | (with_reducible refine Kd.C_drew ?_))); (case side2 => exact HC129_0.out); rintro e w16 ⟨v132, rfl, ho0, hb⟩; refine ⟨_, rfl, ?_⟩; have n0_ := Aside0.mk (Kd.N_elder' (by (with_reducible repeat (first | apply Kd.N_alloc | apply Kd.N_drewN | apply Kd.N_drew)); exact (Kd.N_mono (Kd.N_far (p := ⟨gb130, 3, none⟩) (Kd.N_far (p := ⟨gb130, 4, none⟩) (Kd.N_far (p := ⟨gb130, 3, none⟩) (Kd.N_far (p := ⟨gb130, 2, none⟩) (Kd.N_far (p := ⟨gb130, 1, none⟩) (Kd.N_far (p := ⟨gb130, 0, none⟩) (Kd.N_mono HO_3.out (fun k_ hk => (⟨hk, hk.2⟩ : _ ∧ k_ ≠ gb130))) (fun _ hk => hk.2) (.slice A129_0 ((rd_T31 l0_0 x10_1).f0).length c129_0)) (fun _ hk => hk.2) (.slice A129_1 ((rd_T31 l0_0 x10_1).f1).length c129_1)) (fun _ hk => hk.2) (.int .u64 ((rd_T31 l0_0 x10_1).f2))) (fun _ hk => hk.2) (.int .u8 ((rd_T31 l0_0 x10_1).f3))) (fun _ hk => hk.2) (.int .u8 ((rd_T31 l0_0 x10_1).f4))) (fun _ hk => hk.2) (.int .u8 (Go.bits .andNot .u8 ((rd_T31 l0_0 x10_1).f3) 192))) (fun _ h_ => h_.1))) (Kd.R_base ho0) hb); have n1_ := Aside0.mk (Kd.V_elder' (by (with_reducible repeat (first | apply Kd.V_alloc | apply Kd.V_drewN | apply Kd.V_drew)); exact (Kd.V_mono (Kd.V_far (p := ⟨gb130, 3, none⟩) (Kd.V_far (p := ⟨gb130, 4, none⟩) (Kd.V_far (p := ⟨gb130, 3, none⟩) (Kd.V_far (p := ⟨gb130, 2, none⟩) (Kd.V_far (p := ⟨gb130, 1, none⟩) (Kd.V_far (p := ⟨gb130, 0, none⟩) (Kd.V_mono HO_8.out (fun k_ hk => (⟨hk, hk.2⟩ : _ ∧ k_ ≠ gb130))) (fun _ hk => hk.2) (.slice A129_0 ((rd_T31 l0_0 x10_1).f0).length c129_0)) (fun _ hk => hk.2) (.slice A129_1 ((rd_T31 l0_0 x10_1).f1).length c129_1)) (fun _ hk => hk.2) (.int .u64 ((rd_T31 l0_0 x10_1).f2))) (fun _ hk => hk.2) (.int .u8 ((rd_T31 l0_0 x10_1).f3))) (fun _ hk => hk.2) (.int .u8 ((rd_T31 l0_0 x10_1).f4))) (fun _ hk => hk.2) (.int .u8 (Go.bits .andNot .u8 ((rd_T31 l0_0 x10_1).f3) 192))) (fun _ h_ => h_.1))) (Kd.R_base ho0) hb); have n2_ := Aside0.mk (Kd.V_elder' (by (with_reducible repeat (first | apply Kd.V_alloc | apply Kd.V_drewN | apply Kd.V_drew)); exact (Kd.V_mono (Kd.V_far (p := ⟨gb130, 3, none⟩) (Kd.V_far (p := ⟨gb130, 4, none⟩) (Kd.V_far (p := ⟨gb130, 3, none⟩) (Kd.V_far (p := ⟨gb130, 2, none⟩) (Kd.V_far (p := ⟨gb130, 1, none⟩) (Kd.V_far (p := ⟨gb130, 0, none⟩) (Kd.V_mono HO_126000.out (fun k_ hk => (⟨hk, hk.2⟩ : _ ∧ k_ ≠ gb130))) (fun _ hk => hk.2) (.slice A129_0 ((rd_T31 l0_0 x10_1).f0).length c129_0)) (fun _ hk => hk.2) (.slice A129_1 ((rd_T31 l0_0 x10_1).f1).length c129_1)) (fun _ hk => hk.2) (.int .u64 ((rd_T31 l0_0 x10_1).f2))) (fun _ hk => hk.2) (.int .u8 ((rd_T31 l0_0 x10_1).f3))) (fun _ hk => hk.2) (.int .u8 ((rd_T31 l0_0 x10_1).f4))) (fun _ hk => hk.2) (.int .u8 (Go.bits .andNot .u8 ((rd_T31 l0_0 x10_1).f3) 192))) (fun _ h_ => h_.1))) (Kd.R_base ho0) hb); have n3_ := Aside0.mk (Kd.V_elder' (by (with_reducible repeat (first | apply Kd.V_alloc | apply Kd.V_drewN | apply Kd.V_drew)); exact (Kd.V_mono (Kd.V_far (p := ⟨gb130, 3, none⟩) (Kd.V_far (p := ⟨gb130, 4, none⟩) (Kd.V_far (p := ⟨gb130, 3, none⟩) (Kd.V_far (p := ⟨gb130, 2, none⟩) (Kd.V_far (p := ⟨gb130, 1, none⟩) (Kd.V_far (p := ⟨gb130, 0, none⟩) (Kd.V_mono HL129_0.out (fun k_ hk => (⟨hk, hk.2⟩ : _ ∧ k_ ≠ gb130))) (fun _ hk => hk.2) (.slice A129_0 ((rd_T31 l0_0 x10_1).f0).length c129_0)) (fun _ hk => hk.2) (.slice A129_1 ((rd_T31 l0_0 x10_1).f1).length c129_1)) (fun _ hk => hk.2) (.int .u64 ((rd_T31 l0_0 x10_1).f2))) (fun _ hk => hk.2) (.int .u8 ((rd_T31 l0_0 x10_1).f3))) (fun _ hk => hk.2) (.int .u8 ((rd_T31 l0_0 x10_1).f4))) (fun _ hk => hk.2) (.int .u8 (Go.bits .andNot .u8 ((rd_T31 l0_0 x10_1).f3) 192))) (fun _ h_ => h_.1))) (Kd.R_base ho0) hb); have n4_ := Aside0.mk (Kd.V_elder' (by (with_reducible repeat (first | apply Kd.V_alloc | apply Kd.V_drewN | apply Kd.V_drew)); exact (Kd.V_mono (Kd.V_far (p := ⟨gb130, 3, none⟩) (Kd.V_far (p := ⟨gb130, 4, none⟩) (Kd.V_far (p := ⟨gb130, 3, none⟩) (Kd.V_far (p := ⟨gb130, 2, none⟩) (Kd.V_far (p := ⟨gb130, 1, none⟩) (Kd.V_far (p := ⟨gb130, 0, none⟩) (Kd.V_mono HL129_1.out (fun k_ hk => (⟨hk, hk.2⟩ : _ ∧ k_ ≠ gb130))) (fun _ hk => hk.2) (.slice A129_0 ((rd_T31 l0_0 x10_1).f0).length c129_0)) (fun _ hk => hk.2) (.slice A129_1 ((rd_T31 l0_0 x10_1).f1).length c129_1)) (fun _ hk => hk.2) (.int .u64 ((rd_T31 l0_0 x10_1).f2))) (fun _ hk => hk.2) (.int .u8 ((rd_T31 l0_0 x10_1).f3))) (fun _ hk => hk.2) (.int .u8 ((rd_T31 l0_0 x10_1).f4))) (fun _ hk => hk.2) (.int .u8 (Go.bits .andNot .u8 ((rd_T31 l0_0 x10_1).f3) 192))) (fun _ h_ => h_.1))) (Kd.R_base ho0) hb); have n5_ := Aside0.mk (Kd.R_lower (Kd.R_newM (M := fun k_ => (w.heap.size ≤ k_)) ho0 (below_size (by repeat (first | (with_reducible first | exact HB.out | apply below_alloc | apply pw_below_drewN | apply below_drew1 | refine below_set ?_ GE125.out | refine below_set ?_ GE130.out) | exact HB.out))) (fun k_ h_ => h_)) (below_size (by repeat (first | (with_reducible first | exact HB.out | apply below_alloc | apply pw_below_drewN | apply below_drew1 | refine below_set ?_ GE125.out | refine below_set ?_ GE130.out) | exact HB.out)))); have n6_ := Aside0.mk (blk_below (g := gb125) (o := .cells #[.slice (some ad129) l0_0.length c0_0, .bool true, .int .u64 a0_2, .bool a0_3] 45 (0, 0)) (by (with_reducible repeat (first | refine blk_drewN ?_ _ | refine blk_drew ?_ | refine blk_alloc ?_ _)); refine blk_far ?_ NB125_130.out _; (with_reducible repeat (first | refine blk_drewN ?_ _ | refine blk_drew ?_ | refine blk_alloc ?_ _)); refine blk_far ?_ NB125_130.out _; (with_reducible repeat (first | refine blk_drewN ?_ _ | refine blk_drew ?_ | refine blk_alloc ?_ _)); refine blk_far ?_ NB125_130.out _; (with_reducible repeat (first | refine blk_drewN ?_ _ | refine blk_drew ?_ | refine blk_alloc ?_ _)); refine blk_far ?_ NB125_130.out _; (with_reducible repeat (first | refine blk_drewN ?_ _ | refine blk_drew ?_ | refine blk_alloc ?_ _)); refine blk_far ?_ NB125_130.out _; (with_reducible repeat (first | refine blk_drewN ?_ _ | refine blk_drew ?_ | refine blk_alloc ?_ _)); refine blk_far ?_ NB125_130.out _; (with_reducible repeat (first | refine blk_drewN ?_ _ | refine blk_drew ?_ | refine blk_alloc ?_ _)); exact BK125.out) hb); have n7_ := Aside0.mk (Kd.C_below ((Kd.V_reads' (by (with_reducible repeat (first | apply Kd.V_alloc | apply Kd.V_drewN | apply Kd.V_drew)); exact (Kd.V_mono (Kd.V_far (p := ⟨gb130, 3, none⟩) (Kd.V_far (p := ⟨gb130, 4, none⟩) (Kd.V_far (p := ⟨gb130, 3, none⟩) (Kd.V_far (p := ⟨gb130, 2, none⟩) (Kd.V_far (p := ⟨gb130, 1, none⟩) (Kd.V_far (p := ⟨gb130, 0, none⟩) (Kd.V_mono HL129_0.out (fun k_ hk => (⟨hk, hk.2⟩ : _ ∧ k_ ≠ gb130))) (fun _ hk => hk.2) (.slice A129_0 ((rd_T31 l0_0 x10_1).f0).length c129_0)) (fun _ hk => hk.2) (.slice A129_1 ((rd_T31 l0_0 x10_1).f1).length c129_1)) (fun _ hk => hk.2) (.int .u64 ((rd_T31 l0_0 x10_1).f2))) (fun _ hk => hk.2) (.int .u8 ((rd_T31 l0_0 x10_1).f3))) (fun _ hk => hk.2) (.int .u8 ((rd_T31 l0_0 x10_1).f4))) (fun _ hk => hk.2) (.int .u8 (Go.bits .andNot .u8 ((rd_T31 l0_0 x10_1).f3) 192))) (fun _ h_ => h_.1)))).2.2) hb); have n8_ := Aside0.mk (Kd.C_below ((Kd.V_reads' (by (with_reducible repeat (first | apply Kd.V_alloc | apply Kd.V_drewN | apply Kd.V_drew)); exact (Kd.V_mono (Kd.V_far (p := ⟨gb130, 3, none⟩) (Kd.V_far (p := ⟨gb130, 4, none⟩) (Kd.V_far (p := ⟨gb130, 3, none⟩) (Kd.V_far (p := ⟨gb130, 2, none⟩) (Kd.V_far (p := ⟨gb130, 1, none⟩) (Kd.V_far (p := ⟨gb130, 0, none⟩) (Kd.V_mono HL129_1.out (fun k_ hk => (⟨hk, hk.2⟩ : _ ∧ k_ ≠ gb130))) (fun _ hk => hk.2) (.slice A129_0 ((rd_T31 l0_0 x10_1).f0).length c129_0)) (fun _ hk => hk.2) (.slice A129_1 ((rd_T31 l0_0 x10_1).f1).length c129_1)) (fun _ hk => hk.2) (.int .u64 ((rd_T31 l0_0 x10_1).f2))) (fun _ hk => hk.2) (.int .u8 ((rd_T31 l0_0 x10_1).f3))) (fun _ hk => hk.2) (.int .u8 ((rd_T31 l0_0 x10_1).f4))) (fun _ hk => hk.2) (.int .u8 (Go.bits .andNot .u8 ((rd_T31 l0_0 x10_1).f3) 192))) (fun _ h_ => h_.1)))).2.2) hb); have n9_ := Aside0.mk (blk_below (g := gb130) (o := .cells #[.slice A129_0 ((rd_T31 l0_0 x10_1).f0).length c129_0, .slice A129_1 ((rd_T31 l0_0 x10_1).f1).length c129_1, .int .u64 ((rd_T31 l0_0 x10_1).f2), .int .u8 (Go.bits .andNot .u8 ((rd_T31 l0_0 x10_1).f3) 192), .int .u8 ((rd_T31 l0_0 x10_1).f4)] 31 (0, 0)) (by (with_reducible repeat (first | refine blk_drewN ?_ _ | refine blk_drew ?_ | refine blk_alloc ?_ _)); refine blk_put (cs := #[.slice A129_0 ((rd_T31 l0_0 x10_1).f0).length c129_0, .slice A129_1 ((rd_T31 l0_0 x10_1).f1).length c129_1, .int .u64 ((rd_T31 l0_0 x10_1).f2), .int .u8 ((rd_T31 l0_0 x10_1).f3), .int .u8 ((rd_T31 l0_0 x10_1).f4)]) ?_ 3 _ rfl; (with_reducible repeat (first | refine blk_drewN ?_ _ | refine blk_drew ?_ | refine blk_alloc ?_ _)); refine blk_put (cs := #[.slice A129_0 ((rd_T31 l0_0 x10_1).f0).length c129_0, .slice A129_1 ((rd_T31 l0_0 x10_1).f1).length c129_1, .int .u64 ((rd_T31 l0_0 x10_1).f2), .int .u8 ((rd_T31 l0_0 x10_1).f3), .int .u8 0]) ?_ 4 _ rfl; (with_reducible repeat (first | refine blk_drewN ?_ _ | refine blk_drew ?_ | refine blk_alloc ?_ _)); refine blk_put (cs := #[.slice A129_0 ((rd_T31 l0_0 x10_1).f0).length c129_0, .slice A129_1 ((rd_T31 l0_0 x10_1).f1).length c129_1, .int .u64 ((rd_T31 l0_0 x10_1).f2), .int .u8 0, .int .u8 0]) ?_ 3 _ rfl; (with_reducible repeat (first | refine blk_drewN ?_ _ | refine blk_drew ?_ | refine blk_alloc ?_ _)); refine blk_put (cs := #[.slice A129_0 ((rd_T31 l0_0 x10_1).f0).length c129_0, .slice A129_1 ((rd_T31 l0_0 x10_1).f1).length c129_1, .int .u64 0, .int .u8 0, .int .u8 0]) ?_ 2 _ rfl; (with_reducible repeat (first | refine blk_drewN ?_ _ | refine blk_drew ?_ | refine blk_alloc ?_ _)); refine blk_put (cs := #[.slice A129_0 ((rd_T31 l0_0 x10_1).f0).length c129_0, .slice none 0 0, .int .u64 0, .int .u8 0, .int .u8 0]) ?_ 1 _ rfl; (with_reducible repeat (first | refine blk_drewN ?_ _ | refine blk_drew ?_ | refine blk_alloc ?_ _)); refine blk_put (cs := #[.slice none 0 0, .slice none 0 0, .int .u64 0, .int .u8 0, .int .u8 0]) ?_ 0 _ rfl; (with_reducible repeat (first | refine blk_drewN ?_ _ | refine blk_drew ?_ | refine blk_alloc ?_ _)); exact BK130.out) hb); have n10_ := Aside0.mk (below_step (by repeat (first | (with_reducible first | exact HB.out | apply below_alloc | apply pw_below_drewN | apply below_drew1 | refine below_set ?_ GE125.out | refine below_set ?_ GE130.out) | exact HB.out)) hb); clear HO_3; clear HO_8; clear HO_126000; clear HL129_0; clear HL129_1; clear BK125; clear HR129_0; clear HR129_1; clear BK130; clear HB; have HO_3 := n0_; have HO_8 := n1_; have HO_126000 := n2_; have HL129_0 := n3_; have HL129_1 := n4_; have HO133 := n5_; have BK125 := n6_; have HR129_0 := n7_; have HR129_1 := n8_; have BK130 := n9_; have HB := n10_; clear n0_ n1_ n2_ n3_ n4_ n5_ n6_ n7_ n8_ n9_ n10_; (try clear hb); (try clear hb2); (try clear hk); (try clear hi); (try clear ho0); obtain ⟨Ao17, co17, eo17⟩ := Kd.R_slice HO133.out; subst eo17; have hcz18_0 : w16.cell? ⟨gb130, 0, none⟩ = some (.slice A129_0 ((rd_T31 l0_0 x10_1).f0).length c129_0) := (blk_cell BK130.out 0).trans rfl; have hcz18_1 : w16.cell? ⟨gb130, 1, none⟩ = some (.slice A129_1 ((rd_T31 l0_0 x10_1).f1).length c129_1) := (blk_cell BK130.out 1).trans rfl; have hcz18_2 : w16.cell? ⟨gb130, 2, none⟩ = some (.int .u64 ((rd_T31 l0_0 x10_1).f2)) := (blk_cell BK130.out 2).trans rfl; have hcz18_3 : w16.cell? ⟨gb130, 3, none⟩ = some (.int .u8 (Go.bits .andNot .u8 ((rd_T31 l0_0 x10_1).f3) 192)) := (blk_cell BK130.out 3).trans rfl; have hcz18_4 : w16.cell? ⟨gb130, 4, none⟩ = some (.int .u8 ((rd_T31 l0_0 x10_1).f4)) := (blk_cell BK130.out 4).trans rfl; have hfz18_0 := blk_frozen BK130.out 0; have hfz18_1 := blk_frozen BK130.out 1; have hfz18_2 := blk_frozen BK130.out 2; have hfz18_3 := blk_frozen BK130.out 3; have hfz18_4 := blk_frozen BK130.out 4) | ((with_reducible refine gate_store (t := 27) (p := 25) rfl ?_); refine store_event (t := 27) (p := 25) (v := ?vo_w19) (w1 := (w16.setCell ⟨gb130, 0, none⟩ (.slice Ao17 t131.length co17))) ?hg ?ho ?hn ?hr ?_; (case ho => rfl); (case hg => rfl); (case hn => rfl); (case hr => first | (go_simp; done) | (go_simp; rfl)); intro w19 hw; have n0_ : Aside0 (Kd.N k31 31 w19 w.heap.size (fun k_ => (P0_0_ k_ ∨ w.heap.size ≤ k_) ∧ some k_ ≠ (.slice Ao17 t131.length co17 : Value).ownBlock ∧ k_ ≠ gb125 ∧ k_ ≠ gb130) u3 x3_1) := ⟨(by rw [hw]; exact (by (with_reducible repeat (first | apply Kd.N_alloc | apply Kd.N_drewN | apply Kd.N_drew)); exact Kd.N_mono (Kd.N_far (p := ⟨gb130, 0, none⟩) (Kd.N_mono HO_3.out (fun k_ hk => (⟨hk, hk.1.2⟩ : _ ∧ k_ ≠ gb130))) (fun _ hk => hk.2) (.slice Ao17 t131.length co17)) (fun _ hk => ⟨hk.1.1.1.1, ⟨hk.1.2, ⟨hk.1.1.1.2, hk.1.1.2⟩⟩⟩)))⟩; have n1_ : Aside0 (Kd.V k31 31 w19 w.heap.size (fun k_ => (P0_0_ k_ ∨ w.heap.size ≤ k_) ∧ some k_ ≠ (u3 : Value).ownBlock ∧ some k_ ≠ (.slice Ao17 t131.length co17 : Value).ownBlock ∧ k_ ≠ gb125 ∧ k_ ≠ gb130) (.slice (some ad129) l0_0.length c0_0) l0_0) := ⟨(by rw [hw]; exact (by (with_reducible repeat (first | apply Kd.V_alloc | apply Kd.V_drewN | apply Kd.V_drew)); exact Kd.V_mono (Kd.V_far (p := ⟨gb130, 0, none⟩) (Kd.V_mono HO_8.out (fun k_ hk => (⟨hk, hk.1.2⟩ : _ ∧ k_ ≠ gb130))) (fun _ hk => hk.2) (.slice Ao17 t131.length co17)) (fun _ hk => ⟨hk.1.1.1.1, ⟨hk.1.1.1.2.1, ⟨hk.1.2, ⟨hk.1.1.1.2.2, hk.1.1.2⟩⟩⟩⟩)))⟩; have n2_ : Aside0 (Kd.V k31 31 w19 w.heap.size (fun k_ => (P0_0_ k_ ∨ w.heap.size ≤ k_) ∧ some k_ ≠ (u3 : Value).ownBlock ∧ some k_ ≠ (.slice Ao17 t131.length co17 : Value).ownBlock ∧ k_ ≠ gb125 ∧ k_ ≠ gb130) (.slice (some ad129) l0_0.length c0_0) l0_0) := ⟨(by rw [hw]; exact (by (with_reducible repeat (first | apply Kd.V_alloc | apply Kd.V_drewN | apply Kd.V_drew)); exact Kd.V_mono (Kd.V_far (p := ⟨gb130, 0, none⟩) (Kd.V_mono HO_126000.out (fun k_ hk => (⟨hk, hk.1.2⟩ : _ ∧ k_ ≠ gb130))) (fun _ hk => hk.2) (.slice Ao17 t131.length co17)) (fun _ hk => ⟨hk.1.1.1.1, ⟨hk.1.1.1.2.1, ⟨hk.1.2, ⟨hk.1.1.1.2.2, hk.1.1.2⟩⟩⟩⟩)))⟩; have n3_ : Aside0 (Kd.V (Kd.int .u8) 5 w19 w.heap.size (fun k_ => (P0_0_ k_ ∨ w.heap.size ≤ k_) ∧ some k_ ≠ (u3 : Value).ownBlock ∧ some k_ ≠ (.slice Ao17 t131.length co17 : Value).ownBlock ∧ k_ ≠ gb125 ∧ k_ ≠ gb130) (.slice A129_0 ((rd_T31 l0_0 x10_1).f0).length c129_0) ((rd_T31 l0_0 x10_1).f0)) := ⟨(by rw [hw]; exact (by (with_reducible repeat (first | apply Kd.V_alloc | apply Kd.V_drewN | apply Kd.V_drew)); exact Kd.V_mono (Kd.V_far (p := ⟨gb130, 0, none⟩) (Kd.V_mono HL129_0.out (fun k_ hk => (⟨hk, hk.1.2⟩ : _ ∧ k_ ≠ gb130))) (fun _ hk => hk.2) (.slice Ao17 t131.length co17)) (fun _ hk => ⟨hk.1.1.1.1, ⟨hk.1.1.1.2.1, ⟨hk.1.2, ⟨hk.1.1.1.2.2, hk.1.1.2⟩⟩⟩⟩)))⟩; have n4_ : Aside0 (Kd.V (Kd.int .u8) 5 w19 w.heap.size (fun k_ => (P0_0_ k_ ∨ w.heap.size ≤ k_) ∧ some k_ ≠ (u3 : Value).ownBlock ∧ some k_ ≠ (.slice Ao17 t131.length co17 : Value).ownBlock ∧ k_ ≠ gb125 ∧ k_ ≠ gb130) (.slice A129_1 ((rd_T31 l0_0 x10_1).f1).length c129_1) ((rd_T31 l0_0 x10_1).f1)) := ⟨(by rw [hw]; exact (by (with_reducible repeat (first | apply Kd.V_alloc | apply Kd.V_drewN | apply Kd.V_drew)); exact Kd.V_mono (Kd.V_far (p := ⟨gb130, 0, none⟩) (Kd.V_mono HL129_1.out (fun k_ hk => (⟨hk, hk.1.2⟩ : _ ∧ k_ ≠ gb130))) (fun _ hk => hk.2) (.slice Ao17 t131.length co17)) (fun _ hk => ⟨hk.1.1.1.1, ⟨hk.1.1.1.2.1, ⟨hk.1.2, ⟨hk.1.1.1.2.2, hk.1.1.2⟩⟩⟩⟩)))⟩; have n5_ : Aside0 (Kd.R (Kd.int .u8) 5 w19 w.heap.size (fun k_ => (w.heap.size ≤ k_)) (.slice Ao17 t131.length co17) t131) := ⟨(by rw [hw]; exact (by (with_reducible repeat (first | apply Kd.R_alloc | apply Kd.R_drewN | apply Kd.R_drew)); exact Kd.R_mono (Kd.R_far (p := ⟨gb130, 0, none⟩) (Kd.R_types HO133.out BK130.out (by decide)) (fun _ hk => hk.2) (.slice Ao17 t131.length co17)) (fun _ hk => hk.1.1)))⟩; have n6_ : Aside0 (w19.heap[gb125]? = some (.cells #[.slice (some ad129) l0_0.length c0_0, .bool true, .int .u64 a0_2, .bool a0_3] 45 (0, 0))) := ⟨(by rw [hw]; exact (by (with_reducible repeat (first | refine blk_drewN ?_ _ | refine blk_drew ?_ | refine blk_alloc ?_ _)); refine blk_far ?_ NB125_130.out _; (with_reducible repeat (first | refine blk_drewN ?_ _ | refine blk_drew ?_ | refine blk_alloc ?_ _)); exact BK125.out))⟩; have n7_ : Aside0 (w19.heap[gb130]? = some (.cells #[.slice Ao17 t131.length co17, .slice A129_1 ((rd_T31 l0_0 x10_1).f1).length c129_1, .int .u64 ((rd_T31 l0_0 x10_1).f2), .int .u8 (Go.bits .andNot .u8 ((rd_T31 l0_0 x10_1).f3) 192), .int .u8 ((rd_T31 l0_0 x10_1).f4)] 31 (0, 0))) := ⟨(by rw [hw]; exact (by (with_reducible repeat (first | refine blk_drewN ?_ _ | refine blk_drew ?_ | refine blk_alloc ?_ _)); refine blk_put (cs := #[.slice A129_0 ((rd_T31 l0_0 x10_1).f0).length c129_0, .slice A129_1 ((rd_T31 l0_0 x10_1).f1).length c129_1, .int .u64 ((rd_T31 l0_0 x10_1).f2), .int .u8 (Go.bits .andNot .u8 ((rd_T31 l0_0 x10_1).f3) 192), .int .u8 ((rd_T31 l0_0 x10_1).f4)]) ?_ 0 _ rfl; (with_reducible repeat (first | refine blk_drewN ?_ _ | refine blk_drew ?_ | refine blk_alloc ?_ _)); exact BK130.out))⟩; have n8_ : Aside0 (Below w.heap.size w w19) := ⟨(by rw [hw]; exact (by repeat (first | (with_reducible first | exact HB.out | apply below_alloc | apply pw_below_drewN | apply below_drew1 | refine below_set ?_ GE125.out | refine below_set ?_ GE130.out) | exact HB.out)))⟩; clear hw; clear HO_3; clear HO_8; clear HO_126000; clear HL129_0; clear HL129_1; clear HO133; clear BK125; clear BK130; clear HB; have HO_3 := n0_; have HO_8 := n1_; have HO_126000 := n2_; have HL129_0 := n3_; have HL129_1 := n4_; have HO133 := n5_; have BK125 := n6_; have BK130 := n7_; have HB := n8_; clear n0_ n1_ n2_ n3_ n4_ n5_ n6_ n7_ n8_; have hcz20_0 : w19.cell? ⟨gb130, 0, none⟩ = some (.slice Ao17 t131.length co17) := (blk_cell BK130.out 0).trans rfl; have hcz20_1 : w19.cell? ⟨gb130, 1, none⟩ = some (.slice A129_1 ((rd_T31 l0_0 x10_1).f1).length c129_1) := (blk_cell BK130.out 1).trans rfl; have hcz20_2 : w19.cell? ⟨gb130, 2, none⟩ = some (.int .u64 ((rd_T31 l0_0 x10_1).f2)) := (blk_cell BK130.out 2).trans rfl; have hcz20_3 : w19.cell? ⟨gb130, 3, none⟩ = some (.int .u8 (Go.bits .andNot .u8 ((rd_T31 l0_0 x10_1).f3) 192)) := (blk_cell BK130.out 3).trans rfl; have hcz20_4 : w19.cell? ⟨gb130, 4, none⟩ = some (.int .u8 ((rd_T31 l0_0 x10_1).f4)) := (blk_cell BK130.out 4).trans rfl; have hfz20_0 := blk_frozen BK130.out 0; have hfz20_1 := blk_frozen BK130.out 1; have hfz20_2 := blk_frozen BK130.out 2; have hfz20_3 := blk_frozen BK130.out 3; have hfz20_4 := blk_frozen BK130.out 4) | ((with_reducible refine gate_store (t := 5) (p := 29) rfl ?_); refine store_event (t := 5) (p := 29) (v := ?vo_w21) (w1 := (w19.setCell ⟨gb130, 3, none⟩ (.int .u8 (Go.bits .or .u8 (Go.bits .andNot .u8 ((rd_T31 l0_0 x10_1).f3) 192) 64)))) ?hg ?ho ?hn ?hr ?_; (case ho => rfl); (case hg => rfl); (case hn => rfl); (case hr => first | (go_simp; done) | (go_simp; rfl)); intro w21 hw; have n0_ : Aside0 (Kd.N k31 31 w21 w.heap.size (fun k_ => (P0_0_ k_ ∨ w.heap.size ≤ k_) ∧ some k_ ≠ (.slice Ao17 t131.length co17 : Value).ownBlock ∧ k_ ≠ gb125 ∧ k_ ≠ gb130) u3 x3_1) := ⟨(by rw [hw]; exact (by (with_reducible repeat (first | apply Kd.N_alloc | apply Kd.N_drewN | apply Kd.N_drew)); exact Kd.N_mono (Kd.N_far (p := ⟨gb130, 3, none⟩) (Kd.N_mono HO_3.out (fun k_ hk => (⟨hk, hk.2.2.2⟩ : _ ∧ k_ ≠ gb130))) (fun _ hk => hk.2) (.int .u8 (Go.bits .or .u8 (Go.bits .andNot .u8 ((rd_T31 l0_0 x10_1).f3) 192) 64))) (fun _ hk => ⟨hk.1.1, ⟨hk.1.2.1, ⟨hk.1.2.2.1, hk.1.2.2.2⟩⟩⟩)))⟩; have n1_ : Aside0 (Kd.V k31 31 w21 w.heap.size (fun k_ => (P0_0_ k_ ∨ w.heap.size ≤ k_) ∧ some k_ ≠ (u3 : Value).ownBlock ∧ some k_ ≠ (.slice Ao17 t131.length co17 : Value).ownBlock ∧ k_ ≠ gb125 ∧ k_ ≠ gb130) (.slice (some ad129) l0_0.length c0_0) l0_0) := ⟨(by rw [hw]; exact (by (with_reducible repeat (first | apply Kd.V_alloc | apply Kd.V_drewN | apply Kd.V_drew)); exact Kd.V_mono (Kd.V_far (p := ⟨gb130, 3, none⟩) (Kd.V_mono HO_8.out (fun k_ hk => (⟨hk, hk.2.2.2.2⟩ : _ ∧ k_ ≠ gb130))) (fun _ hk => hk.2) (.int .u8 (Go.bits .or .u8 (Go.bits .andNot .u8 ((rd_T31 l0_0 x10_1).f3) 192) 64))) (fun _ hk => ⟨hk.1.1, ⟨hk.1.2.1, ⟨hk.1.2.2.1, ⟨hk.1.2.2.2.1, hk.1.2.2.2.2⟩⟩⟩⟩)))⟩; have n2_ : Aside0 (Kd.V k31 31 w21 w.heap.size (fun k_ => (P0_0_ k_ ∨ w.heap.size ≤ k_) ∧ some k_ ≠ (u3 : Value).ownBlock ∧ some k_ ≠ (.slice Ao17 t131.length co17 : Value).ownBlock ∧ k_ ≠ gb125 ∧ k_ ≠ gb130) (.slice (some ad129) l0_0.length c0_0) l0_0) := ⟨(by rw [hw]; exact (by (with_reducible repeat (first | apply Kd.V_alloc | apply Kd.V_drewN | apply Kd.V_drew)); exact Kd.V_mono (Kd.V_far (p := ⟨gb130, 3, none⟩) (Kd.V_mono HO_126000.out (fun k_ hk => (⟨hk, hk.2.2.2.2⟩ : _ ∧ k_ ≠ gb130))) (fun _ hk => hk.2) (.int .u8 (Go.bits .or .u8 (Go.bits .andNot .u8 ((rd_T31 l0_0 x10_1).f3) 192) 64))) (fun _ hk => ⟨hk.1.1, ⟨hk.1.2.1, ⟨hk.1.2.2.1, ⟨hk.1.2.2.2.1, hk.1.2.2.2.2⟩⟩⟩⟩)))⟩; have n3_ : Aside0 (Kd.V (Kd.int .u8) 5 w21 w.heap.size (fun k_ => (P0_0_ k_ ∨ w.heap.size ≤ k_) ∧ some k_ ≠ (u3 : Value).ownBlock ∧ some k_ ≠ (.slice Ao17 t131.length co17 : Value).ownBlock ∧ k_ ≠ gb125 ∧ k_ ≠ gb130) (.slice A129_0 ((rd_T31 l0_0 x10_1).f0).length c129_0) ((rd_T31 l0_0 x10_1).f0)) := ⟨(by rw [hw]; exact (by (with_reducible repeat (first | apply Kd.V_alloc | apply Kd.V_drewN | apply Kd.V_drew)); exact Kd.V_mono (Kd.V_far (p := ⟨gb130, 3, none⟩) (Kd.V_mono HL129_0.out (fun k_ hk => (⟨hk, hk.2.2.2.2⟩ : _ ∧ k_ ≠ gb130))) (fun _ hk => hk.2) (.int .u8 (Go.bits .or .u8 (Go.bits .andNot .u8 ((rd_T31 l0_0 x10_1).f3) 192) 64))) (fun _ hk => ⟨hk.1.1, ⟨hk.1.2.1, ⟨hk.1.2.2.1, ⟨hk.1.2.2.2.1, hk.1.2.2.2.2⟩⟩⟩⟩)))⟩; have n4_ : Aside0 (Kd.V (Kd.int .u8) 5 w21 w.heap.size (fun k_ => (P0_0_ k_ ∨ w.heap.size ≤ k_) ∧ some k_ ≠ (u3 : Value).ownBlock ∧ some k_ ≠ (.slice Ao17 t131.length co17 : Value).ownBlock ∧ k_ ≠ gb125 ∧ k_ ≠ gb130) (.slice A129_1 ((rd_T31 l0_0 x10_1).f1).length c129_1) ((rd_T31 l0_0 x10_1).f1)) := ⟨(by rw [hw]; exact (by (with_reducible repeat (first | apply Kd.V_alloc | apply Kd.V_drewN | apply Kd.V_drew)); exact Kd.V_mono (Kd.V_far (p := ⟨gb130, 3, none⟩) (Kd.V_mono HL129_1.out (fun k_ hk => (⟨hk, hk.2.2.2.2⟩ : _ ∧ k_ ≠ gb130))) (fun _ hk => hk.2) (.int .u8 (Go.bits .or .u8 (Go.bits .andNot .u8 ((rd_T31 l0_0 x10_1).f3) 192) 64))) (fun _ hk => ⟨hk.1.1, ⟨hk.1.2.1, ⟨hk.1.2.2.1, ⟨hk.1.2.2.2.1, hk.1.2.2.2.2⟩⟩⟩⟩)))⟩; have n5_ : Aside0 (Kd.R (Kd.int .u8) 5 w21 w.heap.size (fun k_ => (w.heap.size ≤ k_)) (.slice Ao17 t131.length co17) t131) := ⟨(by rw [hw]; exact (by (with_reducible repeat (first | apply Kd.R_alloc | apply Kd.R_drewN | apply Kd.R_drew)); exact Kd.R_mono (Kd.R_far (p := ⟨gb130, 3, none⟩) (Kd.R_types HO133.out BK130.out (by decide)) (fun _ hk => hk.2) (.int .u8 (Go.bits .or .u8 (Go.bits .andNot .u8 ((rd_T31 l0_0 x10_1).f3) 192) 64))) (fun _ hk => hk.1)))⟩; have n6_ : Aside0 (w21.heap[gb125]? = some (.cells #[.slice (some ad129) l0_0.length c0_0, .bool true, .int .u64 a0_2, .bool a0_3] 45 (0, 0))) := ⟨(by rw [hw]; exact (by (with_reducible repeat (first | refine blk_drewN ?_ _ | refine blk_drew ?_ | refine blk_alloc ?_ _)); refine blk_far ?_ NB125_130.out _; (with_reducible repeat (first | refine blk_drewN ?_ _ | refine blk_drew ?_ | refine blk_alloc ?_ _)); exact BK125.out))⟩; have n7_ : Aside0 (w21.heap[gb130]? = some (.cells #[.slice Ao17 t131.length co17, .slice A129_1 ((rd_T31 l0_0 x10_1).f1).length c129_1, .int .u64 ((rd_T31 l0_0 x10_1).f2), .int .u8 (Go.bits .or .u8 (Go.bits .andNot .u8 ((rd_T31 l0_0 x10_1).f3) 192) 64), .int .u8 ((rd_T31 l0_0 x10_1).f4)] 31 (0, 0))) := ⟨(by rw [hw]; exact (by (with_reducible repeat (first | refine blk_drewN ?_ _ | refine blk_drew ?_ | refine blk_alloc ?_ _)); refine blk_put (cs := #[.slice Ao17 t131.length co17, .slice A129_1 ((rd_T31 l0_0 x10_1).f1).length c129_1, .int .u64 ((rd_T31 l0_0 x10_1).f2), .int .u8 (Go.bits .andNot .u8 ((rd_T31 l0_0 x10_1).f3) 192), .int .u8 ((rd_T31 l0_0 x10_1).f4)]) ?_ 3 _ rfl; (with_reducible repeat (first | refine blk_drewN ?_ _ | refine blk_drew ?_ | refine blk_alloc ?_ _)); exact BK130.out))⟩; have n8_ : Aside0 (Below w.heap.size w w21) := ⟨(by rw [hw]; exact (by repeat (first | (with_reducible first | exact HB.out | apply below_alloc | apply pw_below_drewN | apply below_drew1 | refine below_set ?_ GE125.out | refine below_set ?_ GE130.out) | exact HB.out)))⟩; clear hw; clear HO_3; clear HO_8; clear HO_126000; clear HL129_0; clear HL129_1; clear HO133; clear BK125; clear BK130; clear HB; have HO_3 := n0_; have HO_8 := n1_; have HO_126000 := n2_; have HL129_0 := n3_; have HL129_1 := n4_; have HO133 := n5_; have BK125 := n6_; have BK130 := n7_; have HB := n8_; clear n0_ n1_ n2_ n3_ n4_ n5_ n6_ n7_ n8_; have hcz22_0 : w21.cell? ⟨gb130, 0, none⟩ = some (.slice Ao17 t131.length co17) := (blk_cell BK130.out 0).trans rfl; have hcz22_1 : w21.cell? ⟨gb130, 1, none⟩ = some (.slice A129_1 ((rd_T31 l0_0 x10_1).f1).length c129_1) := (blk_cell BK130.out 1).trans rfl; have hcz22_2 : w21.cell? ⟨gb130, 2, none⟩ = some (.int .u64 ((rd_T31 l0_0 x10_1).f2)) := (blk_cell BK130.out 2).trans rfl; have hcz22_3 : w21.cell? ⟨gb130, 3, none⟩ = some (.int .u8 (Go.bits .or .u8 (Go.bits .andNot .u8 ((rd_T31 l0_0 x10_1).f3) 192) 64)) := (blk_cell BK130.out 3).trans rfl; have hcz22_4 : w21.cell? ⟨gb130, 4, none⟩ = some (.int .u8 ((rd_T31 l0_0 x10_1).f4)) := (blk_cell BK130.out 4).trans rfl; have hfz22_0 := blk_frozen BK130.out 0; have hfz22_1 := blk_frozen BK130.out 1; have hfz22_2 := blk_frozen BK130.out 2; have hfz22_3 := blk_frozen BK130.out 3; have hfz22_4 := blk_frozen BK130.out 4) | ((with_reducible refine gate_builtin (b := .append) (xs := #[.tmp 30, .tmp 32]) rfl ?_); at_builtin; refine Kd.N_append k31 (w0 := w) w.heap.size rfl (.tmp 30) (.tmp 32) 25 31 (.agg #[(.slice none 0 0), (.slice none 0 0), (.int .u64 0), (.int .u8 0), (.int .u8 0)]) 64 rfl Tryz.underlying25 info31 rfl (by decide) (by omega) u3 x3_1 (⟨t131, (rd_T31 l0_0 x10_1).f1, (rd_T31 l0_0 x10_1).f2, Go.bits .or .u8 (Go.bits .andNot .u8 ((rd_T31 l0_0 x10_1).f3) 192) 64, (rd_T31 l0_0 x10_1).f4⟩ : S31) [.slice Ao17 t131.length co17, .slice A129_1 ((rd_T31 l0_0 x10_1).f1).length c129_1, .int .u64 ((rd_T31 l0_0 x10_1).f2), .int .u8 (Go.bits .or .u8 (Go.bits .andNot .u8 ((rd_T31 l0_0 x10_1).f3) 192) 64), .int .u8 ((rd_T31 l0_0 x10_1).f4)] (fun k_ => (P0_0_ k_ ∨ w.heap.size ≤ k_) ∧ k_ ≠ gb125 ∧ k_ ≠ gb130) (fun k_ => ((fun k_ => (P0_0_ k_ ∨ w.heap.size ≤ k_) ∧ k_ ≠ gb125 ∧ k_ ≠ gb130)) k_ ∧ some k_ ≠ (u3 : Value).ownBlock) rfl rfl ?aP (fun _ hk => hk) ?aF ?aO ?aB ?aS ?aL ?_; (case aP => exact (k31_mkF _ _ (⟨t131, (rd_T31 l0_0 x10_1).f1, (rd_T31 l0_0 x10_1).f2, Go.bits .or .u8 (Go.bits .andNot .u8 ((rd_T31 l0_0 x10_1).f3) 192) 64, (rd_T31 l0_0 x10_1).f4⟩ : S31) (Kd.R_reads' (Kd.R_mono (ok' := (fun k_ => ((fun k_ => (P0_0_ k_ ∨ w.heap.size ≤ k_) ∧ k_ ≠ gb125 ∧ k_ ≠ gb130)) k_ ∧ some k_ ≠ (u3 : Value).ownBlock)) (Kd.R_types (Kd.R_types (Kd.R_apart' (HO133.out) (Kd.N_typed HO_3.out) (by decide)) BK125.out (by decide)) BK130.out (by decide)) (fun k_ hk => ⟨⟨(.inr (hk.1.1.1)), ⟨hk.1.2, hk.2⟩⟩, hk.1.1.2⟩))).2.1 (Kd.R_F (Kd.R_mono (ok' := (fun k_ => ((fun k_ => (P0_0_ k_ ∨ w.heap.size ≤ k_) ∧ k_ ≠ gb125 ∧ k_ ≠ gb130)) k_ ∧ some k_ ≠ (u3 : Value).ownBlock)) (Kd.R_types (Kd.R_types (Kd.R_apart' (HO133.out) (Kd.N_typed HO_3.out) (by decide)) BK125.out (by decide)) BK130.out (by decide)) (fun k_ hk => ⟨⟨(.inr (hk.1.1.1)), ⟨hk.1.2, hk.2⟩⟩, hk.1.1.2⟩))) (Kd.V_reads' (Kd.V_mono (ok' := (fun k_ => ((fun k_ => (P0_0_ k_ ∨ w.heap.size ≤ k_) ∧ k_ ≠ gb125 ∧ k_ ≠ gb130)) k_ ∧ some k_ ≠ (u3 : Value).ownBlock)) (HL129_1.out) (fun k_ hk => ⟨⟨hk.1, ⟨hk.2.2.2.1, hk.2.2.2.2⟩⟩, hk.2.1⟩))).2.1 (Kd.V_F (Kd.V_mono (ok' := (fun k_ => ((fun k_ => (P0_0_ k_ ∨ w.heap.size ≤ k_) ∧ k_ ≠ gb125 ∧ k_ ≠ gb130)) k_ ∧ some k_ ≠ (u3 : Value).ownBlock)) (HL129_1.out) (fun k_ hk => ⟨⟨hk.1, ⟨hk.2.2.2.1, hk.2.2.2.2⟩⟩, hk.2.1⟩))))); (case aB => exact (by repeat (first | (with_reducible first | exact HB.out | apply below_alloc | apply pw_below_drewN | apply below_drew1 | refine below_set ?_ GE125.out | refine below_set ?_ GE130.out) | exact HB.out))); (case aF => exact (fun k_ hk => ⟨(.inr (Nat.le_trans (below_size (by repeat (first | (with_reducible first | exact HB.out | apply below_alloc | apply pw_below_drewN | apply below_drew1 | refine below_set ?_ GE125.out | refine below_set ?_ GE130.out) | exact HB.out))) hk)), Kd.freshB (g := gb125) (o := .cells #[.slice (some ad129) l0_0.length c0_0, .bool true, .int .u64 a0_2, .bool a0_3] 45 (0, 0)) (by (with_reducible repeat (first | refine blk_drewN ?_ _ | refine blk_drew ?_ | refine blk_alloc ?_ _)); exact BK125.out) k_ hk, Kd.freshB (g := gb130) (o := .cells #[.slice Ao17 t131.length co17, .slice A129_1 ((rd_T31 l0_0 x10_1).f1).length c129_1, .int .u64 ((rd_T31 l0_0 x10_1).f2), .int .u8 (Go.bits .or .u8 (Go.bits .andNot .u8 ((rd_T31 l0_0 x10_1).f3) 192) 64), .int .u8 ((rd_T31 l0_0 x10_1).f4)] 31 (0, 0)) (by (with_reducible repeat (first | refine blk_drewN ?_ _ | refine blk_drew ?_ | refine blk_alloc ?_ _)); exact BK130.out) k_ hk⟩)); (case aO => exact (by (with_reducible repeat (first | apply Kd.N_alloc | apply Kd.N_drewN | apply Kd.N_drew)); exact Kd.N_mono HO_3.out (fun _ hk => ⟨hk.1, ⟨hk.2.2.1, hk.2.2.2⟩⟩))); (case aS => exact (below_size (by repeat (first | (with_reducible first | exact HB.out | apply below_alloc | apply pw_below_drewN | apply below_drew1 | refine below_set ?_ GE125.out | refine below_set ?_ GE130.out) | exact HB.out)))); (case aL => have := LMc11.out; omega); intro v135 w23 ho hb hg hat; rw [← Ny134.out] at ho; have n0_ := Aside0.mk (Kd.V_afterv (ok := (fun k_ => (P0_0_ k_ ∨ w.heap.size ≤ k_) ∧ some k_ ≠ (.slice Ao17 t131.length co17 : Value).ownBlock ∧ k_ ≠ gb125 ∧ k_ ≠ gb130)) (by (with_reducible repeat (first | apply Kd.V_alloc | apply Kd.V_drewN | apply Kd.V_drew)); exact Kd.V_mono HO_8.out (fun _ hk => ⟨⟨hk.1, ⟨hk.2.2.1, ⟨hk.2.2.2.1, hk.2.2.2.2⟩⟩⟩, hk.2.1⟩)) hg hat); have n1_ := Aside0.mk (Kd.V_afterv (ok := (fun k_ => (P0_0_ k_ ∨ w.heap.size ≤ k_) ∧ some k_ ≠ (.slice Ao17 t131.length co17 : Value).ownBlock ∧ k_ ≠ gb125 ∧ k_ ≠ gb130)) (by (with_reducible repeat (first | apply Kd.V_alloc | apply Kd.V_drewN | apply Kd.V_drew)); exact Kd.V_mono HO_126000.out (fun _ hk => ⟨⟨hk.1, ⟨hk.2.2.1, ⟨hk.2.2.2.1, hk.2.2.2.2⟩⟩⟩, hk.2.1⟩)) hg hat); have n2_ := Aside0.mk (blk_grown (g := gb125) (o := .cells #[.slice (some ad129) l0_0.length c0_0, .bool true, .int .u64 a0_2, .bool a0_3] 45 (0, 0)) (by (with_reducible repeat (first | refine blk_drewN ?_ _ | refine blk_drew ?_ | refine blk_alloc ?_ _)); exact BK125.out) hg (Kd.N_ne HO_3.out BK125.out (by decide))); have n3_ := Aside0.mk (Kd.V_afterv (ok := (fun k_ => (P0_0_ k_ ∨ w.heap.size ≤ k_) ∧ some k_ ≠ (.slice Ao17 t131.length co17 : Value).ownBlock ∧ k_ ≠ gb125 ∧ k_ ≠ gb130)) (by (with_reducible repeat (first | apply Kd.V_alloc | apply Kd.V_drewN | apply Kd.V_drew)); exact Kd.V_mono HL129_0.out (fun _ hk => ⟨⟨hk.1, ⟨hk.2.2.1, ⟨hk.2.2.2.1, hk.2.2.2.2⟩⟩⟩, hk.2.1⟩)) hg hat); have n4_ := Aside0.mk (Kd.V_afterv (ok := (fun k_ => (P0_0_ k_ ∨ w.heap.size ≤ k_) ∧ some k_ ≠ (.slice Ao17 t131.length co17 : Value).ownBlock ∧ k_ ≠ gb125 ∧ k_ ≠ gb130)) (by (with_reducible repeat (first | apply Kd.V_alloc | apply Kd.V_drewN | apply Kd.V_drew)); exact Kd.V_mono HL129_1.out (fun _ hk => ⟨⟨hk.1, ⟨hk.2.2.1, ⟨hk.2.2.2.1, hk.2.2.2.2⟩⟩⟩, hk.2.1⟩)) hg hat); have n5_ := Aside0.mk (blk_grown (g := gb130) (o := .cells #[.slice Ao17 t131.length co17, .slice A129_1 ((rd_T31 l0_0 x10_1).f1).length c129_1, .int .u64 ((rd_T31 l0_0 x10_1).f2), .int .u8 (Go.bits .or .u8 (Go.bits .andNot .u8 ((rd_T31 l0_0 x10_1).f3) 192) 64), .int .u8 ((rd_T31 l0_0 x10_1).f4)] 31 (0, 0)) (by (with_reducible repeat (first | refine blk_drewN ?_ _ | refine blk_drew ?_ | refine blk_alloc ?_ _)); exact BK130.out) hg (Kd.N_away HO_3.out (fun _ hk => hk.2.2.2))); have n6_ := Aside0.mk (hb); have n7_ := Aside0.mk (ho); clear HO_8; clear HO_126000; clear BK125; clear HL129_0; clear HL129_1; clear BK130; clear HB; clear HO_3; clear HO133; have HO_8 := n0_; have HO_126000 := n1_; have BK125 := n2_; have HL129_0 := n3_; have HL129_1 := n4_; have BK130 := n5_; have HB := n6_; have HO136 := n7_; clear n0_ n1_ n2_ n3_ n4_ n5_ n6_ n7_; clear ho hb hg hat))
                go_roundg k1
                case measure => have := HK1.out; omega
                case rel => exact ⟨(y134), (wrap64 (x10_1 + 1)), (by first | rfl | (simp; done) | (simp [*]; done)), H', ⟨by have := HK1.out; omega⟩, ⟨by (with_reducible repeat (first | apply Kd.N_alloc | apply Kd.N_drewN | apply Kd.N_drew)); exact Kd.N_mono HO136.out (fun _ hk => ⟨hk.1, hk.2.1⟩)⟩, ⟨by (with_reducible repeat (first | apply Kd.V_alloc | apply Kd.V_drewN | apply Kd.V_drew)); exact Kd.V_mono HO_8.out (fun _ hk => ⟨hk.1.1, ⟨hk.2, hk.1.2.2.1⟩⟩)⟩, ⟨by (with_reducible repeat (first | apply Kd.V_alloc | apply Kd.V_drewN | apply Kd.V_drew)); exact Kd.V_mono HO_126000.out (fun _ hk => ⟨hk.1.1, ⟨hk.2, hk.1.2.2.1⟩⟩)⟩, ⟨by (with_reducible repeat (first | refine blk_drewN ?_ _ | refine blk_drew ?_ | refine blk_alloc ?_ _)); exact BK125.out⟩, ⟨by repeat (first | (with_reducible first | exact HB.out | apply below_alloc | apply pw_below_drewN | apply below_drew1 | refine below_set ?_ GE125.out | refine below_set ?_ GE130.out) | exact HB.out)⟩⟩
              · rw [if_neg c11] at H
                exact absurd H (by simp)
            · replace c9 := Bool.eq_false_iff.mpr c9
              subst c9
              have H1 : (if x3_1.length < 2199023255552 then (spec_Unit_written.l0 k1 (x3_1 ++ [(⟨(rd_T31 l0_0 x10_1).f0, (rd_T31 l0_0 x10_1).f1, (rd_T31 l0_0 x10_1).f2, Go.bits .andNot .u8 ((rd_T31 l0_0 x10_1).f3) 192, (rd_T31 l0_0 x10_1).f4⟩ : S31)]) l0_0 (l0_0.length : Int) (wrap64 (x10_1 + 1)) l0_0 false a0_2 a0_3) else (none)) = some r := by rw [if_neg (show ¬ (false = true) by decide)] at H; exact H
              clear H
              have H := H1
              clear H1
              by_cases c24 : x3_1.length < 2199023255552
              · rw [if_pos c24] at H
                have LMc24 := Aside0.mk c24
                clear c24
                obtain ⟨y137, hy137⟩ : ∃ y_ : List (S31), y_ = (x3_1 ++ [(⟨(rd_T31 l0_0 x10_1).f0, (rd_T31 l0_0 x10_1).f1, (rd_T31 l0_0 x10_1).f2, Go.bits .andNot .u8 ((rd_T31 l0_0 x10_1).f3) 192, (rd_T31 l0_0 x10_1).f4⟩ : S31)]) := ⟨_, rfl⟩
                replace H : (spec_Unit_written.l0 k1 y137 l0_0 (l0_0.length : Int) (wrap64 (x10_1 + 1)) l0_0 false a0_2 a0_3) = some r := by first | (rw [hy137]; with_reducible exact H) | (have H2_ := (Option.bind_some _ _).symm.trans H; rw [hy137]; with_reducible exact H2_) | (have H2_ := (Option.bind_some _ _).symm.trans H; with_reducible exact H2_) | with_reducible exact H | (rw [hy137]; exact H) | exact H
                have Ny137 := Aside0.mk hy137
                clear hy137
                have H' := Aside0.mk H
                clear H
                have p129 : 0 ≤ (x10_1 : Int) := of_decide_eq_true (by first | (with_reducible assumption) | assumption)
                have q129 : x10_1 < (l0_0.length : Int) := of_decide_eq_true (by first | (with_reducible assumption) | assumption)
                obtain ⟨ad129, A129_0, c129_0, A129_1, c129_1, e129, hx129_0, hx129_1, hx129_2, hx129_3, hx129_4, hl129_0, hi129_0, hl129_1, hi129_1⟩ := at_T31 (Kd.V_reads' HO_8.out).2.2 x10_1 p129 q129
                cases e129
                obtain ⟨ce129, hce129, hMe129, hcc129⟩ := Kd.V_get HO_8.out z31 x10_1 p129 (by first | exact q129 | exact of_decide_eq_true (by first | (with_reducible assumption) | assumption) | (have e_ := (Kd.V_reads' HO_8.out).1; omega))
                obtain ⟨ua129_0, uc129_0, ua129_1, uc129_1, rfl, ul129_0, ge129_0, ul129_1, ge129_1⟩ := k31_openF hMe129
                have hv129_0 := hcc129 0 _ rfl
                rw [Nat.add_zero] at hv129_0
                replace hv129_0 := Option.some.inj (hv129_0.symm.trans hx129_0)
                injection hv129_0 with hva_ hvn_ hvc_
                rw [hva_] at ge129_0
                rw [hvc_] at ul129_0
                have HL129_0 := Aside0.mk (show Kd.V (Kd.int .u8) 5 _ w.heap.size _ _ ((rd_T31 l0_0 x10_1).f0) from Kd.V_mk ul129_0 ge129_0)
                clear hva_ hvn_ hvc_ ge129_0 ul129_0
                have hv129_1 := hcc129 1 _ rfl
                rw [add_field _ _ 1 (by omega)] at hv129_1
                replace hv129_1 := Option.some.inj (hv129_1.symm.trans hx129_1)
                injection hv129_1 with hva_ hvn_ hvc_
                rw [hva_] at ge129_1
                rw [hvc_] at ul129_1
                have HL129_1 := Aside0.mk (show Kd.V (Kd.int .u8) 5 _ w.heap.size _ _ ((rd_T31 l0_0 x10_1).f1) from Kd.V_mk ul129_1 ge129_1)
                clear hva_ hvn_ hvc_ ge129_1 ul129_1
                clear hcc129 hce129
                have HR129_0 := Aside0.mk hi129_0
                have HC129_0 := Aside0.mk hl129_0
                clear hi129_0 hl129_0
                have HR129_1 := Aside0.mk hi129_1
                have HC129_1 := Aside0.mk hl129_1
                clear hi129_1 hl129_1
                replace p129 := eq_true p129
                replace q129 := eq_true q129
                go_wp2_with (first | ((with_reducible refine gate_dst (N := 5) rfl ?_); refine box_event ?hg (N := 5) ?hd (cs := #[.slice none 0 0, .slice none 0 0, .int .u64 0, .int .u8 0, .int .u8 0]) (t := 31) ?hr ?_; (case hd => rfl); (case hg => rfl); (case hr => first | (go_simp; done) | (go_simp; rfl)); intro gb130 hg w25 hbox hb; have n0_ := Aside0.mk (Kd.N_below (Kd.N_elderB (by (with_reducible repeat (first | apply Kd.N_alloc | apply Kd.N_drewN | apply Kd.N_drew)); exact HO_3.out) gb130 (Nat.le_of_eq hg.symm)) hb); have n1_ := Aside0.mk (Kd.V_below (Kd.V_elderB (by (with_reducible repeat (first | apply Kd.V_alloc | apply Kd.V_drewN | apply Kd.V_drew)); exact HO_8.out) gb130 (Nat.le_of_eq hg.symm)) hb); have n2_ := Aside0.mk (Kd.V_below (Kd.V_elderB (by (with_reducible repeat (first | apply Kd.V_alloc | apply Kd.V_drewN | apply Kd.V_drew)); exact HO_126000.out) gb130 (Nat.le_of_eq hg.symm)) hb); have n3_ := Aside0.mk (Kd.V_below (Kd.V_elderB (by (with_reducible repeat (first | apply Kd.V_alloc | apply Kd.V_drewN | apply Kd.V_drew)); exact HL129_0.out) gb130 (Nat.le_of_eq hg.symm)) hb); have n4_ := Aside0.mk (Kd.V_below (Kd.V_elderB (by (with_reducible repeat (first | apply Kd.V_alloc | apply Kd.V_drewN | apply Kd.V_drew)); exact HL129_1.out) gb130 (Nat.le_of_eq hg.symm)) hb); have n5_ := Aside0.mk (blk_below (g := gb125) (o := .cells #[.slice (some ad129) l0_0.length c0_0, .bool false, .int .u64 a0_2, .bool a0_3] 45 (0, 0)) (by (with_reducible repeat (first | refine blk_drewN ?_ _ | refine blk_drew ?_ | refine blk_alloc ?_ _)); exact BK125.out) hb); (first | (have n6_ := Aside0.mk (Kd.C_below (by repeat (first | (with_reducible exact HR129_0.out) | (with_reducible refine Kd.C_alloc ?_ _) | (with_reducible refine Kd.C_drewN ?_ _) | (with_reducible refine Kd.C_drew ?_) | exact HR129_0.out)) hb)) | (have n6_ := Aside0.mk trivial)); (first | (have n7_ := Aside0.mk (Kd.C_below (by repeat (first | (with_reducible exact HR129_1.out) | (with_reducible refine Kd.C_alloc ?_ _) | (with_reducible refine Kd.C_drewN ?_ _) | (with_reducible refine Kd.C_drew ?_) | exact HR129_1.out)) hb)) | (have n7_ := Aside0.mk trivial)); have n8_ := Aside0.mk (below_step (by repeat (first | (with_reducible first | exact HB.out | apply below_alloc | apply pw_below_drewN | apply below_drew1 | refine below_set ?_ GE125.out) | exact HB.out)) hb); have n9_ := Aside0.mk (hbox); have n10_ := Aside0.mk ((by rw [hg]; exact (below_size (by repeat (first | (with_reducible first | exact HB.out | apply below_alloc | apply pw_below_drewN | apply below_drew1 | refine below_set ?_ GE125.out) | exact HB.out))) : w.heap.size ≤ gb130)); have n11_ := Aside0.mk ((by rw [hg]; exact (below_size (by repeat (first | (with_reducible first | exact HB.out | apply below_alloc | apply pw_below_drewN | apply below_drew1 | refine below_set ?_ GE125.out) | exact HB.out))) : w.heap.size ≤ gb130)); have n12_ := Aside0.mk ((by rw [hg]; exact Nat.ne_of_lt (blk_lt (g := gb125) (o := .cells #[.slice (some ad129) l0_0.length c0_0, .bool false, .int .u64 a0_2, .bool a0_3] 45 (0, 0)) (by (with_reducible repeat (first | refine blk_drewN ?_ _ | refine blk_drew ?_ | refine blk_alloc ?_ _)); exact BK125.out)) : gb125 ≠ gb130)); have n13_ := Aside0.mk ((by rw [hg]; exact Nat.ne_of_gt (blk_lt (g := gb125) (o := .cells #[.slice (some ad129) l0_0.length c0_0, .bool false, .int .u64 a0_2, .bool a0_3] 45 (0, 0)) (by (with_reducible repeat (first | refine blk_drewN ?_ _ | refine blk_drew ?_ | refine blk_alloc ?_ _)); exact BK125.out)) : gb130 ≠ gb125)); clear HO_3; clear HO_8; clear HO_126000; clear HL129_0; clear HL129_1; clear BK125; clear HR129_0; clear HR129_1; clear HB; have HO_3 := n0_; have HO_8 := n1_; have HO_126000 := n2_; have HL129_0 := n3_; have HL129_1 := n4_; have BK125 := n5_; have HR129_0 := n6_; have HR129_1 := n7_; have HB := n8_; have BK130 := n9_; have GW130 := n10_; have GE130 := n11_; have NB125_130 := n12_; have NB130_125 := n13_; clear n0_ n1_ n2_ n3_ n4_ n5_ n6_ n7_ n8_ n9_ n10_ n11_ n12_ n13_; clear hb hbox hg; have hnb26 := NB130_125.out; have hnc26 := NB125_130.out; have hcz27_0 : w25.cell? ⟨gb130, 0, none⟩ = some (.slice none 0 0) := (blk_cell BK130.out 0).trans rfl; have hcz27_1 : w25.cell? ⟨gb130, 1, none⟩ = some (.slice none 0 0) := (blk_cell BK130.out 1).trans rfl; have hcz27_2 : w25.cell? ⟨gb130, 2, none⟩ = some (.int .u64 0) := (blk_cell BK130.out 2).trans rfl; have hcz27_3 : w25.cell? ⟨gb130, 3, none⟩ = some (.int .u8 0) := (blk_cell BK130.out 3).trans rfl; have hcz27_4 : w25.cell? ⟨gb130, 4, none⟩ = some (.int .u8 0) := (blk_cell BK130.out 4).trans rfl; have hfz27_0 := blk_frozen BK130.out 0; have hfz27_1 := blk_frozen BK130.out 1; have hfz27_2 := blk_frozen BK130.out 2; have hfz27_3 := blk_frozen BK130.out 3; have hfz27_4 := blk_frozen BK130.out 4) | ((with_reducible refine gate_store (t := 31) (p := 5) rfl ?_); refine store_event (t := 31) (p := 5) (v := ?vo_w28) (w1 := (((((w25.setCell ⟨gb130, 0, none⟩ (.slice A129_0 ((rd_T31 l0_0 x10_1).f0).length c129_0)).setCell ⟨gb130, 1, none⟩ (.slice A129_1 ((rd_T31 l0_0 x10_1).f1).length c129_1)).setCell ⟨gb130, 2, none⟩ (.int .u64 ((rd_T31 l0_0 x10_1).f2))).setCell ⟨gb130, 3, none⟩ (.int .u8 ((rd_T31 l0_0 x10_1).f3))).setCell ⟨gb130, 4, none⟩ (.int .u8 ((rd_T31 l0_0 x10_1).f4)))) ?hg ?ho ?hn ?hr ?_; (case ho => rfl); (case hg => rfl); (case hn => rfl); (case hr => first | (go_simp; done) | (go_simp; rfl)); intro w28 hw; have n0_ : Aside0 (Kd.N k31 31 w28 w.heap.size (fun k_ => (P0_0_ k_ ∨ w.heap.size ≤ k_) ∧ k_ ≠ gb125 ∧ k_ ≠ gb130) u3 x3_1) := ⟨(by rw [hw]; exact (by (with_reducible repeat (first | apply Kd.N_alloc | apply Kd.N_drewN | apply Kd.N_drew)); exact Kd.N_mono (Kd.N_far (p := ⟨gb130, 4, none⟩) (Kd.N_far (p := ⟨gb130, 3, none⟩) (Kd.N_far (p := ⟨gb130, 2, none⟩) (Kd.N_far (p := ⟨gb130, 1, none⟩) (Kd.N_far (p := ⟨gb130, 0, none⟩) (Kd.N_mono HO_3.out (fun k_ hk => (⟨hk, hk.2⟩ : _ ∧ k_ ≠ gb130))) (fun _ hk => hk.2) (.slice A129_0 ((rd_T31 l0_0 x10_1).f0).length c129_0)) (fun _ hk => hk.2) (.slice A129_1 ((rd_T31 l0_0 x10_1).f1).length c129_1)) (fun _ hk => hk.2) (.int .u64 ((rd_T31 l0_0 x10_1).f2))) (fun _ hk => hk.2) (.int .u8 ((rd_T31 l0_0 x10_1).f3))) (fun _ hk => hk.2) (.int .u8 ((rd_T31 l0_0 x10_1).f4))) (fun _ hk => ⟨hk.1.1.1, ⟨hk.1.1.2, hk.1.2⟩⟩)))⟩; have n1_ : Aside0 (Kd.V k31 31 w28 w.heap.size (fun k_ => (P0_0_ k_ ∨ w.heap.size ≤ k_) ∧ some k_ ≠ (u3 : Value).ownBlock ∧ k_ ≠ gb125 ∧ k_ ≠ gb130) (.slice (some ad129) l0_0.length c0_0) l0_0) := ⟨(by rw [hw]; exact (by (with_reducible repeat (first | apply Kd.V_alloc | apply Kd.V_drewN | apply Kd.V_drew)); exact Kd.V_mono (Kd.V_far (p := ⟨gb130, 4, none⟩) (Kd.V_far (p := ⟨gb130, 3, none⟩) (Kd.V_far (p := ⟨gb130, 2, none⟩) (Kd.V_far (p := ⟨gb130, 1, none⟩) (Kd.V_far (p := ⟨gb130, 0, none⟩) (Kd.V_mono HO_8.out (fun k_ hk => (⟨hk, hk.2⟩ : _ ∧ k_ ≠ gb130))) (fun _ hk => hk.2) (.slice A129_0 ((rd_T31 l0_0 x10_1).f0).length c129_0)) (fun _ hk => hk.2) (.slice A129_1 ((rd_T31 l0_0 x10_1).f1).length c129_1)) (fun _ hk => hk.2) (.int .u64 ((rd_T31 l0_0 x10_1).f2))) (fun _ hk => hk.2) (.int .u8 ((rd_T31 l0_0 x10_1).f3))) (fun _ hk => hk.2) (.int .u8 ((rd_T31 l0_0 x10_1).f4))) (fun _ hk => ⟨hk.1.1.1, ⟨hk.1.1.2.1, ⟨hk.1.1.2.2, hk.1.2⟩⟩⟩)))⟩; have n2_ : Aside0 (Kd.V k31 31 w28 w.heap.size (fun k_ => (P0_0_ k_ ∨ w.heap.size ≤ k_) ∧ some k_ ≠ (u3 : Value).ownBlock ∧ k_ ≠ gb125 ∧ k_ ≠ gb130) (.slice (some ad129) l0_0.length c0_0) l0_0) := ⟨(by rw [hw]; exact (by (with_reducible repeat (first | apply Kd.V_alloc | apply Kd.V_drewN | apply Kd.V_drew)); exact Kd.V_mono (Kd.V_far (p := ⟨gb130, 4, none⟩) (Kd.V_far (p := ⟨gb130, 3, none⟩) (Kd.V_far (p := ⟨gb130, 2, none⟩) (Kd.V_far (p := ⟨gb130, 1, none⟩) (Kd.V_far (p := ⟨gb130, 0, none⟩) (Kd.V_mono HO_126000.out (fun k_ hk => (⟨hk, hk.2⟩ : _ ∧ k_ ≠ gb130))) (fun _ hk => hk.2) (.slice A129_0 ((rd_T31 l0_0 x10_1).f0).length c129_0)) (fun _ hk => hk.2) (.slice A129_1 ((rd_T31 l0_0 x10_1).f1).length c129_1)) (fun _ hk => hk.2) (.int .u64 ((rd_T31 l0_0 x10_1).f2))) (fun _ hk => hk.2) (.int .u8 ((rd_T31 l0_0 x10_1).f3))) (fun _ hk => hk.2) (.int .u8 ((rd_T31 l0_0 x10_1).f4))) (fun _ hk => ⟨hk.1.1.1, ⟨hk.1.1.2.1, ⟨hk.1.1.2.2, hk.1.2⟩⟩⟩)))⟩; have n3_ : Aside0 (Kd.V (Kd.int .u8) 5 w28 w.heap.size (fun k_ => (P0_0_ k_ ∨ w.heap.size ≤ k_) ∧ some k_ ≠ (u3 : Value).ownBlock ∧ k_ ≠ gb125 ∧ k_ ≠ gb130) (.slice A129_0 ((rd_T31 l0_0 x10_1).f0).length c129_0) ((rd_T31 l0_0 x10_1).f0)) := ⟨(by rw [hw]; exact (by (with_reducible repeat (first | apply Kd.V_alloc | apply Kd.V_drewN | apply Kd.V_drew)); exact Kd.V_mono (Kd.V_far (p := ⟨gb130, 4, none⟩) (Kd.V_far (p := ⟨gb130, 3, none⟩) (Kd.V_far (p := ⟨gb130, 2, none⟩) (Kd.V_far (p := ⟨gb130, 1, none⟩) (Kd.V_far (p := ⟨gb130, 0, none⟩) (Kd.V_mono HL129_0.out (fun k_ hk => (⟨hk, hk.2⟩ : _ ∧ k_ ≠ gb130))) (fun _ hk => hk.2) (.slice A129_0 ((rd_T31 l0_0 x10_1).f0).length c129_0)) (fun _ hk => hk.2) (.slice A129_1 ((rd_T31 l0_0 x10_1).f1).length c129_1)) (fun _ hk => hk.2) (.int .u64 ((rd_T31 l0_0 x10_1).f2))) (fun _ hk => hk.2) (.int .u8 ((rd_T31 l0_0 x10_1).f3))) (fun _ hk => hk.2) (.int .u8 ((rd_T31 l0_0 x10_1).f4))) (fun _ hk => ⟨hk.1.1.1, ⟨hk.1.1.2.1, ⟨hk.1.1.2.2, hk.1.2⟩⟩⟩)))⟩; have n4_ : Aside0 (Kd.V (Kd.int .u8) 5 w28 w.heap.size (fun k_ => (P0_0_ k_ ∨ w.heap.size ≤ k_) ∧ some k_ ≠ (u3 : Value).ownBlock ∧ k_ ≠ gb125 ∧ k_ ≠ gb130) (.slice A129_1 ((rd_T31 l0_0 x10_1).f1).length c129_1) ((rd_T31 l0_0 x10_1).f1)) := ⟨(by rw [hw]; exact (by (with_reducible repeat (first | apply Kd.V_alloc | apply Kd.V_drewN | apply Kd.V_drew)); exact Kd.V_mono (Kd.V_far (p := ⟨gb130, 4, none⟩) (Kd.V_far (p := ⟨gb130, 3, none⟩) (Kd.V_far (p := ⟨gb130, 2, none⟩) (Kd.V_far (p := ⟨gb130, 1, none⟩) (Kd.V_far (p := ⟨gb130, 0, none⟩) (Kd.V_mono HL129_1.out (fun k_ hk => (⟨hk, hk.2⟩ : _ ∧ k_ ≠ gb130))) (fun _ hk => hk.2) (.slice A129_0 ((rd_T31 l0_0 x10_1).f0).length c129_0)) (fun _ hk => hk.2) (.slice A129_1 ((rd_T31 l0_0 x10_1).f1).length c129_1)) (fun _ hk => hk.2) (.int .u64 ((rd_T31 l0_0 x10_1).f2))) (fun _ hk => hk.2) (.int .u8 ((rd_T31 l0_0 x10_1).f3))) (fun _ hk => hk.2) (.int .u8 ((rd_T31 l0_0 x10_1).f4))) (fun _ hk => ⟨hk.1.1.1, ⟨hk.1.1.2.1, ⟨hk.1.1.2.2, hk.1.2⟩⟩⟩)))⟩; have n5_ : Aside0 (w28.heap[gb125]? = some (.cells #[.slice (some ad129) l0_0.length c0_0, .bool false, .int .u64 a0_2, .bool a0_3] 45 (0, 0))) := ⟨(by rw [hw]; exact (by (with_reducible repeat (first | refine blk_drewN ?_ _ | refine blk_drew ?_ | refine blk_alloc ?_ _)); refine blk_far ?_ NB125_130.out _; (with_reducible repeat (first | refine blk_drewN ?_ _ | refine blk_drew ?_ | refine blk_alloc ?_ _)); refine blk_far ?_ NB125_130.out _; (with_reducible repeat (first | refine blk_drewN ?_ _ | refine blk_drew ?_ | refine blk_alloc ?_ _)); refine blk_far ?_ NB125_130.out _; (with_reducible repeat (first | refine blk_drewN ?_ _ | refine blk_drew ?_ | refine blk_alloc ?_ _)); refine blk_far ?_ NB125_130.out _; (with_reducible repeat (first | refine blk_drewN ?_ _ | refine blk_drew ?_ | refine blk_alloc ?_ _)); refine blk_far ?_ NB125_130.out _; (with_reducible repeat (first | refine blk_drewN ?_ _ | refine blk_drew ?_ | refine blk_alloc ?_ _)); exact BK125.out))⟩; have n6_ : Aside0 (w28.heap[gb130]? = some (.cells #[.slice A129_0 ((rd_T31 l0_0 x10_1).f0).length c129_0, .slice A129_1 ((rd_T31 l0_0 x10_1).f1).length c129_1, .int .u64 ((rd_T31 l0_0 x10_1).f2), .int .u8 ((rd_T31 l0_0 x10_1).f3), .int .u8 ((rd_T31 l0_0 x10_1).f4)] 31 (0, 0))) := ⟨(by rw [hw]; exact (by (with_reducible repeat (first | refine blk_drewN ?_ _ | refine blk_drew ?_ | refine blk_alloc ?_ _)); refine blk_put (cs := #[.slice A129_0 ((rd_T31 l0_0 x10_1).f0).length c129_0, .slice A129_1 ((rd_T31 l0_0 x10_1).f1).length c129_1, .int .u64 ((rd_T31 l0_0 x10_1).f2), .int .u8 ((rd_T31 l0_0 x10_1).f3), .int .u8 0]) ?_ 4 _ rfl; (with_reducible repeat (first | refine blk_drewN ?_ _ | refine blk_drew ?_ | refine blk_alloc ?_ _)); refine blk_put (cs := #[.slice A129_0 ((rd_T31 l0_0 x10_1).f0).length c129_0, .slice A129_1 ((rd_T31 l0_0 x10_1).f1).length c129_1, .int .u64 ((rd_T31 l0_0 x10_1).f2), .int .u8 0, .int .u8 0]) ?_ 3 _ rfl; (with_reducible repeat (first | refine blk_drewN ?_ _ | refine blk_drew ?_ | refine blk_alloc ?_ _)); refine blk_put (cs := #[.slice A129_0 ((rd_T31 l0_0 x10_1).f0).length c129_0, .slice A129_1 ((rd_T31 l0_0 x10_1).f1).length c129_1, .int .u64 0, .int .u8 0, .int .u8 0]) ?_ 2 _ rfl; (with_reducible repeat (first | refine blk_drewN ?_ _ | refine blk_drew ?_ | refine blk_alloc ?_ _)); refine blk_put (cs := #[.slice A129_0 ((rd_T31 l0_0 x10_1).f0).length c129_0, .slice none 0 0, .int .u64 0, .int .u8 0, .int .u8 0]) ?_ 1 _ rfl; (with_reducible repeat (first | refine blk_drewN ?_ _ | refine blk_drew ?_ | refine blk_alloc ?_ _)); refine blk_put (cs := #[.slice none 0 0, .slice none 0 0, .int .u64 0, .int .u8 0, .int .u8 0]) ?_ 0 _ rfl; (with_reducible repeat (first | refine blk_drewN ?_ _ | refine blk_drew ?_ | refine blk_alloc ?_ _)); exact BK130.out))⟩; have n7_ : Aside0 (Below w.heap.size w w28) := ⟨(by rw [hw]; exact (by repeat (first | (with_reducible first | exact HB.out | apply below_alloc | apply pw_below_drewN | apply below_drew1 | refine below_set ?_ GE125.out | refine below_set ?_ GE130.out) | exact HB.out)))⟩; clear hw; clear HO_3; clear HO_8; clear HO_126000; clear HL129_0; clear HL129_1; clear BK125; clear BK130; clear HB; have HO_3 := n0_; have HO_8 := n1_; have HO_126000 := n2_; have HL129_0 := n3_; have HL129_1 := n4_; have BK125 := n5_; have BK130 := n6_; have HB := n7_; clear n0_ n1_ n2_ n3_ n4_ n5_ n6_ n7_; have hcz29_0 : w28.cell? ⟨gb130, 0, none⟩ = some (.slice A129_0 ((rd_T31 l0_0 x10_1).f0).length c129_0) := (blk_cell BK130.out 0).trans rfl; have hcz29_1 : w28.cell? ⟨gb130, 1, none⟩ = some (.slice A129_1 ((rd_T31 l0_0 x10_1).f1).length c129_1) := (blk_cell BK130.out 1).trans rfl; have hcz29_2 : w28.cell? ⟨gb130, 2, none⟩ = some (.int .u64 ((rd_T31 l0_0 x10_1).f2)) := (blk_cell BK130.out 2).trans rfl; have hcz29_3 : w28.cell? ⟨gb130, 3, none⟩ = some (.int .u8 ((rd_T31 l0_0 x10_1).f3)) := (blk_cell BK130.out 3).trans rfl; have hcz29_4 : w28.cell? ⟨gb130, 4, none⟩ = some (.int .u8 ((rd_T31 l0_0 x10_1).f4)) := (blk_cell BK130.out 4).trans rfl; have hfz29_0 := blk_frozen BK130.out 0; have hfz29_1 := blk_frozen BK130.out 1; have hfz29_2 := blk_frozen BK130.out 2; have hfz29_3 := blk_frozen BK130.out 3; have hfz29_4 := blk_frozen BK130.out 4) | ((with_reducible refine gate_store (t := 5) (p := 17) rfl ?_); refine store_event (t := 5) (p := 17) (v := ?vo_w30) (w1 := (w28.setCell ⟨gb130, 3, none⟩ (.int .u8 (Go.bits .andNot .u8 ((rd_T31 l0_0 x10_1).f3) 192)))) ?hg ?ho ?hn ?hr ?_; (case ho => rfl); (case hg => rfl); (case hn => rfl); (case hr => first | (go_simp; done) | (go_simp; rfl)); intro w30 hw; have n0_ : Aside0 (Kd.N k31 31 w30 w.heap.size (fun k_ => (P0_0_ k_ ∨ w.heap.size ≤ k_) ∧ k_ ≠ gb125 ∧ k_ ≠ gb130) u3 x3_1) := ⟨(by rw [hw]; exact (by (with_reducible repeat (first | apply Kd.N_alloc | apply Kd.N_drewN | apply Kd.N_drew)); exact Kd.N_mono (Kd.N_far (p := ⟨gb130, 3, none⟩) (Kd.N_mono HO_3.out (fun k_ hk => (⟨hk, hk.2.2⟩ : _ ∧ k_ ≠ gb130))) (fun _ hk => hk.2) (.int .u8 (Go.bits .andNot .u8 ((rd_T31 l0_0 x10_1).f3) 192))) (fun _ hk => ⟨hk.1.1, ⟨hk.1.2.1, hk.1.2.2⟩⟩)))⟩; have n1_ : Aside0 (Kd.V k31 31 w30 w.heap.size (fun k_ => (P0_0_ k_ ∨ w.heap.size ≤ k_) ∧ some k_ ≠ (u3 : Value).ownBlock ∧ k_ ≠ gb125 ∧ k_ ≠ gb130) (.slice (some ad129) l0_0.length c0_0) l0_0) := ⟨(by rw [hw]; exact (by (with_reducible repeat (first | apply Kd.V_alloc | apply Kd.V_drewN | apply Kd.V_drew)); exact Kd.V_mono (Kd.V_far (p := ⟨gb130, 3, none⟩) (Kd.V_mono HO_8.out (fun k_ hk => (⟨hk, hk.2.2.2⟩ : _ ∧ k_ ≠ gb130))) (fun _ hk => hk.2) (.int .u8 (Go.bits .andNot .u8 ((rd_T31 l0_0 x10_1).f3) 192))) (fun _ hk => ⟨hk.1.1, ⟨hk.1.2.1, ⟨hk.1.2.2.1, hk.1.2.2.2⟩⟩⟩)))⟩; have n2_ : Aside0 (Kd.V k31 31 w30 w.heap.size (fun k_ => (P0_0_ k_ ∨ w.heap.size ≤ k_) ∧ some k_ ≠ (u3 : Value).ownBlock ∧ k_ ≠ gb125 ∧ k_ ≠ gb130) (.slice (some ad129) l0_0.length c0_0) l0_0) := ⟨(by rw [hw]; exact (by (with_reducible repeat (first | apply Kd.V_alloc | apply Kd.V_drewN | apply Kd.V_drew)); exact Kd.V_mono (Kd.V_far (p := ⟨gb130, 3, none⟩) (Kd.V_mono HO_126000.out (fun k_ hk => (⟨hk, hk.2.2.2⟩ : _ ∧ k_ ≠ gb130))) (fun _ hk => hk.2) (.int .u8 (Go.bits .andNot .u8 ((rd_T31 l0_0 x10_1).f3) 192))) (fun _ hk => ⟨hk.1.1, ⟨hk.1.2.1, ⟨hk.1.2.2.1, hk.1.2.2.2⟩⟩⟩)))⟩; have n3_ : Aside0 (Kd.V (Kd.int .u8) 5 w30 w.heap.size (fun k_ => (P0_0_ k_ ∨ w.heap.size ≤ k_) ∧ some k_ ≠ (u3 : Value).ownBlock ∧ k_ ≠ gb125 ∧ k_ ≠ gb130) (.slice A129_0 ((rd_T31 l0_0 x10_1).f0).length c129_0) ((rd_T31 l0_0 x10_1).f0)) := ⟨(by rw [hw]; exact (by (with_reducible repeat (first | apply Kd.V_alloc | apply Kd.V_drewN | apply Kd.V_drew)); exact Kd.V_mono (Kd.V_far (p := ⟨gb130, 3, none⟩) (Kd.V_mono HL129_0.out (fun k_ hk => (⟨hk, hk.2.2.2⟩ : _ ∧ k_ ≠ gb130))) (fun _ hk => hk.2) (.int .u8 (Go.bits .andNot .u8 ((rd_T31 l0_0 x10_1).f3) 192))) (fun _ hk => ⟨hk.1.1, ⟨hk.1.2.1, ⟨hk.1.2.2.1, hk.1.2.2.2⟩⟩⟩)))⟩; have n4_ : Aside0 (Kd.V (Kd.int .u8) 5 w30 w.heap.size (fun k_ => (P0_0_ k_ ∨ w.heap.size ≤ k_) ∧ some k_ ≠ (u3 : Value).ownBlock ∧ k_ ≠ gb125 ∧ k_ ≠ gb130) (.slice A129_1 ((rd_T31 l0_0 x10_1).f1).length c129_1) ((rd_T31 l0_0 x10_1).f1)) := ⟨(by rw [hw]; exact (by (with_reducible repeat (first | apply Kd.V_alloc | apply Kd.V_drewN | apply Kd.V_drew)); exact Kd.V_mono (Kd.V_far (p := ⟨gb130, 3, none⟩) (Kd.V_mono HL129_1.out (fun k_ hk => (⟨hk, hk.2.2.2⟩ : _ ∧ k_ ≠ gb130))) (fun _ hk => hk.2) (.int .u8 (Go.bits .andNot .u8 ((rd_T31 l0_0 x10_1).f3) 192))) (fun _ hk => ⟨hk.1.1, ⟨hk.1.2.1, ⟨hk.1.2.2.1, hk.1.2.2.2⟩⟩⟩)))⟩; have n5_ : Aside0 (w30.heap[gb125]? = some (.cells #[.slice (some ad129) l0_0.length c0_0, .bool false, .int .u64 a0_2, .bool a0_3] 45 (0, 0))) := ⟨(by rw [hw]; exact (by (with_reducible repeat (first | refine blk_drewN ?_ _ | refine blk_drew ?_ | refine blk_alloc ?_ _)); refine blk_far ?_ NB125_130.out _; (with_reducible repeat (first | refine blk_drewN ?_ _ | refine blk_drew ?_ | refine blk_alloc ?_ _)); exact BK125.out))⟩; have n6_ : Aside0 (w30.heap[gb130]? = some (.cells #[.slice A129_0 ((rd_T31 l0_0 x10_1).f0).length c129_0, .slice A129_1 ((rd_T31 l0_0 x10_1).f1).length c129_1, .int .u64 ((rd_T31 l0_0 x10_1).f2), .int .u8 (Go.bits .andNot .u8 ((rd_T31 l0_0 x10_1).f3) 192), .int .u8 ((rd_T31 l0_0 x10_1).f4)] 31 (0, 0))) := ⟨(by rw [hw]; exact (by (with_reducible repeat (first | refine blk_drewN ?_ _ | refine blk_drew ?_ | refine blk_alloc ?_ _)); refine blk_put (cs := #[.slice A129_0 ((rd_T31 l0_0 x10_1).f0).length c129_0, .slice A129_1 ((rd_T31 l0_0 x10_1).f1).length c129_1, .int .u64 ((rd_T31 l0_0 x10_1).f2), .int .u8 ((rd_T31 l0_0 x10_1).f3), .int .u8 ((rd_T31 l0_0 x10_1).f4)]) ?_ 3 _ rfl; (with_reducible repeat (first | refine blk_drewN ?_ _ | refine blk_drew ?_ | refine blk_alloc ?_ _)); exact BK130.out))⟩; have n7_ : Aside0 (Below w.heap.size w w30) := ⟨(by rw [hw]; exact (by repeat (first | (with_reducible first | exact HB.out | apply below_alloc | apply pw_below_drewN | apply below_drew1 | refine below_set ?_ GE125.out | refine below_set ?_ GE130.out) | exact HB.out)))⟩; clear hw; clear HO_3; clear HO_8; clear HO_126000; clear HL129_0; clear HL129_1; clear BK125; clear BK130; clear HB; have HO_3 := n0_; have HO_8 := n1_; have HO_126000 := n2_; have HL129_0 := n3_; have HL129_1 := n4_; have BK125 := n5_; have BK130 := n6_; have HB := n7_; clear n0_ n1_ n2_ n3_ n4_ n5_ n6_ n7_; have hcz31_0 : w30.cell? ⟨gb125, 0, none⟩ = some (.slice (some ad129) l0_0.length c0_0) := (blk_cell BK125.out 0).trans rfl; have hcz31_1 : w30.cell? ⟨gb125, 1, none⟩ = some (.bool false) := (blk_cell BK125.out 1).trans rfl; have hcz31_2 : w30.cell? ⟨gb125, 2, none⟩ = some (.int .u64 a0_2) := (blk_cell BK125.out 2).trans rfl; have hcz31_3 : w30.cell? ⟨gb125, 3, none⟩ = some (.bool a0_3) := (blk_cell BK125.out 3).trans rfl; have hfz31_0 := blk_frozen BK125.out 0; have hfz31_1 := blk_frozen BK125.out 1; have hfz31_2 := blk_frozen BK125.out 2; have hfz31_3 := blk_frozen BK125.out 3; have hcz32_0 : w30.cell? ⟨gb130, 0, none⟩ = some (.slice A129_0 ((rd_T31 l0_0 x10_1).f0).length c129_0) := (blk_cell BK130.out 0).trans rfl; have hcz32_1 : w30.cell? ⟨gb130, 1, none⟩ = some (.slice A129_1 ((rd_T31 l0_0 x10_1).f1).length c129_1) := (blk_cell BK130.out 1).trans rfl; have hcz32_2 : w30.cell? ⟨gb130, 2, none⟩ = some (.int .u64 ((rd_T31 l0_0 x10_1).f2)) := (blk_cell BK130.out 2).trans rfl; have hcz32_3 : w30.cell? ⟨gb130, 3, none⟩ = some (.int .u8 (Go.bits .andNot .u8 ((rd_T31 l0_0 x10_1).f3) 192)) := (blk_cell BK130.out 3).trans rfl; have hcz32_4 : w30.cell? ⟨gb130, 4, none⟩ = some (.int .u8 ((rd_T31 l0_0 x10_1).f4)) := (blk_cell BK130.out 4).trans rfl; have hfz32_0 := blk_frozen BK130.out 0; have hfz32_1 := blk_frozen BK130.out 1; have hfz32_2 := blk_frozen BK130.out 2; have hfz32_3 := blk_frozen BK130.out 3; have hfz32_4 := blk_frozen BK130.out 4) | ((with_reducible refine gate_builtin (b := .append) (xs := #[.tmp 30, .tmp 32]) rfl ?_); at_builtin; refine Kd.N_append k31 (w0 := w) w.heap.size rfl (.tmp 30) (.tmp 32) 25 31 (.agg #[(.slice none 0 0), (.slice none 0 0), (.int .u64 0), (.int .u8 0), (.int .u8 0)]) 64 rfl Tryz.underlying25 info31 rfl (by decide) (by omega) u3 x3_1 (⟨(rd_T31 l0_0 x10_1).f0, (rd_T31 l0_0 x10_1).f1, (rd_T31 l0_0 x10_1).f2, Go.bits .andNot .u8 ((rd_T31 l0_0 x10_1).f3) 192, (rd_T31 l0_0 x10_1).f4⟩ : S31) [.slice A129_0 ((rd_T31 l0_0 x10_1).f0).length c129_0, .slice A129_1 ((rd_T31 l0_0 x10_1).f1).length c129_1, .int .u64 ((rd_T31 l0_0 x10_1).f2), .int .u8 (Go.bits .andNot .u8 ((rd_T31 l0_0 x10_1).f3) 192), .int .u8 ((rd_T31 l0_0 x10_1).f4)] (fun k_ => (P0_0_ k_ ∨ w.heap.size ≤ k_) ∧ k_ ≠ gb125 ∧ k_ ≠ gb130) (fun k_ => ((fun k_ => (P0_0_ k_ ∨ w.heap.size ≤ k_) ∧ k_ ≠ gb125 ∧ k_ ≠ gb130)) k_ ∧ some k_ ≠ (u3 : Value).ownBlock) rfl rfl ?aP (fun _ hk => hk) ?aF ?aO ?aB ?aS ?aL ?_; (case aP => exact (k31_mkF _ _ (⟨(rd_T31 l0_0 x10_1).f0, (rd_T31 l0_0 x10_1).f1, (rd_T31 l0_0 x10_1).f2, Go.bits .andNot .u8 ((rd_T31 l0_0 x10_1).f3) 192, (rd_T31 l0_0 x10_1).f4⟩ : S31) (Kd.V_reads' (Kd.V_mono (ok' := (fun k_ => ((fun k_ => (P0_0_ k_ ∨ w.heap.size ≤ k_) ∧ k_ ≠ gb125 ∧ k_ ≠ gb130)) k_ ∧ some k_ ≠ (u3 : Value).ownBlock)) (HL129_0.out) (fun k_ hk => ⟨⟨hk.1, ⟨hk.2.2.1, hk.2.2.2⟩⟩, hk.2.1⟩))).2.1 (Kd.V_F (Kd.V_mono (ok' := (fun k_ => ((fun k_ => (P0_0_ k_ ∨ w.heap.size ≤ k_) ∧ k_ ≠ gb125 ∧ k_ ≠ gb130)) k_ ∧ some k_ ≠ (u3 : Value).ownBlock)) (HL129_0.out) (fun k_ hk => ⟨⟨hk.1, ⟨hk.2.2.1, hk.2.2.2⟩⟩, hk.2.1⟩))) (Kd.V_reads' (Kd.V_mono (ok' := (fun k_ => ((fun k_ => (P0_0_ k_ ∨ w.heap.size ≤ k_) ∧ k_ ≠ gb125 ∧ k_ ≠ gb130)) k_ ∧ some k_ ≠ (u3 : Value).ownBlock)) (HL129_1.out) (fun k_ hk => ⟨⟨hk.1, ⟨hk.2.2.1, hk.2.2.2⟩⟩, hk.2.1⟩))).2.1 (Kd.V_F (Kd.V_mono (ok' := (fun k_ => ((fun k_ => (P0_0_ k_ ∨ w.heap.size ≤ k_) ∧ k_ ≠ gb125 ∧ k_ ≠ gb130)) k_ ∧ some k_ ≠ (u3 : Value).ownBlock)) (HL129_1.out) (fun k_ hk => ⟨⟨hk.1, ⟨hk.2.2.1, hk.2.2.2⟩⟩, hk.2.1⟩))))); (case aB => exact (by repeat (first | (with_reducible first | exact HB.out | apply below_alloc | apply pw_below_drewN | apply below_drew1 | refine below_set ?_ GE125.out | refine below_set ?_ GE130.out) | exact HB.out))); (case aF => exact (fun k_ hk => ⟨(.inr (Nat.le_trans (below_size (by repeat (first | (with_reducible first | exact HB.out | apply below_alloc | apply pw_below_drewN | apply below_drew1 | refine below_set ?_ GE125.out | refine below_set ?_ GE130.out) | exact HB.out))) hk)), Kd.freshB (g := gb125) (o := .cells #[.slice (some ad129) l0_0.length c0_0, .bool false, .int .u64 a0_2, .bool a0_3] 45 (0, 0)) (by (with_reducible repeat (first | refine blk_drewN ?_ _ | refine blk_drew ?_ | refine blk_alloc ?_ _)); exact BK125.out) k_ hk, Kd.freshB (g := gb130) (o := .cells #[.slice A129_0 ((rd_T31 l0_0 x10_1).f0).length c129_0, .slice A129_1 ((rd_T31 l0_0 x10_1).f1).length c129_1, .int .u64 ((rd_T31 l0_0 x10_1).f2), .int .u8 (Go.bits .andNot .u8 ((rd_T31 l0_0 x10_1).f3) 192), .int .u8 ((rd_T31 l0_0 x10_1).f4)] 31 (0, 0)) (by (with_reducible repeat (first | refine blk_drewN ?_ _ | refine blk_drew ?_ | refine blk_alloc ?_ _)); exact BK130.out) k_ hk⟩)); (case aO => exact (by (with_reducible repeat (first | apply Kd.N_alloc | apply Kd.N_drewN | apply Kd.N_drew)); exact HO_3.out)); (case aS => exact (below_size (by repeat (first | (with_reducible first | exact HB.out | apply below_alloc | apply pw_below_drewN | apply below_drew1 | refine below_set ?_ GE125.out | refine below_set ?_ GE130.out) | exact HB.out)))); (case aL => have := LMc24.out; omega); intro v138 w33 ho hb hg hat; rw [← Ny137.out] at ho; have n0_ := Aside0.mk (Kd.V_afterv (ok := (fun k_ => (P0_0_ k_ ∨ w.heap.size ≤ k_) ∧ k_ ≠ gb125 ∧ k_ ≠ gb130)) (by (with_reducible repeat (first | apply Kd.V_alloc | apply Kd.V_drewN | apply Kd.V_drew)); exact Kd.V_mono HO_8.out (fun _ hk => ⟨⟨hk.1, ⟨hk.2.2.1, hk.2.2.2⟩⟩, hk.2.1⟩)) hg hat); have n1_ := Aside0.mk (Kd.V_afterv (ok := (fun k_ => (P0_0_ k_ ∨ w.heap.size ≤ k_) ∧ k_ ≠ gb125 ∧ k_ ≠ gb130)) (by (with_reducible repeat (first | apply Kd.V_alloc | apply Kd.V_drewN | apply Kd.V_drew)); exact Kd.V_mono HO_126000.out (fun _ hk => ⟨⟨hk.1, ⟨hk.2.2.1, hk.2.2.2⟩⟩, hk.2.1⟩)) hg hat); have n2_ := Aside0.mk (blk_grown (g := gb125) (o := .cells #[.slice (some ad129) l0_0.length c0_0, .bool false, .int .u64 a0_2, .bool a0_3] 45 (0, 0)) (by (with_reducible repeat (first | refine blk_drewN ?_ _ | refine blk_drew ?_ | refine blk_alloc ?_ _)); exact BK125.out) hg (Kd.N_ne HO_3.out BK125.out (by decide))); have n3_ := Aside0.mk (Kd.V_afterv (ok := (fun k_ => (P0_0_ k_ ∨ w.heap.size ≤ k_) ∧ k_ ≠ gb125 ∧ k_ ≠ gb130)) (by (with_reducible repeat (first | apply Kd.V_alloc | apply Kd.V_drewN | apply Kd.V_drew)); exact Kd.V_mono HL129_0.out (fun _ hk => ⟨⟨hk.1, ⟨hk.2.2.1, hk.2.2.2⟩⟩, hk.2.1⟩)) hg hat); have n4_ := Aside0.mk (Kd.V_afterv (ok := (fun k_ => (P0_0_ k_ ∨ w.heap.size ≤ k_) ∧ k_ ≠ gb125 ∧ k_ ≠ gb130)) (by (with_reducible repeat (first | apply Kd.V_alloc | apply Kd.V_drewN | apply Kd.V_drew)); exact Kd.V_mono HL129_1.out (fun _ hk => ⟨⟨hk.1, ⟨hk.2.2.1, hk.2.2.2⟩⟩, hk.2.1⟩)) hg hat); have n5_ := Aside0.mk (blk_grown (g := gb130) (o := .cells #[.slice A129_0 ((rd_T31 l0_0 x10_1).f0).length c129_0, .slice A129_1 ((rd_T31 l0_0 x10_1).f1).length c129_1, .int .u64 ((rd_T31 l0_0 x10_1).f2), .int .u8 (Go.bits .andNot .u8 ((rd_T31 l0_0 x10_1).f3) 192), .int .u8 ((rd_T31 l0_0 x10_1).f4)] 31 (0, 0)) (by (with_reducible repeat (first | refine blk_drewN ?_ _ | refine blk_drew ?_ | refine blk_alloc ?_ _)); exact BK130.out) hg (Kd.N_away HO_3.out (fun _ hk => hk.2.2))); have n6_ := Aside0.mk (hb); have n7_ := Aside0.mk (ho); clear HO_8; clear HO_126000; clear BK125; clear HL129_0; clear HL129_1; clear BK130; clear HB; clear HO_3; have HO_8 := n0_; have HO_126000 := n1_; have BK125 := n2_; have HL129_0 := n3_; have HL129_1 := n4_; have BK130 := n5_; have HB := n6_; have HO139 := n7_; clear n0_ n1_ n2_ n3_ n4_ n5_ n6_ n7_; clear ho hb hg hat))
                go_roundg k1
                case measure => have := HK1.out; omega
                case rel => exact ⟨(y137), (wrap64 (x10_1 + 1)), (by first | rfl | (simp; done) | (simp [*]; done)), H', ⟨by have := HK1.out; omega⟩, ⟨by (with_reducible repeat (first | apply Kd.N_alloc | apply Kd.N_drewN | apply Kd.N_drew)); exact Kd.N_mono HO139.out (fun _ hk => ⟨hk.1, hk.2.1⟩)⟩, ⟨by (with_reducible repeat (first | apply Kd.V_alloc | apply Kd.V_drewN | apply Kd.V_drew)); exact Kd.V_mono HO_8.out (fun _ hk => ⟨hk.1.1, ⟨hk.2, hk.1.2.1⟩⟩)⟩, ⟨by (with_reducible repeat (first | apply Kd.V_alloc | apply Kd.V_drewN | apply Kd.V_drew)); exact Kd.V_mono HO_126000.out (fun _ hk => ⟨hk.1.1, ⟨hk.2, hk.1.2.1⟩⟩)⟩, ⟨by (with_reducible repeat (first | refine blk_drewN ?_ _ | refine blk_drew ?_ | refine blk_alloc ?_ _)); exact BK125.out⟩, ⟨by repeat (first | (with_reducible first | exact HB.out | apply below_alloc | apply pw_below_drewN | apply below_drew1 | refine below_set ?_ GE125.out | refine below_set ?_ GE130.out) | exact HB.out)⟩⟩
              · rw [if_neg c24] at H
                exact absurd H (by simp)
          · rw [if_neg c8] at H
            exact absurd H (by simp)
        · rw [if_neg c7] at H
          exact absurd H (by simp)
      · rw [if_neg c6] at H
        have c6b0 : decide (x10_1 < (l0_0.length : Int)) = false := decide_eq_false c6
        clear c6
        have HC34 := Aside0.mk H
        clear H
        go_upto_region 11 with (fail)
        go_cut [41] (fun v41 wc => ∃ (kq : Nat) (x41_33 : Bool), v41 = .bool x41_33 ∧ Aside0 (spec_Unit_written.j1 kq x3_1 x41_33 l0_0 a0_1 a0_2 a0_3 = some r) ∧ Aside0 (kq ≤ k1) ∧ Aside0 (Kd.N k31 31 wc w.heap.size (fun k_ => (P0_0_ k_ ∨ w.heap.size ≤ k_) ∧ k_ ≠ gb125) u3 x3_1) ∧ Aside0 (Kd.V k31 31 wc w.heap.size (fun k_ => (P0_0_ k_ ∨ w.heap.size ≤ k_) ∧ some k_ ≠ (u3 : Value).ownBlock ∧ k_ ≠ gb125) (.slice A0_0 l0_0.length c0_0) l0_0) ∧ Aside0 (wc.heap[gb125]? = some (.cells #[(.slice A0_0 l0_0.length c0_0), .bool a0_1, .int .u64 a0_2, .bool a0_3] 45 (0, 0))) ∧ Aside0 (Below w.heap.size w wc))
        case first =>
          have H := HC34.out
          clear HC34
          by_cases c35 : a0_1 = true
          · subst c35
            have H1 : (spec_Unit_written.j1 k1 x3_1 (!a0_3) l0_0 true a0_2 a0_3) = some r := by rw [if_pos rfl] at H; exact H
            clear H
            have H := H1
            clear H1
            have H' := Aside0.mk H
            clear H
            have hcz36_0 : wr.cell? ⟨gb125, 0, none⟩ = some (.slice A0_0 l0_0.length c0_0) := (blk_cell BK125.out 0).trans rfl
            have hcz36_1 : wr.cell? ⟨gb125, 1, none⟩ = some (.bool true) := (blk_cell BK125.out 1).trans rfl
            have hcz36_2 : wr.cell? ⟨gb125, 2, none⟩ = some (.int .u64 a0_2) := (blk_cell BK125.out 2).trans rfl
            have hcz36_3 : wr.cell? ⟨gb125, 3, none⟩ = some (.bool a0_3) := (blk_cell BK125.out 3).trans rfl
            have hfz36_0 := blk_frozen BK125.out 0
            have hfz36_1 := blk_frozen BK125.out 1
            have hfz36_2 := blk_frozen BK125.out 2
            have hfz36_3 := blk_frozen BK125.out 3
            go_wp2
            go_meet
            case rel => exact ⟨_, (!a0_3), (by first | rfl | (simp; done) | (simp [*]; done)), H', ⟨by have := HK1.out; first | omega | exact Nat.le_refl _⟩, ⟨by (with_reducible repeat (first | apply Kd.N_alloc | apply Kd.N_drewN | apply Kd.N_drew)); exact HO_3.out⟩, ⟨by (with_reducible repeat (first | apply Kd.V_alloc | apply Kd.V_drewN | apply Kd.V_drew)); exact HO_126000.out⟩, ⟨by (with_reducible repeat (first | refine blk_drewN ?_ _ | refine blk_drew ?_ | refine blk_alloc ?_ _)); exact BK125.out⟩, ⟨by repeat (first | (with_reducible first | exact HB.out | apply below_alloc | apply pw_below_drewN | apply below_drew1 | refine below_set ?_ GE125.out) | exact HB.out)⟩⟩
          · replace c35 := Bool.eq_false_iff.mpr c35
            subst c35
            have H1 : (spec_Unit_written.j1 k1 x3_1 false l0_0 false a0_2 a0_3) = some r := by rw [if_neg (show ¬ (false = true) by decide)] at H; exact H
            clear H
            have H := H1
            clear H1
            have H' := Aside0.mk H
            clear H
            have hcz37_0 : wr.cell? ⟨gb125, 0, none⟩ = some (.slice A0_0 l0_0.length c0_0) := (blk_cell BK125.out 0).trans rfl
            have hcz37_1 : wr.cell? ⟨gb125, 1, none⟩ = some (.bool false) := (blk_cell BK125.out 1).trans rfl
            have hcz37_2 : wr.cell? ⟨gb125, 2, none⟩ = some (.int .u64 a0_2) := (blk_cell BK125.out 2).trans rfl
            have hcz37_3 : wr.cell? ⟨gb125, 3, none⟩ = some (.bool a0_3) := (blk_cell BK125.out 3).trans rfl
            have hfz37_0 := blk_frozen BK125.out 0
            have hfz37_1 := blk_frozen BK125.out 1
            have hfz37_2 := blk_frozen BK125.out 2
            have hfz37_3 := blk_frozen BK125.out 3
            go_wp2
            go_meet
            case rel => exact ⟨_, (false), (by first | rfl | (simp; done) | (simp [*]; done)), H', ⟨by have := HK1.out; first | omega | exact Nat.le_refl _⟩, ⟨by (with_reducible repeat (first | apply Kd.N_alloc | apply Kd.N_drewN | apply Kd.N_drew)); exact HO_3.out⟩, ⟨by (with_reducible repeat (first | apply Kd.V_alloc | apply Kd.V_drewN | apply Kd.V_drew)); exact HO_126000.out⟩, ⟨by (with_reducible repeat (first | refine blk_drewN ?_ _ | refine blk_drew ?_ | refine blk_alloc ?_ _)); exact BK125.out⟩, ⟨by repeat (first | (with_reducible first | exact HB.out | apply below_alloc | apply pw_below_drewN | apply below_drew1 | refine below_set ?_ GE125.out) | exact HB.out)⟩⟩
        case rest =>
          clear HC34
          try clear c1
          try clear p1
          try clear q1
          try clear hx1
          try clear c2
          try clear p2
          try clear c3
          try clear c6
          try clear c6b0
          try clear p6
          try clear c7
          try clear c7b0
          try clear c8
          try clear c8b0
          try clear c9
          try clear c11
          try clear c12
          try clear p12
          try clear q12
          try clear hx12
          try clear c13
          try clear c17
          try clear c24
          try clear c26
          try clear c29
          try clear c35
          try clear hcz14_0
          try clear hcz14_1
          try clear hcz14_2
          try clear hcz14_3
          try clear hcz14_4
          try clear hcz15_0
          try clear hcz15_1
          try clear hcz15_2
          try clear hcz15_3
          try clear hcz18_0
          try clear hcz18_1
          try clear hcz18_2
          try clear hcz18_3
          try clear hcz18_4
          try clear hcz20_0
          try clear hcz20_1
          try clear hcz20_2
          try clear hcz20_3
          try clear hcz20_4
          try clear hcz22_0
          try clear hcz22_1
          try clear hcz22_2
          try clear hcz22_3
          try clear hcz22_4
          try clear hcz27_0
          try clear hcz27_1
          try clear hcz27_2
          try clear hcz27_3
          try clear hcz27_4
          try clear hcz29_0
          try clear hcz29_1
          try clear hcz29_2
          try clear hcz29_3
          try clear hcz29_4
          try clear hcz31_0
          try clear hcz31_1
          try clear hcz31_2
          try clear hcz31_3
          try clear hcz32_0
          try clear hcz32_1
          try clear hcz32_2
          try clear hcz32_3
          try clear hcz32_4
          try clear hcz36_0
          try clear hcz36_1
          try clear hcz36_2
          try clear hcz36_3
          try clear hcz37_0
          try clear hcz37_1
          try clear hcz37_2
          try clear hcz37_3
          try clear hcz5_0
          try clear hcz5_1
          try clear hcz5_2
          try clear hcz5_3
          try clear hfz14_0
          try clear hfz14_1
          try clear hfz14_2
          try clear hfz14_3
          try clear hfz14_4
          try clear hfz15_0
          try clear hfz15_1
          try clear hfz15_2
          try clear hfz15_3
          try clear hfz18_0
          try clear hfz18_1
          try clear hfz18_2
          try clear hfz18_3
          try clear hfz18_4
          try clear hfz20_0
          try clear hfz20_1
          try clear hfz20_2
          try clear hfz20_3
          try clear hfz20_4
          try clear hfz22_0
          try clear hfz22_1
          try clear hfz22_2
          try clear hfz22_3
          try clear hfz22_4
          try clear hfz27_0
          try clear hfz27_1
          try clear hfz27_2
          try clear hfz27_3
          try clear hfz27_4
          try clear hfz29_0
          try clear hfz29_1
          try clear hfz29_2
          try clear hfz29_3
          try clear hfz29_4
          try clear hfz31_0
          try clear hfz31_1
          try clear hfz31_2
          try clear hfz31_3
          try clear hfz32_0
          try clear hfz32_1
          try clear hfz32_2
          try clear hfz32_3
          try clear hfz32_4
          try clear hfz36_0
          try clear hfz36_1
          try clear hfz36_2
          try clear hfz36_3
          try clear hfz37_0
          try clear hfz37_1
          try clear hfz37_2
          try clear hfz37_3
          try clear hfz5_0
          try clear hfz5_1
          try clear hfz5_2
          try clear hfz5_3
          try clear hx129_0
          try clear hx129_1
          try clear hx129_2
          try clear hx129_3
          try clear hx129_4
          try clear p129
          try clear p2
          try clear q129
          obtain ⟨kq, x41_33, rfl, HA, HJ33, HO_3, HO_126000, BK125, HB⟩ := hcut
          cases kq with
          | zero => exact absurd HA.out (by simp [spec_Unit_written.j1])
          | succ kj33 =>
            have H := HA.out
            clear HA
            simp only [spec_Unit_written.j1] at H
            by_cases c38 : x41_33 = true
            · subst c38
              have H1 : ((spec_KeyBytes.f (([33, 98, 97, 100, 103, 101, 114, 33, 116, 120, 110] : List Int)) a0_2).bind fun t143 => ((spec_decimal.f kj33 a0_2).bind fun t146 => (if x3_1.length < 2199023255552 then (some (x3_1 ++ [(⟨t143, t146, 0, 128, 0⟩ : S31)])) else (none)))) = some r := by rw [if_pos rfl] at H; exact H
              clear H
              have H := H1
              clear H1
              obtain ⟨y140, hy140⟩ : ∃ y_ : List Int, y_ = (([33, 98, 97, 100, 103, 101, 114, 33, 116, 120, 110] : List Int)) := ⟨_, rfl⟩
              replace H : ((spec_KeyBytes.f y140 a0_2).bind fun t143 => ((spec_decimal.f kj33 a0_2).bind fun t146 => (if x3_1.length < 2199023255552 then (some (x3_1 ++ [(⟨t143, t146, 0, 128, 0⟩ : S31)])) else (none)))) = some r := by first | (rw [hy140]; with_reducible exact H) | (have H2_ := (Option.bind_some _ _).symm.trans H; rw [hy140]; with_reducible exact H2_) | (have H2_ := (Option.bind_some _ _).symm.trans H; with_reducible exact H2_) | with_reducible exact H | (rw [hy140]; exact H) | exact H
              have Ny140 := Aside0.mk hy140
              clear hy140
              replace H := Option.bind_eq_some_iff.mp H
              obtain ⟨t143, A390, H⟩ := H
              replace H : ((spec_decimal.f kj33 a0_2).bind fun t146 => (if x3_1.length < 2199023255552 then (some (x3_1 ++ [(⟨t143, t146, 0, 128, 0⟩ : S31)])) else (none))) = some r := H
              have A39 := Aside0.mk A390
              clear A390
              replace H := Option.bind_eq_some_iff.mp H
              obtain ⟨t146, A400, H⟩ := H
              replace H : (if x3_1.length < 2199023255552 then (some (x3_1 ++ [(⟨t143, t146, 0, 128, 0⟩ : S31)])) else (none)) = some r := H
              have A40 := Aside0.mk A400
              clear A400
              by_cases c41 : x3_1.length < 2199023255552
              · rw [if_pos c41] at H
                have LMc41 := Aside0.mk c41
                clear c41
                obtain ⟨y149, hy149⟩ : ∃ y_ : List (S31), y_ = (x3_1 ++ [(⟨t143, t146, 0, 128, 0⟩ : S31)]) := ⟨_, rfl⟩
                replace H : (some y149) = some r := by first | (rw [hy149]; with_reducible exact H) | (have H2_ := (Option.bind_some _ _).symm.trans H; rw [hy149]; with_reducible exact H2_) | (have H2_ := (Option.bind_some _ _).symm.trans H; with_reducible exact H2_) | with_reducible exact H | (rw [hy149]; exact H) | exact H
                have Ny149 := Aside0.mk hy149
                clear hy149
                obtain rfl := Option.some.inj H
                try go_wp2
                have n0_ := Aside0.mk (Kd.N_drew HO_3.out)
                have n1_ := Aside0.mk (Kd.V_drew HO_126000.out)
                have n2_ := Aside0.mk (blk_drew BK125.out)
                have n3_ := Aside0.mk (below_drew1 HB.out)
                clear HO_3
                clear HO_126000
                clear BK125
                clear HB
                have HO_3 := n0_
                have HO_126000 := n1_
                have BK125 := n2_
                have HB := n3_
                clear n0_ n1_ n2_ n3_
                refine start_ (n := 13) (S := fun w' => w'.cell? ⟨gb125, 0, none⟩ = some (.slice A0_0 l0_0.length c0_0) ∧ w'.cell? ⟨gb125, 1, none⟩ = some (.bool a0_1) ∧ w'.cell? ⟨gb125, 2, none⟩ = some (.int .u64 a0_2) ∧ w'.cell? ⟨gb125, 3, none⟩ = some (.bool a0_3)) (ds := []) #[false, false, false, false, false, false, false, false, false, false, false, false, false] (by kernel_rfl) rfl rfl ⟨(blk_cell BK125.out 0).trans rfl, (blk_cell BK125.out 1).trans rfl, (blk_cell BK125.out 2).trans rfl, (blk_cell BK125.out 3).trans rfl⟩ (fun hHeld => ?_); refine with_tabW spec_Unit_written.tab12 spec_Unit_written.bits12 (fun HT_ HW_ => ?_)
                generalize wc.drew = w42 at HO_3 HO_126000 BK125 HB hHeld ⊢
                refine pure_ (i := 0) (N := some 42) (v := ?_) (a' := ?_) #[true, false, false, false, false, false, false, false, false, false, false, false, false] rfl rfl (any_of HT_.out (by kernel_rfl)) (fun _ _ _ h => h) (Or.inl ⟨by rfl, ?_⟩) ?_ ?_
                rotate_left
                · intro w'
                  go_simp
                  with_reducible rfl
                rotate_left
                · simp only [Act.put, List.setIfInBounds_toArray, List.set_cons_zero, List.set_cons_succ, i64_w, i32_w]
                  rfl
                refine pure_ (i := 3) (N := some 45) (v := ?_) (a' := ?_) #[true, false, false, true, false, false, false, false, false, false, false, false, false] rfl rfl (any_of HT_.out (by kernel_rfl)) (fun _ _ _ h => h) (Or.inl ⟨by rfl, ?_⟩) ?_ ?_
                rotate_left
                · intro w'
                  go_simp
                  with_reducible rfl
                rotate_left
                · simp only [Act.put, List.setIfInBounds_toArray, List.set_cons_zero, List.set_cons_succ, i64_w, i32_w]
                  rfl
                refine pure_ (i := 6) (N := some 48) (v := ?_) (a' := ?_) #[true, false, false, true, false, false, true, false, false, false, false, false, false] rfl rfl (any_of HT_.out (by kernel_rfl)) (fun _ _ _ h => h) (Or.inl ⟨by rfl, ?_⟩) ?_ ?_
                rotate_left
                · intro w'
                  go_simp
                  with_reducible rfl
                rotate_left
                · simp only [Act.put, List.setIfInBounds_toArray, List.set_cons_zero, List.set_cons_succ, i64_w, i32_w]
                  rfl
                refine take_ (i := 4) (N := some 46) (v := ?_) (a' := ?_) #[true, false, false, true, true, false, true, false, false, false, false, false, false] rfl rfl (take_ofW HT_.out HW_.out (by kernel_rfl)) (fun _ _ _ h => h) (Or.inl ⟨by rfl, ?_⟩) hHeld ?_ ?_
                rotate_left
                · rintro w' ⟨s0, s1, s2, s3⟩
                  go_simp
                  with_reducible rfl
                rotate_left
                · simp only [Act.put, List.setIfInBounds_toArray, List.set_cons_zero, List.set_cons_succ, i64_w, i32_w]
                  rfl
                refine take_ (i := 7) (N := some 49) (v := ?_) (a' := ?_) #[true, false, false, true, true, false, true, true, false, false, false, false, false] rfl rfl (take_ofW HT_.out HW_.out (by kernel_rfl)) (fun _ _ _ h => h) (Or.inl ⟨by rfl, ?_⟩) hHeld ?_ ?_
                rotate_left
                · rintro w' ⟨s0, s1, s2, s3⟩
                  go_simp
                  with_reducible rfl
                rotate_left
                · simp only [Act.put, List.setIfInBounds_toArray, List.set_cons_zero, List.set_cons_succ, i64_w, i32_w]
                  rfl
                refine one_ (i := 1) (N := some 43) #[true, true, false, true, true, false, true, true, false, false, false, false, false] rfl rfl (one_of HT_.out (by kernel_rfl)) (by decide) (fun K hK => ?_)
                refine Kd.R_lit_step (Kd.int .u8) _ 5 ?hg (N := 43) ?hd (xs := ([33, 98, 97, 100, 103, 101, 114, 33, 116, 120, 110] : List Int)) (inner := [.int .u8 33, .int .u8 98, .int .u8 97, .int .u8 100, .int .u8 103, .int .u8 101, .int .u8 114, .int .u8 33, .int .u8 116, .int .u8 120, .int .u8 110]) (ok := fun _ => True) (okp := fun _ => True) ?hr ?hp (fun _ hk => hk) trivial (Below.refl _ _) (Nat.le_refl _) (by simp) ?_; (case hd => rfl); (case hg => rfl); (case hr => first | (go_simp; done) | (go_simp; rfl)); (case hp => exact (Reps.one (show Kd.M (Kd.int .u8) _ _ _ 33 [.int .u8 33] from rfl) (Reps.one (show Kd.M (Kd.int .u8) _ _ _ 98 [.int .u8 98] from rfl) (Reps.one (show Kd.M (Kd.int .u8) _ _ _ 97 [.int .u8 97] from rfl) (Reps.one (show Kd.M (Kd.int .u8) _ _ _ 100 [.int .u8 100] from rfl) (Reps.one (show Kd.M (Kd.int .u8) _ _ _ 103 [.int .u8 103] from rfl) (Reps.one (show Kd.M (Kd.int .u8) _ _ _ 101 [.int .u8 101] from rfl) (Reps.one (show Kd.M (Kd.int .u8) _ _ _ 114 [.int .u8 114] from rfl) (Reps.one (show Kd.M (Kd.int .u8) _ _ _ 33 [.int .u8 33] from rfl) (Reps.one (show Kd.M (Kd.int .u8) _ _ _ 116 [.int .u8 116] from rfl) (Reps.one (show Kd.M (Kd.int .u8) _ _ _ 120 [.int .u8 120] from rfl) (Reps.one (show Kd.M (Kd.int .u8) _ _ _ 110 [.int .u8 110] from rfl) (Reps.none _ _)))))))))))))
                intro v141 w43 ho44 hb hg_ hnew_
                clear hg_ hnew_
                (first | rw [← Ny140.out] at ho44 | (simp only [Int.reduceToNat] at ho44; rw [← Ny140.out] at ho44))
                obtain ⟨Ao45, co45, eo_⟩ := Kd.R_slice ho44
                (first | subst eo_ | (injection eo_ with f1_ f2_ f3_; have f4_ := f1_.symm; have f5_ := f3_.symm; clear f1_ f2_ f3_; subst f4_; subst f5_))
                have BK125_t := Aside0.mk (blk_below (g := gb125) (o := .cells #[.slice A0_0 l0_0.length c0_0, .bool a0_1, .int .u64 a0_2, .bool a0_3] 45 (0, 0)) (by (with_reducible repeat (first | refine blk_drewN ?_ _ | refine blk_drew ?_ | refine blk_alloc ?_ _)); exact BK125.out) hb)
                refine hK.out _ _ ⟨(blk_cell BK125_t.out 0).trans rfl, (blk_cell BK125_t.out 1).trans rfl, (blk_cell BK125_t.out 2).trans rfl, (blk_cell BK125_t.out 3).trans rfl⟩ (fun hHeld => ?_)
                clear hK K
                refine norm_ (a' := ?_) ?_ ?_
                rotate_left
                · show Act.put _ (some 43) _ = _
                  simp only [Act.put, List.setIfInBounds_toArray, List.set_cons_zero, List.set_cons_succ, i64_w, i32_w]
                  rfl
                obtain ⟨w_mk, hrun_mk, hb_mk, hc_mk, hC_mk, hlt_mk⟩ := mark_bytes ho44 hb (by rw [Ny140.out]; decide)
                refine one_ (i := 2) (N := some 44) #[true, true, true, true, true, false, true, true, false, false, false, false, false] rfl rfl (one_of HT_.out (by kernel_rfl)) (by decide) (fun K hK => ?_)
                refine value_ (w1 := w_mk) (v := .slice Ao45 y140.length co45) (by rfl) rfl ?_ ?_
                · go_simp
                  all_goals rw [hrun_mk]
                  all_goals rfl
                clear BK125_t
                have n0_ := Aside0.mk (Kd.N_elder' (by (with_reducible repeat (first | apply Kd.N_alloc | apply Kd.N_drewN | apply Kd.N_drew)); exact HO_3.out) (Kd.R_base ho44) hb_mk)
                have n1_ := Aside0.mk (Kd.V_elder' (by (with_reducible repeat (first | apply Kd.V_alloc | apply Kd.V_drewN | apply Kd.V_drew)); exact HO_126000.out) (Kd.R_base ho44) hb_mk)
                have n2_ := Aside0.mk hlt_mk
                have n3_ := Aside0.mk (blk_below (g := gb125) (o := .cells #[.slice A0_0 l0_0.length c0_0, .bool a0_1, .int .u64 a0_2, .bool a0_3] 45 (0, 0)) (by (with_reducible repeat (first | refine blk_drewN ?_ _ | refine blk_drew ?_ | refine blk_alloc ?_ _)); exact BK125.out) hb_mk)
                have n4_ := Aside0.mk (below_step (by repeat (first | (with_reducible first | exact HB.out | apply below_alloc | apply pw_below_drewN | apply below_drew1 | refine below_set ?_ GE125.out) | exact HB.out)) hb_mk)
                clear HO_3
                clear HO_126000
                clear BK125
                clear HB
                have HO_3 := n0_
                have HO_126000 := n1_
                have HO142 := n2_
                have BK125 := n3_
                have HB := n4_
                clear n0_ n1_ n2_ n3_ n4_
                clear hb ho44 hb_mk hlt_mk
                have HC_mk := Aside0.mk hC_mk
                clear hC_mk
                refine hK.out _ _ ⟨(blk_cell BK125.out 0).trans rfl, (blk_cell BK125.out 1).trans rfl, (blk_cell BK125.out 2).trans rfl, (blk_cell BK125.out 3).trans rfl⟩ (fun hHeld => ?_)
                clear hK K
                refine norm_ (a' := ?_) ?_ ?_
                rotate_left
                · show Act.put _ (some 44) _ = _
                  simp only [Act.put, List.setIfInBounds_toArray, List.set_cons_zero, List.set_cons_succ, i64_w, i32_w]
                  rfl
                refine one_ (i := 5) (N := some 47) #[true, true, true, true, true, true, true, true, false, false, false, false, false] rfl rfl (one_of HT_.out (by kernel_rfl)) (by decide) (fun K hK => ?_)
                refine goes_ Tryz.func29 (by kernel_rfl) rfl #[.slice Ao45 y140.length co45, .int .u64 a0_2] (by rfl) rfl rfl (by (try simp only [List.map_toArray, List.map_cons, List.map_nil]); first | done | rfl | (simp only [List.length_drop, List.length_take]; rfl)) ?_
                with_reducible refine (spec_KeyBytes.calls _ _ y140 a0_2 t143 _ ?side1 ?side2 A39.out).mono ?_
                (case side1 => repeat (first | exact HC_mk.out | (with_reducible refine Kd.C_alloc ?_ _) | (with_reducible refine Kd.C_drewN ?_ _) | (with_reducible refine Kd.C_drew ?_)))
                (case side2 => exact hc_mk)
                rintro e w46 ⟨v144, rfl, ho0, hb⟩
                refine ⟨_, rfl, ?_⟩
                have n0_ := Aside0.mk (Kd.N_elder' (by (with_reducible repeat (first | apply Kd.N_alloc | apply Kd.N_drewN | apply Kd.N_drew)); exact HO_3.out) (Kd.R_base ho0) hb)
                have n1_ := Aside0.mk (Kd.V_elder' (by (with_reducible repeat (first | apply Kd.V_alloc | apply Kd.V_drewN | apply Kd.V_drew)); exact HO_126000.out) (Kd.R_base ho0) hb)
                have n2_ := Aside0.mk (fun k_ (hk_ : Value.ownBlock (.slice Ao45 _ co45) = some k_) => Nat.lt_of_lt_of_le (HO142.out k_ hk_) hb.size)
                have n3_ := Aside0.mk (Kd.R_lower (Kd.R_new' (Kd.R_newM (M := fun k_ => (w.heap.size ≤ k_)) ho0 (below_size (by repeat (first | (with_reducible first | exact HB.out | apply below_alloc | apply pw_below_drewN | apply below_drew1 | refine below_set ?_ GE125.out) | exact HB.out))) (fun k_ h_ => h_)) (HO142.out)) (below_size (by repeat (first | (with_reducible first | exact HB.out | apply below_alloc | apply pw_below_drewN | apply below_drew1 | refine below_set ?_ GE125.out) | exact HB.out))))
                have n4_ := Aside0.mk (blk_below (g := gb125) (o := .cells #[.slice A0_0 l0_0.length c0_0, .bool a0_1, .int .u64 a0_2, .bool a0_3] 45 (0, 0)) (by (with_reducible repeat (first | refine blk_drewN ?_ _ | refine blk_drew ?_ | refine blk_alloc ?_ _)); exact BK125.out) hb)
                have n5_ := Aside0.mk (below_step (by repeat (first | (with_reducible first | exact HB.out | apply below_alloc | apply pw_below_drewN | apply below_drew1 | refine below_set ?_ GE125.out) | exact HB.out)) hb)
                clear HO_3
                clear HO_126000
                clear HO142
                clear BK125
                clear HB
                have HO_3 := n0_
                have HO_126000 := n1_
                have HO142 := n2_
                have HO145 := n3_
                have BK125 := n4_
                have HB := n5_
                clear n0_ n1_ n2_ n3_ n4_ n5_
                (try clear hb)
                (try clear hb2)
                (try clear hk)
                (try clear hi)
                (try clear ho0)
                refine hK.out _ _ ⟨(blk_cell BK125.out 0).trans rfl, (blk_cell BK125.out 1).trans rfl, (blk_cell BK125.out 2).trans rfl, (blk_cell BK125.out 3).trans rfl⟩ (fun hHeld => ?_)
                clear hK K
                refine norm_ (a' := ?_) ?_ ?_
                rotate_left
                · show Act.put _ (some 47) _ = _
                  simp only [Act.put, List.setIfInBounds_toArray, List.set_cons_zero, List.set_cons_succ, i64_w, i32_w]
                  rfl
                refine one_ (i := 8) (N := some 50) #[true, true, true, true, true, true, true, true, true, false, false, false, false] rfl rfl (one_of HT_.out (by kernel_rfl)) (by decide) (fun K hK => ?_)
                refine goes_ Tryz.func30 (by kernel_rfl) rfl #[.int .u64 a0_2] (by rfl) rfl rfl (by (try simp only [List.map_toArray, List.map_cons, List.map_nil]); first | done | rfl | (simp only [List.length_drop, List.length_take]; rfl)) ?_
                with_reducible refine (spec_decimal.calls kj33 a0_2 t146 _ A40.out).mono ?_
                rintro e w47 ⟨v147, rfl, ho0, hb⟩
                refine ⟨_, rfl, ?_⟩
                have n0_ := Aside0.mk (Kd.N_elder' (by (with_reducible repeat (first | apply Kd.N_alloc | apply Kd.N_drewN | apply Kd.N_drew)); exact HO_3.out) (Kd.R_base ho0) hb)
                have n1_ := Aside0.mk (Kd.V_elder' (by (with_reducible repeat (first | apply Kd.V_alloc | apply Kd.V_drewN | apply Kd.V_drew)); exact HO_126000.out) (Kd.R_base ho0) hb)
                have n2_ := Aside0.mk (fun k_ (hk_ : Value.ownBlock (.slice Ao45 _ co45) = some k_) => Nat.lt_of_lt_of_le (HO142.out k_ hk_) hb.size)
                have n3_ := Aside0.mk (Kd.R_elder' (by (with_reducible repeat (first | apply Kd.R_alloc | apply Kd.R_drewN | apply Kd.R_drew)); exact HO145.out) (Kd.R_base ho0) hb)
                have n4_ := Aside0.mk (Kd.R_lower (Kd.R_new' (Kd.R_new' (Kd.R_newM (M := fun k_ => (w.heap.size ≤ k_)) ho0 (below_size (by repeat (first | (with_reducible first | exact HB.out | apply below_alloc | apply pw_below_drewN | apply below_drew1 | refine below_set ?_ GE125.out) | exact HB.out))) (fun k_ h_ => h_)) (HO142.out)) (Kd.R_lt (by (with_reducible repeat (first | apply Kd.R_alloc | apply Kd.R_drewN | apply Kd.R_drew)); exact HO145.out))) (below_size (by repeat (first | (with_reducible first | exact HB.out | apply below_alloc | apply pw_below_drewN | apply below_drew1 | refine below_set ?_ GE125.out) | exact HB.out))))
                have n5_ := Aside0.mk (blk_below (g := gb125) (o := .cells #[.slice A0_0 l0_0.length c0_0, .bool a0_1, .int .u64 a0_2, .bool a0_3] 45 (0, 0)) (by (with_reducible repeat (first | refine blk_drewN ?_ _ | refine blk_drew ?_ | refine blk_alloc ?_ _)); exact BK125.out) hb)
                have n6_ := Aside0.mk (below_step (by repeat (first | (with_reducible first | exact HB.out | apply below_alloc | apply pw_below_drewN | apply below_drew1 | refine below_set ?_ GE125.out) | exact HB.out)) hb)
                clear HO_3
                clear HO_126000
                clear HO142
                clear HO145
                clear BK125
                clear HB
                have HO_3 := n0_
                have HO_126000 := n1_
                have HO142 := n2_
                have HO145 := n3_
                have HO148 := n4_
                have BK125 := n5_
                have HB := n6_
                clear n0_ n1_ n2_ n3_ n4_ n5_ n6_
                (try clear hb)
                (try clear hb2)
                (try clear hk)
                (try clear hi)
                (try clear ho0)
                obtain ⟨Ao48, co48, eo48⟩ := Kd.R_slice HO148.out
                (first | subst eo48 | (injection eo48 with f1_ f2_ f3_; have f4_ := f1_.symm; have f5_ := f3_.symm; clear f1_ f2_ f3_; subst f4_; subst f5_))
                obtain ⟨Ao49, co49, eo49⟩ := Kd.R_slice HO145.out
                (first | subst eo49 | (injection eo49 with f1_ f2_ f3_; have f4_ := f1_.symm; have f5_ := f3_.symm; clear f1_ f2_ f3_; subst f4_; subst f5_))
                refine hK.out _ _ ⟨(blk_cell BK125.out 0).trans rfl, (blk_cell BK125.out 1).trans rfl, (blk_cell BK125.out 2).trans rfl, (blk_cell BK125.out 3).trans rfl⟩ (fun hHeld => ?_)
                clear hK K
                refine norm_ (a' := ?_) ?_ ?_
                rotate_left
                · show Act.put _ (some 50) _ = _
                  simp only [Act.put, List.setIfInBounds_toArray, List.set_cons_zero, List.set_cons_succ, i64_w, i32_w]
                  rfl
                refine pure_ (i := 9) (N := some 51) (v := ?_) (a' := ?_) #[true, true, true, true, true, true, true, true, true, true, false, false, false] rfl rfl (any_of HT_.out (by kernel_rfl)) (fun _ _ _ h => h) (Or.inl ⟨by rfl, ?_⟩) ?_ ?_
                rotate_left
                · intro w'
                  go_simp
                  with_reducible rfl
                rotate_left
                · simp only [Act.put, List.setIfInBounds_toArray, List.set_cons_zero, List.set_cons_succ, i64_w, i32_w]
                  rfl
                refine one_ (i := 10) (N := some 52) #[true, true, true, true, true, true, true, true, true, true, true, false, false] rfl rfl (one_of HT_.out (by kernel_rfl)) (by decide) (fun K hK => ?_)
                refine value_ (w1 := ?_) (v := ?_) (by rfl) rfl ?_ ?_
                rotate_left 2
                · go_simp
                  constructor
                  · rfl
                  · rfl
                refine hK.out _ _ ⟨(blk_cell (blk_alloc BK125.out _) 0).trans rfl, (blk_cell (blk_alloc BK125.out _) 1).trans rfl, (blk_cell (blk_alloc BK125.out _) 2).trans rfl, (blk_cell (blk_alloc BK125.out _) 3).trans rfl⟩ (fun hHeld => ?_)
                clear hK K
                refine norm_ (a' := ?_) ?_ ?_
                rotate_left
                · show Act.put _ (some 52) _ = _
                  simp only [Act.put, List.setIfInBounds_toArray, List.set_cons_zero, List.set_cons_succ, i64_w, i32_w]
                  rfl
                refine one_ (i := 11) (N := some 53) #[true, true, true, true, true, true, true, true, true, true, true, true, false] rfl rfl (one_of HT_.out (by kernel_rfl)) (by decide) (fun K hK => ?_)
                refine Kd.N_append_step k31 (w0 := w) w.heap.size (by rfl) (.tmp 42) (.tmp 52) 25 31 (.agg #[(.slice none 0 0), (.slice none 0 0), (.int .u64 0), (.int .u8 0), (.int .u8 0)]) 64 rfl Tryz.underlying25 info31 rfl (by decide) (by omega) u3 x3_1 (⟨t143, t146, 0, 128, 0⟩ : S31) [.slice Ao49 t143.length co49, .slice Ao48 t146.length co48, .int .u64 0, .int .u8 128, .int .u8 0] (fun k_ => (P0_0_ k_ ∨ w.heap.size ≤ k_) ∧ some k_ ≠ (.slice Ao45 y140.length co45 : Value).ownBlock ∧ k_ ≠ gb125) (fun k_ => ((fun k_ => (P0_0_ k_ ∨ w.heap.size ≤ k_) ∧ some k_ ≠ (.slice Ao45 y140.length co45 : Value).ownBlock ∧ k_ ≠ gb125)) k_ ∧ some k_ ≠ (u3 : Value).ownBlock) rfl rfl ?aP (fun _ hk => hk) ?aF ?aO ?aB ?aS ?aL ?_
                (case aP => exact (k31_mkF _ _ (⟨t143, t146, 0, 128, 0⟩ : S31) (Kd.R_reads' (Kd.R_mono (ok' := (fun k_ => ((fun k_ => (P0_0_ k_ ∨ w.heap.size ≤ k_) ∧ some k_ ≠ (.slice Ao45 y140.length co45 : Value).ownBlock ∧ k_ ≠ gb125)) k_ ∧ some k_ ≠ (u3 : Value).ownBlock)) (Kd.R_types (Kd.R_apart' (HO145.out) (Kd.N_typed HO_3.out) (by decide)) BK125.out (by decide)) (fun k_ hk => ⟨⟨(.inr (hk.1.1.1.1.1)), ⟨hk.1.1.1.2, hk.2⟩⟩, hk.1.2⟩))).2.1 (Kd.R_F (Kd.R_mono (ok' := (fun k_ => ((fun k_ => (P0_0_ k_ ∨ w.heap.size ≤ k_) ∧ some k_ ≠ (.slice Ao45 y140.length co45 : Value).ownBlock ∧ k_ ≠ gb125)) k_ ∧ some k_ ≠ (u3 : Value).ownBlock)) (Kd.R_types (Kd.R_apart' (HO145.out) (Kd.N_typed HO_3.out) (by decide)) BK125.out (by decide)) (fun k_ hk => ⟨⟨(.inr (hk.1.1.1.1.1)), ⟨hk.1.1.1.2, hk.2⟩⟩, hk.1.2⟩))) (Kd.R_reads' (Kd.R_mono (ok' := (fun k_ => ((fun k_ => (P0_0_ k_ ∨ w.heap.size ≤ k_) ∧ some k_ ≠ (.slice Ao45 y140.length co45 : Value).ownBlock ∧ k_ ≠ gb125)) k_ ∧ some k_ ≠ (u3 : Value).ownBlock)) (Kd.R_types (Kd.R_apart' (HO148.out) (Kd.N_typed HO_3.out) (by decide)) BK125.out (by decide)) (fun k_ hk => ⟨⟨(.inr (hk.1.1.1.1.1)), ⟨hk.1.1.1.2, hk.2⟩⟩, hk.1.2⟩))).2.1 (Kd.R_F (Kd.R_mono (ok' := (fun k_ => ((fun k_ => (P0_0_ k_ ∨ w.heap.size ≤ k_) ∧ some k_ ≠ (.slice Ao45 y140.length co45 : Value).ownBlock ∧ k_ ≠ gb125)) k_ ∧ some k_ ≠ (u3 : Value).ownBlock)) (Kd.R_types (Kd.R_apart' (HO148.out) (Kd.N_typed HO_3.out) (by decide)) BK125.out (by decide)) (fun k_ hk => ⟨⟨(.inr (hk.1.1.1.1.1)), ⟨hk.1.1.1.2, hk.2⟩⟩, hk.1.2⟩)))))
                (case aB => exact (by repeat (first | (with_reducible first | exact HB.out | apply below_alloc | apply pw_below_drewN | apply below_drew1 | refine below_set ?_ GE125.out) | exact HB.out)))
                (case aF => exact (fun k_ hk => ⟨(.inr (Nat.le_trans (below_size (by repeat (first | (with_reducible first | exact HB.out | apply below_alloc | apply pw_below_drewN | apply below_drew1 | refine below_set ?_ GE125.out) | exact HB.out))) hk)), Kd.fresh' (HO142.out) k_ hk, Kd.freshB (g := gb125) (o := .cells #[.slice A0_0 l0_0.length c0_0, .bool a0_1, .int .u64 a0_2, .bool a0_3] 45 (0, 0)) (by (with_reducible repeat (first | refine blk_drewN ?_ _ | refine blk_drew ?_ | refine blk_alloc ?_ _)); exact BK125.out) k_ hk⟩))
                (case aO => exact (by (with_reducible repeat (first | apply Kd.N_alloc | apply Kd.N_drewN | apply Kd.N_drew)); exact Kd.N_mono HO_3.out (fun _ hk => ⟨hk.1.1.1.1, ⟨hk.1.1.2, hk.1.1.1.2⟩⟩)))
                (case aS => exact (below_size (by repeat (first | (with_reducible first | exact HB.out | apply below_alloc | apply pw_below_drewN | apply below_drew1 | refine below_set ?_ GE125.out) | exact HB.out))))
                (case aL => have := LMc41.out; omega)
                intro v150 w50 ho hb hg hat
                rw [← Ny149.out] at ho
                have n0_ := Aside0.mk (Kd.V_afterv (ok := (fun k_ => (P0_0_ k_ ∨ w.heap.size ≤ k_) ∧ some k_ ≠ (.slice Ao45 y140.length co45 : Value).ownBlock ∧ some k_ ≠ (.slice Ao49 t143.length co49 : Value).ownBlock ∧ some k_ ≠ (.slice Ao48 t146.length co48 : Value).ownBlock ∧ k_ ≠ gb125)) (by (with_reducible repeat (first | apply Kd.V_alloc | apply Kd.V_drewN | apply Kd.V_drew)); exact Kd.V_mono HO_126000.out (fun _ hk => ⟨⟨hk.1.1.1.1, ⟨hk.1.1.2, ⟨hk.1.2, ⟨hk.2, hk.1.1.1.2.2⟩⟩⟩⟩, hk.1.1.1.2.1⟩)) hg hat)
                have n1_ := Aside0.mk (blk_grown (g := gb125) (o := .cells #[.slice A0_0 l0_0.length c0_0, .bool a0_1, .int .u64 a0_2, .bool a0_3] 45 (0, 0)) (by (with_reducible repeat (first | refine blk_drewN ?_ _ | refine blk_drew ?_ | refine blk_alloc ?_ _)); exact BK125.out) hg (Kd.N_ne HO_3.out BK125.out (by decide)))
                have n2_ := Aside0.mk (fun k_ (hk_ : Value.ownBlock (.slice Ao45 _ co45) = some k_) => Nat.lt_of_lt_of_le (HO142.out k_ hk_) hg.size)
                have n3_ := Aside0.mk (hb)
                have n4_ := Aside0.mk (ho)
                clear HO_126000
                clear BK125
                clear HO142
                clear HB
                clear HO_3
                clear HO145
                clear HO148
                have HO_126000 := n0_
                have BK125 := n1_
                have HO142 := n2_
                have HB := n3_
                have HO151 := n4_
                clear n0_ n1_ n2_ n3_ n4_
                clear ho hb hg hat
                refine hK.out _ _ ⟨(blk_cell BK125.out 0).trans rfl, (blk_cell BK125.out 1).trans rfl, (blk_cell BK125.out 2).trans rfl, (blk_cell BK125.out 3).trans rfl⟩ (fun hHeld => ?_)
                clear hK K
                refine norm_ (a' := ?_) ?_ ?_
                rotate_left
                · show Act.put _ (some 53) _ = _
                  simp only [Act.put, List.setIfInBounds_toArray, List.set_cons_zero, List.set_cons_succ, i64_w, i32_w]
                  rfl
                refine pure_ (i := 12) (N := some 3) (v := ?_) (a' := ?_) #[true, true, true, true, true, true, true, true, true, true, true, true, true] rfl rfl (any_of HT_.out (by kernel_rfl)) (fun _ _ _ h => h) (Or.inl ⟨by rfl, ?_⟩) ?_ ?_
                rotate_left
                · intro w'
                  go_simp
                  with_reducible rfl
                rotate_left
                · simp only [Act.put, List.setIfInBounds_toArray, List.set_cons_zero, List.set_cons_succ, i64_w, i32_w]
                  rfl
                refine done_ (done_of HT_.out (by kernel_rfl)) ?_
                try go_wp2
                go_ret
                exact ⟨_, by first | rfl | (simp [errW_none, errW_some] <;> rfl) | (simp [*, errW_none, errW_some] <;> rfl), by (with_reducible repeat (first | apply Kd.N_alloc | apply Kd.N_drewN | apply Kd.N_drew)); exact Kd.N_mono HO151.out (fun _ hk => hk.1), by repeat (first | (with_reducible first | exact HB.out | apply below_alloc | apply pw_below_drewN | apply below_drew1 | refine below_set ?_ GE125.out) | exact HB.out)⟩
              · rw [if_neg c41] at H
                exact absurd H (by simp)
            · replace c38 := Bool.eq_false_iff.mpr c38
              subst c38
              have H1 : (some x3_1) = some r := by rw [if_neg (show ¬ (false = true) by decide)] at H; exact H
              clear H
              have H := H1
              clear H1
              obtain rfl := Option.some.inj H
              go_wp2
              go_ret
              exact ⟨_, by first | rfl | (simp [errW_none, errW_some] <;> rfl) | (simp [*, errW_none, errW_some] <;> rfl), by (with_reducible repeat (first | apply Kd.N_alloc | apply Kd.N_drewN | apply Kd.N_drew)); exact Kd.N_mono HO_3.out (fun _ hk => hk.1), by repeat (first | (with_reducible first | exact HB.out | apply below_alloc | apply pw_below_drewN | apply below_drew1 | refine below_set ?_ GE125.out) | exact HB.out)⟩

/-! ### spec_LogRecs: function 8 -/
def spec_LogRecs.l0 : Nat → List (S31) → List (S45) → Int → Int → Option ((List (S31)))
  | 0, _, _, _, _ => none
  | k + 1, x3, x7, x8, x9 => if x9 < x8 then (if 0 ≤ x9 then (if x9 < (x7.length : Int) then ((spec_Unit_written.f k ((rd_T45 x7 x9).f0) ((rd_T45 x7 x9).f1) ((rd_T45 x7 x9).f2) ((rd_T45 x7 x9).f3)).bind fun t157 => (if x3.length + t157.length < 2199023255552 then (spec_LogRecs.l0 k (x3 ++ t157) x7 x8 (wrap64 (x9 + 1))) else (none))) else (none)) else (none)) else (some x3)
def spec_LogRecs.f (k : Nat) (l0 : List (S45)) : Option ((List (S31))) := spec_LogRecs.l0 k (([] : List (S31))) l0 (l0.length : Int) 0
set_option maxHeartbeats 8000000 in
set_option maxRecDepth 100000 in
theorem spec_LogRecs.calls (k : Nat) (P0_ : Nat → Prop) (A0 : Option Addr) (c0 : Nat) (l0 : List (S45)) (r : List (S31)) (w : World) (hs0 : Kd.V k45 45 w w.heap.size (fun k_ => P0_ k_) (.slice A0 l0.length c0) l0) (h : spec_LogRecs.f k l0 = some r) :
    Calls Tryz.prog 8 #[.slice A0 l0.length c0] w fun e w' => ∃ v0_ : Value, e = .returned (v0_) ∧ Kd.N k31 31 w' w.heap.size (fun k_ => (P0_ k_ ∨ w.heap.size ≤ k_)) v0_ r ∧ Below w.heap.size w w' := by
  have hu45 := Tryz.underlying45
  have HO0 := Aside0.mk (show Kd.V k45 45 w w.heap.size (fun k_ => (P0_ k_ ∨ w.heap.size ≤ k_)) (.slice A0 l0.length c0) l0 from Kd.V_mono hs0 (fun k_ hk => .inl hk))
  have HB := Aside0.mk (Below.refl w.heap.size w)
  have H : (spec_LogRecs.l0 k (([] : List (S31))) l0 (l0.length : Int) 0) = some r := h
  clear h
  obtain ⟨y152, hy152⟩ : ∃ y_ : List (S31), y_ = (([] : List (S31))) := ⟨_, rfl⟩
  replace H : (spec_LogRecs.l0 k y152 l0 (l0.length : Int) 0) = some r := by first | (rw [hy152]; with_reducible exact H) | (have H2_ := (Option.bind_some _ _).symm.trans H; rw [hy152]; with_reducible exact H2_) | (have H2_ := (Option.bind_some _ _).symm.trans H; with_reducible exact H2_) | with_reducible exact H | (rw [hy152]; exact H) | exact H
  have Ny152 := Aside0.mk hy152
  clear hy152
  have H' := Aside0.mk H
  clear H
  go_enter Tryz.func8, Tryz.ntmps8
  go_wp2_with (first | ((with_reducible refine gate_dst (N := 6) rfl ?_); refine Kd.N_lit k31 _ 31 ?hg (N' := 6) ?hd (xs := ([] : List (S31))) (inner := []) (ok := (fun k_ => (P0_ k_ ∨ w.heap.size ≤ k_))) (okp := (fun k_ => (P0_ k_ ∨ w.heap.size ≤ k_))) ?hr ?hp (fun _ hk => hk) ((show ∀ k_, w.heap.size ≤ k_ → (fun k_ => (P0_ k_ ∨ w.heap.size ≤ k_)) k_ from fun k_ hk => (.inr (Nat.le_trans (below_size (by repeat (first | (with_reducible first | exact HB.out | apply below_alloc | apply pw_below_drewN | apply below_drew1) | exact HB.out))) hk))) _ (Nat.le_refl _)) (Below.refl _ _) (Nat.le_refl _) (by simp) ?_; (case hd => rfl); (case hg => rfl); (case hr => first | (go_simp; done) | (go_simp; rfl)); (case hp => exact (Reps.none _ _)); intro v153 w2 ho3 hb hg_ hnew_; clear hg_ hnew_; (first | rw [← Ny152.out] at ho3 | (simp only [Int.reduceToNat] at ho3; rw [← Ny152.out] at ho3)); have n0_ := Aside0.mk (Kd.V_elder' (by (with_reducible repeat (first | apply Kd.V_alloc | apply Kd.V_drewN | apply Kd.V_drew)); exact HO0.out) (Kd.N_base ho3) hb); have n1_ := Aside0.mk (Kd.N_lower ho3 (below_size (by repeat (first | (with_reducible first | exact HB.out | apply below_alloc | apply pw_below_drewN | apply below_drew1) | exact HB.out)))); have n2_ := Aside0.mk (below_step (by repeat (first | (with_reducible first | exact HB.out | apply below_alloc | apply pw_below_drewN | apply below_drew1) | exact HB.out)) hb); clear HO0; clear HB; have HO0 := n0_; have HO154 := n1_; have HB := n2_; clear n0_ n1_ n2_; clear hb ho3))
  go_loopg [3, 9] k (fun kq v3 v9 w' => ∃ (x3_1 : List (S31)) (x9_1 : Int), v9 = .int .i64 x9_1 ∧ Aside0 (spec_LogRecs.l0 kq x3_1 l0 (l0.length : Int) x9_1 = some r) ∧ Aside0 (kq ≤ k) ∧ Aside0 (Kd.N k31 31 w' w.heap.size (fun k_ => (P0_ k_ ∨ w.heap.size ≤ k_)) v3 x3_1) ∧ Aside0 (Kd.V k45 45 w' w.heap.size (fun k_ => (P0_ k_ ∨ w.heap.size ≤ k_) ∧ some k_ ≠ (v3 : Value).ownBlock) (.slice A0 l0.length c0) l0) ∧ Aside0 (Below w.heap.size w w'))
  case atStart => exact ⟨(y152), (0), (by first | rfl | (simp; done) | (simp [*]; done)), H', ⟨Nat.le_refl _⟩, ⟨by (with_reducible repeat (first | apply Kd.N_alloc | apply Kd.N_drewN | apply Kd.N_drew)); exact HO154.out⟩, ⟨by (with_reducible repeat (first | apply Kd.V_alloc | apply Kd.V_drewN | apply Kd.V_drew)); exact HO0.out⟩, ⟨by repeat (first | (with_reducible first | exact HB.out | apply below_alloc | apply pw_below_drewN | apply below_drew1) | exact HB.out)⟩⟩
  case round =>
    clear H'
    try clear p2
    obtain ⟨x3_1, x9_1, rfl, HA, HK1, HO_3, HO_7, HB⟩ := hrel
    cases gk with
    | zero => exact absurd HA.out (by simp [spec_LogRecs.l0])
    | succ k1 =>
      have H := HA.out
      clear HA
      simp only [spec_LogRecs.l0] at H
      by_cases c4 : x9_1 < (l0.length : Int)
      · rw [if_pos c4] at H
        have c4b0 : decide (x9_1 < (l0.length : Int)) = true := decide_eq_true c4
        clear c4
        by_cases c5 : 0 ≤ x9_1
        · rw [if_pos c5] at H
          have c5b0 : decide (0 ≤ x9_1) = true := decide_eq_true c5
          clear c5
          by_cases c6 : x9_1 < (l0.length : Int)
          · rw [if_pos c6] at H
            have c6b0 : decide (x9_1 < (l0.length : Int)) = true := decide_eq_true c6
            clear c6
            replace H := Option.bind_eq_some_iff.mp H
            obtain ⟨t157, A70, H⟩ := H
            replace H : (if x3_1.length + t157.length < 2199023255552 then (spec_LogRecs.l0 k1 (x3_1 ++ t157) l0 (l0.length : Int) (wrap64 (x9_1 + 1))) else (none)) = some r := H
            have A7 := Aside0.mk A70
            clear A70
            by_cases c8 : x3_1.length + t157.length < 2199023255552
            · rw [if_pos c8] at H
              have LMc8 := Aside0.mk c8
              clear c8
              obtain ⟨y160, hy160⟩ : ∃ y_ : List (S31), y_ = (x3_1 ++ t157) := ⟨_, rfl⟩
              replace H : (spec_LogRecs.l0 k1 y160 l0 (l0.length : Int) (wrap64 (x9_1 + 1))) = some r := by first | (rw [hy160]; with_reducible exact H) | (have H2_ := (Option.bind_some _ _).symm.trans H; rw [hy160]; with_reducible exact H2_) | (have H2_ := (Option.bind_some _ _).symm.trans H; with_reducible exact H2_) | with_reducible exact H | (rw [hy160]; exact H) | exact H
              have Ny160 := Aside0.mk hy160
              clear hy160
              have H' := Aside0.mk H
              clear H
              have p155 : 0 ≤ (x9_1 : Int) := of_decide_eq_true (by first | (with_reducible assumption) | assumption)
              have q155 : x9_1 < (l0.length : Int) := of_decide_eq_true (by first | (with_reducible assumption) | assumption)
              obtain ⟨ad155, A155_0, c155_0, e155, hx155_0, hx155_1, hx155_2, hx155_3, hl155_0, hi155_0⟩ := at_T45 (Kd.V_reads' HO_7.out).2.2 x9_1 p155 q155
              cases e155
              obtain ⟨ce155, hce155, hMe155, hcc155⟩ := Kd.V_get HO_7.out z45 x9_1 p155 (by first | exact q155 | exact of_decide_eq_true (by first | (with_reducible assumption) | assumption) | (have e_ := (Kd.V_reads' HO_7.out).1; omega))
              obtain ⟨ua155_0, uc155_0, rfl, ul155_0, ge155_0⟩ := k45_openF hMe155
              have hv155_0 := hcc155 0 _ rfl
              rw [Nat.add_zero] at hv155_0
              replace hv155_0 := Option.some.inj (hv155_0.symm.trans hx155_0)
              injection hv155_0 with hva_ hvn_ hvc_
              rw [hva_] at ge155_0
              rw [hvc_] at ul155_0
              have HL155_0 := Aside0.mk (show Kd.V k31 31 _ w.heap.size _ _ ((rd_T45 l0 x9_1).f0) from Kd.V_mk ul155_0 ge155_0)
              clear hva_ hvn_ hvc_ ge155_0 ul155_0
              clear hcc155 hce155
              have HR155_0 := Aside0.mk hi155_0
              have HC155_0 := Aside0.mk hl155_0
              clear hi155_0 hl155_0
              replace p155 := eq_true p155
              replace q155 := eq_true q155
              go_wp2_with (first | ((with_reducible refine gate_dst (N := 5) rfl ?_); refine box_event ?hg (N := 5) ?hd (cs := #[.slice none 0 0, .bool false, .int .u64 0, .bool false]) (t := 45) ?hr ?_; (case hd => rfl); (case hg => rfl); (case hr => first | (go_simp; done) | (go_simp; rfl)); intro gb156 hg w9 hbox hb; have n0_ := Aside0.mk (Kd.N_below (Kd.N_elderB (by (with_reducible repeat (first | apply Kd.N_alloc | apply Kd.N_drewN | apply Kd.N_drew)); exact HO_3.out) gb156 (Nat.le_of_eq hg.symm)) hb); have n1_ := Aside0.mk (Kd.V_below (Kd.V_elderB (by (with_reducible repeat (first | apply Kd.V_alloc | apply Kd.V_drewN | apply Kd.V_drew)); exact HO_7.out) gb156 (Nat.le_of_eq hg.symm)) hb); have n2_ := Aside0.mk (Kd.V_below (Kd.V_elderB (by (with_reducible repeat (first | apply Kd.V_alloc | apply Kd.V_drewN | apply Kd.V_drew)); exact HL155_0.out) gb156 (Nat.le_of_eq hg.symm)) hb); (first | (have n3_ := Aside0.mk (Kd.C_below (by repeat (first | (with_reducible exact HR155_0.out) | (with_reducible refine Kd.C_alloc ?_ _) | (with_reducible refine Kd.C_drewN ?_ _) | (with_reducible refine Kd.C_drew ?_) | exact HR155_0.out)) hb)) | (have n3_ := Aside0.mk trivial)); have n4_ := Aside0.mk (below_step (by repeat (first | (with_reducible first | exact HB.out | apply below_alloc | apply pw_below_drewN | apply below_drew1) | exact HB.out)) hb); have n5_ := Aside0.mk (hbox); have n6_ := Aside0.mk ((by rw [hg]; exact (below_size (by repeat (first | (with_reducible first | exact HB.out | apply below_alloc | apply pw_below_drewN | apply below_drew1) | exact HB.out))) : w.heap.size ≤ gb156)); have n7_ := Aside0.mk ((by rw [hg]; exact (below_size (by repeat (first | (with_reducible first | exact HB.out | apply below_alloc | apply pw_below_drewN | apply below_drew1) | exact HB.out))) : w.heap.size ≤ gb156)); clear HO_3; clear HO_7; clear HL155_0; clear HR155_0; clear HB; have HO_3 := n0_; have HO_7 := n1_; have HL155_0 := n2_; have HR155_0 := n3_; have HB := n4_; have BK156 := n5_; have GW156 := n6_; have GE156 := n7_; clear n0_ n1_ n2_ n3_ n4_ n5_ n6_ n7_; clear hb hbox hg; have hcz10_0 : w9.cell? ⟨gb156, 0, none⟩ = some (.slice none 0 0) := (blk_cell BK156.out 0).trans rfl; have hcz10_1 : w9.cell? ⟨gb156, 1, none⟩ = some (.bool false) := (blk_cell BK156.out 1).trans rfl; have hcz10_2 : w9.cell? ⟨gb156, 2, none⟩ = some (.int .u64 0) := (blk_cell BK156.out 2).trans rfl; have hcz10_3 : w9.cell? ⟨gb156, 3, none⟩ = some (.bool false) := (blk_cell BK156.out 3).trans rfl; have hfz10_0 := blk_frozen BK156.out 0; have hfz10_1 := blk_frozen BK156.out 1; have hfz10_2 := blk_frozen BK156.out 2; have hfz10_3 := blk_frozen BK156.out 3) | ((with_reducible refine gate_store (t := 45) (p := 5) rfl ?_); refine store_event (t := 45) (p := 5) (v := ?vo_w11) (w1 := ((((w9.setCell ⟨gb156, 0, none⟩ (.slice A155_0 ((rd_T45 l0 x9_1).f0).length c155_0)).setCell ⟨gb156, 1, none⟩ (.bool ((rd_T45 l0 x9_1).f1))).setCell ⟨gb156, 2, none⟩ (.int .u64 ((rd_T45 l0 x9_1).f2))).setCell ⟨gb156, 3, none⟩ (.bool ((rd_T45 l0 x9_1).f3)))) ?hg ?ho ?hn ?hr ?_; (case ho => rfl); (case hg => rfl); (case hn => rfl); (case hr => first | (go_simp; done) | (go_simp; rfl)); intro w11 hw; have n0_ : Aside0 (Kd.N k31 31 w11 w.heap.size (fun k_ => (P0_ k_ ∨ w.heap.size ≤ k_) ∧ k_ ≠ gb156) u3 x3_1) := ⟨(by rw [hw]; exact (by (with_reducible repeat (first | apply Kd.N_alloc | apply Kd.N_drewN | apply Kd.N_drew)); exact Kd.N_mono (Kd.N_far (p := ⟨gb156, 3, none⟩) (Kd.N_far (p := ⟨gb156, 2, none⟩) (Kd.N_far (p := ⟨gb156, 1, none⟩) (Kd.N_far (p := ⟨gb156, 0, none⟩) (Kd.N_mono HO_3.out (fun k_ hk => (⟨hk, hk.2⟩ : _ ∧ k_ ≠ gb156))) (fun _ hk => hk.2) (.slice A155_0 ((rd_T45 l0 x9_1).f0).length c155_0)) (fun _ hk => hk.2) (.bool ((rd_T45 l0 x9_1).f1))) (fun _ hk => hk.2) (.int .u64 ((rd_T45 l0 x9_1).f2))) (fun _ hk => hk.2) (.bool ((rd_T45 l0 x9_1).f3))) (fun _ hk => ⟨hk.1.1, hk.1.2⟩)))⟩; have n1_ : Aside0 (Kd.V k45 45 w11 w.heap.size (fun k_ => (P0_ k_ ∨ w.heap.size ≤ k_) ∧ some k_ ≠ (u3 : Value).ownBlock ∧ k_ ≠ gb156) (.slice (some ad155) l0.length c0) l0) := ⟨(by rw [hw]; exact (by (with_reducible repeat (first | apply Kd.V_alloc | apply Kd.V_drewN | apply Kd.V_drew)); exact Kd.V_mono (Kd.V_far (p := ⟨gb156, 3, none⟩) (Kd.V_far (p := ⟨gb156, 2, none⟩) (Kd.V_far (p := ⟨gb156, 1, none⟩) (Kd.V_far (p := ⟨gb156, 0, none⟩) (Kd.V_mono HO_7.out (fun k_ hk => (⟨hk, hk.2⟩ : _ ∧ k_ ≠ gb156))) (fun _ hk => hk.2) (.slice A155_0 ((rd_T45 l0 x9_1).f0).length c155_0)) (fun _ hk => hk.2) (.bool ((rd_T45 l0 x9_1).f1))) (fun _ hk => hk.2) (.int .u64 ((rd_T45 l0 x9_1).f2))) (fun _ hk => hk.2) (.bool ((rd_T45 l0 x9_1).f3))) (fun _ hk => ⟨hk.1.1.1, ⟨hk.1.1.2, hk.1.2⟩⟩)))⟩; have n2_ : Aside0 (Kd.V k31 31 w11 w.heap.size (fun k_ => (P0_ k_ ∨ w.heap.size ≤ k_) ∧ some k_ ≠ (u3 : Value).ownBlock ∧ k_ ≠ gb156) (.slice A155_0 ((rd_T45 l0 x9_1).f0).length c155_0) ((rd_T45 l0 x9_1).f0)) := ⟨(by rw [hw]; exact (by (with_reducible repeat (first | apply Kd.V_alloc | apply Kd.V_drewN | apply Kd.V_drew)); exact Kd.V_mono (Kd.V_far (p := ⟨gb156, 3, none⟩) (Kd.V_far (p := ⟨gb156, 2, none⟩) (Kd.V_far (p := ⟨gb156, 1, none⟩) (Kd.V_far (p := ⟨gb156, 0, none⟩) (Kd.V_mono HL155_0.out (fun k_ hk => (⟨hk, hk.2⟩ : _ ∧ k_ ≠ gb156))) (fun _ hk => hk.2) (.slice A155_0 ((rd_T45 l0 x9_1).f0).length c155_0)) (fun _ hk => hk.2) (.bool ((rd_T45 l0 x9_1).f1))) (fun _ hk => hk.2) (.int .u64 ((rd_T45 l0 x9_1).f2))) (fun _ hk => hk.2) (.bool ((rd_T45 l0 x9_1).f3))) (fun _ hk => ⟨hk.1.1.1, ⟨hk.1.1.2, hk.1.2⟩⟩)))⟩; have n3_ : Aside0 (w11.heap[gb156]? = some (.cells #[.slice A155_0 ((rd_T45 l0 x9_1).f0).length c155_0, .bool ((rd_T45 l0 x9_1).f1), .int .u64 ((rd_T45 l0 x9_1).f2), .bool ((rd_T45 l0 x9_1).f3)] 45 (0, 0))) := ⟨(by rw [hw]; exact (by (with_reducible repeat (first | refine blk_drewN ?_ _ | refine blk_drew ?_ | refine blk_alloc ?_ _)); refine blk_put (cs := #[.slice A155_0 ((rd_T45 l0 x9_1).f0).length c155_0, .bool ((rd_T45 l0 x9_1).f1), .int .u64 ((rd_T45 l0 x9_1).f2), .bool false]) ?_ 3 _ rfl; (with_reducible repeat (first | refine blk_drewN ?_ _ | refine blk_drew ?_ | refine blk_alloc ?_ _)); refine blk_put (cs := #[.slice A155_0 ((rd_T45 l0 x9_1).f0).length c155_0, .bool ((rd_T45 l0 x9_1).f1), .int .u64 0, .bool false]) ?_ 2 _ rfl; (with_reducible repeat (first | refine blk_drewN ?_ _ | refine blk_drew ?_ | refine blk_alloc ?_ _)); refine blk_put (cs := #[.slice A155_0 ((rd_T45 l0 x9_1).f0).length c155_0, .bool false, .int .u64 0, .bool false]) ?_ 1 _ rfl; (with_reducible repeat (first | refine blk_drewN ?_ _ | refine blk_drew ?_ | refine blk_alloc ?_ _)); refine blk_put (cs := #[.slice none 0 0, .bool false, .int .u64 0, .bool false]) ?_ 0 _ rfl; (with_reducible repeat (first | refine blk_drewN ?_ _ | refine blk_drew ?_ | refine blk_alloc ?_ _)); exact BK156.out))⟩; have n4_ : Aside0 (Below w.heap.size w w11) := ⟨(by rw [hw]; exact (by repeat (first | (with_reducible first | exact HB.out | apply below_alloc | apply pw_below_drewN | apply below_drew1 | refine below_set ?_ GE156.out) | exact HB.out)))⟩; clear hw; clear HO_3; clear HO_7; clear HL155_0; clear BK156; clear HB; have HO_3 := n0_; have HO_7 := n1_; have HL155_0 := n2_; have BK156 := n3_; have HB := n4_; clear n0_ n1_ n2_ n3_ n4_; have hcz12_0 : w11.cell? ⟨gb156, 0, none⟩ = some (.slice A155_0 ((rd_T45 l0 x9_1).f0).length c155_0) := (blk_cell BK156.out 0).trans rfl; have hcz12_1 : w11.cell? ⟨gb156, 1, none⟩ = some (.bool ((rd_T45 l0 x9_1).f1)) := (blk_cell BK156.out 1).trans rfl; have hcz12_2 : w11.cell? ⟨gb156, 2, none⟩ = some (.int .u64 ((rd_T45 l0 x9_1).f2)) := (blk_cell BK156.out 2).trans rfl; have hcz12_3 : w11.cell? ⟨gb156, 3, none⟩ = some (.bool ((rd_T45 l0 x9_1).f3)) := (blk_cell BK156.out 3).trans rfl; have hfz12_0 := blk_frozen BK156.out 0; have hfz12_1 := blk_frozen BK156.out 1; have hfz12_2 := blk_frozen BK156.out 2; have hfz12_3 := blk_frozen BK156.out 3) | ((with_reducible refine gate_callee (f := 17) rfl ?_); refine goesL_ (some 15) rfl rfl Tryz.func17 (by kernel_rfl) rfl #[.agg #[.slice A155_0 ((rd_T45 l0 x9_1).f0).length c155_0, .bool ((rd_T45 l0 x9_1).f1), .int .u64 ((rd_T45 l0 x9_1).f2), .bool ((rd_T45 l0 x9_1).f3)]] rfl (by (try simp only [List.map_toArray, List.map_cons, List.map_nil]); first | done | rfl | (simp only [List.length_drop, List.length_take]; rfl)) ?_; (with_reducible refine (spec_Unit_written.calls k1 (fun k_ => ((P0_ k_ ∨ w.heap.size ≤ k_) ∧ (some k_ ≠ (u3 : Value).ownBlock ∧ k_ ≠ gb156))) _ _ ((rd_T45 l0 x9_1).f0) ((rd_T45 l0 x9_1).f1) ((rd_T45 l0 x9_1).f2) ((rd_T45 l0 x9_1).f3) t157 _ ?side1 A7.out).mono ?_); (case side1 => exact HL155_0.out); rintro e w13 ⟨v158, rfl, ho0, hb⟩; refine ⟨_, rfl, ?_⟩; have n0_ := Aside0.mk (Kd.N_elder' (by (with_reducible repeat (first | apply Kd.N_alloc | apply Kd.N_drewN | apply Kd.N_drew)); exact HO_3.out) (Kd.N_base ho0) hb); have n1_ := Aside0.mk (Kd.V_elder' (by (with_reducible repeat (first | apply Kd.V_alloc | apply Kd.V_drewN | apply Kd.V_drew)); exact HO_7.out) (Kd.N_base ho0) hb); have n2_ := Aside0.mk (Kd.V_elder' (by (with_reducible repeat (first | apply Kd.V_alloc | apply Kd.V_drewN | apply Kd.V_drew)); exact HL155_0.out) (Kd.N_base ho0) hb); have n3_ := Aside0.mk (Kd.N_lower (Kd.N_mono (ok' := fun k_ => (P0_ k_ ∨ w.heap.size ≤ k_) ∧ some k_ ≠ (u3 : Value).ownBlock ∧ k_ ≠ gb156) ho0 (fun k_ hk_ => ⟨Or.elim hk_ (fun hs_ => hs_.1) (fun hn_ => (.inr (Nat.le_trans (below_size (by repeat (first | (with_reducible first | exact HB.out | apply below_alloc | apply pw_below_drewN | apply below_drew1 | refine below_set ?_ GE156.out) | exact HB.out))) hn_))), Or.elim hk_ (fun hs_ => hs_.2.1) (fun hn_ => (Kd.fresh' (Kd.N_lt (by (with_reducible repeat (first | apply Kd.N_alloc | apply Kd.N_drewN | apply Kd.N_drew)); exact HO_3.out)) k_ hn_)), Or.elim hk_ (fun hs_ => hs_.2.2) (fun hn_ => (Kd.freshB (g := gb156) (o := .cells #[.slice A155_0 ((rd_T45 l0 x9_1).f0).length c155_0, .bool ((rd_T45 l0 x9_1).f1), .int .u64 ((rd_T45 l0 x9_1).f2), .bool ((rd_T45 l0 x9_1).f3)] 45 (0, 0)) (by (with_reducible repeat (first | refine blk_drewN ?_ _ | refine blk_drew ?_ | refine blk_alloc ?_ _)); exact BK156.out) k_ hn_))⟩)) (below_size (by repeat (first | (with_reducible first | exact HB.out | apply below_alloc | apply pw_below_drewN | apply below_drew1 | refine below_set ?_ GE156.out) | exact HB.out)))); (first | (have n4_ := Aside0.mk (Kd.C_below (by repeat (first | (with_reducible exact HR155_0.out) | (with_reducible refine Kd.C_alloc ?_ _) | (with_reducible refine Kd.C_drewN ?_ _) | (with_reducible refine Kd.C_drew ?_) | exact HR155_0.out)) hb)) | (have n4_ := Aside0.mk trivial)); have n5_ := Aside0.mk (blk_below (g := gb156) (o := .cells #[.slice A155_0 ((rd_T45 l0 x9_1).f0).length c155_0, .bool ((rd_T45 l0 x9_1).f1), .int .u64 ((rd_T45 l0 x9_1).f2), .bool ((rd_T45 l0 x9_1).f3)] 45 (0, 0)) (by (with_reducible repeat (first | refine blk_drewN ?_ _ | refine blk_drew ?_ | refine blk_alloc ?_ _)); exact BK156.out) hb); have n6_ := Aside0.mk (below_step (by repeat (first | (with_reducible first | exact HB.out | apply below_alloc | apply pw_below_drewN | apply below_drew1 | refine below_set ?_ GE156.out) | exact HB.out)) hb); clear HO_3; clear HO_7; clear HL155_0; clear HR155_0; clear BK156; clear HB; have HO_3 := n0_; have HO_7 := n1_; have HL155_0 := n2_; have HO159 := n3_; have HR155_0 := n4_; have BK156 := n5_; have HB := n6_; clear n0_ n1_ n2_ n3_ n4_ n5_ n6_; (try clear hb); (try clear hb2); (try clear hk); (try clear hi); (try clear ho0); obtain ⟨Ao15, co15, eo15⟩ := Kd.N_slice HO159.out; subst eo15) | ((with_reducible refine gate_builtin (b := .append) (xs := #[.tmp 13, .tmp 15]) rfl ?_); at_builtin; refine Kd.N_append_rows k31 (w0 := w) w.heap.size rfl (.tmp 13) (.tmp 15) 25 31 (.agg #[(.slice none 0 0), (.slice none 0 0), (.int .u64 0), (.int .u8 0), (.int .u8 0)]) 64 rfl Tryz.underlying25 info31 rfl (by decide) (by omega) u3 x3_1 t157 _ _ _ (fun k_ => (P0_ k_ ∨ w.heap.size ≤ k_) ∧ k_ ≠ gb156) (fun k_ => ((fun k_ => (P0_ k_ ∨ w.heap.size ≤ k_) ∧ k_ ≠ gb156)) k_ ∧ some k_ ≠ (u3 : Value).ownBlock) rfl rfl ?aO ?aR (fun _ hk => hk) ?aF ?aB ?aS ?aL ?_; (case aR => exact (by skip; exact Kd.N_F (Kd.N_mono (ok' := (fun k_ => ((fun k_ => (P0_ k_ ∨ w.heap.size ≤ k_) ∧ k_ ≠ gb156)) k_ ∧ some k_ ≠ (u3 : Value).ownBlock)) (HO159.out) (fun k_ hk => ⟨⟨hk.1, hk.2.2⟩, hk.2.1⟩)))); (case aB => exact (by repeat (first | (with_reducible first | exact HB.out | apply below_alloc | apply pw_below_drewN | apply below_drew1 | refine below_set ?_ GE156.out) | exact HB.out))); (case aF => exact (fun k_ hk => ⟨(.inr (Nat.le_trans (below_size (by repeat (first | (with_reducible first | exact HB.out | apply below_alloc | apply pw_below_drewN | apply below_drew1 | refine below_set ?_ GE156.out) | exact HB.out))) hk)), Kd.freshB (g := gb156) (o := .cells #[.slice A155_0 ((rd_T45 l0 x9_1).f0).length c155_0, .bool ((rd_T45 l0 x9_1).f1), .int .u64 ((rd_T45 l0 x9_1).f2), .bool ((rd_T45 l0 x9_1).f3)] 45 (0, 0)) (by (with_reducible repeat (first | refine blk_drewN ?_ _ | refine blk_drew ?_ | refine blk_alloc ?_ _)); exact BK156.out) k_ hk⟩)); (case aO => exact (by (with_reducible repeat (first | apply Kd.N_alloc | apply Kd.N_drewN | apply Kd.N_drew)); exact Kd.N_mono HO_3.out (fun _ hk => ⟨hk.1.1, hk.1.2⟩))); (case aS => exact (below_size (by repeat (first | (with_reducible first | exact HB.out | apply below_alloc | apply pw_below_drewN | apply below_drew1 | refine below_set ?_ GE156.out) | exact HB.out)))); (case aL => have := LMc8.out; omega); intro v161 w14 ho hb hg hat; rw [← Ny160.out] at ho; have n0_ := Aside0.mk (Kd.V_afterv (ok := (fun k_ => (P0_ k_ ∨ w.heap.size ≤ k_) ∧ some k_ ≠ (.slice Ao15 t157.length co15 : Value).ownBlock ∧ k_ ≠ gb156)) (by (with_reducible repeat (first | apply Kd.V_alloc | apply Kd.V_drewN | apply Kd.V_drew)); exact Kd.V_mono HO_7.out (fun _ hk => ⟨⟨hk.1.1, ⟨hk.2, hk.1.2.2⟩⟩, hk.1.2.1⟩)) hg hat); have n1_ := Aside0.mk (Kd.V_afterv (ok := (fun k_ => (P0_ k_ ∨ w.heap.size ≤ k_) ∧ some k_ ≠ (.slice Ao15 t157.length co15 : Value).ownBlock ∧ k_ ≠ gb156)) (by (with_reducible repeat (first | apply Kd.V_alloc | apply Kd.V_drewN | apply Kd.V_drew)); exact Kd.V_mono HL155_0.out (fun _ hk => ⟨⟨hk.1.1, ⟨hk.2, hk.1.2.2⟩⟩, hk.1.2.1⟩)) hg hat); have n2_ := Aside0.mk (blk_grown (g := gb156) (o := .cells #[.slice A155_0 ((rd_T45 l0 x9_1).f0).length c155_0, .bool ((rd_T45 l0 x9_1).f1), .int .u64 ((rd_T45 l0 x9_1).f2), .bool ((rd_T45 l0 x9_1).f3)] 45 (0, 0)) (by (with_reducible repeat (first | refine blk_drewN ?_ _ | refine blk_drew ?_ | refine blk_alloc ?_ _)); exact BK156.out) hg (Kd.N_ne HO_3.out BK156.out (by decide))); have n3_ := Aside0.mk (Kd.N_afterv (ok := (fun k_ => (P0_ k_ ∨ w.heap.size ≤ k_) ∧ k_ ≠ gb156)) (by (with_reducible repeat (first | apply Kd.N_alloc | apply Kd.N_drewN | apply Kd.N_drew)); exact Kd.N_mono HO159.out (fun _ hk => ⟨⟨hk.1, hk.2.2⟩, hk.2.1⟩)) hg hat); have n4_ := Aside0.mk (hb); have n5_ := Aside0.mk (ho); clear HO_7; clear HL155_0; clear BK156; clear HO159; clear HB; clear HO_3; have HO_7 := n0_; have HL155_0 := n1_; have BK156 := n2_; have HO159 := n3_; have HB := n4_; have HO162 := n5_; clear n0_ n1_ n2_ n3_ n4_ n5_; clear ho hb hg hat))
              go_roundg k1
              case measure => have := HK1.out; omega
              case rel => exact ⟨(y160), (wrap64 (x9_1 + 1)), (by first | rfl | (simp; done) | (simp [*]; done)), H', ⟨by have := HK1.out; omega⟩, ⟨by (with_reducible repeat (first | apply Kd.N_alloc | apply Kd.N_drewN | apply Kd.N_drew)); exact Kd.N_mono HO162.out (fun _ hk => hk.1)⟩, ⟨by (with_reducible repeat (first | apply Kd.V_alloc | apply Kd.V_drewN | apply Kd.V_drew)); exact Kd.V_mono HO_7.out (fun _ hk => ⟨hk.1.1, hk.2⟩)⟩, ⟨by repeat (first | (with_reducible first | exact HB.out | apply below_alloc | apply pw_below_drewN | apply below_drew1 | refine below_set ?_ GE156.out) | exact HB.out)⟩⟩
            · rw [if_neg c8] at H
              exact absurd H (by simp)
          · rw [if_neg c6] at H
            exact absurd H (by simp)
        · rw [if_neg c5] at H
          exact absurd H (by simp)
      · rw [if_neg c4] at H
        have c4b0 : decide (x9_1 < (l0.length : Int)) = false := decide_eq_false c4
        clear c4
        obtain rfl := Option.some.inj H
        go_wp2
        go_ret
        exact ⟨_, by first | rfl | (simp [errW_none, errW_some] <;> rfl) | (simp [*, errW_none, errW_some] <;> rfl), by (with_reducible repeat (first | apply Kd.N_alloc | apply Kd.N_drewN | apply Kd.N_drew)); exact HO_3.out, by repeat (first | (with_reducible first | exact HB.out | apply below_alloc | apply pw_below_drewN | apply below_drew1) | exact HB.out)⟩

end Go.Proofs.YtpfmmbhbmdbmeaaGreatDoorQ.QL
