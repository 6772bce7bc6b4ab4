-- Lines that a program has printed for this claim: functions as plain Lean functions, and their walks.
import Derived.Test.YtpfmmbhbmdbmeaaGreatDoorQL0
import Derived.Test.YtpfmmbhbmdbmeaaGreatDoorQL2
namespace Go.Proofs.YtpfmmbhbmdbmeaaGreatDoorQ.QL
open Go.RowKit Go.Proofs.YtpfmmbhbmdbmeaaGreatDoorQ.Ext Go.Proofs.YtpfmmbhbmdbmeaaGreatDoorW.PrintWords Go.Proofs.YtpfmmbhbmdbmeaaGreatDoorW.PrintLast Go.Proofs.YtpfmmbhbmdbmeaaGreatDoorW.PrintMore
attribute [local go_sem] max2_int min2_int max_two min_two max_three min_three max_four min_four   -- for this text's walks alone
set_option linter.unusedVariables false
set_option linter.unusedSimpArgs false

/-! ### laws_unitsOk: function 7 -/
mutual
def laws_unitsOk.l0 : Nat → List (S45) → List (S45) → Int → Int → Option (Bool)
  | 0, _, _, _, _ => none
  | k + 1, x0, x7, x8, x9 => if x9 < x8 then (if 0 ≤ x9 then (if x9 < (x7.length : Int) then (if (rd_T45 x7 x9).f3 = true then (laws_unitsOk.j1 k x0 x7 x8 x9 (decide (x9 < (wrap64 ((x0.length : Int) - 1)))) ((rd_T45 x7 x9).f0) ((rd_T45 x7 x9).f1) ((rd_T45 x7 x9).f2) ((rd_T45 x7 x9).f3)) else (laws_unitsOk.j1 k x0 x7 x8 x9 false ((rd_T45 x7 x9).f0) ((rd_T45 x7 x9).f1) ((rd_T45 x7 x9).f2) ((rd_T45 x7 x9).f3))) else (none)) else (none)) else (some (decide ((x0.length : Int) ≤ 20)))
def laws_unitsOk.j1 : Nat → List (S45) → List (S45) → Int → Int → Bool → List (S31) → Bool → Int → Bool → Option (Bool)
  | 0, _, _, _, _, _, _, _, _, _ => none
  | k + 1, x0, x7, x8, x9, x22, x104000, x104001, x104002, x104003 => if x22 = true then (some false) else (if (x104000.length : Int) < 1 then (laws_unitsOk.j2 k x0 x7 x8 x9 true x104000 x104001 x104002 x104003) else (if (x104000.length : Int) > 10 then (laws_unitsOk.j2 k x0 x7 x8 x9 true x104000 x104001 x104002 x104003) else (if x104001 = true then (if x104002 < 1 then (laws_unitsOk.j2 k x0 x7 x8 x9 true x104000 x104001 x104002 x104003) else (laws_unitsOk.j2 k x0 x7 x8 x9 (decide (x104002 > 1000000)) x104000 x104001 x104002 x104003)) else (if (x104000.length : Int) = 1 then (if x104003 = true then (laws_unitsOk.j2 k x0 x7 x8 x9 true x104000 x104001 x104002 x104003) else (if x104002 < 1 then (laws_unitsOk.j2 k x0 x7 x8 x9 true x104000 x104001 x104002 x104003) else (laws_unitsOk.j2 k x0 x7 x8 x9 (decide (x104002 > 1000000)) x104000 x104001 x104002 x104003))) else (laws_unitsOk.j2 k x0 x7 x8 x9 true x104000 x104001 x104002 x104003)))))
def laws_unitsOk.j2 : Nat → List (S45) → List (S45) → Int → Int → Bool → List (S31) → Bool → Int → Bool → Option (Bool)
  | 0, _, _, _, _, _, _, _, _, _ => none
  | k + 1, x0, x7, x8, x9, x57, x104000, x104001, x104002, x104003 => if x57 = true then (some false) else (laws_unitsOk.l1 k x0 x7 x8 x9 x104000 (x104000.length : Int) 0)
def laws_unitsOk.l1 : Nat → List (S45) → List (S45) → Int → Int → List (S31) → Int → Int → Option (Bool)
  | 0, _, _, _, _, _, _, _ => none
  | k + 1, x0, x7, x8, x9, x59, x60, x61 => if x61 < x60 then (if 0 ≤ x61 then (if x61 < (x59.length : Int) then ((laws_recOk.f ((rd_T31 x59 x61).f0) ((rd_T31 x59 x61).f1) ((rd_T31 x59 x61).f2) ((rd_T31 x59 x61).f3) ((rd_T31 x59 x61).f4)).bind fun t106 => (if t106 = true then (laws_unitsOk.l1 k x0 x7 x8 x9 x59 x60 (wrap64 (x61 + 1))) else (some false))) else (none)) else (none)) else (laws_unitsOk.l0 k x0 x7 x8 (wrap64 (x9 + 1)))
end
def laws_unitsOk.f (k : Nat) (l0 : List (S45)) : Option (Bool) := laws_unitsOk.l0 k l0 l0 (l0.length : Int) 0
set_option maxHeartbeats 8000000 in
set_option maxRecDepth 100000 in
theorem laws_unitsOk.calls (k : Nat) (A0 : Option Addr) (c0 : Nat) (l0 : List (S45)) (r : Bool) (w : World) (hr0 : Kd.C k45 w A0 l0.length l0) (hc0 : l0.length ≤ c0) (h : laws_unitsOk.f k l0 = some r) :
    Calls Tryz.prog 7 #[.slice A0 l0.length c0] w fun e w' => e = .returned (.bool r) ∧ Below w.heap.size w w' := by
  have hu45 := Tryz.underlying45
  have hu31 := Tryz.underlying31
  have HR0 := Aside0.mk hr0
  have HC0 := Aside0.mk hc0
  clear hr0 hc0
  have HB := Aside0.mk (Below.refl w.heap.size w)
  have H : (laws_unitsOk.l0 k l0 l0 (l0.length : Int) 0) = some r := h
  clear h
  have H' := Aside0.mk H
  clear H
  go_enter Tryz.func7, Tryz.ntmps7
  go_wp2
  go_loopg [9] k (fun kq v9 w' => ∃ (x9_1 : Int), v9 = .int .i64 x9_1 ∧ Aside0 (laws_unitsOk.l0 kq l0 l0 (l0.length : Int) x9_1 = some r) ∧ Aside0 (kq ≤ k) ∧ Aside0 (Below w.heap.size w w'))
  case atStart => exact ⟨(0), (by first | rfl | (simp; done) | (simp [*]; done)), H', ⟨Nat.le_refl _⟩, ⟨by repeat (first | (with_reducible first | exact HB.out | apply below_alloc | apply pw_below_drewN | apply below_drew1) | exact HB.out)⟩⟩
  case round =>
    clear H'
    obtain ⟨x9_1, rfl, HA, HK1, HB⟩ := hrel
    cases gk with
    | zero => exact absurd HA.out (by simp [laws_unitsOk.l0])
    | succ k1 =>
      have H := HA.out
      clear HA
      simp only [laws_unitsOk.l0] at H
      by_cases c2 : x9_1 < (l0.length : Int)
      · rw [if_pos c2] at H
        have c2b0 : decide (x9_1 < (l0.length : Int)) = true := decide_eq_true c2
        clear c2
        by_cases c3 : 0 ≤ x9_1
        · rw [if_pos c3] at H
          have c3b0 : decide (0 ≤ x9_1) = true := decide_eq_true c3
          clear c3
          by_cases c4 : x9_1 < (l0.length : Int)
          · rw [if_pos c4] at H
            have c4b0 : decide (x9_1 < (l0.length : Int)) = true := decide_eq_true c4
            clear c4
            have HC5 := Aside0.mk H
            clear H
            have p102 : 0 ≤ (x9_1 : Int) := of_decide_eq_true (by first | (with_reducible assumption) | assumption)
            have q102 : x9_1 < (l0.length : Int) := of_decide_eq_true (by first | (with_reducible assumption) | assumption)
            obtain ⟨ad102, A102_0, c102_0, e102, hx102_0, hx102_1, hx102_2, hx102_3, hl102_0, hi102_0⟩ := at_T45 HR0.out x9_1 p102 q102
            cases e102
            replace hx102_0 := (HB.out.cell (World.block_lt_of_cell? w _ hx102_0)).trans hx102_0
            replace hx102_1 := (HB.out.cell (World.block_lt_of_cell? w _ hx102_1)).trans hx102_1
            replace hx102_2 := (HB.out.cell (World.block_lt_of_cell? w _ hx102_2)).trans hx102_2
            replace hx102_3 := (HB.out.cell (World.block_lt_of_cell? w _ hx102_3)).trans hx102_3
            have HR102_0 := Aside0.mk hi102_0
            have HC102_0 := Aside0.mk hl102_0
            clear hi102_0 hl102_0
            replace p102 := eq_true p102
            replace q102 := eq_true q102
            go_upto_region 4 with (first | ((with_reducible refine gate_dst (N := 4) rfl ?_); (try (refine gate_guard (by rfl) ?_; dsimp only)); refine box_event ?hg (N := 4) ?hd (cs := #[.slice none 0 0, .bool false, .int .u64 0, .bool false]) (t := 45) ?hr ?_; (case hd => rfl); (case hg => rfl); (case hr => first | (go_simp; done) | (go_simp; rfl)); intro gb103 hg w6 hbox hb; have n0_ := Aside0.mk (below_step (by repeat (first | (with_reducible first | exact HB.out | apply below_alloc | apply pw_below_drewN | apply below_drew1) | exact HB.out)) hb); have n1_ := Aside0.mk (hbox); have n2_ := Aside0.mk ((by rw [hg]; exact (below_size (by repeat (first | (with_reducible first | exact HB.out | apply below_alloc | apply pw_below_drewN | apply below_drew1) | exact HB.out))) : w.heap.size ≤ gb103)); have n3_ := Aside0.mk ((by rw [hg]; exact (below_size (by repeat (first | (with_reducible first | exact HB.out | apply below_alloc | apply pw_below_drewN | apply below_drew1) | exact HB.out))) : w.heap.size ≤ gb103)); clear HB; have HB := n0_; have BK103 := n1_; have GW103 := n2_; have GE103 := n3_; clear n0_ n1_ n2_ n3_; clear hb hbox hg; have hcz7_0 : w6.cell? ⟨gb103, 0, none⟩ = some (.slice none 0 0) := (blk_cell BK103.out 0).trans rfl; have hcz7_1 : w6.cell? ⟨gb103, 1, none⟩ = some (.bool false) := (blk_cell BK103.out 1).trans rfl; have hcz7_2 : w6.cell? ⟨gb103, 2, none⟩ = some (.int .u64 0) := (blk_cell BK103.out 2).trans rfl; have hcz7_3 : w6.cell? ⟨gb103, 3, none⟩ = some (.bool false) := (blk_cell BK103.out 3).trans rfl; have hfz7_0 := blk_frozen BK103.out 0; have hfz7_1 := blk_frozen BK103.out 1; have hfz7_2 := blk_frozen BK103.out 2; have hfz7_3 := blk_frozen BK103.out 3))
            (try simp only [Act.put, List.setIfInBounds_toArray, List.set_cons_zero, List.set_cons_succ])
            go_cut [22] (fun v22 wc => ∃ (kq : Nat) (x22_4 : Bool), v22 = .bool x22_4 ∧ Aside0 (laws_unitsOk.j1 kq l0 l0 (l0.length : Int) x9_1 x22_4 ((rd_T45 l0 x9_1).f0) ((rd_T45 l0 x9_1).f1) ((rd_T45 l0 x9_1).f2) ((rd_T45 l0 x9_1).f3) = some r) ∧ Aside0 (kq ≤ k1) ∧ Aside0 (wc.heap[gb103]? = some (.cells #[(.slice A102_0 ((rd_T45 l0 x9_1).f0).length c102_0), .bool ((rd_T45 l0 x9_1).f1), .int .u64 ((rd_T45 l0 x9_1).f2), .bool ((rd_T45 l0 x9_1).f3)] 45 (0, 0))) ∧ Aside0 (Below w.heap.size w wc))
            case first =>
              have H := HC5.out
              clear HC5
              obtain ⟨bq8, hbq8⟩ : ∃ b_ : Bool, b_ = ((rd_T45 l0 x9_1).f3) := ⟨_, rfl⟩
              replace H : (if bq8 = true then (laws_unitsOk.j1 k1 l0 l0 (l0.length : Int) x9_1 (decide (x9_1 < (wrap64 ((l0.length : Int) - 1)))) ((rd_T45 l0 x9_1).f0) ((rd_T45 l0 x9_1).f1) ((rd_T45 l0 x9_1).f2) bq8) else (laws_unitsOk.j1 k1 l0 l0 (l0.length : Int) x9_1 false ((rd_T45 l0 x9_1).f0) ((rd_T45 l0 x9_1).f1) ((rd_T45 l0 x9_1).f2) bq8)) = some r := by rw [← hbq8] at H; exact H
              have Nbq8 := Aside0.mk hbq8
              clear hbq8
              (try rw [← Nbq8.out])
              by_cases c9 : bq8 = true
              · subst c9
                have H1 : (laws_unitsOk.j1 k1 l0 l0 (l0.length : Int) x9_1 (decide (x9_1 < (wrap64 ((l0.length : Int) - 1)))) ((rd_T45 l0 x9_1).f0) ((rd_T45 l0 x9_1).f1) ((rd_T45 l0 x9_1).f2) true) = some r := by rw [if_pos rfl] at H; exact H
                clear H
                have H := H1
                clear H1
                have H' := Aside0.mk H
                clear H
                have hcz10_0 : w6.cell? ⟨gb103, 0, none⟩ = some (.slice none 0 0) := (blk_cell BK103.out 0).trans rfl
                have hcz10_1 : w6.cell? ⟨gb103, 1, none⟩ = some (.bool false) := (blk_cell BK103.out 1).trans rfl
                have hcz10_2 : w6.cell? ⟨gb103, 2, none⟩ = some (.int .u64 0) := (blk_cell BK103.out 2).trans rfl
                have hcz10_3 : w6.cell? ⟨gb103, 3, none⟩ = some (.bool false) := (blk_cell BK103.out 3).trans rfl
                have hfz10_0 := blk_frozen BK103.out 0
                have hfz10_1 := blk_frozen BK103.out 1
                have hfz10_2 := blk_frozen BK103.out 2
                have hfz10_3 := blk_frozen BK103.out 3
                go_wp2
                go_meet
                case rel => exact ⟨_, (decide (x9_1 < (wrap64 ((l0.length : Int) - 1)))), (by first | rfl | (simp; done) | (simp [*]; done)), (by first | exact H' | (rw [← Nbq8.out]; exact H')), ⟨by have := HK1.out; first | omega | exact Nat.le_refl _⟩, ⟨by (with_reducible repeat (first | refine blk_drewN ?_ _ | refine blk_drew ?_ | refine blk_alloc ?_ _)); refine blk_put (cs := #[.slice A102_0 ((rd_T45 l0 x9_1).f0).length c102_0, .bool ((rd_T45 l0 x9_1).f1), .int .u64 ((rd_T45 l0 x9_1).f2), .bool false]) ?_ 3 _ (by first | rfl | (rw [← Nbq8.out]; rfl)); (with_reducible repeat (first | refine blk_drewN ?_ _ | refine blk_drew ?_ | refine blk_alloc ?_ _)); refine blk_put (cs := #[.slice A102_0 ((rd_T45 l0 x9_1).f0).length c102_0, .bool ((rd_T45 l0 x9_1).f1), .int .u64 0, .bool false]) ?_ 2 _ rfl; (with_reducible repeat (first | refine blk_drewN ?_ _ | refine blk_drew ?_ | refine blk_alloc ?_ _)); refine blk_put (cs := #[.slice A102_0 ((rd_T45 l0 x9_1).f0).length c102_0, .bool false, .int .u64 0, .bool false]) ?_ 1 _ rfl; (with_reducible repeat (first | refine blk_drewN ?_ _ | refine blk_drew ?_ | refine blk_alloc ?_ _)); refine blk_put (cs := #[.slice none 0 0, .bool false, .int .u64 0, .bool false]) ?_ 0 _ rfl; (with_reducible repeat (first | refine blk_drewN ?_ _ | refine blk_drew ?_ | refine blk_alloc ?_ _)); exact BK103.out⟩, ⟨by repeat (first | (with_reducible first | exact HB.out | apply below_alloc | apply pw_below_drewN | apply below_drew1 | refine below_set ?_ GE103.out) | exact HB.out)⟩⟩
              · replace c9 := Bool.eq_false_iff.mpr c9
                subst c9
                have H1 : (laws_unitsOk.j1 k1 l0 l0 (l0.length : Int) x9_1 false ((rd_T45 l0 x9_1).f0) ((rd_T45 l0 x9_1).f1) ((rd_T45 l0 x9_1).f2) false) = some r := by rw [if_neg (show ¬ (false = true) by decide)] at H; exact H
                clear H
                have H := H1
                clear H1
                have H' := Aside0.mk H
                clear H
                have hcz11_0 : w6.cell? ⟨gb103, 0, none⟩ = some (.slice none 0 0) := (blk_cell BK103.out 0).trans rfl
                have hcz11_1 : w6.cell? ⟨gb103, 1, none⟩ = some (.bool false) := (blk_cell BK103.out 1).trans rfl
                have hcz11_2 : w6.cell? ⟨gb103, 2, none⟩ = some (.int .u64 0) := (blk_cell BK103.out 2).trans rfl
                have hcz11_3 : w6.cell? ⟨gb103, 3, none⟩ = some (.bool false) := (blk_cell BK103.out 3).trans rfl
                have hfz11_0 := blk_frozen BK103.out 0
                have hfz11_1 := blk_frozen BK103.out 1
                have hfz11_2 := blk_frozen BK103.out 2
                have hfz11_3 := blk_frozen BK103.out 3
                go_wp2
                go_meet
                case rel => exact ⟨_, (false), (by first | rfl | (simp; done) | (simp [*]; done)), (by first | exact H' | (rw [← Nbq8.out]; exact H')), ⟨by have := HK1.out; first | omega | exact Nat.le_refl _⟩, ⟨by (with_reducible repeat (first | refine blk_drewN ?_ _ | refine blk_drew ?_ | refine blk_alloc ?_ _)); refine blk_put (cs := #[.slice A102_0 ((rd_T45 l0 x9_1).f0).length c102_0, .bool ((rd_T45 l0 x9_1).f1), .int .u64 ((rd_T45 l0 x9_1).f2), .bool false]) ?_ 3 _ (by first | rfl | (rw [← Nbq8.out]; rfl)); (with_reducible repeat (first | refine blk_drewN ?_ _ | refine blk_drew ?_ | refine blk_alloc ?_ _)); refine blk_put (cs := #[.slice A102_0 ((rd_T45 l0 x9_1).f0).length c102_0, .bool ((rd_T45 l0 x9_1).f1), .int .u64 0, .bool false]) ?_ 2 _ rfl; (with_reducible repeat (first | refine blk_drewN ?_ _ | refine blk_drew ?_ | refine blk_alloc ?_ _)); refine blk_put (cs := #[.slice A102_0 ((rd_T45 l0 x9_1).f0).length c102_0, .bool false, .int .u64 0, .bool false]) ?_ 1 _ rfl; (with_reducible repeat (first | refine blk_drewN ?_ _ | refine blk_drew ?_ | refine blk_alloc ?_ _)); refine blk_put (cs := #[.slice none 0 0, .bool false, .int .u64 0, .bool false]) ?_ 0 _ rfl; (with_reducible repeat (first | refine blk_drewN ?_ _ | refine blk_drew ?_ | refine blk_alloc ?_ _)); exact BK103.out⟩, ⟨by repeat (first | (with_reducible first | exact HB.out | apply below_alloc | apply pw_below_drewN | apply below_drew1 | refine below_set ?_ GE103.out) | exact HB.out)⟩⟩
            case rest =>
              clear HC5
              try clear c1
              try clear p1
              try clear q1
              try clear hx1
              try clear c2
              try clear c2b0
              try clear p2
              try clear c3
              try clear c3b0
              try clear c4
              try clear c4b0
              try clear p6
              try clear c7
              try clear q8
              try clear c9
              try clear c10
              try clear p10
              try clear q10
              try clear hx10
              try clear hcz10_0
              try clear hcz10_1
              try clear hcz10_2
              try clear hcz10_3
              try clear hcz11_0
              try clear hcz11_1
              try clear hcz11_2
              try clear hcz11_3
              try clear hcz7_0
              try clear hcz7_1
              try clear hcz7_2
              try clear hcz7_3
              try clear hfz10_0
              try clear hfz10_1
              try clear hfz10_2
              try clear hfz10_3
              try clear hfz11_0
              try clear hfz11_1
              try clear hfz11_2
              try clear hfz11_3
              try clear hfz7_0
              try clear hfz7_1
              try clear hfz7_2
              try clear hfz7_3
              try clear hx102_0
              try clear hx102_1
              try clear hx102_2
              try clear hx102_3
              try clear p102
              try clear q102
              obtain ⟨kq, x22_4, rfl, HA, HJ4, BK103, HB⟩ := hcut
              cases kq with
              | zero => exact absurd HA.out (by simp [laws_unitsOk.j1])
              | succ kj4 =>
                have H := HA.out
                clear HA
                simp only [laws_unitsOk.j1] at H
                by_cases c12 : x22_4 = true
                · subst c12
                  have H1 : (some false) = some r := by rw [if_pos rfl] at H; exact H
                  clear H
                  have H := H1
                  clear H1
                  obtain rfl := Option.some.inj H
                  go_wp2
                  go_ret
                  exact ⟨by first | rfl | (simp [errW_none, errW_some] <;> rfl) | (simp [*, errW_none, errW_some] <;> rfl), by repeat (first | (with_reducible first | exact HB.out | apply below_alloc | apply pw_below_drewN | apply below_drew1 | refine below_set ?_ GE103.out) | exact HB.out)⟩
                · replace c12 := Bool.eq_false_iff.mpr c12
                  subst c12
                  have H1 : (if (((rd_T45 l0 x9_1).f0).length : Int) < 1 then (laws_unitsOk.j2 kj4 l0 l0 (l0.length : Int) x9_1 true ((rd_T45 l0 x9_1).f0) ((rd_T45 l0 x9_1).f1) ((rd_T45 l0 x9_1).f2) ((rd_T45 l0 x9_1).f3)) else (if (((rd_T45 l0 x9_1).f0).length : Int) > 10 then (laws_unitsOk.j2 kj4 l0 l0 (l0.length : Int) x9_1 true ((rd_T45 l0 x9_1).f0) ((rd_T45 l0 x9_1).f1) ((rd_T45 l0 x9_1).f2) ((rd_T45 l0 x9_1).f3)) else (if ((rd_T45 l0 x9_1).f1) = true then (if ((rd_T45 l0 x9_1).f2) < 1 then (laws_unitsOk.j2 kj4 l0 l0 (l0.length : Int) x9_1 true ((rd_T45 l0 x9_1).f0) ((rd_T45 l0 x9_1).f1) ((rd_T45 l0 x9_1).f2) ((rd_T45 l0 x9_1).f3)) else (laws_unitsOk.j2 kj4 l0 l0 (l0.length : Int) x9_1 (decide (((rd_T45 l0 x9_1).f2) > 1000000)) ((rd_T45 l0 x9_1).f0) ((rd_T45 l0 x9_1).f1) ((rd_T45 l0 x9_1).f2) ((rd_T45 l0 x9_1).f3))) else (if (((rd_T45 l0 x9_1).f0).length : Int) = 1 then (if ((rd_T45 l0 x9_1).f3) = true then (laws_unitsOk.j2 kj4 l0 l0 (l0.length : Int) x9_1 true ((rd_T45 l0 x9_1).f0) ((rd_T45 l0 x9_1).f1) ((rd_T45 l0 x9_1).f2) ((rd_T45 l0 x9_1).f3)) else (if ((rd_T45 l0 x9_1).f2) < 1 then (laws_unitsOk.j2 kj4 l0 l0 (l0.length : Int) x9_1 true ((rd_T45 l0 x9_1).f0) ((rd_T45 l0 x9_1).f1) ((rd_T45 l0 x9_1).f2) ((rd_T45 l0 x9_1).f3)) else (laws_unitsOk.j2 kj4 l0 l0 (l0.length : Int) x9_1 (decide (((rd_T45 l0 x9_1).f2) > 1000000)) ((rd_T45 l0 x9_1).f0) ((rd_T45 l0 x9_1).f1) ((rd_T45 l0 x9_1).f2) ((rd_T45 l0 x9_1).f3)))) else (laws_unitsOk.j2 kj4 l0 l0 (l0.length : Int) x9_1 true ((rd_T45 l0 x9_1).f0) ((rd_T45 l0 x9_1).f1) ((rd_T45 l0 x9_1).f2) ((rd_T45 l0 x9_1).f3)))))) = some r := by rw [if_neg (show ¬ (false = true) by decide)] at H; exact H
                  clear H
                  have H := H1
                  clear H1
                  have HC13 := Aside0.mk H
                  clear H
                  go_upto_region 6 with (fail)
                  go_cut [57] (fun v57 wc => ∃ (kq : Nat) (x57_12 : Bool), v57 = .bool x57_12 ∧ Aside0 (laws_unitsOk.j2 kq l0 l0 (l0.length : Int) x9_1 x57_12 ((rd_T45 l0 x9_1).f0) ((rd_T45 l0 x9_1).f1) ((rd_T45 l0 x9_1).f2) ((rd_T45 l0 x9_1).f3) = some r) ∧ Aside0 (kq ≤ kj4) ∧ Aside0 (wc.heap[gb103]? = some (.cells #[(.slice A102_0 ((rd_T45 l0 x9_1).f0).length c102_0), .bool ((rd_T45 l0 x9_1).f1), .int .u64 ((rd_T45 l0 x9_1).f2), .bool ((rd_T45 l0 x9_1).f3)] 45 (0, 0))) ∧ Aside0 (Below w.heap.size w wc))
                  case first =>
                    have H := HC13.out
                    clear HC13
                    by_cases c14 : (((rd_T45 l0 x9_1).f0).length : Int) < 1
                    · rw [if_pos c14] at H
                      have c14b0 : decide ((((rd_T45 l0 x9_1).f0).length : Int) < 1) = true := decide_eq_true c14
                      have c14b1 : decide (((rd_T45 l0 x9_1).f0).length < 1) = true := decide_eq_true (by omega)
                      clear c14
                      (first | rw [c14b0] | (simp only [i64_w, i32_w]; rw [c14b0]) | skip)
                      have H' := Aside0.mk H
                      clear H
                      have hcz15_0 : wc.cell? ⟨gb103, 0, none⟩ = some (.slice A102_0 ((rd_T45 l0 x9_1).f0).length c102_0) := (blk_cell BK103.out 0).trans rfl
                      have hcz15_1 : wc.cell? ⟨gb103, 1, none⟩ = some (.bool ((rd_T45 l0 x9_1).f1)) := (blk_cell BK103.out 1).trans rfl
                      have hcz15_2 : wc.cell? ⟨gb103, 2, none⟩ = some (.int .u64 ((rd_T45 l0 x9_1).f2)) := (blk_cell BK103.out 2).trans rfl
                      have hcz15_3 : wc.cell? ⟨gb103, 3, none⟩ = some (.bool ((rd_T45 l0 x9_1).f3)) := (blk_cell BK103.out 3).trans rfl
                      have hfz15_0 := blk_frozen BK103.out 0
                      have hfz15_1 := blk_frozen BK103.out 1
                      have hfz15_2 := blk_frozen BK103.out 2
                      have hfz15_3 := blk_frozen BK103.out 3
                      go_wp2
                      go_meet
                      case rel => exact ⟨_, (true), (by first | rfl | (simp; done) | (simp [*]; done)), H', ⟨by have := HK1.out; have := HJ4.out; first | omega | exact Nat.le_refl _⟩, ⟨by (with_reducible repeat (first | refine blk_drewN ?_ _ | refine blk_drew ?_ | refine blk_alloc ?_ _)); exact BK103.out⟩, ⟨by repeat (first | (with_reducible first | exact HB.out | apply below_alloc | apply pw_below_drewN | apply below_drew1 | refine below_set ?_ GE103.out) | exact HB.out)⟩⟩
                    · rw [if_neg c14] at H
                      have c14b0 : decide ((((rd_T45 l0 x9_1).f0).length : Int) < 1) = false := decide_eq_false c14
                      have c14b1 : decide (((rd_T45 l0 x9_1).f0).length < 1) = false := decide_eq_false (by omega)
                      clear c14
                      (first | rw [c14b0] | (simp only [i64_w, i32_w]; rw [c14b0]) | skip)
                      by_cases c16 : (((rd_T45 l0 x9_1).f0).length : Int) > 10
                      · rw [if_pos c16] at H
                        have c16b0 : decide (10 < (((rd_T45 l0 x9_1).f0).length : Int)) = true := decide_eq_true c16
                        have c16b1 : decide (10 < ((rd_T45 l0 x9_1).f0).length) = true := decide_eq_true (by omega)
                        clear c16
                        have H' := Aside0.mk H
                        clear H
                        have hcz17_0 : wc.cell? ⟨gb103, 0, none⟩ = some (.slice A102_0 ((rd_T45 l0 x9_1).f0).length c102_0) := (blk_cell BK103.out 0).trans rfl
                        have hcz17_1 : wc.cell? ⟨gb103, 1, none⟩ = some (.bool ((rd_T45 l0 x9_1).f1)) := (blk_cell BK103.out 1).trans rfl
                        have hcz17_2 : wc.cell? ⟨gb103, 2, none⟩ = some (.int .u64 ((rd_T45 l0 x9_1).f2)) := (blk_cell BK103.out 2).trans rfl
                        have hcz17_3 : wc.cell? ⟨gb103, 3, none⟩ = some (.bool ((rd_T45 l0 x9_1).f3)) := (blk_cell BK103.out 3).trans rfl
                        have hfz17_0 := blk_frozen BK103.out 0
                        have hfz17_1 := blk_frozen BK103.out 1
                        have hfz17_2 := blk_frozen BK103.out 2
                        have hfz17_3 := blk_frozen BK103.out 3
                        go_wp2
                        go_meet
                        case rel => exact ⟨_, (true), (by first | rfl | (simp; done) | (simp [*]; done)), H', ⟨by have := HK1.out; have := HJ4.out; first | omega | exact Nat.le_refl _⟩, ⟨by (with_reducible repeat (first | refine blk_drewN ?_ _ | refine blk_drew ?_ | refine blk_alloc ?_ _)); exact BK103.out⟩, ⟨by repeat (first | (with_reducible first | exact HB.out | apply below_alloc | apply pw_below_drewN | apply below_drew1 | refine below_set ?_ GE103.out) | exact HB.out)⟩⟩
                      · rw [if_neg c16] at H
                        have c16b0 : decide (10 < (((rd_T45 l0 x9_1).f0).length : Int)) = false := decide_eq_false c16
                        have c16b1 : decide (10 < ((rd_T45 l0 x9_1).f0).length) = false := decide_eq_false (by omega)
                        clear c16
                        by_cases c18 : ((rd_T45 l0 x9_1).f1) = true
                        · rw [if_pos c18] at H
                          have c18b0 : ((rd_T45 l0 x9_1).f1) = true := c18
                          clear c18
                          by_cases c19 : ((rd_T45 l0 x9_1).f2) < 1
                          · rw [if_pos c19] at H
                            have c19b0 : decide (((rd_T45 l0 x9_1).f2) < 1) = true := decide_eq_true c19
                            clear c19
                            have H' := Aside0.mk H
                            clear H
                            have hcz20_0 : wc.cell? ⟨gb103, 0, none⟩ = some (.slice A102_0 ((rd_T45 l0 x9_1).f0).length c102_0) := (blk_cell BK103.out 0).trans rfl
                            have hcz20_1 : wc.cell? ⟨gb103, 1, none⟩ = some (.bool ((rd_T45 l0 x9_1).f1)) := (blk_cell BK103.out 1).trans rfl
                            have hcz20_2 : wc.cell? ⟨gb103, 2, none⟩ = some (.int .u64 ((rd_T45 l0 x9_1).f2)) := (blk_cell BK103.out 2).trans rfl
                            have hcz20_3 : wc.cell? ⟨gb103, 3, none⟩ = some (.bool ((rd_T45 l0 x9_1).f3)) := (blk_cell BK103.out 3).trans rfl
                            have hfz20_0 := blk_frozen BK103.out 0
                            have hfz20_1 := blk_frozen BK103.out 1
                            have hfz20_2 := blk_frozen BK103.out 2
                            have hfz20_3 := blk_frozen BK103.out 3
                            go_wp2
                            go_meet
                            case rel => exact ⟨_, (true), (by first | rfl | (simp; done) | (simp [*]; done)), H', ⟨by have := HK1.out; have := HJ4.out; first | omega | exact Nat.le_refl _⟩, ⟨by (with_reducible repeat (first | refine blk_drewN ?_ _ | refine blk_drew ?_ | refine blk_alloc ?_ _)); exact BK103.out⟩, ⟨by repeat (first | (with_reducible first | exact HB.out | apply below_alloc | apply pw_below_drewN | apply below_drew1 | refine below_set ?_ GE103.out) | exact HB.out)⟩⟩
                          · rw [if_neg c19] at H
                            have c19b0 : decide (((rd_T45 l0 x9_1).f2) < 1) = false := decide_eq_false c19
                            clear c19
                            have H' := Aside0.mk H
                            clear H
                            have hcz21_0 : wc.cell? ⟨gb103, 0, none⟩ = some (.slice A102_0 ((rd_T45 l0 x9_1).f0).length c102_0) := (blk_cell BK103.out 0).trans rfl
                            have hcz21_1 : wc.cell? ⟨gb103, 1, none⟩ = some (.bool ((rd_T45 l0 x9_1).f1)) := (blk_cell BK103.out 1).trans rfl
                            have hcz21_2 : wc.cell? ⟨gb103, 2, none⟩ = some (.int .u64 ((rd_T45 l0 x9_1).f2)) := (blk_cell BK103.out 2).trans rfl
                            have hcz21_3 : wc.cell? ⟨gb103, 3, none⟩ = some (.bool ((rd_T45 l0 x9_1).f3)) := (blk_cell BK103.out 3).trans rfl
                            have hfz21_0 := blk_frozen BK103.out 0
                            have hfz21_1 := blk_frozen BK103.out 1
                            have hfz21_2 := blk_frozen BK103.out 2
                            have hfz21_3 := blk_frozen BK103.out 3
                            go_wp2
                            go_meet
                            case rel => exact ⟨_, (decide (((rd_T45 l0 x9_1).f2) > 1000000)), (by first | rfl | (simp; done) | (simp [*]; done)), H', ⟨by have := HK1.out; have := HJ4.out; first | omega | exact Nat.le_refl _⟩, ⟨by (with_reducible repeat (first | refine blk_drewN ?_ _ | refine blk_drew ?_ | refine blk_alloc ?_ _)); exact BK103.out⟩, ⟨by repeat (first | (with_reducible first | exact HB.out | apply below_alloc | apply pw_below_drewN | apply below_drew1 | refine below_set ?_ GE103.out) | exact HB.out)⟩⟩
                        · rw [if_neg c18] at H
                          have c18b0 : ((rd_T45 l0 x9_1).f1) = false := by simpa using c18
                          clear c18
                          by_cases c22 : (((rd_T45 l0 x9_1).f0).length : Int) = 1
                          · rw [if_pos c22] at H
                            have c22b0 : ((((rd_T45 l0 x9_1).f0).length : Int) == 1) = true := beq_iff_eq.mpr c22
                            have c22b1 : ((((rd_T45 l0 x9_1).f0).length : Int) != 1) = false := bne_eq_false_iff_eq.mpr c22
                            clear c22
                            by_cases c23 : ((rd_T45 l0 x9_1).f3) = true
                            · rw [if_pos c23] at H
                              have c23b0 : ((rd_T45 l0 x9_1).f3) = true := c23
                              clear c23
                              have H' := Aside0.mk H
                              clear H
                              have hcz24_0 : wc.cell? ⟨gb103, 0, none⟩ = some (.slice A102_0 ((rd_T45 l0 x9_1).f0).length c102_0) := (blk_cell BK103.out 0).trans rfl
                              have hcz24_1 : wc.cell? ⟨gb103, 1, none⟩ = some (.bool ((rd_T45 l0 x9_1).f1)) := (blk_cell BK103.out 1).trans rfl
                              have hcz24_2 : wc.cell? ⟨gb103, 2, none⟩ = some (.int .u64 ((rd_T45 l0 x9_1).f2)) := (blk_cell BK103.out 2).trans rfl
                              have hcz24_3 : wc.cell? ⟨gb103, 3, none⟩ = some (.bool ((rd_T45 l0 x9_1).f3)) := (blk_cell BK103.out 3).trans rfl
                              have hfz24_0 := blk_frozen BK103.out 0
                              have hfz24_1 := blk_frozen BK103.out 1
                              have hfz24_2 := blk_frozen BK103.out 2
                              have hfz24_3 := blk_frozen BK103.out 3
                              go_wp2
                              go_meet
                              case rel => exact ⟨_, (true), (by first | rfl | (simp; done) | (simp [*]; done)), H', ⟨by have := HK1.out; have := HJ4.out; first | omega | exact Nat.le_refl _⟩, ⟨by (with_reducible repeat (first | refine blk_drewN ?_ _ | refine blk_drew ?_ | refine blk_alloc ?_ _)); exact BK103.out⟩, ⟨by repeat (first | (with_reducible first | exact HB.out | apply below_alloc | apply pw_below_drewN | apply below_drew1 | refine below_set ?_ GE103.out) | exact HB.out)⟩⟩
                            · rw [if_neg c23] at H
                              have c23b0 : ((rd_T45 l0 x9_1).f3) = false := by simpa using c23
                              clear c23
                              by_cases c25 : ((rd_T45 l0 x9_1).f2) < 1
                              · rw [if_pos c25] at H
                                have c25b0 : decide (((rd_T45 l0 x9_1).f2) < 1) = true := decide_eq_true c25
                                clear c25
                                have H' := Aside0.mk H
                                clear H
                                have hcz26_0 : wc.cell? ⟨gb103, 0, none⟩ = some (.slice A102_0 ((rd_T45 l0 x9_1).f0).length c102_0) := (blk_cell BK103.out 0).trans rfl
                                have hcz26_1 : wc.cell? ⟨gb103, 1, none⟩ = some (.bool ((rd_T45 l0 x9_1).f1)) := (blk_cell BK103.out 1).trans rfl
                                have hcz26_2 : wc.cell? ⟨gb103, 2, none⟩ = some (.int .u64 ((rd_T45 l0 x9_1).f2)) := (blk_cell BK103.out 2).trans rfl
                                have hcz26_3 : wc.cell? ⟨gb103, 3, none⟩ = some (.bool ((rd_T45 l0 x9_1).f3)) := (blk_cell BK103.out 3).trans rfl
                                have hfz26_0 := blk_frozen BK103.out 0
                                have hfz26_1 := blk_frozen BK103.out 1
                                have hfz26_2 := blk_frozen BK103.out 2
                                have hfz26_3 := blk_frozen BK103.out 3
                                go_wp2
                                go_meet
                                case rel => exact ⟨_, (true), (by first | rfl | (simp; done) | (simp [*]; done)), H', ⟨by have := HK1.out; have := HJ4.out; first | omega | exact Nat.le_refl _⟩, ⟨by (with_reducible repeat (first | refine blk_drewN ?_ _ | refine blk_drew ?_ | refine blk_alloc ?_ _)); exact BK103.out⟩, ⟨by repeat (first | (with_reducible first | exact HB.out | apply below_alloc | apply pw_below_drewN | apply below_drew1 | refine below_set ?_ GE103.out) | exact HB.out)⟩⟩
                              · rw [if_neg c25] at H
                                have c25b0 : decide (((rd_T45 l0 x9_1).f2) < 1) = false := decide_eq_false c25
                                clear c25
                                have H' := Aside0.mk H
                                clear H
                                have hcz27_0 : wc.cell? ⟨gb103, 0, none⟩ = some (.slice A102_0 ((rd_T45 l0 x9_1).f0).length c102_0) := (blk_cell BK103.out 0).trans rfl
                                have hcz27_1 : wc.cell? ⟨gb103, 1, none⟩ = some (.bool ((rd_T45 l0 x9_1).f1)) := (blk_cell BK103.out 1).trans rfl
                                have hcz27_2 : wc.cell? ⟨gb103, 2, none⟩ = some (.int .u64 ((rd_T45 l0 x9_1).f2)) := (blk_cell BK103.out 2).trans rfl
                                have hcz27_3 : wc.cell? ⟨gb103, 3, none⟩ = some (.bool ((rd_T45 l0 x9_1).f3)) := (blk_cell BK103.out 3).trans rfl
                                have hfz27_0 := blk_frozen BK103.out 0
                                have hfz27_1 := blk_frozen BK103.out 1
                                have hfz27_2 := blk_frozen BK103.out 2
                                have hfz27_3 := blk_frozen BK103.out 3
                                go_wp2
                                go_meet
                                case rel => exact ⟨_, (decide (((rd_T45 l0 x9_1).f2) > 1000000)), (by first | rfl | (simp; done) | (simp [*]; done)), H', ⟨by have := HK1.out; have := HJ4.out; first | omega | exact Nat.le_refl _⟩, ⟨by (with_reducible repeat (first | refine blk_drewN ?_ _ | refine blk_drew ?_ | refine blk_alloc ?_ _)); exact BK103.out⟩, ⟨by repeat (first | (with_reducible first | exact HB.out | apply below_alloc | apply pw_below_drewN | apply below_drew1 | refine below_set ?_ GE103.out) | exact HB.out)⟩⟩
                          · rw [if_neg c22] at H
                            have c22b0 : ((((rd_T45 l0 x9_1).f0).length : Int) == 1) = false := beq_eq_false_iff_ne.mpr c22
                            have c22b1 : ((((rd_T45 l0 x9_1).f0).length : Int) != 1) = true := bne_iff_ne.mpr c22
                            have H' := Aside0.mk H
                            clear H
                            have hcz28_0 : wc.cell? ⟨gb103, 0, none⟩ = some (.slice A102_0 ((rd_T45 l0 x9_1).f0).length c102_0) := (blk_cell BK103.out 0).trans rfl
                            have hcz28_1 : wc.cell? ⟨gb103, 1, none⟩ = some (.bool ((rd_T45 l0 x9_1).f1)) := (blk_cell BK103.out 1).trans rfl
                            have hcz28_2 : wc.cell? ⟨gb103, 2, none⟩ = some (.int .u64 ((rd_T45 l0 x9_1).f2)) := (blk_cell BK103.out 2).trans rfl
                            have hcz28_3 : wc.cell? ⟨gb103, 3, none⟩ = some (.bool ((rd_T45 l0 x9_1).f3)) := (blk_cell BK103.out 3).trans rfl
                            have hfz28_0 := blk_frozen BK103.out 0
                            have hfz28_1 := blk_frozen BK103.out 1
                            have hfz28_2 := blk_frozen BK103.out 2
                            have hfz28_3 := blk_frozen BK103.out 3
                            go_wp2
                            go_meet
                            case rel => exact ⟨_, (true), (by first | rfl | (simp; done) | (simp [*]; done)), H', ⟨by have := HK1.out; have := HJ4.out; first | omega | exact Nat.le_refl _⟩, ⟨by (with_reducible repeat (first | refine blk_drewN ?_ _ | refine blk_drew ?_ | refine blk_alloc ?_ _)); exact BK103.out⟩, ⟨by repeat (first | (with_reducible first | exact HB.out | apply below_alloc | apply pw_below_drewN | apply below_drew1 | refine below_set ?_ GE103.out) | exact HB.out)⟩⟩
                  case rest =>
                    clear HC13
                    try clear c1
                    try clear p1
                    try clear q1
                    try clear hx1
                    try clear c2
                    try clear c2b0
                    try clear p2
                    try clear c3
                    try clear c3b0
                    try clear c4
                    try clear c4b0
                    try clear p6
                    try clear c7
                    try clear q8
                    try clear c9
                    try clear c10
                    try clear p10
                    try clear q10
                    try clear hx10
                    try clear c12
                    try clear c14
                    try clear c14b0
                    try clear c14b1
                    try clear c16
                    try clear c16b0
                    try clear c16b1
                    try clear c18
                    try clear c18b0
                    try clear c19
                    try clear c19b0
                    try clear c22
                    try clear c22b0
                    try clear c22b1
                    try clear c23
                    try clear c23b0
                    try clear c25
                    try clear c25b0
                    try clear hcz10_0
                    try clear hcz10_1
                    try clear hcz10_2
                    try clear hcz10_3
                    try clear hcz11_0
                    try clear hcz11_1
                    try clear hcz11_2
                    try clear hcz11_3
                    try clear hcz15_0
                    try clear hcz15_1
                    try clear hcz15_2
                    try clear hcz15_3
                    try clear hcz17_0
                    try clear hcz17_1
                    try clear hcz17_2
                    try clear hcz17_3
                    try clear hcz20_0
                    try clear hcz20_1
                    try clear hcz20_2
                    try clear hcz20_3
                    try clear hcz21_0
                    try clear hcz21_1
                    try clear hcz21_2
                    try clear hcz21_3
                    try clear hcz24_0
                    try clear hcz24_1
                    try clear hcz24_2
                    try clear hcz24_3
                    try clear hcz26_0
                    try clear hcz26_1
                    try clear hcz26_2
                    try clear hcz26_3
                    try clear hcz27_0
                    try clear hcz27_1
                    try clear hcz27_2
                    try clear hcz27_3
                    try clear hcz28_0
                    try clear hcz28_1
                    try clear hcz28_2
                    try clear hcz28_3
                    try clear hcz7_0
                    try clear hcz7_1
                    try clear hcz7_2
                    try clear hcz7_3
                    try clear hfz10_0
                    try clear hfz10_1
                    try clear hfz10_2
                    try clear hfz10_3
                    try clear hfz11_0
                    try clear hfz11_1
                    try clear hfz11_2
                    try clear hfz11_3
                    try clear hfz15_0
                    try clear hfz15_1
                    try clear hfz15_2
                    try clear hfz15_3
                    try clear hfz17_0
                    try clear hfz17_1
                    try clear hfz17_2
                    try clear hfz17_3
                    try clear hfz20_0
                    try clear hfz20_1
                    try clear hfz20_2
                    try clear hfz20_3
                    try clear hfz21_0
                    try clear hfz21_1
                    try clear hfz21_2
                    try clear hfz21_3
                    try clear hfz24_0
                    try clear hfz24_1
                    try clear hfz24_2
                    try clear hfz24_3
                    try clear hfz26_0
                    try clear hfz26_1
                    try clear hfz26_2
                    try clear hfz26_3
                    try clear hfz27_0
                    try clear hfz27_1
                    try clear hfz27_2
                    try clear hfz27_3
                    try clear hfz28_0
                    try clear hfz28_1
                    try clear hfz28_2
                    try clear hfz28_3
                    try clear hfz7_0
                    try clear hfz7_1
                    try clear hfz7_2
                    try clear hfz7_3
                    try clear hx102_0
                    try clear hx102_1
                    try clear hx102_2
                    try clear hx102_3
                    try clear p1
                    try clear p10
                    try clear p102
                    try clear p2
                    try clear p6
                    try clear q1
                    try clear q10
                    try clear q102
                    try clear q8
                    obtain ⟨kq, x57_12, rfl, HA, HJ12, BK103, HB⟩ := hcut
                    cases kq with
                    | zero => exact absurd HA.out (by simp [laws_unitsOk.j2])
                    | succ kj12 =>
                      have H := HA.out
                      clear HA
                      simp only [laws_unitsOk.j2] at H
                      by_cases c29 : x57_12 = true
                      · subst c29
                        have H1 : (some false) = some r := by rw [if_pos rfl] at H; exact H
                        clear H
                        have H := H1
                        clear H1
                        obtain rfl := Option.some.inj H
                        go_wp2
                        go_ret
                        exact ⟨by first | rfl | (simp [errW_none, errW_some] <;> rfl) | (simp [*, errW_none, errW_some] <;> rfl), by repeat (first | (with_reducible first | exact HB.out | apply below_alloc | apply pw_below_drewN | apply below_drew1 | refine below_set ?_ GE103.out) | exact HB.out)⟩
                      · replace c29 := Bool.eq_false_iff.mpr c29
                        subst c29
                        have H1 : (laws_unitsOk.l1 kj12 l0 l0 (l0.length : Int) x9_1 ((rd_T45 l0 x9_1).f0) (((rd_T45 l0 x9_1).f0).length : Int) 0) = some r := by rw [if_neg (show ¬ (false = true) by decide)] at H; exact H
                        clear H
                        have H := H1
                        clear H1
                        have H' := Aside0.mk H
                        clear H
                        have hcz30_0 : wc.cell? ⟨gb103, 0, none⟩ = some (.slice A102_0 ((rd_T45 l0 x9_1).f0).length c102_0) := (blk_cell BK103.out 0).trans rfl
                        have hcz30_1 : wc.cell? ⟨gb103, 1, none⟩ = some (.bool ((rd_T45 l0 x9_1).f1)) := (blk_cell BK103.out 1).trans rfl
                        have hcz30_2 : wc.cell? ⟨gb103, 2, none⟩ = some (.int .u64 ((rd_T45 l0 x9_1).f2)) := (blk_cell BK103.out 2).trans rfl
                        have hcz30_3 : wc.cell? ⟨gb103, 3, none⟩ = some (.bool ((rd_T45 l0 x9_1).f3)) := (blk_cell BK103.out 3).trans rfl
                        have hfz30_0 := blk_frozen BK103.out 0
                        have hfz30_1 := blk_frozen BK103.out 1
                        have hfz30_2 := blk_frozen BK103.out 2
                        have hfz30_3 := blk_frozen BK103.out 3
                        go_wp2
                        go_loopg [61] kj12 (fun kq v61 w' => ∃ (x61_4 : Int), v61 = .int .i64 x61_4 ∧ Aside0 (laws_unitsOk.l1 kq l0 l0 (l0.length : Int) x9_1 ((rd_T45 l0 x9_1).f0) (((rd_T45 l0 x9_1).f0).length : Int) x61_4 = some r) ∧ Aside0 (kq ≤ kj12) ∧ Aside0 (w'.heap[gb103]? = some (.cells #[(.slice A102_0 ((rd_T45 l0 x9_1).f0).length c102_0), .bool ((rd_T45 l0 x9_1).f1), .int .u64 ((rd_T45 l0 x9_1).f2), .bool ((rd_T45 l0 x9_1).f3)] 45 (0, 0))) ∧ Aside0 (Below w.heap.size w w'))
                        case atStart => exact ⟨(0), (by first | rfl | (simp; done) | (simp [*]; done)), H', ⟨Nat.le_refl _⟩, ⟨by (with_reducible repeat (first | refine blk_drewN ?_ _ | refine blk_drew ?_ | refine blk_alloc ?_ _)); exact BK103.out⟩, ⟨by repeat (first | (with_reducible first | exact HB.out | apply below_alloc | apply pw_below_drewN | apply below_drew1 | refine below_set ?_ GE103.out) | exact HB.out)⟩⟩
                        case round =>
                          clear H'
                          try clear c1
                          try clear p1
                          try clear q1
                          try clear hx1
                          try clear c2
                          try clear c2b0
                          try clear p2
                          try clear c3
                          try clear c3b0
                          try clear c4
                          try clear c4b0
                          try clear p6
                          try clear c7
                          try clear q8
                          try clear c9
                          try clear c10
                          try clear p10
                          try clear q10
                          try clear hx10
                          try clear c12
                          try clear c14
                          try clear c14b0
                          try clear c14b1
                          try clear c16
                          try clear c16b0
                          try clear c16b1
                          try clear c18
                          try clear c18b0
                          try clear c19
                          try clear c19b0
                          try clear c22
                          try clear c22b0
                          try clear c22b1
                          try clear c23
                          try clear c23b0
                          try clear c25
                          try clear c25b0
                          try clear c29
                          try clear hcz10_0
                          try clear hcz10_1
                          try clear hcz10_2
                          try clear hcz10_3
                          try clear hcz11_0
                          try clear hcz11_1
                          try clear hcz11_2
                          try clear hcz11_3
                          try clear hcz15_0
                          try clear hcz15_1
                          try clear hcz15_2
                          try clear hcz15_3
                          try clear hcz17_0
                          try clear hcz17_1
                          try clear hcz17_2
                          try clear hcz17_3
                          try clear hcz20_0
                          try clear hcz20_1
                          try clear hcz20_2
                          try clear hcz20_3
                          try clear hcz21_0
                          try clear hcz21_1
                          try clear hcz21_2
                          try clear hcz21_3
                          try clear hcz24_0
                          try clear hcz24_1
                          try clear hcz24_2
                          try clear hcz24_3
                          try clear hcz26_0
                          try clear hcz26_1
                          try clear hcz26_2
                          try clear hcz26_3
                          try clear hcz27_0
                          try clear hcz27_1
                          try clear hcz27_2
                          try clear hcz27_3
                          try clear hcz28_0
                          try clear hcz28_1
                          try clear hcz28_2
                          try clear hcz28_3
                          try clear hcz30_0
                          try clear hcz30_1
                          try clear hcz30_2
                          try clear hcz30_3
                          try clear hcz7_0
                          try clear hcz7_1
                          try clear hcz7_2
                          try clear hcz7_3
                          try clear hfz10_0
                          try clear hfz10_1
                          try clear hfz10_2
                          try clear hfz10_3
                          try clear hfz11_0
                          try clear hfz11_1
                          try clear hfz11_2
                          try clear hfz11_3
                          try clear hfz15_0
                          try clear hfz15_1
                          try clear hfz15_2
                          try clear hfz15_3
                          try clear hfz17_0
                          try clear hfz17_1
                          try clear hfz17_2
                          try clear hfz17_3
                          try clear hfz20_0
                          try clear hfz20_1
                          try clear hfz20_2
                          try clear hfz20_3
                          try clear hfz21_0
                          try clear hfz21_1
                          try clear hfz21_2
                          try clear hfz21_3
                          try clear hfz24_0
                          try clear hfz24_1
                          try clear hfz24_2
                          try clear hfz24_3
                          try clear hfz26_0
                          try clear hfz26_1
                          try clear hfz26_2
                          try clear hfz26_3
                          try clear hfz27_0
                          try clear hfz27_1
                          try clear hfz27_2
                          try clear hfz27_3
                          try clear hfz28_0
                          try clear hfz28_1
                          try clear hfz28_2
                          try clear hfz28_3
                          try clear hfz30_0
                          try clear hfz30_1
                          try clear hfz30_2
                          try clear hfz30_3
                          try clear hfz7_0
                          try clear hfz7_1
                          try clear hfz7_2
                          try clear hfz7_3
                          try clear hx102_0
                          try clear hx102_1
                          try clear hx102_2
                          try clear hx102_3
                          try clear p1
                          try clear p10
                          try clear p102
                          try clear p2
                          try clear p6
                          try clear q1
                          try clear q10
                          try clear q102
                          try clear q8
                          obtain ⟨x61_4, rfl, HA, HK4, BK103, HB⟩ := hrel
                          cases gk with
                          | zero => exact absurd HA.out (by simp [laws_unitsOk.l1])
                          | succ k4 =>
                            have H := HA.out
                            clear HA
                            simp only [laws_unitsOk.l1] at H
                            by_cases c31 : x61_4 < (((rd_T45 l0 x9_1).f0).length : Int)
                            · rw [if_pos c31] at H
                              have c31b0 : decide (x61_4 < (((rd_T45 l0 x9_1).f0).length : Int)) = true := decide_eq_true c31
                              clear c31
                              by_cases c32 : 0 ≤ x61_4
                              · rw [if_pos c32] at H
                                have c32b0 : decide (0 ≤ x61_4) = true := decide_eq_true c32
                                clear c32
                                by_cases c33 : x61_4 < (((rd_T45 l0 x9_1).f0).length : Int)
                                · rw [if_pos c33] at H
                                  have c33b0 : decide (x61_4 < (((rd_T45 l0 x9_1).f0).length : Int)) = true := decide_eq_true c33
                                  clear c33
                                  replace H := Option.bind_eq_some_iff.mp H
                                  obtain ⟨t106, A340, H⟩ := H
                                  replace H : (if t106 = true then (laws_unitsOk.l1 k4 l0 l0 (l0.length : Int) x9_1 ((rd_T45 l0 x9_1).f0) (((rd_T45 l0 x9_1).f0).length : Int) (wrap64 (x61_4 + 1))) else (some false)) = some r := H
                                  have A34 := Aside0.mk A340
                                  clear A340
                                  by_cases c35 : t106 = true
                                  · subst c35
                                    have H1 : (laws_unitsOk.l1 k4 l0 l0 (l0.length : Int) x9_1 ((rd_T45 l0 x9_1).f0) (((rd_T45 l0 x9_1).f0).length : Int) (wrap64 (x61_4 + 1))) = some r := by rw [if_pos rfl] at H; exact H
                                    clear H
                                    have H := H1
                                    clear H1
                                    have H' := Aside0.mk H
                                    clear H
                                    have p104 : 0 ≤ (x61_4 : Int) := of_decide_eq_true (by first | (with_reducible assumption) | assumption)
                                    have q104 : x61_4 < (((rd_T45 l0 x9_1).f0).length : Int) := of_decide_eq_true (by first | (with_reducible assumption) | assumption)
                                    obtain ⟨ad104, A104_0, c104_0, A104_1, c104_1, e104, hx104_0, hx104_1, hx104_2, hx104_3, hx104_4, hl104_0, hi104_0, hl104_1, hi104_1⟩ := at_T31 HR102_0.out x61_4 p104 q104
                                    cases e104
                                    replace hx104_0 := (HB.out.cell (World.block_lt_of_cell? w _ hx104_0)).trans hx104_0
                                    replace hx104_1 := (HB.out.cell (World.block_lt_of_cell? w _ hx104_1)).trans hx104_1
                                    replace hx104_2 := (HB.out.cell (World.block_lt_of_cell? w _ hx104_2)).trans hx104_2
                                    replace hx104_3 := (HB.out.cell (World.block_lt_of_cell? w _ hx104_3)).trans hx104_3
                                    replace hx104_4 := (HB.out.cell (World.block_lt_of_cell? w _ hx104_4)).trans hx104_4
                                    have HR104_0 := Aside0.mk hi104_0
                                    have HC104_0 := Aside0.mk hl104_0
                                    clear hi104_0 hl104_0
                                    have HR104_1 := Aside0.mk hi104_1
                                    have HC104_1 := Aside0.mk hl104_1
                                    clear hi104_1 hl104_1
                                    replace p104 := eq_true p104
                                    replace q104 := eq_true q104
                                    go_wp2_with (first | ((with_reducible refine gate_dst (N := 6) rfl ?_); (try (refine gate_guard (by rfl) ?_; dsimp only)); refine box_event ?hg (N := 6) ?hd (cs := #[.slice none 0 0, .slice none 0 0, .int .u64 0, .int .u8 0, .int .u8 0]) (t := 31) ?hr ?_; (case hd => rfl); (case hg => rfl); (case hr => first | (go_simp; done) | (go_simp; rfl)); intro gb105 hg w36 hbox hb; have n0_ := Aside0.mk (blk_below (g := gb103) (o := .cells #[.slice (some ad104) ((rd_T45 l0 x9_1).f0).length c102_0, .bool ((rd_T45 l0 x9_1).f1), .int .u64 ((rd_T45 l0 x9_1).f2), .bool ((rd_T45 l0 x9_1).f3)] 45 (0, 0)) (by (with_reducible repeat (first | refine blk_drewN ?_ _ | refine blk_drew ?_ | refine blk_alloc ?_ _)); exact BK103.out) hb); have n1_ := Aside0.mk (below_step (by repeat (first | (with_reducible first | exact HB.out | apply below_alloc | apply pw_below_drewN | apply below_drew1 | refine below_set ?_ GE103.out) | exact HB.out)) hb); have n2_ := Aside0.mk (hbox); have n3_ := Aside0.mk ((by rw [hg]; exact (below_size (by repeat (first | (with_reducible first | exact HB.out | apply below_alloc | apply pw_below_drewN | apply below_drew1 | refine below_set ?_ GE103.out) | exact HB.out))) : w.heap.size ≤ gb105)); have n4_ := Aside0.mk ((by rw [hg]; exact (below_size (by repeat (first | (with_reducible first | exact HB.out | apply below_alloc | apply pw_below_drewN | apply below_drew1 | refine below_set ?_ GE103.out) | exact HB.out))) : w.heap.size ≤ gb105)); have n5_ := Aside0.mk ((by rw [hg]; exact Nat.ne_of_lt (blk_lt (g := gb103) (o := .cells #[.slice (some ad104) ((rd_T45 l0 x9_1).f0).length c102_0, .bool ((rd_T45 l0 x9_1).f1), .int .u64 ((rd_T45 l0 x9_1).f2), .bool ((rd_T45 l0 x9_1).f3)] 45 (0, 0)) (by (with_reducible repeat (first | refine blk_drewN ?_ _ | refine blk_drew ?_ | refine blk_alloc ?_ _)); exact BK103.out)) : gb103 ≠ gb105)); have n6_ := Aside0.mk ((by rw [hg]; exact Nat.ne_of_gt (blk_lt (g := gb103) (o := .cells #[.slice (some ad104) ((rd_T45 l0 x9_1).f0).length c102_0, .bool ((rd_T45 l0 x9_1).f1), .int .u64 ((rd_T45 l0 x9_1).f2), .bool ((rd_T45 l0 x9_1).f3)] 45 (0, 0)) (by (with_reducible repeat (first | refine blk_drewN ?_ _ | refine blk_drew ?_ | refine blk_alloc ?_ _)); exact BK103.out)) : gb105 ≠ gb103)); clear BK103; clear HB; have BK103 := n0_; have HB := n1_; have BK105 := n2_; have GW105 := n3_; have GE105 := n4_; have NB103_105 := n5_; have NB105_103 := n6_; clear n0_ n1_ n2_ n3_ n4_ n5_ n6_; clear hb hbox hg; have hnb37 := NB105_103.out; have hnc37 := NB103_105.out; have hcz38_0 : w36.cell? ⟨gb105, 0, none⟩ = some (.slice none 0 0) := (blk_cell BK105.out 0).trans rfl; have hcz38_1 : w36.cell? ⟨gb105, 1, none⟩ = some (.slice none 0 0) := (blk_cell BK105.out 1).trans rfl; have hcz38_2 : w36.cell? ⟨gb105, 2, none⟩ = some (.int .u64 0) := (blk_cell BK105.out 2).trans rfl; have hcz38_3 : w36.cell? ⟨gb105, 3, none⟩ = some (.int .u8 0) := (blk_cell BK105.out 3).trans rfl; have hcz38_4 : w36.cell? ⟨gb105, 4, none⟩ = some (.int .u8 0) := (blk_cell BK105.out 4).trans rfl; have hfz38_0 := blk_frozen BK105.out 0; have hfz38_1 := blk_frozen BK105.out 1; have hfz38_2 := blk_frozen BK105.out 2; have hfz38_3 := blk_frozen BK105.out 3; have hfz38_4 := blk_frozen BK105.out 4) | ((with_reducible refine gate_callee (f := 16) rfl ?_); refine goesL_ (some 66) rfl rfl Tryz.func16 (by kernel_rfl) rfl #[.agg #[.slice A104_0 ((rd_T31 ((rd_T45 l0 x9_1).f0) x61_4).f0).length c104_0, .slice A104_1 ((rd_T31 ((rd_T45 l0 x9_1).f0) x61_4).f1).length c104_1, .int .u64 ((rd_T31 ((rd_T45 l0 x9_1).f0) x61_4).f2), .int .u8 ((rd_T31 ((rd_T45 l0 x9_1).f0) x61_4).f3), .int .u8 ((rd_T31 ((rd_T45 l0 x9_1).f0) x61_4).f4)]] rfl (by (try simp only [List.map_toArray, List.map_cons, List.map_nil]); first | done | rfl | (simp only [List.length_drop, List.length_take]; rfl)) ?_; (with_reducible refine (laws_recOk.calls _ _ ((rd_T31 ((rd_T45 l0 x9_1).f0) x61_4).f0) _ _ ((rd_T31 ((rd_T45 l0 x9_1).f0) x61_4).f1) ((rd_T31 ((rd_T45 l0 x9_1).f0) x61_4).f2) ((rd_T31 ((rd_T45 l0 x9_1).f0) x61_4).f3) ((rd_T31 ((rd_T45 l0 x9_1).f0) x61_4).f4) true _ ?side1 ?side2 ?side3 ?side4 A34.out).mono ?_); (case side1 => exact Kd.C_below HR104_0.out (by repeat (first | (with_reducible first | exact HB.out | apply below_alloc | apply pw_below_drewN | apply below_drew1 | refine below_set ?_ GE103.out | refine below_set ?_ GE105.out) | exact HB.out))); (case side2 => exact HC104_0.out); (case side3 => exact Kd.C_below HR104_1.out (by repeat (first | (with_reducible first | exact HB.out | apply below_alloc | apply pw_below_drewN | apply below_drew1 | refine below_set ?_ GE103.out | refine below_set ?_ GE105.out) | exact HB.out))); (case side4 => exact HC104_1.out); rintro e w39 ⟨rfl, hb⟩; refine ⟨_, rfl, ?_⟩; have n0_ := Aside0.mk (blk_below (g := gb103) (o := .cells #[.slice (some ad104) ((rd_T45 l0 x9_1).f0).length c102_0, .bool ((rd_T45 l0 x9_1).f1), .int .u64 ((rd_T45 l0 x9_1).f2), .bool ((rd_T45 l0 x9_1).f3)] 45 (0, 0)) (by (with_reducible repeat (first | refine blk_drewN ?_ _ | refine blk_drew ?_ | refine blk_alloc ?_ _)); refine blk_far ?_ NB103_105.out _; (with_reducible repeat (first | refine blk_drewN ?_ _ | refine blk_drew ?_ | refine blk_alloc ?_ _)); refine blk_far ?_ NB103_105.out _; (with_reducible repeat (first | refine blk_drewN ?_ _ | refine blk_drew ?_ | refine blk_alloc ?_ _)); refine blk_far ?_ NB103_105.out _; (with_reducible repeat (first | refine blk_drewN ?_ _ | refine blk_drew ?_ | refine blk_alloc ?_ _)); refine blk_far ?_ NB103_105.out _; (with_reducible repeat (first | refine blk_drewN ?_ _ | refine blk_drew ?_ | refine blk_alloc ?_ _)); refine blk_far ?_ NB103_105.out _; (with_reducible repeat (first | refine blk_drewN ?_ _ | refine blk_drew ?_ | refine blk_alloc ?_ _)); exact BK103.out) hb); have n1_ := Aside0.mk (blk_below (g := gb105) (o := .cells #[.slice A104_0 ((rd_T31 ((rd_T45 l0 x9_1).f0) x61_4).f0).length c104_0, .slice A104_1 ((rd_T31 ((rd_T45 l0 x9_1).f0) x61_4).f1).length c104_1, .int .u64 ((rd_T31 ((rd_T45 l0 x9_1).f0) x61_4).f2), .int .u8 ((rd_T31 ((rd_T45 l0 x9_1).f0) x61_4).f3), .int .u8 ((rd_T31 ((rd_T45 l0 x9_1).f0) x61_4).f4)] 31 (0, 0)) (by (with_reducible repeat (first | refine blk_drewN ?_ _ | refine blk_drew ?_ | refine blk_alloc ?_ _)); refine blk_put (cs := #[.slice A104_0 ((rd_T31 ((rd_T45 l0 x9_1).f0) x61_4).f0).length c104_0, .slice A104_1 ((rd_T31 ((rd_T45 l0 x9_1).f0) x61_4).f1).length c104_1, .int .u64 ((rd_T31 ((rd_T45 l0 x9_1).f0) x61_4).f2), .int .u8 ((rd_T31 ((rd_T45 l0 x9_1).f0) x61_4).f3), .int .u8 0]) ?_ 4 _ rfl; (with_reducible repeat (first | refine blk_drewN ?_ _ | refine blk_drew ?_ | refine blk_alloc ?_ _)); refine blk_put (cs := #[.slice A104_0 ((rd_T31 ((rd_T45 l0 x9_1).f0) x61_4).f0).length c104_0, .slice A104_1 ((rd_T31 ((rd_T45 l0 x9_1).f0) x61_4).f1).length c104_1, .int .u64 ((rd_T31 ((rd_T45 l0 x9_1).f0) x61_4).f2), .int .u8 0, .int .u8 0]) ?_ 3 _ rfl; (with_reducible repeat (first | refine blk_drewN ?_ _ | refine blk_drew ?_ | refine blk_alloc ?_ _)); refine blk_put (cs := #[.slice A104_0 ((rd_T31 ((rd_T45 l0 x9_1).f0) x61_4).f0).length c104_0, .slice A104_1 ((rd_T31 ((rd_T45 l0 x9_1).f0) x61_4).f1).length c104_1, .int .u64 0, .int .u8 0, .int .u8 0]) ?_ 2 _ rfl; (with_reducible repeat (first | refine blk_drewN ?_ _ | refine blk_drew ?_ | refine blk_alloc ?_ _)); refine blk_put (cs := #[.slice A104_0 ((rd_T31 ((rd_T45 l0 x9_1).f0) x61_4).f0).length c104_0, .slice none 0 0, .int .u64 0, .int .u8 0, .int .u8 0]) ?_ 1 _ rfl; (with_reducible repeat (first | refine blk_drewN ?_ _ | refine blk_drew ?_ | refine blk_alloc ?_ _)); refine blk_put (cs := #[.slice none 0 0, .slice none 0 0, .int .u64 0, .int .u8 0, .int .u8 0]) ?_ 0 _ rfl; (with_reducible repeat (first | refine blk_drewN ?_ _ | refine blk_drew ?_ | refine blk_alloc ?_ _)); exact BK105.out) hb); have n2_ := Aside0.mk (below_step (by repeat (first | (with_reducible first | exact HB.out | apply below_alloc | apply pw_below_drewN | apply below_drew1 | refine below_set ?_ GE103.out | refine below_set ?_ GE105.out) | exact HB.out)) hb); clear BK103; clear BK105; clear HB; have BK103 := n0_; have BK105 := n1_; have HB := n2_; clear n0_ n1_ n2_; (try clear hb); (try clear hb2); (try clear hk); (try clear hi)))
                                    go_roundg k4
                                    case measure => have := HK1.out; have := HJ4.out; have := HJ12.out; have := HK4.out; omega
                                    case rel => exact ⟨(wrap64 (x61_4 + 1)), (by first | rfl | (simp; done) | (simp [*]; done)), H', ⟨by have := HK1.out; have := HJ4.out; have := HJ12.out; have := HK4.out; omega⟩, ⟨by (with_reducible repeat (first | refine blk_drewN ?_ _ | refine blk_drew ?_ | refine blk_alloc ?_ _)); exact BK103.out⟩, ⟨by repeat (first | (with_reducible first | exact HB.out | apply below_alloc | apply pw_below_drewN | apply below_drew1 | refine below_set ?_ GE103.out | refine below_set ?_ GE105.out) | exact HB.out)⟩⟩
                                  · replace c35 := Bool.eq_false_iff.mpr c35
                                    subst c35
                                    have H1 : (some false) = some r := by rw [if_neg (show ¬ (false = true) by decide)] at H; exact H
                                    clear H
                                    have H := H1
                                    clear H1
                                    obtain rfl := Option.some.inj H
                                    have p104 : 0 ≤ (x61_4 : Int) := of_decide_eq_true (by first | (with_reducible assumption) | assumption)
                                    have q104 : x61_4 < (((rd_T45 l0 x9_1).f0).length : Int) := of_decide_eq_true (by first | (with_reducible assumption) | assumption)
                                    obtain ⟨ad104, A104_0, c104_0, A104_1, c104_1, e104, hx104_0, hx104_1, hx104_2, hx104_3, hx104_4, hl104_0, hi104_0, hl104_1, hi104_1⟩ := at_T31 HR102_0.out x61_4 p104 q104
                                    cases e104
                                    replace hx104_0 := (HB.out.cell (World.block_lt_of_cell? w _ hx104_0)).trans hx104_0
                                    replace hx104_1 := (HB.out.cell (World.block_lt_of_cell? w _ hx104_1)).trans hx104_1
                                    replace hx104_2 := (HB.out.cell (World.block_lt_of_cell? w _ hx104_2)).trans hx104_2
                                    replace hx104_3 := (HB.out.cell (World.block_lt_of_cell? w _ hx104_3)).trans hx104_3
                                    replace hx104_4 := (HB.out.cell (World.block_lt_of_cell? w _ hx104_4)).trans hx104_4
                                    have HR104_0 := Aside0.mk hi104_0
                                    have HC104_0 := Aside0.mk hl104_0
                                    clear hi104_0 hl104_0
                                    have HR104_1 := Aside0.mk hi104_1
                                    have HC104_1 := Aside0.mk hl104_1
                                    clear hi104_1 hl104_1
                                    replace p104 := eq_true p104
                                    replace q104 := eq_true q104
                                    go_wp2_with (first | ((with_reducible refine gate_dst (N := 6) rfl ?_); (try (refine gate_guard (by rfl) ?_; dsimp only)); refine box_event ?hg (N := 6) ?hd (cs := #[.slice none 0 0, .slice none 0 0, .int .u64 0, .int .u8 0, .int .u8 0]) (t := 31) ?hr ?_; (case hd => rfl); (case hg => rfl); (case hr => first | (go_simp; done) | (go_simp; rfl)); intro gb105 hg w40 hbox hb; have n0_ := Aside0.mk (blk_below (g := gb103) (o := .cells #[.slice (some ad104) ((rd_T45 l0 x9_1).f0).length c102_0, .bool ((rd_T45 l0 x9_1).f1), .int .u64 ((rd_T45 l0 x9_1).f2), .bool ((rd_T45 l0 x9_1).f3)] 45 (0, 0)) (by (with_reducible repeat (first | refine blk_drewN ?_ _ | refine blk_drew ?_ | refine blk_alloc ?_ _)); exact BK103.out) hb); have n1_ := Aside0.mk (below_step (by repeat (first | (with_reducible first | exact HB.out | apply below_alloc | apply pw_below_drewN | apply below_drew1 | refine below_set ?_ GE103.out) | exact HB.out)) hb); have n2_ := Aside0.mk (hbox); have n3_ := Aside0.mk ((by rw [hg]; exact (below_size (by repeat (first | (with_reducible first | exact HB.out | apply below_alloc | apply pw_below_drewN | apply below_drew1 | refine below_set ?_ GE103.out) | exact HB.out))) : w.heap.size ≤ gb105)); have n4_ := Aside0.mk ((by rw [hg]; exact (below_size (by repeat (first | (with_reducible first | exact HB.out | apply below_alloc | apply pw_below_drewN | apply below_drew1 | refine below_set ?_ GE103.out) | exact HB.out))) : w.heap.size ≤ gb105)); have n5_ := Aside0.mk ((by rw [hg]; exact Nat.ne_of_lt (blk_lt (g := gb103) (o := .cells #[.slice (some ad104) ((rd_T45 l0 x9_1).f0).length c102_0, .bool ((rd_T45 l0 x9_1).f1), .int .u64 ((rd_T45 l0 x9_1).f2), .bool ((rd_T45 l0 x9_1).f3)] 45 (0, 0)) (by (with_reducible repeat (first | refine blk_drewN ?_ _ | refine blk_drew ?_ | refine blk_alloc ?_ _)); exact BK103.out)) : gb103 ≠ gb105)); have n6_ := Aside0.mk ((by rw [hg]; exact Nat.ne_of_gt (blk_lt (g := gb103) (o := .cells #[.slice (some ad104) ((rd_T45 l0 x9_1).f0).length c102_0, .bool ((rd_T45 l0 x9_1).f1), .int .u64 ((rd_T45 l0 x9_1).f2), .bool ((rd_T45 l0 x9_1).f3)] 45 (0, 0)) (by (with_reducible repeat (first | refine blk_drewN ?_ _ | refine blk_drew ?_ | refine blk_alloc ?_ _)); exact BK103.out)) : gb105 ≠ gb103)); clear BK103; clear HB; have BK103 := n0_; have HB := n1_; have BK105 := n2_; have GW105 := n3_; have GE105 := n4_; have NB103_105 := n5_; have NB105_103 := n6_; clear n0_ n1_ n2_ n3_ n4_ n5_ n6_; clear hb hbox hg; have hnb41 := NB105_103.out; have hnc41 := NB103_105.out; have hcz42_0 : w40.cell? ⟨gb105, 0, none⟩ = some (.slice none 0 0) := (blk_cell BK105.out 0).trans rfl; have hcz42_1 : w40.cell? ⟨gb105, 1, none⟩ = some (.slice none 0 0) := (blk_cell BK105.out 1).trans rfl; have hcz42_2 : w40.cell? ⟨gb105, 2, none⟩ = some (.int .u64 0) := (blk_cell BK105.out 2).trans rfl; have hcz42_3 : w40.cell? ⟨gb105, 3, none⟩ = some (.int .u8 0) := (blk_cell BK105.out 3).trans rfl; have hcz42_4 : w40.cell? ⟨gb105, 4, none⟩ = some (.int .u8 0) := (blk_cell BK105.out 4).trans rfl; have hfz42_0 := blk_frozen BK105.out 0; have hfz42_1 := blk_frozen BK105.out 1; have hfz42_2 := blk_frozen BK105.out 2; have hfz42_3 := blk_frozen BK105.out 3; have hfz42_4 := blk_frozen BK105.out 4) | ((with_reducible refine gate_callee (f := 16) rfl ?_); refine goesL_ (some 66) rfl rfl Tryz.func16 (by kernel_rfl) rfl #[.agg #[.slice A104_0 ((rd_T31 ((rd_T45 l0 x9_1).f0) x61_4).f0).length c104_0, .slice A104_1 ((rd_T31 ((rd_T45 l0 x9_1).f0) x61_4).f1).length c104_1, .int .u64 ((rd_T31 ((rd_T45 l0 x9_1).f0) x61_4).f2), .int .u8 ((rd_T31 ((rd_T45 l0 x9_1).f0) x61_4).f3), .int .u8 ((rd_T31 ((rd_T45 l0 x9_1).f0) x61_4).f4)]] rfl (by (try simp only [List.map_toArray, List.map_cons, List.map_nil]); first | done | rfl | (simp only [List.length_drop, List.length_take]; rfl)) ?_; (with_reducible refine (laws_recOk.calls _ _ ((rd_T31 ((rd_T45 l0 x9_1).f0) x61_4).f0) _ _ ((rd_T31 ((rd_T45 l0 x9_1).f0) x61_4).f1) ((rd_T31 ((rd_T45 l0 x9_1).f0) x61_4).f2) ((rd_T31 ((rd_T45 l0 x9_1).f0) x61_4).f3) ((rd_T31 ((rd_T45 l0 x9_1).f0) x61_4).f4) false _ ?side1 ?side2 ?side3 ?side4 A34.out).mono ?_); (case side1 => exact Kd.C_below HR104_0.out (by repeat (first | (with_reducible first | exact HB.out | apply below_alloc | apply pw_below_drewN | apply below_drew1 | refine below_set ?_ GE103.out | refine below_set ?_ GE105.out) | exact HB.out))); (case side2 => exact HC104_0.out); (case side3 => exact Kd.C_below HR104_1.out (by repeat (first | (with_reducible first | exact HB.out | apply below_alloc | apply pw_below_drewN | apply below_drew1 | refine below_set ?_ GE103.out | refine below_set ?_ GE105.out) | exact HB.out))); (case side4 => exact HC104_1.out); rintro e w43 ⟨rfl, hb⟩; refine ⟨_, rfl, ?_⟩; have n0_ := Aside0.mk (blk_below (g := gb103) (o := .cells #[.slice (some ad104) ((rd_T45 l0 x9_1).f0).length c102_0, .bool ((rd_T45 l0 x9_1).f1), .int .u64 ((rd_T45 l0 x9_1).f2), .bool ((rd_T45 l0 x9_1).f3)] 45 (0, 0)) (by (with_reducible repeat (first | refine blk_drewN ?_ _ | refine blk_drew ?_ | refine blk_alloc ?_ _)); refine blk_far ?_ NB103_105.out _; (with_reducible repeat (first | refine blk_drewN ?_ _ | refine blk_drew ?_ | refine blk_alloc ?_ _)); refine blk_far ?_ NB103_105.out _; (with_reducible repeat (first | refine blk_drewN ?_ _ | refine blk_drew ?_ | refine blk_alloc ?_ _)); refine blk_far ?_ NB103_105.out _; (with_reducible repeat (first | refine blk_drewN ?_ _ | refine blk_drew ?_ | refine blk_alloc ?_ _)); refine blk_far ?_ NB103_105.out _; (with_reducible repeat (first | refine blk_drewN ?_ _ | refine blk_drew ?_ | refine blk_alloc ?_ _)); refine blk_far ?_ NB103_105.out _; (with_reducible repeat (first | refine blk_drewN ?_ _ | refine blk_drew ?_ | refine blk_alloc ?_ _)); exact BK103.out) hb); have n1_ := Aside0.mk (blk_below (g := gb105) (o := .cells #[.slice A104_0 ((rd_T31 ((rd_T45 l0 x9_1).f0) x61_4).f0).length c104_0, .slice A104_1 ((rd_T31 ((rd_T45 l0 x9_1).f0) x61_4).f1).length c104_1, .int .u64 ((rd_T31 ((rd_T45 l0 x9_1).f0) x61_4).f2), .int .u8 ((rd_T31 ((rd_T45 l0 x9_1).f0) x61_4).f3), .int .u8 ((rd_T31 ((rd_T45 l0 x9_1).f0) x61_4).f4)] 31 (0, 0)) (by (with_reducible repeat (first | refine blk_drewN ?_ _ | refine blk_drew ?_ | refine blk_alloc ?_ _)); refine blk_put (cs := #[.slice A104_0 ((rd_T31 ((rd_T45 l0 x9_1).f0) x61_4).f0).length c104_0, .slice A104_1 ((rd_T31 ((rd_T45 l0 x9_1).f0) x61_4).f1).length c104_1, .int .u64 ((rd_T31 ((rd_T45 l0 x9_1).f0) x61_4).f2), .int .u8 ((rd_T31 ((rd_T45 l0 x9_1).f0) x61_4).f3), .int .u8 0]) ?_ 4 _ rfl; (with_reducible repeat (first | refine blk_drewN ?_ _ | refine blk_drew ?_ | refine blk_alloc ?_ _)); refine blk_put (cs := #[.slice A104_0 ((rd_T31 ((rd_T45 l0 x9_1).f0) x61_4).f0).length c104_0, .slice A104_1 ((rd_T31 ((rd_T45 l0 x9_1).f0) x61_4).f1).length c104_1, .int .u64 ((rd_T31 ((rd_T45 l0 x9_1).f0) x61_4).f2), .int .u8 0, .int .u8 0]) ?_ 3 _ rfl; (with_reducible repeat (first | refine blk_drewN ?_ _ | refine blk_drew ?_ | refine blk_alloc ?_ _)); refine blk_put (cs := #[.slice A104_0 ((rd_T31 ((rd_T45 l0 x9_1).f0) x61_4).f0).length c104_0, .slice A104_1 ((rd_T31 ((rd_T45 l0 x9_1).f0) x61_4).f1).length c104_1, .int .u64 0, .int .u8 0, .int .u8 0]) ?_ 2 _ rfl; (with_reducible repeat (first | refine blk_drewN ?_ _ | refine blk_drew ?_ | refine blk_alloc ?_ _)); refine blk_put (cs := #[.slice A104_0 ((rd_T31 ((rd_T45 l0 x9_1).f0) x61_4).f0).length c104_0, .slice none 0 0, .int .u64 0, .int .u8 0, .int .u8 0]) ?_ 1 _ rfl; (with_reducible repeat (first | refine blk_drewN ?_ _ | refine blk_drew ?_ | refine blk_alloc ?_ _)); refine blk_put (cs := #[.slice none 0 0, .slice none 0 0, .int .u64 0, .int .u8 0, .int .u8 0]) ?_ 0 _ rfl; (with_reducible repeat (first | refine blk_drewN ?_ _ | refine blk_drew ?_ | refine blk_alloc ?_ _)); exact BK105.out) hb); have n2_ := Aside0.mk (below_step (by repeat (first | (with_reducible first | exact HB.out | apply below_alloc | apply pw_below_drewN | apply below_drew1 | refine below_set ?_ GE103.out | refine below_set ?_ GE105.out) | exact HB.out)) hb); clear BK103; clear BK105; clear HB; have BK103 := n0_; have BK105 := n1_; have HB := n2_; clear n0_ n1_ n2_; (try clear hb); (try clear hb2); (try clear hk); (try clear hi)))
                                    go_ret
                                    exact ⟨by first | rfl | (simp [errW_none, errW_some] <;> rfl) | (simp [*, errW_none, errW_some] <;> rfl), by repeat (first | (with_reducible first | exact HB.out | apply below_alloc | apply pw_below_drewN | apply below_drew1 | refine below_set ?_ GE103.out | refine below_set ?_ GE105.out) | exact HB.out)⟩
                                · rw [if_neg c33] at H
                                  exact absurd H (by simp)
                              · rw [if_neg c32] at H
                                exact absurd H (by simp)
                            · rw [if_neg c31] at H
                              have c31b0 : decide (x61_4 < (((rd_T45 l0 x9_1).f0).length : Int)) = false := decide_eq_false c31
                              clear c31
                              have H' := Aside0.mk H
                              clear H
                              go_wp2
                              go_roundg k4
                              case measure => have := HK1.out; have := HJ4.out; have := HJ12.out; have := HK4.out; omega
                              case rel => exact ⟨(wrap64 (x9_1 + 1)), (by first | rfl | (simp; done) | (simp [*]; done)), H', ⟨by have := HK1.out; have := HJ4.out; have := HJ12.out; have := HK4.out; omega⟩, ⟨by repeat (first | (with_reducible first | exact HB.out | apply below_alloc | apply pw_below_drewN | apply below_drew1 | refine below_set ?_ GE103.out) | exact HB.out)⟩⟩
          · rw [if_neg c4] at H
            exact absurd H (by simp)
        · rw [if_neg c3] at H
          exact absurd H (by simp)
      · rw [if_neg c2] at H
        have c2b0 : decide (x9_1 < (l0.length : Int)) = false := decide_eq_false c2
        clear c2
        obtain rfl := Option.some.inj H
        go_wp2
        go_ret
        exact ⟨by first | rfl | (simp [errW_none, errW_some] <;> rfl) | (simp [*, errW_none, errW_some] <;> rfl), by repeat (first | (with_reducible first | exact HB.out | apply below_alloc | apply pw_below_drewN | apply below_drew1) | exact HB.out)⟩

end Go.Proofs.YtpfmmbhbmdbmeaaGreatDoorQ.QL
