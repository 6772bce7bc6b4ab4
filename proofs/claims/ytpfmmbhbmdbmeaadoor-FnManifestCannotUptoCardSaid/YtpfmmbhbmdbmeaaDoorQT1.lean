-- Lines that a program has printed for this claim: functions as plain Lean functions, and their walks.
import Derived.Test.YtpfmmbhbmdbmeaaDoorQT0
namespace Go.Proofs.YtpfmmbhbmdbmeaaDoorQ.QT
open Go.RowKit Go.Proofs.YtpfmmbhbmdbmeaaDoorQ.Ext Go.Proofs.YtpfmmbhbmdbmeaaDoorW.PrintWords Go.Proofs.YtpfmmbhbmdbmeaaDoorW.PrintLast
set_option linter.unusedVariables false
set_option linter.unusedSimpArgs false

/-! ### laws_setsOk: function 10 -/
mutual
def laws_setsOk.l0 : Nat → List (List (S45)) → List (List (S45)) → Int → Int → Option (Bool)
  | 0, _, _, _, _ => none
  | k + 1, x0, x7, x8, x9 => if x9 < x8 then (if 0 ≤ x9 then (if x9 < (x7.length : Int) then (laws_setsOk.l1 k x0 (rd_L4 x7 x9) x7 x8 x9 (rd_L4 x7 x9) ((rd_L4 x7 x9).length : Int) 0) else (none)) else (none)) else (some (decide ((x0.length : Int) ≤ 20)))
def laws_setsOk.l1 : Nat → List (List (S45)) → List (S45) → List (List (S45)) → Int → Int → List (S45) → Int → Int → Option (Bool)
  | 0, _, _, _, _, _, _, _, _ => none
  | k + 1, x0, x4, x7, x8, x9, x13, x14, x15 => if x15 < x14 then (if 0 ≤ x15 then (if x15 < (x13.length : Int) then (if ((rd_T45 x13 x15).f2) > 6 then (some false) else (if (rd_T45 x13 x15).f1 = true then (if ((rd_T45 x13 x15).f2) = 0 then (if ((rd_T45 x13 x15).f3) = 0 then (if ((rd_T45 x13 x15).f4) = 0 then (laws_setsOk.l1 k x0 x4 x7 x8 x9 x13 x14 (wrap64 (x15 + 1))) else (some false)) else (some false)) else (some false)) else (laws_setsOk.l1 k x0 x4 x7 x8 x9 x13 x14 (wrap64 (x15 + 1))))) else (none)) else (none)) else (if (x4.length : Int) > 20 then (some false) else (laws_setsOk.l0 k x0 x7 x8 (wrap64 (x9 + 1))))
end
def laws_setsOk.f (k : Nat) (l0 : List (List (S45))) : Option (Bool) := laws_setsOk.l0 k l0 l0 (l0.length : Int) 0
theorem laws_setsOk.mono_l : ∀ k, (∀ y0 y1 y2 y3, LeO (laws_setsOk.l0 k y0 y1 y2 y3) (laws_setsOk.l0 (k + 1) y0 y1 y2 y3)) ∧ (∀ y0 y1 y2 y3 y4 y5 y6 y7, LeO (laws_setsOk.l1 k y0 y1 y2 y3 y4 y5 y6 y7) (laws_setsOk.l1 (k + 1) y0 y1 y2 y3 y4 y5 y6 y7))
  | 0 => ⟨fun _ _ _ _ r h => by simp [laws_setsOk.l0] at h, fun _ _ _ _ _ _ _ _ r h => by simp [laws_setsOk.l1] at h⟩
  | k + 1 => by
    obtain ⟨ih0, ih1⟩ := laws_setsOk.mono_l k
    refine ⟨?_, ?_⟩
    · intro y0 y1 y2 y3
      unfold laws_setsOk.l0
      repeat' first
      | (with_reducible exact ih0 _ _ _ _)
      | (with_reducible exact ih1 _ _ _ _ _ _ _ _)
      | (with_reducible exact LeO.refl _)
      | (with_reducible exact LeO.none _)
      | (with_reducible refine LeO.ite ?_ ?_)
      | (with_reducible refine LeO.bind ?_ (fun _ => ?_))
      | exact ih0 _ _ _ _
      | exact ih1 _ _ _ _ _ _ _ _
      | exact LeO.none _
      | refine LeO.ite ?_ ?_
      | refine LeO.bind ?_ (fun _ => ?_)
    · intro y0 y1 y2 y3 y4 y5 y6 y7
      unfold laws_setsOk.l1
      repeat' first
      | (with_reducible exact ih0 _ _ _ _)
      | (with_reducible exact ih1 _ _ _ _ _ _ _ _)
      | (with_reducible exact LeO.refl _)
      | (with_reducible exact LeO.none _)
      | (with_reducible refine LeO.ite ?_ ?_)
      | (with_reducible refine LeO.bind ?_ (fun _ => ?_))
      | exact ih0 _ _ _ _
      | exact ih1 _ _ _ _ _ _ _ _
      | exact LeO.none _
      | refine LeO.ite ?_ ?_
      | refine LeO.bind ?_ (fun _ => ?_)
theorem laws_setsOk.mono : ∀ a0 k, LeO (laws_setsOk.f k a0) (laws_setsOk.f (k + 1) a0) := by
  intro a0 k
  obtain ⟨ih0, ih1⟩ := laws_setsOk.mono_l k
  unfold laws_setsOk.f
  repeat' first
      | (with_reducible exact ih0 _ _ _ _)
      | (with_reducible exact ih1 _ _ _ _ _ _ _ _)
      | (with_reducible exact LeO.refl _)
      | (with_reducible exact LeO.none _)
      | (with_reducible refine LeO.ite ?_ ?_)
      | (with_reducible refine LeO.bind ?_ (fun _ => ?_))
      | exact ih0 _ _ _ _
      | exact ih1 _ _ _ _ _ _ _ _
      | exact LeO.none _
      | refine LeO.ite ?_ ?_
      | refine LeO.bind ?_ (fun _ => ?_)
set_option maxHeartbeats 8000000 in
set_option maxRecDepth 100000 in
theorem laws_setsOk.calls (k : Nat) (A0 : Option Addr) (c0 : Nat) (l0 : List (List (S45))) (r : Bool) (w : World) (hr0 : Kd.C (Kd.slice 45 k45) w A0 l0.length l0) (hc0 : l0.length ≤ c0) (h : laws_setsOk.f k l0 = some r) :
    Calls Tryd.prog 10 #[.slice A0 l0.length c0] w fun e w' => e = .returned (.bool r) ∧ Below w.heap.size w w' := by
  have hu45 := Tryd.underlying45
  have HR0 := Aside0.mk hr0
  have HC0 := Aside0.mk hc0
  clear hr0 hc0
  have HB := Aside0.mk (Below.refl w.heap.size w)
  have H : (laws_setsOk.l0 k l0 l0 (l0.length : Int) 0) = some r := h
  clear h
  have H' := Aside0.mk H
  clear H
  go_enter Tryd.func10, Tryd.ntmps10
  go_wp2
  go_loopg [9] k (fun kq v9 w' => ∃ (x9_1 : Int), v9 = .int .i64 x9_1 ∧ Aside0 (laws_setsOk.l0 kq l0 l0 (l0.length : Int) x9_1 = some r) ∧ Aside0 (kq ≤ k) ∧ Aside0 (Below w.heap.size w w'))
  case atStart => exact ⟨(0), (by first | rfl | (simp; done) | (simp [*]; done)), H', ⟨Nat.le_refl _⟩, ⟨by repeat (first | (with_reducible first | exact HB.out | apply below_alloc | apply pw_below_drewN | apply below_drew1) | exact HB.out)⟩⟩
  case round =>
    clear H'
    try clear c1
    obtain ⟨x9_1, rfl, HA, HK1, HB⟩ := hrel
    cases gk with
    | zero => exact absurd HA.out (by simp [laws_setsOk.l0])
    | succ k1 =>
      have H := HA.out
      clear HA
      simp only [laws_setsOk.l0] at H
      by_cases c2 : x9_1 < (l0.length : Int)
      · rw [if_pos c2] at H
        have c2b0 : decide (x9_1 < (l0.length : Int)) = true := decide_eq_true c2
        clear c2
        by_cases c3 : 0 ≤ x9_1
        · rw [if_pos c3] at H
          have c3b0 : decide (0 ≤ x9_1) = true := decide_eq_true c3
          clear c3
          by_cases c4 : x9_1 < (l0.length : Int)
          · rw [if_pos c4] at H
            have c4b0 : decide (x9_1 < (l0.length : Int)) = true := decide_eq_true c4
            clear c4
            have H' := Aside0.mk H
            clear H
            have p101 : 0 ≤ (x9_1 : Int) := of_decide_eq_true (by first | (with_reducible assumption) | assumption)
            have q101 : x9_1 < (l0.length : Int) := of_decide_eq_true (by first | (with_reducible assumption) | assumption)
            obtain ⟨ad101, A101_0, c101_0, e101, hx101_0, hl101_0, hi101_0⟩ := at_L4 HR0.out x9_1 p101 q101
            cases e101
            replace hx101_0 := (HB.out.cell (World.block_lt_of_cell? w _ hx101_0)).trans hx101_0
            have HR101_0 := Aside0.mk hi101_0
            have HC101_0 := Aside0.mk hl101_0
            clear hi101_0 hl101_0
            replace p101 := eq_true p101
            replace q101 := eq_true q101
            go_wp2
            go_loopg [15] k1 (fun kq v15 w' => ∃ (x15_2 : Int), v15 = .int .i64 x15_2 ∧ Aside0 (laws_setsOk.l1 kq l0 (rd_L4 l0 x9_1) l0 (l0.length : Int) x9_1 (rd_L4 l0 x9_1) ((rd_L4 l0 x9_1).length : Int) x15_2 = some r) ∧ Aside0 (kq ≤ k1) ∧ Aside0 (Below w.heap.size w w'))
            case atStart => exact ⟨(0), (by first | rfl | (simp; done) | (simp [*]; done)), H', ⟨Nat.le_refl _⟩, ⟨by repeat (first | (with_reducible first | exact HB.out | apply below_alloc | apply pw_below_drewN | apply below_drew1) | exact HB.out)⟩⟩
            case round =>
              clear H'
              try clear c1
              try clear p1
              try clear q1
              try clear hx1
              try clear c2
              try clear c2b0
              try clear p2
              try clear c3
              try clear c3b0
              try clear c4
              try clear c4b0
              try clear hx101_0
              try clear p101
              try clear q101
              obtain ⟨x15_2, rfl, HA, HK2, HB⟩ := hrel
              cases gk with
              | zero => exact absurd HA.out (by simp [laws_setsOk.l1])
              | succ k2 =>
                have H := HA.out
                clear HA
                simp only [laws_setsOk.l1] at H
                by_cases c5 : x15_2 < ((rd_L4 l0 x9_1).length : Int)
                · rw [if_pos c5] at H
                  have c5b0 : decide (x15_2 < ((rd_L4 l0 x9_1).length : Int)) = true := decide_eq_true c5
                  clear c5
                  by_cases c6 : 0 ≤ x15_2
                  · rw [if_pos c6] at H
                    have c6b0 : decide (0 ≤ x15_2) = true := decide_eq_true c6
                    clear c6
                    by_cases c7 : x15_2 < ((rd_L4 l0 x9_1).length : Int)
                    · rw [if_pos c7] at H
                      have c7b0 : decide (x15_2 < ((rd_L4 l0 x9_1).length : Int)) = true := decide_eq_true c7
                      clear c7
                      by_cases c8 : ((rd_T45 (rd_L4 l0 x9_1) x15_2).f2) > 6
                      · rw [if_pos c8] at H
                        have c8b0 : decide (6 < ((rd_T45 (rd_L4 l0 x9_1) x15_2).f2)) = true := decide_eq_true c8
                        clear c8
                        obtain rfl := Option.some.inj H
                        have p102 : 0 ≤ (x15_2 : Int) := of_decide_eq_true (by first | (with_reducible assumption) | assumption)
                        have q102 : x15_2 < ((rd_L4 l0 x9_1).length : Int) := of_decide_eq_true (by first | (with_reducible assumption) | assumption)
                        obtain ⟨ad102, e102, hx102_0, hx102_1, hx102_2, hx102_3, hx102_4⟩ := at_T45 HR101_0.out x15_2 p102 q102
                        cases e102
                        replace hx102_0 := (HB.out.cell (World.block_lt_of_cell? w _ hx102_0)).trans hx102_0
                        replace hx102_1 := (HB.out.cell (World.block_lt_of_cell? w _ hx102_1)).trans hx102_1
                        replace hx102_2 := (HB.out.cell (World.block_lt_of_cell? w _ hx102_2)).trans hx102_2
                        replace hx102_3 := (HB.out.cell (World.block_lt_of_cell? w _ hx102_3)).trans hx102_3
                        replace hx102_4 := (HB.out.cell (World.block_lt_of_cell? w _ hx102_4)).trans hx102_4
                        replace p102 := eq_true p102
                        replace q102 := eq_true q102
                        go_wp2_with (first | ((with_reducible refine gate_dst (N := 6) rfl ?_); refine box_event ?hg (N := 6) ?hd (cs := #[.int .u64 0, .bool false, .int .u32 0, .int .u64 0, .int .u32 0]) (t := 45) ?hr ?_; (case hd => rfl); (case hg => rfl); (case hr => first | (go_simp; done) | (go_simp; rfl)); intro gb103 hg w9 hbox hb; have n0_ := Aside0.mk (below_step (by repeat (first | (with_reducible first | exact HB.out | apply below_alloc | apply pw_below_drewN | apply below_drew1) | exact HB.out)) hb); have n1_ := Aside0.mk (hbox); have n2_ := Aside0.mk ((by rw [hg]; exact (below_size (by repeat (first | (with_reducible first | exact HB.out | apply below_alloc | apply pw_below_drewN | apply below_drew1) | exact HB.out))) : w.heap.size ≤ gb103)); have n3_ := Aside0.mk ((by rw [hg]; exact (below_size (by repeat (first | (with_reducible first | exact HB.out | apply below_alloc | apply pw_below_drewN | apply below_drew1) | exact HB.out))) : w.heap.size ≤ gb103)); clear HB; have HB := n0_; have BK103 := n1_; have GW103 := n2_; have GE103 := n3_; clear n0_ n1_ n2_ n3_; clear hb hbox hg; have hcz10_0 : w9.cell? ⟨gb103, 0, none⟩ = some (.int .u64 0) := (blk_cell BK103.out 0).trans rfl; have hcz10_1 : w9.cell? ⟨gb103, 1, none⟩ = some (.bool false) := (blk_cell BK103.out 1).trans rfl; have hcz10_2 : w9.cell? ⟨gb103, 2, none⟩ = some (.int .u32 0) := (blk_cell BK103.out 2).trans rfl; have hcz10_3 : w9.cell? ⟨gb103, 3, none⟩ = some (.int .u64 0) := (blk_cell BK103.out 3).trans rfl; have hcz10_4 : w9.cell? ⟨gb103, 4, none⟩ = some (.int .u32 0) := (blk_cell BK103.out 4).trans rfl; have hfz10_0 := blk_frozen BK103.out 0; have hfz10_1 := blk_frozen BK103.out 1; have hfz10_2 := blk_frozen BK103.out 2; have hfz10_3 := blk_frozen BK103.out 3; have hfz10_4 := blk_frozen BK103.out 4))
                        go_ret
                        exact ⟨by first | rfl | (simp [errW_none, errW_some] <;> rfl) | (simp [*, errW_none, errW_some] <;> rfl), by repeat (first | (with_reducible first | exact HB.out | apply below_alloc | apply pw_below_drewN | apply below_drew1 | refine below_set ?_ GE103.out) | exact HB.out)⟩
                      · rw [if_neg c8] at H
                        have c8b0 : decide (6 < ((rd_T45 (rd_L4 l0 x9_1) x15_2).f2)) = false := decide_eq_false c8
                        clear c8
                        obtain ⟨bq11, hbq11⟩ : ∃ b_ : Bool, b_ = ((rd_T45 (rd_L4 l0 x9_1) x15_2).f1) := ⟨_, rfl⟩
                        replace H : (if bq11 = true then (if ((rd_T45 (rd_L4 l0 x9_1) x15_2).f2) = 0 then (if ((rd_T45 (rd_L4 l0 x9_1) x15_2).f3) = 0 then (if ((rd_T45 (rd_L4 l0 x9_1) x15_2).f4) = 0 then (laws_setsOk.l1 k2 l0 (rd_L4 l0 x9_1) l0 (l0.length : Int) x9_1 (rd_L4 l0 x9_1) ((rd_L4 l0 x9_1).length : Int) (wrap64 (x15_2 + 1))) else (some false)) else (some false)) else (some false)) else (laws_setsOk.l1 k2 l0 (rd_L4 l0 x9_1) l0 (l0.length : Int) x9_1 (rd_L4 l0 x9_1) ((rd_L4 l0 x9_1).length : Int) (wrap64 (x15_2 + 1)))) = some r := by rw [← hbq11] at H; exact H
                        have Nbq11 := Aside0.mk hbq11
                        clear hbq11
                        by_cases c12 : bq11 = true
                        · subst c12
                          have H1 : (if ((rd_T45 (rd_L4 l0 x9_1) x15_2).f2) = 0 then (if ((rd_T45 (rd_L4 l0 x9_1) x15_2).f3) = 0 then (if ((rd_T45 (rd_L4 l0 x9_1) x15_2).f4) = 0 then (laws_setsOk.l1 k2 l0 (rd_L4 l0 x9_1) l0 (l0.length : Int) x9_1 (rd_L4 l0 x9_1) ((rd_L4 l0 x9_1).length : Int) (wrap64 (x15_2 + 1))) else (some false)) else (some false)) else (some false)) = some r := by rw [if_pos rfl] at H; exact H
                          clear H
                          have H := H1
                          clear H1
                          by_cases c13 : ((rd_T45 (rd_L4 l0 x9_1) x15_2).f2) = 0
                          · rw [if_pos c13] at H
                            have c13b0 : (((rd_T45 (rd_L4 l0 x9_1) x15_2).f2) == 0) = true := beq_iff_eq.mpr c13
                            have c13b1 : (((rd_T45 (rd_L4 l0 x9_1) x15_2).f2) != 0) = false := bne_eq_false_iff_eq.mpr c13
                            clear c13
                            by_cases c14 : ((rd_T45 (rd_L4 l0 x9_1) x15_2).f3) = 0
                            · rw [if_pos c14] at H
                              have c14b0 : (((rd_T45 (rd_L4 l0 x9_1) x15_2).f3) == 0) = true := beq_iff_eq.mpr c14
                              have c14b1 : (((rd_T45 (rd_L4 l0 x9_1) x15_2).f3) != 0) = false := bne_eq_false_iff_eq.mpr c14
                              clear c14
                              by_cases c15 : ((rd_T45 (rd_L4 l0 x9_1) x15_2).f4) = 0
                              · rw [if_pos c15] at H
                                have c15b0 : (((rd_T45 (rd_L4 l0 x9_1) x15_2).f4) == 0) = true := beq_iff_eq.mpr c15
                                have c15b1 : (((rd_T45 (rd_L4 l0 x9_1) x15_2).f4) != 0) = false := bne_eq_false_iff_eq.mpr c15
                                clear c15
                                have H' := Aside0.mk H
                                clear H
                                have p102 : 0 ≤ (x15_2 : Int) := of_decide_eq_true (by first | (with_reducible assumption) | assumption)
                                have q102 : x15_2 < ((rd_L4 l0 x9_1).length : Int) := of_decide_eq_true (by first | (with_reducible assumption) | assumption)
                                obtain ⟨ad102, e102, hx102_0, hx102_1, hx102_2, hx102_3, hx102_4⟩ := at_T45 HR101_0.out x15_2 p102 q102
                                (try rw [← Nbq11.out] at hx102_1)
                                cases e102
                                replace hx102_0 := (HB.out.cell (World.block_lt_of_cell? w _ hx102_0)).trans hx102_0
                                replace hx102_1 := (HB.out.cell (World.block_lt_of_cell? w _ hx102_1)).trans hx102_1
                                replace hx102_2 := (HB.out.cell (World.block_lt_of_cell? w _ hx102_2)).trans hx102_2
                                replace hx102_3 := (HB.out.cell (World.block_lt_of_cell? w _ hx102_3)).trans hx102_3
                                replace hx102_4 := (HB.out.cell (World.block_lt_of_cell? w _ hx102_4)).trans hx102_4
                                replace p102 := eq_true p102
                                replace q102 := eq_true q102
                                go_wp2_with (first | ((with_reducible refine gate_dst (N := 6) rfl ?_); refine box_event ?hg (N := 6) ?hd (cs := #[.int .u64 0, .bool false, .int .u32 0, .int .u64 0, .int .u32 0]) (t := 45) ?hr ?_; (case hd => rfl); (case hg => rfl); (case hr => first | (go_simp; done) | (go_simp; rfl)); intro gb103 hg w16 hbox hb; have n0_ := Aside0.mk (below_step (by repeat (first | (with_reducible first | exact HB.out | apply below_alloc | apply pw_below_drewN | apply below_drew1) | exact HB.out)) hb); have n1_ := Aside0.mk (hbox); have n2_ := Aside0.mk ((by rw [hg]; exact (below_size (by repeat (first | (with_reducible first | exact HB.out | apply below_alloc | apply pw_below_drewN | apply below_drew1) | exact HB.out))) : w.heap.size ≤ gb103)); have n3_ := Aside0.mk ((by rw [hg]; exact (below_size (by repeat (first | (with_reducible first | exact HB.out | apply below_alloc | apply pw_below_drewN | apply below_drew1) | exact HB.out))) : w.heap.size ≤ gb103)); clear HB; have HB := n0_; have BK103 := n1_; have GW103 := n2_; have GE103 := n3_; clear n0_ n1_ n2_ n3_; clear hb hbox hg; have hcz17_0 : w16.cell? ⟨gb103, 0, none⟩ = some (.int .u64 0) := (blk_cell BK103.out 0).trans rfl; have hcz17_1 : w16.cell? ⟨gb103, 1, none⟩ = some (.bool false) := (blk_cell BK103.out 1).trans rfl; have hcz17_2 : w16.cell? ⟨gb103, 2, none⟩ = some (.int .u32 0) := (blk_cell BK103.out 2).trans rfl; have hcz17_3 : w16.cell? ⟨gb103, 3, none⟩ = some (.int .u64 0) := (blk_cell BK103.out 3).trans rfl; have hcz17_4 : w16.cell? ⟨gb103, 4, none⟩ = some (.int .u32 0) := (blk_cell BK103.out 4).trans rfl; have hfz17_0 := blk_frozen BK103.out 0; have hfz17_1 := blk_frozen BK103.out 1; have hfz17_2 := blk_frozen BK103.out 2; have hfz17_3 := blk_frozen BK103.out 3; have hfz17_4 := blk_frozen BK103.out 4))
                                go_roundg k2
                                case measure => have := HK1.out; have := HK2.out; omega
                                case rel => exact ⟨(wrap64 (x15_2 + 1)), (by first | rfl | (simp; done) | (simp [*]; done)), H', ⟨by have := HK1.out; have := HK2.out; omega⟩, ⟨by repeat (first | (with_reducible first | exact HB.out | apply below_alloc | apply pw_below_drewN | apply below_drew1 | refine below_set ?_ GE103.out) | exact HB.out)⟩⟩
                              · rw [if_neg c15] at H
                                have c15b0 : (((rd_T45 (rd_L4 l0 x9_1) x15_2).f4) == 0) = false := beq_eq_false_iff_ne.mpr c15
                                have c15b1 : (((rd_T45 (rd_L4 l0 x9_1) x15_2).f4) != 0) = true := bne_iff_ne.mpr c15
                                obtain rfl := Option.some.inj H
                                have p102 : 0 ≤ (x15_2 : Int) := of_decide_eq_true (by first | (with_reducible assumption) | assumption)
                                have q102 : x15_2 < ((rd_L4 l0 x9_1).length : Int) := of_decide_eq_true (by first | (with_reducible assumption) | assumption)
                                obtain ⟨ad102, e102, hx102_0, hx102_1, hx102_2, hx102_3, hx102_4⟩ := at_T45 HR101_0.out x15_2 p102 q102
                                (try rw [← Nbq11.out] at hx102_1)
                                cases e102
                                replace hx102_0 := (HB.out.cell (World.block_lt_of_cell? w _ hx102_0)).trans hx102_0
                                replace hx102_1 := (HB.out.cell (World.block_lt_of_cell? w _ hx102_1)).trans hx102_1
                                replace hx102_2 := (HB.out.cell (World.block_lt_of_cell? w _ hx102_2)).trans hx102_2
                                replace hx102_3 := (HB.out.cell (World.block_lt_of_cell? w _ hx102_3)).trans hx102_3
                                replace hx102_4 := (HB.out.cell (World.block_lt_of_cell? w _ hx102_4)).trans hx102_4
                                replace p102 := eq_true p102
                                replace q102 := eq_true q102
                                go_wp2_with (first | ((with_reducible refine gate_dst (N := 6) rfl ?_); refine box_event ?hg (N := 6) ?hd (cs := #[.int .u64 0, .bool false, .int .u32 0, .int .u64 0, .int .u32 0]) (t := 45) ?hr ?_; (case hd => rfl); (case hg => rfl); (case hr => first | (go_simp; done) | (go_simp; rfl)); intro gb103 hg w18 hbox hb; have n0_ := Aside0.mk (below_step (by repeat (first | (with_reducible first | exact HB.out | apply below_alloc | apply pw_below_drewN | apply below_drew1) | exact HB.out)) hb); have n1_ := Aside0.mk (hbox); have n2_ := Aside0.mk ((by rw [hg]; exact (below_size (by repeat (first | (with_reducible first | exact HB.out | apply below_alloc | apply pw_below_drewN | apply below_drew1) | exact HB.out))) : w.heap.size ≤ gb103)); have n3_ := Aside0.mk ((by rw [hg]; exact (below_size (by repeat (first | (with_reducible first | exact HB.out | apply below_alloc | apply pw_below_drewN | apply below_drew1) | exact HB.out))) : w.heap.size ≤ gb103)); clear HB; have HB := n0_; have BK103 := n1_; have GW103 := n2_; have GE103 := n3_; clear n0_ n1_ n2_ n3_; clear hb hbox hg; have hcz19_0 : w18.cell? ⟨gb103, 0, none⟩ = some (.int .u64 0) := (blk_cell BK103.out 0).trans rfl; have hcz19_1 : w18.cell? ⟨gb103, 1, none⟩ = some (.bool false) := (blk_cell BK103.out 1).trans rfl; have hcz19_2 : w18.cell? ⟨gb103, 2, none⟩ = some (.int .u32 0) := (blk_cell BK103.out 2).trans rfl; have hcz19_3 : w18.cell? ⟨gb103, 3, none⟩ = some (.int .u64 0) := (blk_cell BK103.out 3).trans rfl; have hcz19_4 : w18.cell? ⟨gb103, 4, none⟩ = some (.int .u32 0) := (blk_cell BK103.out 4).trans rfl; have hfz19_0 := blk_frozen BK103.out 0; have hfz19_1 := blk_frozen BK103.out 1; have hfz19_2 := blk_frozen BK103.out 2; have hfz19_3 := blk_frozen BK103.out 3; have hfz19_4 := blk_frozen BK103.out 4))
                                go_ret
                                exact ⟨by first | rfl | (simp [errW_none, errW_some] <;> rfl) | (simp [*, errW_none, errW_some] <;> rfl), by repeat (first | (with_reducible first | exact HB.out | apply below_alloc | apply pw_below_drewN | apply below_drew1 | refine below_set ?_ GE103.out) | exact HB.out)⟩
                            · rw [if_neg c14] at H
                              have c14b0 : (((rd_T45 (rd_L4 l0 x9_1) x15_2).f3) == 0) = false := beq_eq_false_iff_ne.mpr c14
                              have c14b1 : (((rd_T45 (rd_L4 l0 x9_1) x15_2).f3) != 0) = true := bne_iff_ne.mpr c14
                              obtain rfl := Option.some.inj H
                              have p102 : 0 ≤ (x15_2 : Int) := of_decide_eq_true (by first | (with_reducible assumption) | assumption)
                              have q102 : x15_2 < ((rd_L4 l0 x9_1).length : Int) := of_decide_eq_true (by first | (with_reducible assumption) | assumption)
                              obtain ⟨ad102, e102, hx102_0, hx102_1, hx102_2, hx102_3, hx102_4⟩ := at_T45 HR101_0.out x15_2 p102 q102
                              (try rw [← Nbq11.out] at hx102_1)
                              cases e102
                              replace hx102_0 := (HB.out.cell (World.block_lt_of_cell? w _ hx102_0)).trans hx102_0
                              replace hx102_1 := (HB.out.cell (World.block_lt_of_cell? w _ hx102_1)).trans hx102_1
                              replace hx102_2 := (HB.out.cell (World.block_lt_of_cell? w _ hx102_2)).trans hx102_2
                              replace hx102_3 := (HB.out.cell (World.block_lt_of_cell? w _ hx102_3)).trans hx102_3
                              replace hx102_4 := (HB.out.cell (World.block_lt_of_cell? w _ hx102_4)).trans hx102_4
                              replace p102 := eq_true p102
                              replace q102 := eq_true q102
                              go_wp2_with (first | ((with_reducible refine gate_dst (N := 6) rfl ?_); refine box_event ?hg (N := 6) ?hd (cs := #[.int .u64 0, .bool false, .int .u32 0, .int .u64 0, .int .u32 0]) (t := 45) ?hr ?_; (case hd => rfl); (case hg => rfl); (case hr => first | (go_simp; done) | (go_simp; rfl)); intro gb103 hg w20 hbox hb; have n0_ := Aside0.mk (below_step (by repeat (first | (with_reducible first | exact HB.out | apply below_alloc | apply pw_below_drewN | apply below_drew1) | exact HB.out)) hb); have n1_ := Aside0.mk (hbox); have n2_ := Aside0.mk ((by rw [hg]; exact (below_size (by repeat (first | (with_reducible first | exact HB.out | apply below_alloc | apply pw_below_drewN | apply below_drew1) | exact HB.out))) : w.heap.size ≤ gb103)); have n3_ := Aside0.mk ((by rw [hg]; exact (below_size (by repeat (first | (with_reducible first | exact HB.out | apply below_alloc | apply pw_below_drewN | apply below_drew1) | exact HB.out))) : w.heap.size ≤ gb103)); clear HB; have HB := n0_; have BK103 := n1_; have GW103 := n2_; have GE103 := n3_; clear n0_ n1_ n2_ n3_; clear hb hbox hg; have hcz21_0 : w20.cell? ⟨gb103, 0, none⟩ = some (.int .u64 0) := (blk_cell BK103.out 0).trans rfl; have hcz21_1 : w20.cell? ⟨gb103, 1, none⟩ = some (.bool false) := (blk_cell BK103.out 1).trans rfl; have hcz21_2 : w20.cell? ⟨gb103, 2, none⟩ = some (.int .u32 0) := (blk_cell BK103.out 2).trans rfl; have hcz21_3 : w20.cell? ⟨gb103, 3, none⟩ = some (.int .u64 0) := (blk_cell BK103.out 3).trans rfl; have hcz21_4 : w20.cell? ⟨gb103, 4, none⟩ = some (.int .u32 0) := (blk_cell BK103.out 4).trans rfl; have hfz21_0 := blk_frozen BK103.out 0; have hfz21_1 := blk_frozen BK103.out 1; have hfz21_2 := blk_frozen BK103.out 2; have hfz21_3 := blk_frozen BK103.out 3; have hfz21_4 := blk_frozen BK103.out 4))
                              go_ret
                              exact ⟨by first | rfl | (simp [errW_none, errW_some] <;> rfl) | (simp [*, errW_none, errW_some] <;> rfl), by repeat (first | (with_reducible first | exact HB.out | apply below_alloc | apply pw_below_drewN | apply below_drew1 | refine below_set ?_ GE103.out) | exact HB.out)⟩
                          · rw [if_neg c13] at H
                            have c13b0 : (((rd_T45 (rd_L4 l0 x9_1) x15_2).f2) == 0) = false := beq_eq_false_iff_ne.mpr c13
                            have c13b1 : (((rd_T45 (rd_L4 l0 x9_1) x15_2).f2) != 0) = true := bne_iff_ne.mpr c13
                            obtain rfl := Option.some.inj H
                            have p102 : 0 ≤ (x15_2 : Int) := of_decide_eq_true (by first | (with_reducible assumption) | assumption)
                            have q102 : x15_2 < ((rd_L4 l0 x9_1).length : Int) := of_decide_eq_true (by first | (with_reducible assumption) | assumption)
                            obtain ⟨ad102, e102, hx102_0, hx102_1, hx102_2, hx102_3, hx102_4⟩ := at_T45 HR101_0.out x15_2 p102 q102
                            (try rw [← Nbq11.out] at hx102_1)
                            cases e102
                            replace hx102_0 := (HB.out.cell (World.block_lt_of_cell? w _ hx102_0)).trans hx102_0
                            replace hx102_1 := (HB.out.cell (World.block_lt_of_cell? w _ hx102_1)).trans hx102_1
                            replace hx102_2 := (HB.out.cell (World.block_lt_of_cell? w _ hx102_2)).trans hx102_2
                            replace hx102_3 := (HB.out.cell (World.block_lt_of_cell? w _ hx102_3)).trans hx102_3
                            replace hx102_4 := (HB.out.cell (World.block_lt_of_cell? w _ hx102_4)).trans hx102_4
                            replace p102 := eq_true p102
                            replace q102 := eq_true q102
                            go_wp2_with (first | ((with_reducible refine gate_dst (N := 6) rfl ?_); refine box_event ?hg (N := 6) ?hd (cs := #[.int .u64 0, .bool false, .int .u32 0, .int .u64 0, .int .u32 0]) (t := 45) ?hr ?_; (case hd => rfl); (case hg => rfl); (case hr => first | (go_simp; done) | (go_simp; rfl)); intro gb103 hg w22 hbox hb; have n0_ := Aside0.mk (below_step (by repeat (first | (with_reducible first | exact HB.out | apply below_alloc | apply pw_below_drewN | apply below_drew1) | exact HB.out)) hb); have n1_ := Aside0.mk (hbox); have n2_ := Aside0.mk ((by rw [hg]; exact (below_size (by repeat (first | (with_reducible first | exact HB.out | apply below_alloc | apply pw_below_drewN | apply below_drew1) | exact HB.out))) : w.heap.size ≤ gb103)); have n3_ := Aside0.mk ((by rw [hg]; exact (below_size (by repeat (first | (with_reducible first | exact HB.out | apply below_alloc | apply pw_below_drewN | apply below_drew1) | exact HB.out))) : w.heap.size ≤ gb103)); clear HB; have HB := n0_; have BK103 := n1_; have GW103 := n2_; have GE103 := n3_; clear n0_ n1_ n2_ n3_; clear hb hbox hg; have hcz23_0 : w22.cell? ⟨gb103, 0, none⟩ = some (.int .u64 0) := (blk_cell BK103.out 0).trans rfl; have hcz23_1 : w22.cell? ⟨gb103, 1, none⟩ = some (.bool false) := (blk_cell BK103.out 1).trans rfl; have hcz23_2 : w22.cell? ⟨gb103, 2, none⟩ = some (.int .u32 0) := (blk_cell BK103.out 2).trans rfl; have hcz23_3 : w22.cell? ⟨gb103, 3, none⟩ = some (.int .u64 0) := (blk_cell BK103.out 3).trans rfl; have hcz23_4 : w22.cell? ⟨gb103, 4, none⟩ = some (.int .u32 0) := (blk_cell BK103.out 4).trans rfl; have hfz23_0 := blk_frozen BK103.out 0; have hfz23_1 := blk_frozen BK103.out 1; have hfz23_2 := blk_frozen BK103.out 2; have hfz23_3 := blk_frozen BK103.out 3; have hfz23_4 := blk_frozen BK103.out 4))
                            go_ret
                            exact ⟨by first | rfl | (simp [errW_none, errW_some] <;> rfl) | (simp [*, errW_none, errW_some] <;> rfl), by repeat (first | (with_reducible first | exact HB.out | apply below_alloc | apply pw_below_drewN | apply below_drew1 | refine below_set ?_ GE103.out) | exact HB.out)⟩
                        · replace c12 := Bool.eq_false_iff.mpr c12
                          subst c12
                          have H1 : (laws_setsOk.l1 k2 l0 (rd_L4 l0 x9_1) l0 (l0.length : Int) x9_1 (rd_L4 l0 x9_1) ((rd_L4 l0 x9_1).length : Int) (wrap64 (x15_2 + 1))) = some r := by rw [if_neg (show ¬ (false = true) by decide)] at H; exact H
                          clear H
                          have H := H1
                          clear H1
                          have H' := Aside0.mk H
                          clear H
                          have p102 : 0 ≤ (x15_2 : Int) := of_decide_eq_true (by first | (with_reducible assumption) | assumption)
                          have q102 : x15_2 < ((rd_L4 l0 x9_1).length : Int) := of_decide_eq_true (by first | (with_reducible assumption) | assumption)
                          obtain ⟨ad102, e102, hx102_0, hx102_1, hx102_2, hx102_3, hx102_4⟩ := at_T45 HR101_0.out x15_2 p102 q102
                          (try rw [← Nbq11.out] at hx102_1)
                          cases e102
                          replace hx102_0 := (HB.out.cell (World.block_lt_of_cell? w _ hx102_0)).trans hx102_0
                          replace hx102_1 := (HB.out.cell (World.block_lt_of_cell? w _ hx102_1)).trans hx102_1
                          replace hx102_2 := (HB.out.cell (World.block_lt_of_cell? w _ hx102_2)).trans hx102_2
                          replace hx102_3 := (HB.out.cell (World.block_lt_of_cell? w _ hx102_3)).trans hx102_3
                          replace hx102_4 := (HB.out.cell (World.block_lt_of_cell? w _ hx102_4)).trans hx102_4
                          replace p102 := eq_true p102
                          replace q102 := eq_true q102
                          go_wp2_with (first | ((with_reducible refine gate_dst (N := 6) rfl ?_); refine box_event ?hg (N := 6) ?hd (cs := #[.int .u64 0, .bool false, .int .u32 0, .int .u64 0, .int .u32 0]) (t := 45) ?hr ?_; (case hd => rfl); (case hg => rfl); (case hr => first | (go_simp; done) | (go_simp; rfl)); intro gb103 hg w24 hbox hb; have n0_ := Aside0.mk (below_step (by repeat (first | (with_reducible first | exact HB.out | apply below_alloc | apply pw_below_drewN | apply below_drew1) | exact HB.out)) hb); have n1_ := Aside0.mk (hbox); have n2_ := Aside0.mk ((by rw [hg]; exact (below_size (by repeat (first | (with_reducible first | exact HB.out | apply below_alloc | apply pw_below_drewN | apply below_drew1) | exact HB.out))) : w.heap.size ≤ gb103)); have n3_ := Aside0.mk ((by rw [hg]; exact (below_size (by repeat (first | (with_reducible first | exact HB.out | apply below_alloc | apply pw_below_drewN | apply below_drew1) | exact HB.out))) : w.heap.size ≤ gb103)); clear HB; have HB := n0_; have BK103 := n1_; have GW103 := n2_; have GE103 := n3_; clear n0_ n1_ n2_ n3_; clear hb hbox hg; have hcz25_0 : w24.cell? ⟨gb103, 0, none⟩ = some (.int .u64 0) := (blk_cell BK103.out 0).trans rfl; have hcz25_1 : w24.cell? ⟨gb103, 1, none⟩ = some (.bool false) := (blk_cell BK103.out 1).trans rfl; have hcz25_2 : w24.cell? ⟨gb103, 2, none⟩ = some (.int .u32 0) := (blk_cell BK103.out 2).trans rfl; have hcz25_3 : w24.cell? ⟨gb103, 3, none⟩ = some (.int .u64 0) := (blk_cell BK103.out 3).trans rfl; have hcz25_4 : w24.cell? ⟨gb103, 4, none⟩ = some (.int .u32 0) := (blk_cell BK103.out 4).trans rfl; have hfz25_0 := blk_frozen BK103.out 0; have hfz25_1 := blk_frozen BK103.out 1; have hfz25_2 := blk_frozen BK103.out 2; have hfz25_3 := blk_frozen BK103.out 3; have hfz25_4 := blk_frozen BK103.out 4))
                          go_roundg k2
                          case measure => have := HK1.out; have := HK2.out; omega
                          case rel => exact ⟨(wrap64 (x15_2 + 1)), (by first | rfl | (simp; done) | (simp [*]; done)), H', ⟨by have := HK1.out; have := HK2.out; omega⟩, ⟨by repeat (first | (with_reducible first | exact HB.out | apply below_alloc | apply pw_below_drewN | apply below_drew1 | refine below_set ?_ GE103.out) | exact HB.out)⟩⟩
                    · rw [if_neg c7] at H
                      exact absurd H (by simp)
                  · rw [if_neg c6] at H
                    exact absurd H (by simp)
                · rw [if_neg c5] at H
                  have c5b0 : decide (x15_2 < ((rd_L4 l0 x9_1).length : Int)) = false := decide_eq_false c5
                  clear c5
                  by_cases c26 : ((rd_L4 l0 x9_1).length : Int) > 20
                  · rw [if_pos c26] at H
                    have c26b0 : decide (20 < ((rd_L4 l0 x9_1).length : Int)) = true := decide_eq_true c26
                    have c26b1 : decide (20 < (rd_L4 l0 x9_1).length) = true := decide_eq_true (by omega)
                    clear c26
                    obtain rfl := Option.some.inj H
                    go_wp2
                    go_ret
                    exact ⟨by first | rfl | (simp [errW_none, errW_some] <;> rfl) | (simp [*, errW_none, errW_some] <;> rfl), by repeat (first | (with_reducible first | exact HB.out | apply below_alloc | apply pw_below_drewN | apply below_drew1) | exact HB.out)⟩
                  · rw [if_neg c26] at H
                    have c26b0 : decide (20 < ((rd_L4 l0 x9_1).length : Int)) = false := decide_eq_false c26
                    have c26b1 : decide (20 < (rd_L4 l0 x9_1).length) = false := decide_eq_false (by omega)
                    clear c26
                    have H' := Aside0.mk H
                    clear H
                    go_wp2
                    go_roundg k2
                    case measure => have := HK1.out; have := HK2.out; omega
                    case rel => exact ⟨(wrap64 (x9_1 + 1)), (by first | rfl | (simp; done) | (simp [*]; done)), H', ⟨by have := HK1.out; have := HK2.out; omega⟩, ⟨by repeat (first | (with_reducible first | exact HB.out | apply below_alloc | apply pw_below_drewN | apply below_drew1) | exact HB.out)⟩⟩
          · rw [if_neg c4] at H
            exact absurd H (by simp)
        · rw [if_neg c3] at H
          exact absurd H (by simp)
      · rw [if_neg c2] at H
        have c2b0 : decide (x9_1 < (l0.length : Int)) = false := decide_eq_false c2
        clear c2
        obtain rfl := Option.some.inj H
        go_wp2
        go_ret
        exact ⟨by first | rfl | (simp [errW_none, errW_some] <;> rfl) | (simp [*, errW_none, errW_some] <;> rfl), by repeat (first | (with_reducible first | exact HB.out | apply below_alloc | apply pw_below_drewN | apply below_drew1) | exact HB.out)⟩

/-! ### laws_zzFits14: function 8 -/
def laws_zzFits14.l0 : Nat → List (List (S45)) → Int → Int → Option (Bool)
  | 0, _, _, _ => none
  | k + 1, x8, x9, x10 => if x10 < x9 then (if 0 ≤ x10 then (if x10 < (x8.length : Int) then (if ((rd_L4 x8 x10).length : Int) > 2147483647 then (some false) else (laws_zzFits14.l0 k x8 x9 (wrap64 (x10 + 1)))) else (none)) else (none)) else (some true)
def laws_zzFits14.f (k : Nat) (l0 : List (List (S45))) : Option (Bool) := if (l0.length : Int) > 2147483647 then (some false) else (laws_zzFits14.l0 k l0 (l0.length : Int) 0)
theorem laws_zzFits14.mono_l : ∀ k, (∀ y0 y1 y2, LeO (laws_zzFits14.l0 k y0 y1 y2) (laws_zzFits14.l0 (k + 1) y0 y1 y2))
  | 0 => fun _ _ _ r h => by simp [laws_zzFits14.l0] at h
  | k + 1 => by
    have ih0 := laws_zzFits14.mono_l k
    · intro y0 y1 y2
      unfold laws_zzFits14.l0
      repeat' first
      | (with_reducible exact ih0 _ _ _)
      | (with_reducible exact LeO.refl _)
      | (with_reducible exact LeO.none _)
      | (with_reducible refine LeO.ite ?_ ?_)
      | (with_reducible refine LeO.bind ?_ (fun _ => ?_))
      | exact ih0 _ _ _
      | exact LeO.none _
      | refine LeO.ite ?_ ?_
      | refine LeO.bind ?_ (fun _ => ?_)
theorem laws_zzFits14.mono : ∀ a0 k, LeO (laws_zzFits14.f k a0) (laws_zzFits14.f (k + 1) a0) := by
  intro a0 k
  have ih0 := laws_zzFits14.mono_l k
  unfold laws_zzFits14.f
  repeat' first
      | (with_reducible exact ih0 _ _ _)
      | (with_reducible exact LeO.refl _)
      | (with_reducible exact LeO.none _)
      | (with_reducible refine LeO.ite ?_ ?_)
      | (with_reducible refine LeO.bind ?_ (fun _ => ?_))
      | exact ih0 _ _ _
      | exact LeO.none _
      | refine LeO.ite ?_ ?_
      | refine LeO.bind ?_ (fun _ => ?_)
set_option maxHeartbeats 8000000 in
set_option maxRecDepth 100000 in
theorem laws_zzFits14.calls (k : Nat) (A0 : Option Addr) (c0 : Nat) (l0 : List (List (S45))) (r : Bool) (w : World) (hr0 : Kd.C (Kd.slice 45 k45) w A0 l0.length l0) (hc0 : l0.length ≤ c0) (h : laws_zzFits14.f k l0 = some r) :
    Calls Tryd.prog 8 #[.slice A0 l0.length c0] w fun e w' => e = .returned (.bool r) ∧ Drawn0 w w' := by
  have HR0 := Aside0.mk hr0
  have HC0 := Aside0.mk hc0
  clear hr0 hc0
  have H : (if (l0.length : Int) > 2147483647 then (some false) else (laws_zzFits14.l0 k l0 (l0.length : Int) 0)) = some r := h
  clear h
  by_cases c2 : (l0.length : Int) > 2147483647
  · rw [if_pos c2] at H
    have c2b0 : decide (2147483647 < (l0.length : Int)) = true := decide_eq_true c2
    have c2b1 : decide (2147483647 < l0.length) = true := decide_eq_true (by omega)
    clear c2
    obtain rfl := Option.some.inj H
    go_enter Tryd.func8, Tryd.ntmps8
    go_wp2
    go_ret
    exact ⟨by first | rfl | (simp; done) | (simp [*]; done), by repeat (first | exact Drawn0.refl _ | apply Drawn0.step)⟩
  · rw [if_neg c2] at H
    have c2b0 : decide (2147483647 < (l0.length : Int)) = false := decide_eq_false c2
    have c2b1 : decide (2147483647 < l0.length) = false := decide_eq_false (by omega)
    clear c2
    have H' := Aside0.mk H
    clear H
    go_enter Tryd.func8, Tryd.ntmps8
    go_wp2
    go_loopg [10] k (fun kq v10 w' => ∃ (x10_1 : Int), v10 = .int .i64 x10_1 ∧ Aside0 (laws_zzFits14.l0 kq l0 (l0.length : Int) x10_1 = some r) ∧ Aside0 (kq ≤ k) ∧ Drawn0 w w')
    case atStart => exact ⟨(0), (by first | rfl | (simp; done) | (simp [*]; done)), H', ⟨Nat.le_refl _⟩, by repeat (first | exact Drawn0.refl _ | apply Drawn0.step)⟩
    case round =>
      clear H'
      try clear c2
      try clear c2b0
      try clear c2b1
      try clear p2
      obtain ⟨x10_1, rfl, HA, HK1, ⟨m1, rfl⟩⟩ := hrel
      cases gk with
      | zero => exact absurd HA.out (by simp [laws_zzFits14.l0])
      | succ k1 =>
        have H := HA.out
        clear HA
        simp only [laws_zzFits14.l0] at H
        by_cases c3 : x10_1 < (l0.length : Int)
        · rw [if_pos c3] at H
          have c3b0 : decide (x10_1 < (l0.length : Int)) = true := decide_eq_true c3
          clear c3
          by_cases c4 : 0 ≤ x10_1
          · rw [if_pos c4] at H
            have c4b0 : decide (0 ≤ x10_1) = true := decide_eq_true c4
            clear c4
            by_cases c5 : x10_1 < (l0.length : Int)
            · rw [if_pos c5] at H
              have c5b0 : decide (x10_1 < (l0.length : Int)) = true := decide_eq_true c5
              clear c5
              by_cases c6 : ((rd_L4 l0 x10_1).length : Int) > 2147483647
              · rw [if_pos c6] at H
                have c6b0 : decide (2147483647 < ((rd_L4 l0 x10_1).length : Int)) = true := decide_eq_true c6
                have c6b1 : decide (2147483647 < (rd_L4 l0 x10_1).length) = true := decide_eq_true (by omega)
                clear c6
                obtain rfl := Option.some.inj H
                have p104 : 0 ≤ (x10_1 : Int) := of_decide_eq_true (by first | (with_reducible assumption) | assumption)
                have q104 : x10_1 < (l0.length : Int) := of_decide_eq_true (by first | (with_reducible assumption) | assumption)
                obtain ⟨ad104, A104_0, c104_0, e104, hx104_0, hl104_0, hi104_0⟩ := at_L4 HR0.out x10_1 p104 q104
                cases e104
                have HR104_0 := Aside0.mk hi104_0
                have HC104_0 := Aside0.mk hl104_0
                clear hi104_0 hl104_0
                replace p104 := eq_true p104
                replace q104 := eq_true q104
                go_wp2
                go_ret
                exact ⟨by first | rfl | (simp; done) | (simp [*]; done), by repeat (first | exact Drawn0.refl _ | apply Drawn0.step)⟩
              · rw [if_neg c6] at H
                have c6b0 : decide (2147483647 < ((rd_L4 l0 x10_1).length : Int)) = false := decide_eq_false c6
                have c6b1 : decide (2147483647 < (rd_L4 l0 x10_1).length) = false := decide_eq_false (by omega)
                clear c6
                have H' := Aside0.mk H
                clear H
                have p104 : 0 ≤ (x10_1 : Int) := of_decide_eq_true (by first | (with_reducible assumption) | assumption)
                have q104 : x10_1 < (l0.length : Int) := of_decide_eq_true (by first | (with_reducible assumption) | assumption)
                obtain ⟨ad104, A104_0, c104_0, e104, hx104_0, hl104_0, hi104_0⟩ := at_L4 HR0.out x10_1 p104 q104
                cases e104
                have HR104_0 := Aside0.mk hi104_0
                have HC104_0 := Aside0.mk hl104_0
                clear hi104_0 hl104_0
                replace p104 := eq_true p104
                replace q104 := eq_true q104
                go_wp2
                go_roundg k1
                case measure => have := HK1.out; omega
                case rel => exact ⟨(wrap64 (x10_1 + 1)), (by first | rfl | (simp; done) | (simp [*]; done)), H', ⟨by have := HK1.out; omega⟩, by repeat (first | exact Drawn0.refl _ | apply Drawn0.step)⟩
            · rw [if_neg c5] at H
              exact absurd H (by simp)
          · rw [if_neg c4] at H
            exact absurd H (by simp)
        · rw [if_neg c3] at H
          have c3b0 : decide (x10_1 < (l0.length : Int)) = false := decide_eq_false c3
          clear c3
          obtain rfl := Option.some.inj H
          go_wp2
          go_ret
          exact ⟨by first | rfl | (simp; done) | (simp [*]; done), by repeat (first | exact Drawn0.refl _ | apply Drawn0.step)⟩

end Go.Proofs.YtpfmmbhbmdbmeaaDoorQ.QT
