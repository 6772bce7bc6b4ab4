-- Lines that a program has printed for this claim: functions as plain Lean functions, and their walks.
import Derived.Test.YtpfmmbhbmdbmeaaGreatDoorQL0
import Derived.Test.YtpfmmbhbmdbmeaaGreatDoorMK
namespace Go.Proofs.YtpfmmbhbmdbmeaaGreatDoorQ.QL
open Go.RowKit Go.Proofs.YtpfmmbhbmdbmeaaGreatDoorQ.Ext Go.Proofs.YtpfmmbhbmdbmeaaGreatDoorW.PrintWords Go.Proofs.YtpfmmbhbmdbmeaaGreatDoorW.PrintLast Go.Proofs.YtpfmmbhbmdbmeaaGreatDoorW.PrintMore
attribute [local go_sem] max2_int min2_int max_two min_two max_three min_three max_four min_four   -- for this text's walks alone
set_option linter.unusedVariables false
set_option linter.unusedSimpArgs false

/-! ### laws_zzFits10: function 35 -/
def laws_zzFits10.f (l0_0 : List Int) (l0_1 : List Int) (a0_2 : Int) (a0_3 : Int) (a0_4 : Int) : Option (Bool) := if (l0_0.length : Int) > 2147483647 then (some false) else (if (l0_1.length : Int) > 2147483647 then (some false) else (some true))
set_option maxHeartbeats 8000000 in
set_option maxRecDepth 100000 in
theorem laws_zzFits10.calls (A0_0 : Option Addr) (c0_0 : Nat) (l0_0 : List Int) (A0_1 : Option Addr) (c0_1 : Nat) (l0_1 : List Int) (a0_2 : Int) (a0_3 : Int) (a0_4 : Int) (r : Bool) (w : World) (hr0_0 : Kd.C (Kd.int .u8) w A0_0 l0_0.length l0_0) (hc0_0 : l0_0.length ≤ c0_0) (hr0_1 : Kd.C (Kd.int .u8) w A0_1 l0_1.length l0_1) (hc0_1 : l0_1.length ≤ c0_1) (h : laws_zzFits10.f l0_0 l0_1 a0_2 a0_3 a0_4 = some r) :
    Calls Tryz.prog 35 #[.agg #[.slice A0_0 l0_0.length c0_0, .slice A0_1 l0_1.length c0_1, .int .u64 a0_2, .int .u8 a0_3, .int .u8 a0_4]] w fun e w' => e = .returned (.bool r) ∧ Below w.heap.size w w' := by
  have hu31 := Tryz.underlying31
  have HR0_0 := Aside0.mk hr0_0
  have HC0_0 := Aside0.mk hc0_0
  clear hr0_0 hc0_0
  have HR0_1 := Aside0.mk hr0_1
  have HC0_1 := Aside0.mk hc0_1
  clear hr0_1 hc0_1
  have HB := Aside0.mk (Below.refl w.heap.size w)
  have H : (if (l0_0.length : Int) > 2147483647 then (some false) else (if (l0_1.length : Int) > 2147483647 then (some false) else (some true))) = some r := h
  clear h
  by_cases c2 : (l0_0.length : Int) > 2147483647
  · rw [if_pos c2] at H
    have c2b0 : decide (2147483647 < (l0_0.length : Int)) = true := decide_eq_true c2
    have c2b1 : decide (2147483647 < l0_0.length) = true := decide_eq_true (by omega)
    clear c2
    obtain rfl := Option.some.inj H
    go_enter Tryz.func35, Tryz.ntmps35
    go_wp2_with (first | ((with_reducible refine gate_dst (N := 1) rfl ?_); refine box_event ?hg (N := 1) ?hd (cs := #[.slice A0_0 l0_0.length c0_0, .slice A0_1 l0_1.length c0_1, .int .u64 a0_2, .int .u8 a0_3, .int .u8 a0_4]) (t := 31) ?hr ?_; (case hd => rfl); (case hg => rfl); (case hr => first | (go_simp; done) | (go_simp; rfl)); intro gb107 hg w3 hbox hb; have n0_ := Aside0.mk (below_step (by repeat (first | (with_reducible first | exact HB.out | apply below_alloc | apply pw_below_drewN | apply below_drew1) | exact HB.out)) hb); have n1_ := Aside0.mk (hbox); have n2_ := Aside0.mk ((by rw [hg]; exact (below_size (by repeat (first | (with_reducible first | exact HB.out | apply below_alloc | apply pw_below_drewN | apply below_drew1) | exact HB.out))) : w.heap.size ≤ gb107)); have n3_ := Aside0.mk ((by rw [hg]; exact (below_size (by repeat (first | (with_reducible first | exact HB.out | apply below_alloc | apply pw_below_drewN | apply below_drew1) | exact HB.out))) : w.heap.size ≤ gb107)); clear HB; have HB := n0_; have BK107 := n1_; have GW107 := n2_; have GE107 := n3_; clear n0_ n1_ n2_ n3_; clear hb hbox hg; have hcz4_0 : w3.cell? ⟨gb107, 0, none⟩ = some (.slice A0_0 l0_0.length c0_0) := (blk_cell BK107.out 0).trans rfl; have hcz4_1 : w3.cell? ⟨gb107, 1, none⟩ = some (.slice A0_1 l0_1.length c0_1) := (blk_cell BK107.out 1).trans rfl; have hcz4_2 : w3.cell? ⟨gb107, 2, none⟩ = some (.int .u64 a0_2) := (blk_cell BK107.out 2).trans rfl; have hcz4_3 : w3.cell? ⟨gb107, 3, none⟩ = some (.int .u8 a0_3) := (blk_cell BK107.out 3).trans rfl; have hcz4_4 : w3.cell? ⟨gb107, 4, none⟩ = some (.int .u8 a0_4) := (blk_cell BK107.out 4).trans rfl; have hfz4_0 := blk_frozen BK107.out 0; have hfz4_1 := blk_frozen BK107.out 1; have hfz4_2 := blk_frozen BK107.out 2; have hfz4_3 := blk_frozen BK107.out 3; have hfz4_4 := blk_frozen BK107.out 4))
    go_ret
    exact ⟨by first | rfl | (simp [errW_none, errW_some] <;> rfl) | (simp [*, errW_none, errW_some] <;> rfl), by repeat (first | (with_reducible first | exact HB.out | apply below_alloc | apply pw_below_drewN | apply below_drew1 | refine below_set ?_ GE107.out) | exact HB.out)⟩
  · rw [if_neg c2] at H
    have c2b0 : decide (2147483647 < (l0_0.length : Int)) = false := decide_eq_false c2
    have c2b1 : decide (2147483647 < l0_0.length) = false := decide_eq_false (by omega)
    clear c2
    by_cases c5 : (l0_1.length : Int) > 2147483647
    · rw [if_pos c5] at H
      have c5b0 : decide (2147483647 < (l0_1.length : Int)) = true := decide_eq_true c5
      have c5b1 : decide (2147483647 < l0_1.length) = true := decide_eq_true (by omega)
      clear c5
      obtain rfl := Option.some.inj H
      go_enter Tryz.func35, Tryz.ntmps35
      go_wp2_with (first | ((with_reducible refine gate_dst (N := 1) rfl ?_); refine box_event ?hg (N := 1) ?hd (cs := #[.slice A0_0 l0_0.length c0_0, .slice A0_1 l0_1.length c0_1, .int .u64 a0_2, .int .u8 a0_3, .int .u8 a0_4]) (t := 31) ?hr ?_; (case hd => rfl); (case hg => rfl); (case hr => first | (go_simp; done) | (go_simp; rfl)); intro gb107 hg w6 hbox hb; have n0_ := Aside0.mk (below_step (by repeat (first | (with_reducible first | exact HB.out | apply below_alloc | apply pw_below_drewN | apply below_drew1) | exact HB.out)) hb); have n1_ := Aside0.mk (hbox); have n2_ := Aside0.mk ((by rw [hg]; exact (below_size (by repeat (first | (with_reducible first | exact HB.out | apply below_alloc | apply pw_below_drewN | apply below_drew1) | exact HB.out))) : w.heap.size ≤ gb107)); have n3_ := Aside0.mk ((by rw [hg]; exact (below_size (by repeat (first | (with_reducible first | exact HB.out | apply below_alloc | apply pw_below_drewN | apply below_drew1) | exact HB.out))) : w.heap.size ≤ gb107)); clear HB; have HB := n0_; have BK107 := n1_; have GW107 := n2_; have GE107 := n3_; clear n0_ n1_ n2_ n3_; clear hb hbox hg; have hcz7_0 : w6.cell? ⟨gb107, 0, none⟩ = some (.slice A0_0 l0_0.length c0_0) := (blk_cell BK107.out 0).trans rfl; have hcz7_1 : w6.cell? ⟨gb107, 1, none⟩ = some (.slice A0_1 l0_1.length c0_1) := (blk_cell BK107.out 1).trans rfl; have hcz7_2 : w6.cell? ⟨gb107, 2, none⟩ = some (.int .u64 a0_2) := (blk_cell BK107.out 2).trans rfl; have hcz7_3 : w6.cell? ⟨gb107, 3, none⟩ = some (.int .u8 a0_3) := (blk_cell BK107.out 3).trans rfl; have hcz7_4 : w6.cell? ⟨gb107, 4, none⟩ = some (.int .u8 a0_4) := (blk_cell BK107.out 4).trans rfl; have hfz7_0 := blk_frozen BK107.out 0; have hfz7_1 := blk_frozen BK107.out 1; have hfz7_2 := blk_frozen BK107.out 2; have hfz7_3 := blk_frozen BK107.out 3; have hfz7_4 := blk_frozen BK107.out 4))
      go_ret
      exact ⟨by first | rfl | (simp [errW_none, errW_some] <;> rfl) | (simp [*, errW_none, errW_some] <;> rfl), by repeat (first | (with_reducible first | exact HB.out | apply below_alloc | apply pw_below_drewN | apply below_drew1 | refine below_set ?_ GE107.out) | exact HB.out)⟩
    · rw [if_neg c5] at H
      have c5b0 : decide (2147483647 < (l0_1.length : Int)) = false := decide_eq_false c5
      have c5b1 : decide (2147483647 < l0_1.length) = false := decide_eq_false (by omega)
      clear c5
      obtain rfl := Option.some.inj H
      go_enter Tryz.func35, Tryz.ntmps35
      go_wp2_with (first | ((with_reducible refine gate_dst (N := 1) rfl ?_); refine box_event ?hg (N := 1) ?hd (cs := #[.slice A0_0 l0_0.length c0_0, .slice A0_1 l0_1.length c0_1, .int .u64 a0_2, .int .u8 a0_3, .int .u8 a0_4]) (t := 31) ?hr ?_; (case hd => rfl); (case hg => rfl); (case hr => first | (go_simp; done) | (go_simp; rfl)); intro gb107 hg w8 hbox hb; have n0_ := Aside0.mk (below_step (by repeat (first | (with_reducible first | exact HB.out | apply below_alloc | apply pw_below_drewN | apply below_drew1) | exact HB.out)) hb); have n1_ := Aside0.mk (hbox); have n2_ := Aside0.mk ((by rw [hg]; exact (below_size (by repeat (first | (with_reducible first | exact HB.out | apply below_alloc | apply pw_below_drewN | apply below_drew1) | exact HB.out))) : w.heap.size ≤ gb107)); have n3_ := Aside0.mk ((by rw [hg]; exact (below_size (by repeat (first | (with_reducible first | exact HB.out | apply below_alloc | apply pw_below_drewN | apply below_drew1) | exact HB.out))) : w.heap.size ≤ gb107)); clear HB; have HB := n0_; have BK107 := n1_; have GW107 := n2_; have GE107 := n3_; clear n0_ n1_ n2_ n3_; clear hb hbox hg; have hcz9_0 : w8.cell? ⟨gb107, 0, none⟩ = some (.slice A0_0 l0_0.length c0_0) := (blk_cell BK107.out 0).trans rfl; have hcz9_1 : w8.cell? ⟨gb107, 1, none⟩ = some (.slice A0_1 l0_1.length c0_1) := (blk_cell BK107.out 1).trans rfl; have hcz9_2 : w8.cell? ⟨gb107, 2, none⟩ = some (.int .u64 a0_2) := (blk_cell BK107.out 2).trans rfl; have hcz9_3 : w8.cell? ⟨gb107, 3, none⟩ = some (.int .u8 a0_3) := (blk_cell BK107.out 3).trans rfl; have hcz9_4 : w8.cell? ⟨gb107, 4, none⟩ = some (.int .u8 a0_4) := (blk_cell BK107.out 4).trans rfl; have hfz9_0 := blk_frozen BK107.out 0; have hfz9_1 := blk_frozen BK107.out 1; have hfz9_2 := blk_frozen BK107.out 2; have hfz9_3 := blk_frozen BK107.out 3; have hfz9_4 := blk_frozen BK107.out 4))
      go_ret
      exact ⟨by first | rfl | (simp [errW_none, errW_some] <;> rfl) | (simp [*, errW_none, errW_some] <;> rfl), by repeat (first | (with_reducible first | exact HB.out | apply below_alloc | apply pw_below_drewN | apply below_drew1 | refine below_set ?_ GE107.out) | exact HB.out)⟩

/-! ### laws_zzFits13: function 28 -/
def laws_zzFits13.l0 : Nat → List (S31) → Int → Int → Option (Bool)
  | 0, _, _, _ => none
  | k + 1, x8, x9, x10 => if x10 < x9 then (if 0 ≤ x10 then (if x10 < (x8.length : Int) then ((laws_zzFits10.f ((rd_T31 x8 x10).f0) ((rd_T31 x8 x10).f1) ((rd_T31 x8 x10).f2) ((rd_T31 x8 x10).f3) ((rd_T31 x8 x10).f4)).bind fun t110 => (if t110 = true then (laws_zzFits13.l0 k x8 x9 (wrap64 (x10 + 1))) else (some false))) else (none)) else (none)) else (some true)
def laws_zzFits13.f (k : Nat) (l0 : List (S31)) : Option (Bool) := if (l0.length : Int) > 2147483647 then (some false) else (laws_zzFits13.l0 k l0 (l0.length : Int) 0)
set_option maxHeartbeats 8000000 in
set_option maxRecDepth 100000 in
theorem laws_zzFits13.calls (k : Nat) (A0 : Option Addr) (c0 : Nat) (l0 : List (S31)) (r : Bool) (w : World) (hr0 : Kd.C k31 w A0 l0.length l0) (hc0 : l0.length ≤ c0) (h : laws_zzFits13.f k l0 = some r) :
    Calls Tryz.prog 28 #[.slice A0 l0.length c0] w fun e w' => e = .returned (.bool r) ∧ Below w.heap.size w w' := by
  have hu31 := Tryz.underlying31
  have HR0 := Aside0.mk hr0
  have HC0 := Aside0.mk hc0
  clear hr0 hc0
  have HB := Aside0.mk (Below.refl w.heap.size w)
  have H : (if (l0.length : Int) > 2147483647 then (some false) else (laws_zzFits13.l0 k l0 (l0.length : Int) 0)) = some r := h
  clear h
  by_cases c2 : (l0.length : Int) > 2147483647
  · rw [if_pos c2] at H
    have c2b0 : decide (2147483647 < (l0.length : Int)) = true := decide_eq_true c2
    have c2b1 : decide (2147483647 < l0.length) = true := decide_eq_true (by omega)
    clear c2
    obtain rfl := Option.some.inj H
    go_enter Tryz.func28, Tryz.ntmps28
    go_wp2
    go_ret
    exact ⟨by first | rfl | (simp [errW_none, errW_some] <;> rfl) | (simp [*, errW_none, errW_some] <;> rfl), by repeat (first | (with_reducible first | exact HB.out | apply below_alloc | apply pw_below_drewN | apply below_drew1) | exact HB.out)⟩
  · rw [if_neg c2] at H
    have c2b0 : decide (2147483647 < (l0.length : Int)) = false := decide_eq_false c2
    have c2b1 : decide (2147483647 < l0.length) = false := decide_eq_false (by omega)
    clear c2
    have H' := Aside0.mk H
    clear H
    go_enter Tryz.func28, Tryz.ntmps28
    go_wp2
    go_loopg [10] k (fun kq v10 w' => ∃ (x10_1 : Int), v10 = .int .i64 x10_1 ∧ Aside0 (laws_zzFits13.l0 kq l0 (l0.length : Int) x10_1 = some r) ∧ Aside0 (kq ≤ k) ∧ Aside0 (Below w.heap.size w w'))
    case atStart => exact ⟨(0), (by first | rfl | (simp; done) | (simp [*]; done)), H', ⟨Nat.le_refl _⟩, ⟨by repeat (first | (with_reducible first | exact HB.out | apply below_alloc | apply pw_below_drewN | apply below_drew1) | exact HB.out)⟩⟩
    case round =>
      clear H'
      try clear c2
      try clear c2b0
      try clear c2b1
      try clear p2
      obtain ⟨x10_1, rfl, HA, HK1, HB⟩ := hrel
      cases gk with
      | zero => exact absurd HA.out (by simp [laws_zzFits13.l0])
      | succ k1 =>
        have H := HA.out
        clear HA
        simp only [laws_zzFits13.l0] at H
        by_cases c3 : x10_1 < (l0.length : Int)
        · rw [if_pos c3] at H
          have c3b0 : decide (x10_1 < (l0.length : Int)) = true := decide_eq_true c3
          clear c3
          by_cases c4 : 0 ≤ x10_1
          · rw [if_pos c4] at H
            have c4b0 : decide (0 ≤ x10_1) = true := decide_eq_true c4
            clear c4
            by_cases c5 : x10_1 < (l0.length : Int)
            · rw [if_pos c5] at H
              have c5b0 : decide (x10_1 < (l0.length : Int)) = true := decide_eq_true c5
              clear c5
              replace H := Option.bind_eq_some_iff.mp H
              obtain ⟨t110, A60, H⟩ := H
              replace H : (if t110 = true then (laws_zzFits13.l0 k1 l0 (l0.length : Int) (wrap64 (x10_1 + 1))) else (some false)) = some r := H
              have A6 := Aside0.mk A60
              clear A60
              by_cases c7 : t110 = true
              · subst c7
                have H1 : (laws_zzFits13.l0 k1 l0 (l0.length : Int) (wrap64 (x10_1 + 1))) = some r := by rw [if_pos rfl] at H; exact H
                clear H
                have H := H1
                clear H1
                have H' := Aside0.mk H
                clear H
                have p108 : 0 ≤ (x10_1 : Int) := of_decide_eq_true (by first | (with_reducible assumption) | assumption)
                have q108 : x10_1 < (l0.length : Int) := of_decide_eq_true (by first | (with_reducible assumption) | assumption)
                obtain ⟨ad108, A108_0, c108_0, A108_1, c108_1, e108, hx108_0, hx108_1, hx108_2, hx108_3, hx108_4, hl108_0, hi108_0, hl108_1, hi108_1⟩ := at_T31 HR0.out x10_1 p108 q108
                cases e108
                replace hx108_0 := (HB.out.cell (World.block_lt_of_cell? w _ hx108_0)).trans hx108_0
                replace hx108_1 := (HB.out.cell (World.block_lt_of_cell? w _ hx108_1)).trans hx108_1
                replace hx108_2 := (HB.out.cell (World.block_lt_of_cell? w _ hx108_2)).trans hx108_2
                replace hx108_3 := (HB.out.cell (World.block_lt_of_cell? w _ hx108_3)).trans hx108_3
                replace hx108_4 := (HB.out.cell (World.block_lt_of_cell? w _ hx108_4)).trans hx108_4
                have HR108_0 := Aside0.mk hi108_0
                have HC108_0 := Aside0.mk hl108_0
                clear hi108_0 hl108_0
                have HR108_1 := Aside0.mk hi108_1
                have HC108_1 := Aside0.mk hl108_1
                clear hi108_1 hl108_1
                replace p108 := eq_true p108
                replace q108 := eq_true q108
                go_wp2_with (first | ((with_reducible refine gate_dst (N := 4) rfl ?_); refine box_event ?hg (N := 4) ?hd (cs := #[.slice none 0 0, .slice none 0 0, .int .u64 0, .int .u8 0, .int .u8 0]) (t := 31) ?hr ?_; (case hd => rfl); (case hg => rfl); (case hr => first | (go_simp; done) | (go_simp; rfl)); intro gb109 hg w8 hbox hb; have n0_ := Aside0.mk (below_step (by repeat (first | (with_reducible first | exact HB.out | apply below_alloc | apply pw_below_drewN | apply below_drew1) | exact HB.out)) hb); have n1_ := Aside0.mk (hbox); have n2_ := Aside0.mk ((by rw [hg]; exact (below_size (by repeat (first | (with_reducible first | exact HB.out | apply below_alloc | apply pw_below_drewN | apply below_drew1) | exact HB.out))) : w.heap.size ≤ gb109)); have n3_ := Aside0.mk ((by rw [hg]; exact (below_size (by repeat (first | (with_reducible first | exact HB.out | apply below_alloc | apply pw_below_drewN | apply below_drew1) | exact HB.out))) : w.heap.size ≤ gb109)); clear HB; have HB := n0_; have BK109 := n1_; have GW109 := n2_; have GE109 := n3_; clear n0_ n1_ n2_ n3_; clear hb hbox hg; have hcz9_0 : w8.cell? ⟨gb109, 0, none⟩ = some (.slice none 0 0) := (blk_cell BK109.out 0).trans rfl; have hcz9_1 : w8.cell? ⟨gb109, 1, none⟩ = some (.slice none 0 0) := (blk_cell BK109.out 1).trans rfl; have hcz9_2 : w8.cell? ⟨gb109, 2, none⟩ = some (.int .u64 0) := (blk_cell BK109.out 2).trans rfl; have hcz9_3 : w8.cell? ⟨gb109, 3, none⟩ = some (.int .u8 0) := (blk_cell BK109.out 3).trans rfl; have hcz9_4 : w8.cell? ⟨gb109, 4, none⟩ = some (.int .u8 0) := (blk_cell BK109.out 4).trans rfl; have hfz9_0 := blk_frozen BK109.out 0; have hfz9_1 := blk_frozen BK109.out 1; have hfz9_2 := blk_frozen BK109.out 2; have hfz9_3 := blk_frozen BK109.out 3; have hfz9_4 := blk_frozen BK109.out 4) | ((with_reducible refine gate_callee (f := 35) rfl ?_); refine goesL_ (some 15) rfl rfl Tryz.func35 (by kernel_rfl) rfl #[.agg #[.slice A108_0 ((rd_T31 l0 x10_1).f0).length c108_0, .slice A108_1 ((rd_T31 l0 x10_1).f1).length c108_1, .int .u64 ((rd_T31 l0 x10_1).f2), .int .u8 ((rd_T31 l0 x10_1).f3), .int .u8 ((rd_T31 l0 x10_1).f4)]] rfl (by (try simp only [List.map_toArray, List.map_cons, List.map_nil]); first | done | rfl | (simp only [List.length_drop, List.length_take]; rfl)) ?_; (with_reducible refine (laws_zzFits10.calls _ _ ((rd_T31 l0 x10_1).f0) _ _ ((rd_T31 l0 x10_1).f1) ((rd_T31 l0 x10_1).f2) ((rd_T31 l0 x10_1).f3) ((rd_T31 l0 x10_1).f4) true _ ?side1 ?side2 ?side3 ?side4 A6.out).mono ?_); (case side1 => exact Kd.C_below HR108_0.out (by repeat (first | (with_reducible first | exact HB.out | apply below_alloc | apply pw_below_drewN | apply below_drew1 | refine below_set ?_ GE109.out) | exact HB.out))); (case side2 => exact HC108_0.out); (case side3 => exact Kd.C_below HR108_1.out (by repeat (first | (with_reducible first | exact HB.out | apply below_alloc | apply pw_below_drewN | apply below_drew1 | refine below_set ?_ GE109.out) | exact HB.out))); (case side4 => exact HC108_1.out); rintro e w10 ⟨rfl, hb⟩; refine ⟨_, rfl, ?_⟩; have n0_ := Aside0.mk (blk_below (g := gb109) (o := .cells #[.slice A108_0 ((rd_T31 l0 x10_1).f0).length c108_0, .slice A108_1 ((rd_T31 l0 x10_1).f1).length c108_1, .int .u64 ((rd_T31 l0 x10_1).f2), .int .u8 ((rd_T31 l0 x10_1).f3), .int .u8 ((rd_T31 l0 x10_1).f4)] 31 (0, 0)) (by (with_reducible repeat (first | refine blk_drewN ?_ _ | refine blk_drew ?_ | refine blk_alloc ?_ _)); refine blk_put (cs := #[.slice A108_0 ((rd_T31 l0 x10_1).f0).length c108_0, .slice A108_1 ((rd_T31 l0 x10_1).f1).length c108_1, .int .u64 ((rd_T31 l0 x10_1).f2), .int .u8 ((rd_T31 l0 x10_1).f3), .int .u8 0]) ?_ 4 _ rfl; (with_reducible repeat (first | refine blk_drewN ?_ _ | refine blk_drew ?_ | refine blk_alloc ?_ _)); refine blk_put (cs := #[.slice A108_0 ((rd_T31 l0 x10_1).f0).length c108_0, .slice A108_1 ((rd_T31 l0 x10_1).f1).length c108_1, .int .u64 ((rd_T31 l0 x10_1).f2), .int .u8 0, .int .u8 0]) ?_ 3 _ rfl; (with_reducible repeat (first | refine blk_drewN ?_ _ | refine blk_drew ?_ | refine blk_alloc ?_ _)); refine blk_put (cs := #[.slice A108_0 ((rd_T31 l0 x10_1).f0).length c108_0, .slice A108_1 ((rd_T31 l0 x10_1).f1).length c108_1, .int .u64 0, .int .u8 0, .int .u8 0]) ?_ 2 _ rfl; (with_reducible repeat (first | refine blk_drewN ?_ _ | refine blk_drew ?_ | refine blk_alloc ?_ _)); refine blk_put (cs := #[.slice A108_0 ((rd_T31 l0 x10_1).f0).length c108_0, .slice none 0 0, .int .u64 0, .int .u8 0, .int .u8 0]) ?_ 1 _ rfl; (with_reducible repeat (first | refine blk_drewN ?_ _ | refine blk_drew ?_ | refine blk_alloc ?_ _)); refine blk_put (cs := #[.slice none 0 0, .slice none 0 0, .int .u64 0, .int .u8 0, .int .u8 0]) ?_ 0 _ rfl; (with_reducible repeat (first | refine blk_drewN ?_ _ | refine blk_drew ?_ | refine blk_alloc ?_ _)); exact BK109.out) hb); have n1_ := Aside0.mk (below_step (by repeat (first | (with_reducible first | exact HB.out | apply below_alloc | apply pw_below_drewN | apply below_drew1 | refine below_set ?_ GE109.out) | exact HB.out)) hb); clear BK109; clear HB; have BK109 := n0_; have HB := n1_; clear n0_ n1_; (try clear hb); (try clear hb2); (try clear hk); (try clear hi)))
                go_roundg k1
                case measure => have := HK1.out; omega
                case rel => exact ⟨(wrap64 (x10_1 + 1)), (by first | rfl | (simp; done) | (simp [*]; done)), H', ⟨by have := HK1.out; omega⟩, ⟨by repeat (first | (with_reducible first | exact HB.out | apply below_alloc | apply pw_below_drewN | apply below_drew1 | refine below_set ?_ GE109.out) | exact HB.out)⟩⟩
              · replace c7 := Bool.eq_false_iff.mpr c7
                subst c7
                have H1 : (some false) = some r := by rw [if_neg (show ¬ (false = true) by decide)] at H; exact H
                clear H
                have H := H1
                clear H1
                obtain rfl := Option.some.inj H
                have p108 : 0 ≤ (x10_1 : Int) := of_decide_eq_true (by first | (with_reducible assumption) | assumption)
                have q108 : x10_1 < (l0.length : Int) := of_decide_eq_true (by first | (with_reducible assumption) | assumption)
                obtain ⟨ad108, A108_0, c108_0, A108_1, c108_1, e108, hx108_0, hx108_1, hx108_2, hx108_3, hx108_4, hl108_0, hi108_0, hl108_1, hi108_1⟩ := at_T31 HR0.out x10_1 p108 q108
                cases e108
                replace hx108_0 := (HB.out.cell (World.block_lt_of_cell? w _ hx108_0)).trans hx108_0
                replace hx108_1 := (HB.out.cell (World.block_lt_of_cell? w _ hx108_1)).trans hx108_1
                replace hx108_2 := (HB.out.cell (World.block_lt_of_cell? w _ hx108_2)).trans hx108_2
                replace hx108_3 := (HB.out.cell (World.block_lt_of_cell? w _ hx108_3)).trans hx108_3
                replace hx108_4 := (HB.out.cell (World.block_lt_of_cell? w _ hx108_4)).trans hx108_4
                have HR108_0 := Aside0.mk hi108_0
                have HC108_0 := Aside0.mk hl108_0
                clear hi108_0 hl108_0
                have HR108_1 := Aside0.mk hi108_1
                have HC108_1 := Aside0.mk hl108_1
                clear hi108_1 hl108_1
                replace p108 := eq_true p108
                replace q108 := eq_true q108
                go_wp2_with (first | ((with_reducible refine gate_dst (N := 4) rfl ?_); refine box_event ?hg (N := 4) ?hd (cs := #[.slice none 0 0, .slice none 0 0, .int .u64 0, .int .u8 0, .int .u8 0]) (t := 31) ?hr ?_; (case hd => rfl); (case hg => rfl); (case hr => first | (go_simp; done) | (go_simp; rfl)); intro gb109 hg w11 hbox hb; have n0_ := Aside0.mk (below_step (by repeat (first | (with_reducible first | exact HB.out | apply below_alloc | apply pw_below_drewN | apply below_drew1) | exact HB.out)) hb); have n1_ := Aside0.mk (hbox); have n2_ := Aside0.mk ((by rw [hg]; exact (below_size (by repeat (first | (with_reducible first | exact HB.out | apply below_alloc | apply pw_below_drewN | apply below_drew1) | exact HB.out))) : w.heap.size ≤ gb109)); have n3_ := Aside0.mk ((by rw [hg]; exact (below_size (by repeat (first | (with_reducible first | exact HB.out | apply below_alloc | apply pw_below_drewN | apply below_drew1) | exact HB.out))) : w.heap.size ≤ gb109)); clear HB; have HB := n0_; have BK109 := n1_; have GW109 := n2_; have GE109 := n3_; clear n0_ n1_ n2_ n3_; clear hb hbox hg; have hcz12_0 : w11.cell? ⟨gb109, 0, none⟩ = some (.slice none 0 0) := (blk_cell BK109.out 0).trans rfl; have hcz12_1 : w11.cell? ⟨gb109, 1, none⟩ = some (.slice none 0 0) := (blk_cell BK109.out 1).trans rfl; have hcz12_2 : w11.cell? ⟨gb109, 2, none⟩ = some (.int .u64 0) := (blk_cell BK109.out 2).trans rfl; have hcz12_3 : w11.cell? ⟨gb109, 3, none⟩ = some (.int .u8 0) := (blk_cell BK109.out 3).trans rfl; have hcz12_4 : w11.cell? ⟨gb109, 4, none⟩ = some (.int .u8 0) := (blk_cell BK109.out 4).trans rfl; have hfz12_0 := blk_frozen BK109.out 0; have hfz12_1 := blk_frozen BK109.out 1; have hfz12_2 := blk_frozen BK109.out 2; have hfz12_3 := blk_frozen BK109.out 3; have hfz12_4 := blk_frozen BK109.out 4) | ((with_reducible refine gate_callee (f := 35) rfl ?_); refine goesL_ (some 15) rfl rfl Tryz.func35 (by kernel_rfl) rfl #[.agg #[.slice A108_0 ((rd_T31 l0 x10_1).f0).length c108_0, .slice A108_1 ((rd_T31 l0 x10_1).f1).length c108_1, .int .u64 ((rd_T31 l0 x10_1).f2), .int .u8 ((rd_T31 l0 x10_1).f3), .int .u8 ((rd_T31 l0 x10_1).f4)]] rfl (by (try simp only [List.map_toArray, List.map_cons, List.map_nil]); first | done | rfl | (simp only [List.length_drop, List.length_take]; rfl)) ?_; (with_reducible refine (laws_zzFits10.calls _ _ ((rd_T31 l0 x10_1).f0) _ _ ((rd_T31 l0 x10_1).f1) ((rd_T31 l0 x10_1).f2) ((rd_T31 l0 x10_1).f3) ((rd_T31 l0 x10_1).f4) false _ ?side1 ?side2 ?side3 ?side4 A6.out).mono ?_); (case side1 => exact Kd.C_below HR108_0.out (by repeat (first | (with_reducible first | exact HB.out | apply below_alloc | apply pw_below_drewN | apply below_drew1 | refine below_set ?_ GE109.out) | exact HB.out))); (case side2 => exact HC108_0.out); (case side3 => exact Kd.C_below HR108_1.out (by repeat (first | (with_reducible first | exact HB.out | apply below_alloc | apply pw_below_drewN | apply below_drew1 | refine below_set ?_ GE109.out) | exact HB.out))); (case side4 => exact HC108_1.out); rintro e w13 ⟨rfl, hb⟩; refine ⟨_, rfl, ?_⟩; have n0_ := Aside0.mk (blk_below (g := gb109) (o := .cells #[.slice A108_0 ((rd_T31 l0 x10_1).f0).length c108_0, .slice A108_1 ((rd_T31 l0 x10_1).f1).length c108_1, .int .u64 ((rd_T31 l0 x10_1).f2), .int .u8 ((rd_T31 l0 x10_1).f3), .int .u8 ((rd_T31 l0 x10_1).f4)] 31 (0, 0)) (by (with_reducible repeat (first | refine blk_drewN ?_ _ | refine blk_drew ?_ | refine blk_alloc ?_ _)); refine blk_put (cs := #[.slice A108_0 ((rd_T31 l0 x10_1).f0).length c108_0, .slice A108_1 ((rd_T31 l0 x10_1).f1).length c108_1, .int .u64 ((rd_T31 l0 x10_1).f2), .int .u8 ((rd_T31 l0 x10_1).f3), .int .u8 0]) ?_ 4 _ rfl; (with_reducible repeat (first | refine blk_drewN ?_ _ | refine blk_drew ?_ | refine blk_alloc ?_ _)); refine blk_put (cs := #[.slice A108_0 ((rd_T31 l0 x10_1).f0).length c108_0, .slice A108_1 ((rd_T31 l0 x10_1).f1).length c108_1, .int .u64 ((rd_T31 l0 x10_1).f2), .int .u8 0, .int .u8 0]) ?_ 3 _ rfl; (with_reducible repeat (first | refine blk_drewN ?_ _ | refine blk_drew ?_ | refine blk_alloc ?_ _)); refine blk_put (cs := #[.slice A108_0 ((rd_T31 l0 x10_1).f0).length c108_0, .slice A108_1 ((rd_T31 l0 x10_1).f1).length c108_1, .int .u64 0, .int .u8 0, .int .u8 0]) ?_ 2 _ rfl; (with_reducible repeat (first | refine blk_drewN ?_ _ | refine blk_drew ?_ | refine blk_alloc ?_ _)); refine blk_put (cs := #[.slice A108_0 ((rd_T31 l0 x10_1).f0).length c108_0, .slice none 0 0, .int .u64 0, .int .u8 0, .int .u8 0]) ?_ 1 _ rfl; (with_reducible repeat (first | refine blk_drewN ?_ _ | refine blk_drew ?_ | refine blk_alloc ?_ _)); refine blk_put (cs := #[.slice none 0 0, .slice none 0 0, .int .u64 0, .int .u8 0, .int .u8 0]) ?_ 0 _ rfl; (with_reducible repeat (first | refine blk_drewN ?_ _ | refine blk_drew ?_ | refine blk_alloc ?_ _)); exact BK109.out) hb); have n1_ := Aside0.mk (below_step (by repeat (first | (with_reducible first | exact HB.out | apply below_alloc | apply pw_below_drewN | apply below_drew1 | refine below_set ?_ GE109.out) | exact HB.out)) hb); clear BK109; clear HB; have BK109 := n0_; have HB := n1_; clear n0_ n1_; (try clear hb); (try clear hb2); (try clear hk); (try clear hi)))
                go_ret
                exact ⟨by first | rfl | (simp [errW_none, errW_some] <;> rfl) | (simp [*, errW_none, errW_some] <;> rfl), by repeat (first | (with_reducible first | exact HB.out | apply below_alloc | apply pw_below_drewN | apply below_drew1 | refine below_set ?_ GE109.out) | exact HB.out)⟩
            · rw [if_neg c5] at H
              exact absurd H (by simp)
          · rw [if_neg c4] at H
            exact absurd H (by simp)
        · rw [if_neg c3] at H
          have c3b0 : decide (x10_1 < (l0.length : Int)) = false := decide_eq_false c3
          clear c3
          obtain rfl := Option.some.inj H
          go_wp2
          go_ret
          exact ⟨by first | rfl | (simp [errW_none, errW_some] <;> rfl) | (simp [*, errW_none, errW_some] <;> rfl), by repeat (first | (with_reducible first | exact HB.out | apply below_alloc | apply pw_below_drewN | apply below_drew1) | exact HB.out)⟩

/-! ### laws_zzFits12: function 15 -/
def laws_zzFits12.f (k : Nat) (l0_0 : List (S31)) (a0_1 : Bool) (a0_2 : Int) (a0_3 : Bool) : Option (Bool) := (laws_zzFits13.f k l0_0).bind fun t112 => (if t112 = true then (some true) else (some false))
set_option maxHeartbeats 8000000 in
set_option maxRecDepth 100000 in
theorem laws_zzFits12.calls (k : Nat) (A0_0 : Option Addr) (c0_0 : Nat) (l0_0 : List (S31)) (a0_1 : Bool) (a0_2 : Int) (a0_3 : Bool) (r : Bool) (w : World) (hr0_0 : Kd.C k31 w A0_0 l0_0.length l0_0) (hc0_0 : l0_0.length ≤ c0_0) (h : laws_zzFits12.f k l0_0 a0_1 a0_2 a0_3 = some r) :
    Calls Tryz.prog 15 #[.agg #[.slice A0_0 l0_0.length c0_0, .bool a0_1, .int .u64 a0_2, .bool a0_3]] w fun e w' => e = .returned (.bool r) ∧ Below w.heap.size w w' := by
  have hu45 := Tryz.underlying45
  have HR0_0 := Aside0.mk hr0_0
  have HC0_0 := Aside0.mk hc0_0
  clear hr0_0 hc0_0
  have HB := Aside0.mk (Below.refl w.heap.size w)
  have H : ((laws_zzFits13.f k l0_0).bind fun t112 => (if t112 = true then (some true) else (some false))) = some r := h
  clear h
  replace H := Option.bind_eq_some_iff.mp H
  obtain ⟨t112, A20, H⟩ := H
  replace H : (if t112 = true then (some true) else (some false)) = some r := H
  have A2 := Aside0.mk A20
  clear A20
  by_cases c3 : t112 = true
  · subst c3
    have H1 : (some true) = some r := by rw [if_pos rfl] at H; exact H
    clear H
    have H := H1
    clear H1
    obtain rfl := Option.some.inj H
    go_enter Tryz.func15, Tryz.ntmps15
    go_wp2_with (first | ((with_reducible refine gate_dst (N := 1) rfl ?_); refine box_event ?hg (N := 1) ?hd (cs := #[.slice A0_0 l0_0.length c0_0, .bool a0_1, .int .u64 a0_2, .bool a0_3]) (t := 45) ?hr ?_; (case hd => rfl); (case hg => rfl); (case hr => first | (go_simp; done) | (go_simp; rfl)); intro gb111 hg w4 hbox hb; have n0_ := Aside0.mk (below_step (by repeat (first | (with_reducible first | exact HB.out | apply below_alloc | apply pw_below_drewN | apply below_drew1) | exact HB.out)) hb); have n1_ := Aside0.mk (hbox); have n2_ := Aside0.mk ((by rw [hg]; exact (below_size (by repeat (first | (with_reducible first | exact HB.out | apply below_alloc | apply pw_below_drewN | apply below_drew1) | exact HB.out))) : w.heap.size ≤ gb111)); have n3_ := Aside0.mk ((by rw [hg]; exact (below_size (by repeat (first | (with_reducible first | exact HB.out | apply below_alloc | apply pw_below_drewN | apply below_drew1) | exact HB.out))) : w.heap.size ≤ gb111)); clear HB; have HB := n0_; have BK111 := n1_; have GW111 := n2_; have GE111 := n3_; clear n0_ n1_ n2_ n3_; clear hb hbox hg; have hcz5_0 : w4.cell? ⟨gb111, 0, none⟩ = some (.slice A0_0 l0_0.length c0_0) := (blk_cell BK111.out 0).trans rfl; have hcz5_1 : w4.cell? ⟨gb111, 1, none⟩ = some (.bool a0_1) := (blk_cell BK111.out 1).trans rfl; have hcz5_2 : w4.cell? ⟨gb111, 2, none⟩ = some (.int .u64 a0_2) := (blk_cell BK111.out 2).trans rfl; have hcz5_3 : w4.cell? ⟨gb111, 3, none⟩ = some (.bool a0_3) := (blk_cell BK111.out 3).trans rfl; have hfz5_0 := blk_frozen BK111.out 0; have hfz5_1 := blk_frozen BK111.out 1; have hfz5_2 := blk_frozen BK111.out 2; have hfz5_3 := blk_frozen BK111.out 3) | ((with_reducible refine gate_callee (f := 28) rfl ?_); refine goesL_ (some 5) rfl rfl Tryz.func28 (by kernel_rfl) rfl #[.slice A0_0 l0_0.length c0_0] rfl (by (try simp only [List.map_toArray, List.map_cons, List.map_nil]); first | done | rfl | (simp only [List.length_drop, List.length_take]; rfl)) ?_; (with_reducible refine (laws_zzFits13.calls k _ _ l0_0 true _ ?side1 ?side2 A2.out).mono ?_); (case side1 => repeat (first | exact (Kd.C_below HR0_0.out HB.out) | (with_reducible refine Kd.C_alloc ?_ _) | (with_reducible refine Kd.C_drewN ?_ _) | (with_reducible refine Kd.C_drew ?_))); (case side2 => exact HC0_0.out); rintro e w6 ⟨rfl, hb⟩; refine ⟨_, rfl, ?_⟩; have n0_ := Aside0.mk (blk_below (g := gb111) (o := .cells #[.slice A0_0 l0_0.length c0_0, .bool a0_1, .int .u64 a0_2, .bool a0_3] 45 (0, 0)) (by (with_reducible repeat (first | refine blk_drewN ?_ _ | refine blk_drew ?_ | refine blk_alloc ?_ _)); exact BK111.out) hb); have n1_ := Aside0.mk (below_step (by repeat (first | (with_reducible first | exact HB.out | apply below_alloc | apply pw_below_drewN | apply below_drew1 | refine below_set ?_ GE111.out) | exact HB.out)) hb); clear BK111; clear HB; have BK111 := n0_; have HB := n1_; clear n0_ n1_; (try clear hb); (try clear hb2); (try clear hk); (try clear hi)))
    go_ret
    exact ⟨by first | rfl | (simp [errW_none, errW_some] <;> rfl) | (simp [*, errW_none, errW_some] <;> rfl), by repeat (first | (with_reducible first | exact HB.out | apply below_alloc | apply pw_below_drewN | apply below_drew1 | refine below_set ?_ GE111.out) | exact HB.out)⟩
  · replace c3 := Bool.eq_false_iff.mpr c3
    subst c3
    have H1 : (some false) = some r := by rw [if_neg (show ¬ (false = true) by decide)] at H; exact H
    clear H
    have H := H1
    clear H1
    obtain rfl := Option.some.inj H
    go_enter Tryz.func15, Tryz.ntmps15
    go_wp2_with (first | ((with_reducible refine gate_dst (N := 1) rfl ?_); refine box_event ?hg (N := 1) ?hd (cs := #[.slice A0_0 l0_0.length c0_0, .bool a0_1, .int .u64 a0_2, .bool a0_3]) (t := 45) ?hr ?_; (case hd => rfl); (case hg => rfl); (case hr => first | (go_simp; done) | (go_simp; rfl)); intro gb111 hg w7 hbox hb; have n0_ := Aside0.mk (below_step (by repeat (first | (with_reducible first | exact HB.out | apply below_alloc | apply pw_below_drewN | apply below_drew1) | exact HB.out)) hb); have n1_ := Aside0.mk (hbox); have n2_ := Aside0.mk ((by rw [hg]; exact (below_size (by repeat (first | (with_reducible first | exact HB.out | apply below_alloc | apply pw_below_drewN | apply below_drew1) | exact HB.out))) : w.heap.size ≤ gb111)); have n3_ := Aside0.mk ((by rw [hg]; exact (below_size (by repeat (first | (with_reducible first | exact HB.out | apply below_alloc | apply pw_below_drewN | apply below_drew1) | exact HB.out))) : w.heap.size ≤ gb111)); clear HB; have HB := n0_; have BK111 := n1_; have GW111 := n2_; have GE111 := n3_; clear n0_ n1_ n2_ n3_; clear hb hbox hg; have hcz8_0 : w7.cell? ⟨gb111, 0, none⟩ = some (.slice A0_0 l0_0.length c0_0) := (blk_cell BK111.out 0).trans rfl; have hcz8_1 : w7.cell? ⟨gb111, 1, none⟩ = some (.bool a0_1) := (blk_cell BK111.out 1).trans rfl; have hcz8_2 : w7.cell? ⟨gb111, 2, none⟩ = some (.int .u64 a0_2) := (blk_cell BK111.out 2).trans rfl; have hcz8_3 : w7.cell? ⟨gb111, 3, none⟩ = some (.bool a0_3) := (blk_cell BK111.out 3).trans rfl; have hfz8_0 := blk_frozen BK111.out 0; have hfz8_1 := blk_frozen BK111.out 1; have hfz8_2 := blk_frozen BK111.out 2; have hfz8_3 := blk_frozen BK111.out 3) | ((with_reducible refine gate_callee (f := 28) rfl ?_); refine goesL_ (some 5) rfl rfl Tryz.func28 (by kernel_rfl) rfl #[.slice A0_0 l0_0.length c0_0] rfl (by (try simp only [List.map_toArray, List.map_cons, List.map_nil]); first | done | rfl | (simp only [List.length_drop, List.length_take]; rfl)) ?_; (with_reducible refine (laws_zzFits13.calls k _ _ l0_0 false _ ?side1 ?side2 A2.out).mono ?_); (case side1 => repeat (first | exact (Kd.C_below HR0_0.out HB.out) | (with_reducible refine Kd.C_alloc ?_ _) | (with_reducible refine Kd.C_drewN ?_ _) | (with_reducible refine Kd.C_drew ?_))); (case side2 => exact HC0_0.out); rintro e w9 ⟨rfl, hb⟩; refine ⟨_, rfl, ?_⟩; have n0_ := Aside0.mk (blk_below (g := gb111) (o := .cells #[.slice A0_0 l0_0.length c0_0, .bool a0_1, .int .u64 a0_2, .bool a0_3] 45 (0, 0)) (by (with_reducible repeat (first | refine blk_drewN ?_ _ | refine blk_drew ?_ | refine blk_alloc ?_ _)); exact BK111.out) hb); have n1_ := Aside0.mk (below_step (by repeat (first | (with_reducible first | exact HB.out | apply below_alloc | apply pw_below_drewN | apply below_drew1 | refine below_set ?_ GE111.out) | exact HB.out)) hb); clear BK111; clear HB; have BK111 := n0_; have HB := n1_; clear n0_ n1_; (try clear hb); (try clear hb2); (try clear hk); (try clear hi)))
    go_ret
    exact ⟨by first | rfl | (simp [errW_none, errW_some] <;> rfl) | (simp [*, errW_none, errW_some] <;> rfl), by repeat (first | (with_reducible first | exact HB.out | apply below_alloc | apply pw_below_drewN | apply below_drew1 | refine below_set ?_ GE111.out) | exact HB.out)⟩

/-! ### laws_zzFits11: function 6 -/
def laws_zzFits11.l0 : Nat → List (S45) → Int → Int → Option (Bool)
  | 0, _, _, _ => none
  | k + 1, x8, x9, x10 => if x10 < x9 then (if 0 ≤ x10 then (if x10 < (x8.length : Int) then ((laws_zzFits12.f k ((rd_T45 x8 x10).f0) ((rd_T45 x8 x10).f1) ((rd_T45 x8 x10).f2) ((rd_T45 x8 x10).f3)).bind fun t115 => (if t115 = true then (laws_zzFits11.l0 k x8 x9 (wrap64 (x10 + 1))) else (some false))) else (none)) else (none)) else (some true)
def laws_zzFits11.f (k : Nat) (l0 : List (S45)) : Option (Bool) := if (l0.length : Int) > 2147483647 then (some false) else (laws_zzFits11.l0 k l0 (l0.length : Int) 0)
set_option maxHeartbeats 8000000 in
set_option maxRecDepth 100000 in
theorem laws_zzFits11.calls (k : Nat) (A0 : Option Addr) (c0 : Nat) (l0 : List (S45)) (r : Bool) (w : World) (hr0 : Kd.C k45 w A0 l0.length l0) (hc0 : l0.length ≤ c0) (h : laws_zzFits11.f k l0 = some r) :
    Calls Tryz.prog 6 #[.slice A0 l0.length c0] w fun e w' => e = .returned (.bool r) ∧ Below w.heap.size w w' := by
  have hu45 := Tryz.underlying45
  have HR0 := Aside0.mk hr0
  have HC0 := Aside0.mk hc0
  clear hr0 hc0
  have HB := Aside0.mk (Below.refl w.heap.size w)
  have H : (if (l0.length : Int) > 2147483647 then (some false) else (laws_zzFits11.l0 k l0 (l0.length : Int) 0)) = some r := h
  clear h
  by_cases c2 : (l0.length : Int) > 2147483647
  · rw [if_pos c2] at H
    have c2b0 : decide (2147483647 < (l0.length : Int)) = true := decide_eq_true c2
    have c2b1 : decide (2147483647 < l0.length) = true := decide_eq_true (by omega)
    clear c2
    obtain rfl := Option.some.inj H
    go_enter Tryz.func6, Tryz.ntmps6
    go_wp2
    go_ret
    exact ⟨by first | rfl | (simp [errW_none, errW_some] <;> rfl) | (simp [*, errW_none, errW_some] <;> rfl), by repeat (first | (with_reducible first | exact HB.out | apply below_alloc | apply pw_below_drewN | apply below_drew1) | exact HB.out)⟩
  · rw [if_neg c2] at H
    have c2b0 : decide (2147483647 < (l0.length : Int)) = false := decide_eq_false c2
    have c2b1 : decide (2147483647 < l0.length) = false := decide_eq_false (by omega)
    clear c2
    have H' := Aside0.mk H
    clear H
    go_enter Tryz.func6, Tryz.ntmps6
    go_wp2
    go_loopg [10] k (fun kq v10 w' => ∃ (x10_1 : Int), v10 = .int .i64 x10_1 ∧ Aside0 (laws_zzFits11.l0 kq l0 (l0.length : Int) x10_1 = some r) ∧ Aside0 (kq ≤ k) ∧ Aside0 (Below w.heap.size w w'))
    case atStart => exact ⟨(0), (by first | rfl | (simp; done) | (simp [*]; done)), H', ⟨Nat.le_refl _⟩, ⟨by repeat (first | (with_reducible first | exact HB.out | apply below_alloc | apply pw_below_drewN | apply below_drew1) | exact HB.out)⟩⟩
    case round =>
      clear H'
      try clear c2
      try clear c2b0
      try clear c2b1
      try clear p2
      obtain ⟨x10_1, rfl, HA, HK1, HB⟩ := hrel
      cases gk with
      | zero => exact absurd HA.out (by simp [laws_zzFits11.l0])
      | succ k1 =>
        have H := HA.out
        clear HA
        simp only [laws_zzFits11.l0] at H
        by_cases c3 : x10_1 < (l0.length : Int)
        · rw [if_pos c3] at H
          have c3b0 : decide (x10_1 < (l0.length : Int)) = true := decide_eq_true c3
          clear c3
          by_cases c4 : 0 ≤ x10_1
          · rw [if_pos c4] at H
            have c4b0 : decide (0 ≤ x10_1) = true := decide_eq_true c4
            clear c4
            by_cases c5 : x10_1 < (l0.length : Int)
            · rw [if_pos c5] at H
              have c5b0 : decide (x10_1 < (l0.length : Int)) = true := decide_eq_true c5
              clear c5
              replace H := Option.bind_eq_some_iff.mp H
              obtain ⟨t115, A60, H⟩ := H
              replace H : (if t115 = true then (laws_zzFits11.l0 k1 l0 (l0.length : Int) (wrap64 (x10_1 + 1))) else (some false)) = some r := H
              have A6 := Aside0.mk A60
              clear A60
              by_cases c7 : t115 = true
              · subst c7
                have H1 : (laws_zzFits11.l0 k1 l0 (l0.length : Int) (wrap64 (x10_1 + 1))) = some r := by rw [if_pos rfl] at H; exact H
                clear H
                have H := H1
                clear H1
                have H' := Aside0.mk H
                clear H
                have p113 : 0 ≤ (x10_1 : Int) := of_decide_eq_true (by first | (with_reducible assumption) | assumption)
                have q113 : x10_1 < (l0.length : Int) := of_decide_eq_true (by first | (with_reducible assumption) | assumption)
                obtain ⟨ad113, A113_0, c113_0, e113, hx113_0, hx113_1, hx113_2, hx113_3, hl113_0, hi113_0⟩ := at_T45 HR0.out x10_1 p113 q113
                cases e113
                replace hx113_0 := (HB.out.cell (World.block_lt_of_cell? w _ hx113_0)).trans hx113_0
                replace hx113_1 := (HB.out.cell (World.block_lt_of_cell? w _ hx113_1)).trans hx113_1
                replace hx113_2 := (HB.out.cell (World.block_lt_of_cell? w _ hx113_2)).trans hx113_2
                replace hx113_3 := (HB.out.cell (World.block_lt_of_cell? w _ hx113_3)).trans hx113_3
                have HR113_0 := Aside0.mk hi113_0
                have HC113_0 := Aside0.mk hl113_0
                clear hi113_0 hl113_0
                replace p113 := eq_true p113
                replace q113 := eq_true q113
                go_wp2_with (first | ((with_reducible refine gate_dst (N := 4) rfl ?_); refine box_event ?hg (N := 4) ?hd (cs := #[.slice none 0 0, .bool false, .int .u64 0, .bool false]) (t := 45) ?hr ?_; (case hd => rfl); (case hg => rfl); (case hr => first | (go_simp; done) | (go_simp; rfl)); intro gb114 hg w8 hbox hb; have n0_ := Aside0.mk (below_step (by repeat (first | (with_reducible first | exact HB.out | apply below_alloc | apply pw_below_drewN | apply below_drew1) | exact HB.out)) hb); have n1_ := Aside0.mk (hbox); have n2_ := Aside0.mk ((by rw [hg]; exact (below_size (by repeat (first | (with_reducible first | exact HB.out | apply below_alloc | apply pw_below_drewN | apply below_drew1) | exact HB.out))) : w.heap.size ≤ gb114)); have n3_ := Aside0.mk ((by rw [hg]; exact (below_size (by repeat (first | (with_reducible first | exact HB.out | apply below_alloc | apply pw_below_drewN | apply below_drew1) | exact HB.out))) : w.heap.size ≤ gb114)); clear HB; have HB := n0_; have BK114 := n1_; have GW114 := n2_; have GE114 := n3_; clear n0_ n1_ n2_ n3_; clear hb hbox hg; have hcz9_0 : w8.cell? ⟨gb114, 0, none⟩ = some (.slice none 0 0) := (blk_cell BK114.out 0).trans rfl; have hcz9_1 : w8.cell? ⟨gb114, 1, none⟩ = some (.bool false) := (blk_cell BK114.out 1).trans rfl; have hcz9_2 : w8.cell? ⟨gb114, 2, none⟩ = some (.int .u64 0) := (blk_cell BK114.out 2).trans rfl; have hcz9_3 : w8.cell? ⟨gb114, 3, none⟩ = some (.bool false) := (blk_cell BK114.out 3).trans rfl; have hfz9_0 := blk_frozen BK114.out 0; have hfz9_1 := blk_frozen BK114.out 1; have hfz9_2 := blk_frozen BK114.out 2; have hfz9_3 := blk_frozen BK114.out 3) | ((with_reducible refine gate_callee (f := 15) rfl ?_); refine goesL_ (some 15) rfl rfl Tryz.func15 (by kernel_rfl) rfl #[.agg #[.slice A113_0 ((rd_T45 l0 x10_1).f0).length c113_0, .bool ((rd_T45 l0 x10_1).f1), .int .u64 ((rd_T45 l0 x10_1).f2), .bool ((rd_T45 l0 x10_1).f3)]] rfl (by (try simp only [List.map_toArray, List.map_cons, List.map_nil]); first | done | rfl | (simp only [List.length_drop, List.length_take]; rfl)) ?_; (with_reducible refine (laws_zzFits12.calls k1 _ _ ((rd_T45 l0 x10_1).f0) ((rd_T45 l0 x10_1).f1) ((rd_T45 l0 x10_1).f2) ((rd_T45 l0 x10_1).f3) true _ ?side1 ?side2 A6.out).mono ?_); (case side1 => exact Kd.C_below HR113_0.out (by repeat (first | (with_reducible first | exact HB.out | apply below_alloc | apply pw_below_drewN | apply below_drew1 | refine below_set ?_ GE114.out) | exact HB.out))); (case side2 => exact HC113_0.out); rintro e w10 ⟨rfl, hb⟩; refine ⟨_, rfl, ?_⟩; have n0_ := Aside0.mk (blk_below (g := gb114) (o := .cells #[.slice A113_0 ((rd_T45 l0 x10_1).f0).length c113_0, .bool ((rd_T45 l0 x10_1).f1), .int .u64 ((rd_T45 l0 x10_1).f2), .bool ((rd_T45 l0 x10_1).f3)] 45 (0, 0)) (by (with_reducible repeat (first | refine blk_drewN ?_ _ | refine blk_drew ?_ | refine blk_alloc ?_ _)); refine blk_put (cs := #[.slice A113_0 ((rd_T45 l0 x10_1).f0).length c113_0, .bool ((rd_T45 l0 x10_1).f1), .int .u64 ((rd_T45 l0 x10_1).f2), .bool false]) ?_ 3 _ rfl; (with_reducible repeat (first | refine blk_drewN ?_ _ | refine blk_drew ?_ | refine blk_alloc ?_ _)); refine blk_put (cs := #[.slice A113_0 ((rd_T45 l0 x10_1).f0).length c113_0, .bool ((rd_T45 l0 x10_1).f1), .int .u64 0, .bool false]) ?_ 2 _ rfl; (with_reducible repeat (first | refine blk_drewN ?_ _ | refine blk_drew ?_ | refine blk_alloc ?_ _)); refine blk_put (cs := #[.slice A113_0 ((rd_T45 l0 x10_1).f0).length c113_0, .bool false, .int .u64 0, .bool false]) ?_ 1 _ rfl; (with_reducible repeat (first | refine blk_drewN ?_ _ | refine blk_drew ?_ | refine blk_alloc ?_ _)); refine blk_put (cs := #[.slice none 0 0, .bool false, .int .u64 0, .bool false]) ?_ 0 _ rfl; (with_reducible repeat (first | refine blk_drewN ?_ _ | refine blk_drew ?_ | refine blk_alloc ?_ _)); exact BK114.out) hb); have n1_ := Aside0.mk (below_step (by repeat (first | (with_reducible first | exact HB.out | apply below_alloc | apply pw_below_drewN | apply below_drew1 | refine below_set ?_ GE114.out) | exact HB.out)) hb); clear BK114; clear HB; have BK114 := n0_; have HB := n1_; clear n0_ n1_; (try clear hb); (try clear hb2); (try clear hk); (try clear hi)))
                go_roundg k1
                case measure => have := HK1.out; omega
                case rel => exact ⟨(wrap64 (x10_1 + 1)), (by first | rfl | (simp; done) | (simp [*]; done)), H', ⟨by have := HK1.out; omega⟩, ⟨by repeat (first | (with_reducible first | exact HB.out | apply below_alloc | apply pw_below_drewN | apply below_drew1 | refine below_set ?_ GE114.out) | exact HB.out)⟩⟩
              · replace c7 := Bool.eq_false_iff.mpr c7
                subst c7
                have H1 : (some false) = some r := by rw [if_neg (show ¬ (false = true) by decide)] at H; exact H
                clear H
                have H := H1
                clear H1
                obtain rfl := Option.some.inj H
                have p113 : 0 ≤ (x10_1 : Int) := of_decide_eq_true (by first | (with_reducible assumption) | assumption)
                have q113 : x10_1 < (l0.length : Int) := of_decide_eq_true (by first | (with_reducible assumption) | assumption)
                obtain ⟨ad113, A113_0, c113_0, e113, hx113_0, hx113_1, hx113_2, hx113_3, hl113_0, hi113_0⟩ := at_T45 HR0.out x10_1 p113 q113
                cases e113
                replace hx113_0 := (HB.out.cell (World.block_lt_of_cell? w _ hx113_0)).trans hx113_0
                replace hx113_1 := (HB.out.cell (World.block_lt_of_cell? w _ hx113_1)).trans hx113_1
                replace hx113_2 := (HB.out.cell (World.block_lt_of_cell? w _ hx113_2)).trans hx113_2
                replace hx113_3 := (HB.out.cell (World.block_lt_of_cell? w _ hx113_3)).trans hx113_3
                have HR113_0 := Aside0.mk hi113_0
                have HC113_0 := Aside0.mk hl113_0
                clear hi113_0 hl113_0
                replace p113 := eq_true p113
                replace q113 := eq_true q113
                go_wp2_with (first | ((with_reducible refine gate_dst (N := 4) rfl ?_); refine box_event ?hg (N := 4) ?hd (cs := #[.slice none 0 0, .bool false, .int .u64 0, .bool false]) (t := 45) ?hr ?_; (case hd => rfl); (case hg => rfl); (case hr => first | (go_simp; done) | (go_simp; rfl)); intro gb114 hg w11 hbox hb; have n0_ := Aside0.mk (below_step (by repeat (first | (with_reducible first | exact HB.out | apply below_alloc | apply pw_below_drewN | apply below_drew1) | exact HB.out)) hb); have n1_ := Aside0.mk (hbox); have n2_ := Aside0.mk ((by rw [hg]; exact (below_size (by repeat (first | (with_reducible first | exact HB.out | apply below_alloc | apply pw_below_drewN | apply below_drew1) | exact HB.out))) : w.heap.size ≤ gb114)); have n3_ := Aside0.mk ((by rw [hg]; exact (below_size (by repeat (first | (with_reducible first | exact HB.out | apply below_alloc | apply pw_below_drewN | apply below_drew1) | exact HB.out))) : w.heap.size ≤ gb114)); clear HB; have HB := n0_; have BK114 := n1_; have GW114 := n2_; have GE114 := n3_; clear n0_ n1_ n2_ n3_; clear hb hbox hg; have hcz12_0 : w11.cell? ⟨gb114, 0, none⟩ = some (.slice none 0 0) := (blk_cell BK114.out 0).trans rfl; have hcz12_1 : w11.cell? ⟨gb114, 1, none⟩ = some (.bool false) := (blk_cell BK114.out 1).trans rfl; have hcz12_2 : w11.cell? ⟨gb114, 2, none⟩ = some (.int .u64 0) := (blk_cell BK114.out 2).trans rfl; have hcz12_3 : w11.cell? ⟨gb114, 3, none⟩ = some (.bool false) := (blk_cell BK114.out 3).trans rfl; have hfz12_0 := blk_frozen BK114.out 0; have hfz12_1 := blk_frozen BK114.out 1; have hfz12_2 := blk_frozen BK114.out 2; have hfz12_3 := blk_frozen BK114.out 3) | ((with_reducible refine gate_callee (f := 15) rfl ?_); refine goesL_ (some 15) rfl rfl Tryz.func15 (by kernel_rfl) rfl #[.agg #[.slice A113_0 ((rd_T45 l0 x10_1).f0).length c113_0, .bool ((rd_T45 l0 x10_1).f1), .int .u64 ((rd_T45 l0 x10_1).f2), .bool ((rd_T45 l0 x10_1).f3)]] rfl (by (try simp only [List.map_toArray, List.map_cons, List.map_nil]); first | done | rfl | (simp only [List.length_drop, List.length_take]; rfl)) ?_; (with_reducible refine (laws_zzFits12.calls k1 _ _ ((rd_T45 l0 x10_1).f0) ((rd_T45 l0 x10_1).f1) ((rd_T45 l0 x10_1).f2) ((rd_T45 l0 x10_1).f3) false _ ?side1 ?side2 A6.out).mono ?_); (case side1 => exact Kd.C_below HR113_0.out (by repeat (first | (with_reducible first | exact HB.out | apply below_alloc | apply pw_below_drewN | apply below_drew1 | refine below_set ?_ GE114.out) | exact HB.out))); (case side2 => exact HC113_0.out); rintro e w13 ⟨rfl, hb⟩; refine ⟨_, rfl, ?_⟩; have n0_ := Aside0.mk (blk_below (g := gb114) (o := .cells #[.slice A113_0 ((rd_T45 l0 x10_1).f0).length c113_0, .bool ((rd_T45 l0 x10_1).f1), .int .u64 ((rd_T45 l0 x10_1).f2), .bool ((rd_T45 l0 x10_1).f3)] 45 (0, 0)) (by (with_reducible repeat (first | refine blk_drewN ?_ _ | refine blk_drew ?_ | refine blk_alloc ?_ _)); refine blk_put (cs := #[.slice A113_0 ((rd_T45 l0 x10_1).f0).length c113_0, .bool ((rd_T45 l0 x10_1).f1), .int .u64 ((rd_T45 l0 x10_1).f2), .bool false]) ?_ 3 _ rfl; (with_reducible repeat (first | refine blk_drewN ?_ _ | refine blk_drew ?_ | refine blk_alloc ?_ _)); refine blk_put (cs := #[.slice A113_0 ((rd_T45 l0 x10_1).f0).length c113_0, .bool ((rd_T45 l0 x10_1).f1), .int .u64 0, .bool false]) ?_ 2 _ rfl; (with_reducible repeat (first | refine blk_drewN ?_ _ | refine blk_drew ?_ | refine blk_alloc ?_ _)); refine blk_put (cs := #[.slice A113_0 ((rd_T45 l0 x10_1).f0).length c113_0, .bool false, .int .u64 0, .bool false]) ?_ 1 _ rfl; (with_reducible repeat (first | refine blk_drewN ?_ _ | refine blk_drew ?_ | refine blk_alloc ?_ _)); refine blk_put (cs := #[.slice none 0 0, .bool false, .int .u64 0, .bool false]) ?_ 0 _ rfl; (with_reducible repeat (first | refine blk_drewN ?_ _ | refine blk_drew ?_ | refine blk_alloc ?_ _)); exact BK114.out) hb); have n1_ := Aside0.mk (below_step (by repeat (first | (with_reducible first | exact HB.out | apply below_alloc | apply pw_below_drewN | apply below_drew1 | refine below_set ?_ GE114.out) | exact HB.out)) hb); clear BK114; clear HB; have BK114 := n0_; have HB := n1_; clear n0_ n1_; (try clear hb); (try clear hb2); (try clear hk); (try clear hi)))
                go_ret
                exact ⟨by first | rfl | (simp [errW_none, errW_some] <;> rfl) | (simp [*, errW_none, errW_some] <;> rfl), by repeat (first | (with_reducible first | exact HB.out | apply below_alloc | apply pw_below_drewN | apply below_drew1 | refine below_set ?_ GE114.out) | exact HB.out)⟩
            · rw [if_neg c5] at H
              exact absurd H (by simp)
          · rw [if_neg c4] at H
            exact absurd H (by simp)
        · rw [if_neg c3] at H
          have c3b0 : decide (x10_1 < (l0.length : Int)) = false := decide_eq_false c3
          clear c3
          obtain rfl := Option.some.inj H
          go_wp2
          go_ret
          exact ⟨by first | rfl | (simp [errW_none, errW_some] <;> rfl) | (simp [*, errW_none, errW_some] <;> rfl), by repeat (first | (with_reducible first | exact HB.out | apply below_alloc | apply pw_below_drewN | apply below_drew1) | exact HB.out)⟩

/-! ### spec_decimal: function 30 -/
def spec_decimal.f : Nat → Int → Option (List Int)
  | 0, _ => none
  | k + 1, a0 => if a0 < 10 then (some (([(IntKind.u64.wrap (48 + a0)) % 256] : List Int))) else ((spec_decimal.f k (IntKind.u64.wrap (Int.tdiv a0 10))).bind fun t119 => (if t119.length < 140737488355328 then (some (t119 ++ [(IntKind.u64.wrap (48 + (Int.tmod a0 10))) % 256])) else (none)))
set_option maxHeartbeats 8000000 in
set_option maxRecDepth 100000 in
theorem spec_decimal.calls (k : Nat) : ∀ (a0 : Int) (r : List Int) (w : World) (h : spec_decimal.f k a0 = some r),
    Calls Tryz.prog 30 #[.int .u64 a0] w fun e w' => ∃ v0_ : Value, e = .returned (v0_) ∧ Kd.R (Kd.int .u8) 5 w' w.heap.size (fun _ => True) v0_ r ∧ Below w.heap.size w w' := by
  induction k using Nat.strongRecOn with
  | _ k ih =>
  intro a0 r w h
  cases k with
  | zero => exact absurd h (by simp [spec_decimal.f])
  | succ k =>
  simp only [spec_decimal.f] at h
  have HB := Aside0.mk (Below.refl w.heap.size w)
  have H : (if a0 < 10 then (some (([(IntKind.u64.wrap (48 + a0)) % 256] : List Int))) else ((spec_decimal.f k (IntKind.u64.wrap (Int.tdiv a0 10))).bind fun t119 => (if t119.length < 140737488355328 then (some (t119 ++ [(IntKind.u64.wrap (48 + (Int.tmod a0 10))) % 256])) else (none)))) = some r := h
  clear h
  by_cases c2 : a0 < 10
  · rw [if_pos c2] at H
    have c2b0 : decide (a0 < 10) = true := decide_eq_true c2
    clear c2
    obtain ⟨y116, hy116⟩ : ∃ y_ : List Int, y_ = (([(IntKind.u64.wrap (48 + a0)) % 256] : List Int)) := ⟨_, rfl⟩
    replace H : (some y116) = some r := by first | (rw [hy116]; with_reducible exact H) | (have H2_ := (Option.bind_some _ _).symm.trans H; rw [hy116]; with_reducible exact H2_) | (have H2_ := (Option.bind_some _ _).symm.trans H; with_reducible exact H2_) | with_reducible exact H | (rw [hy116]; exact H) | exact H
    have Ny116 := Aside0.mk hy116
    clear hy116
    obtain rfl := Option.some.inj H
    go_enter Tryz.func30, Tryz.ntmps30
    go_wp2_with (first | ((with_reducible refine gate_dst (N := 8) rfl ?_); refine Kd.R_lit (Kd.int .u8) _ 5 ?hg (N := 8) ?hd (xs := ([(IntKind.u64.wrap (48 + a0)) % 256] : List Int)) (inner := [.int .u8 ((IntKind.u64.wrap (48 + a0)) % 256)]) (ok := fun _ => True) (okp := fun _ => True) ?hr ?hp (fun _ hk => hk) trivial (Below.refl _ _) (Nat.le_refl _) (by simp) ?_; (case hd => rfl); (case hg => rfl); (case hr => first | (go_simp; done) | (go_simp; rfl)); (case hp => exact (Reps.one (show Kd.M (Kd.int .u8) _ _ _ ((IntKind.u64.wrap (48 + a0)) % 256) [.int .u8 ((IntKind.u64.wrap (48 + a0)) % 256)] from rfl) (Reps.none _ _))); intro v117 w3 ho4 hb hg_ hnew_; clear hg_ hnew_; (first | rw [← Ny116.out] at ho4 | (simp only [Int.reduceToNat] at ho4; rw [← Ny116.out] at ho4)); have n0_ := Aside0.mk (Kd.R_lower ho4 (below_size (by repeat (first | (with_reducible first | exact HB.out | apply below_alloc | apply pw_below_drewN | apply below_drew1) | exact HB.out)))); have n1_ := Aside0.mk (below_step (by repeat (first | (with_reducible first | exact HB.out | apply below_alloc | apply pw_below_drewN | apply below_drew1) | exact HB.out)) hb); clear HB; have HO118 := n0_; have HB := n1_; clear n0_ n1_; clear hb ho4))
    go_ret
    exact ⟨_, by first | rfl | (simp [errW_none, errW_some] <;> rfl) | (simp [*, errW_none, errW_some] <;> rfl), by (with_reducible repeat (first | apply Kd.R_alloc | apply Kd.R_drewN | apply Kd.R_drew)); exact HO118.out, by repeat (first | (with_reducible first | exact HB.out | apply below_alloc | apply pw_below_drewN | apply below_drew1) | exact HB.out)⟩
  · rw [if_neg c2] at H
    have c2b0 : decide (a0 < 10) = false := decide_eq_false c2
    clear c2
    replace H := Option.bind_eq_some_iff.mp H
    obtain ⟨t119, A50, H⟩ := H
    replace H : (if t119.length < 140737488355328 then (some (t119 ++ [(IntKind.u64.wrap (48 + (Int.tmod a0 10))) % 256])) else (none)) = some r := H
    have A5 := Aside0.mk A50
    clear A50
    by_cases c6 : t119.length < 140737488355328
    · rw [if_pos c6] at H
      have LMc6 := Aside0.mk c6
      clear c6
      obtain ⟨y122, hy122⟩ : ∃ y_ : List Int, y_ = (t119 ++ [(IntKind.u64.wrap (48 + (Int.tmod a0 10))) % 256]) := ⟨_, rfl⟩
      replace H : (some y122) = some r := by first | (rw [hy122]; with_reducible exact H) | (have H2_ := (Option.bind_some _ _).symm.trans H; rw [hy122]; with_reducible exact H2_) | (have H2_ := (Option.bind_some _ _).symm.trans H; with_reducible exact H2_) | with_reducible exact H | (rw [hy122]; exact H) | exact H
      have Ny122 := Aside0.mk hy122
      clear hy122
      obtain rfl := Option.some.inj H
      go_enter Tryz.func30, Tryz.ntmps30
      go_wp2_with (first | ((with_reducible refine gate_callee (f := 30) rfl ?_); refine goesL_ (some 11) rfl rfl Tryz.func30 (by kernel_rfl) rfl #[.int .u64 (IntKind.u64.wrap (Int.tdiv a0 10))] rfl (by (try simp only [List.map_toArray, List.map_cons, List.map_nil]); first | done | rfl | (simp only [List.length_drop, List.length_take]; rfl)) ?_; (with_reducible refine (ih k (by omega) (IntKind.u64.wrap (Int.tdiv a0 10)) t119 _ A5.out).mono ?_); rintro e w7 ⟨v120, rfl, ho0, hb⟩; refine ⟨_, rfl, ?_⟩; have n0_ := Aside0.mk (Kd.R_lower ho0 (below_size (by repeat (first | (with_reducible first | exact HB.out | apply below_alloc | apply pw_below_drewN | apply below_drew1) | exact HB.out)))); have n1_ := Aside0.mk (below_step (by repeat (first | (with_reducible first | exact HB.out | apply below_alloc | apply pw_below_drewN | apply below_drew1) | exact HB.out)) hb); clear HB; have HO121 := n0_; have HB := n1_; clear n0_ n1_; (try clear hb); (try clear hb2); (try clear hk); (try clear hi); (try clear ho0)) | ((with_reducible refine gate_builtin (b := .append) (xs := #[.tmp 11, .tmp 16]) rfl ?_); at_builtin; refine Kd.R_append (Kd.int .u8) (w0 := w) w.heap.size rfl (.tmp 11) (.tmp 16) 27 5 (.int .u8 0) 1 rfl Tryz.underlying27 info5 rfl (by decide) (by omega) v120 t119 ((IntKind.u64.wrap (48 + (Int.tmod a0 10))) % 256) [.int .u8 ((IntKind.u64.wrap (48 + (Int.tmod a0 10))) % 256)] (fun _ => True) (fun _ => False) rfl rfl ?aP (fun _ hk => hk.elim) ?aF ?aO ?aB ?aS ?aL ?_; (case aP => exact rfl); (case aB => exact (by repeat (first | (with_reducible first | exact HB.out | apply below_alloc | apply pw_below_drewN | apply below_drew1) | exact HB.out))); (case aF => exact (fun _ _ => trivial)); (case aO => exact (by (with_reducible repeat (first | apply Kd.R_alloc | apply Kd.R_drewN | apply Kd.R_drew)); exact HO121.out)); (case aS => exact (below_size (by repeat (first | (with_reducible first | exact HB.out | apply below_alloc | apply pw_below_drewN | apply below_drew1) | exact HB.out)))); (case aL => have := LMc6.out; omega); intro v123 w8 ho hb hg hat; rw [← Ny122.out] at ho; have n0_ := Aside0.mk (hb); have n1_ := Aside0.mk (ho); clear HB; clear HO121; have HB := n0_; have HO124 := n1_; clear n0_ n1_; clear ho hb hg hat))
      go_ret
      exact ⟨_, by first | rfl | (simp [errW_none, errW_some] <;> rfl) | (simp [*, errW_none, errW_some] <;> rfl), by (with_reducible repeat (first | apply Kd.R_alloc | apply Kd.R_drewN | apply Kd.R_drew)); exact HO124.out, by repeat (first | (with_reducible first | exact HB.out | apply below_alloc | apply pw_below_drewN | apply below_drew1) | exact HB.out)⟩
    · rw [if_neg c6] at H
      exact absurd H (by simp)

end Go.Proofs.YtpfmmbhbmdbmeaaGreatDoorQ.QL
