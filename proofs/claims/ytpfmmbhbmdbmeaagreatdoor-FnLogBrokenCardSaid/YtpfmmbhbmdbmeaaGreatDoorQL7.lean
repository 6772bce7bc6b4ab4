-- Lines that a program has printed for this claim: functions as plain Lean functions, and their walks.
import Derived.Test.YtpfmmbhbmdbmeaaGreatDoorQL0
import Derived.Test.YtpfmmbhbmdbmeaaGreatDoorQL1
import Derived.Test.YtpfmmbhbmdbmeaaGreatDoorQL6
namespace Go.Proofs.YtpfmmbhbmdbmeaaGreatDoorQ.QL
open Go.RowKit Go.Proofs.YtpfmmbhbmdbmeaaGreatDoorQ.Ext Go.Proofs.YtpfmmbhbmdbmeaaGreatDoorW.PrintWords Go.Proofs.YtpfmmbhbmdbmeaaGreatDoorW.PrintLast Go.Proofs.YtpfmmbhbmdbmeaaGreatDoorW.PrintMore
attribute [local go_sem] max2_int min2_int max_two min_two max_three min_three max_four min_four   -- for this text's walks alone
set_option linter.unusedVariables false
set_option linter.unusedSimpArgs false

attribute [local go_sem high] eqA60
/-! ### spec_SameRecs: function 26 -/
def spec_SameRecs.l0 : Nat → List (S31) → List (S31) → Int → Int → Option (Bool)
  | 0, _, _, _, _ => none
  | k + 1, x1, x12, x13, x14 => if x14 < x13 then (if 0 ≤ x14 then (if x14 < (x12.length : Int) then (if x14 < (x1.length : Int) then ((spec_SameRec.f ((rd_T31 x12 x14).f0) ((rd_T31 x12 x14).f1) ((rd_T31 x12 x14).f2) ((rd_T31 x12 x14).f3) ((rd_T31 x12 x14).f4) ((rd_T31 x1 x14).f0) ((rd_T31 x1 x14).f1) ((rd_T31 x1 x14).f2) ((rd_T31 x1 x14).f3) ((rd_T31 x1 x14).f4)).bind fun t239 => (if t239 = true then (spec_SameRecs.l0 k x1 x12 x13 (wrap64 (x14 + 1))) else (some false))) else (none)) else (none)) else (none)) else (some true)
def spec_SameRecs.f (k : Nat) (l0 : List (S31)) (l1 : List (S31)) : Option (Bool) := if (l0.length : Int) = (l1.length : Int) then (spec_SameRecs.l0 k l1 l0 (l0.length : Int) 0) else (some false)
set_option maxHeartbeats 8000000 in
set_option maxRecDepth 100000 in
theorem spec_SameRecs.calls (k : Nat) (A0 : Option Addr) (c0 : Nat) (l0 : List (S31)) (A1 : Option Addr) (c1 : Nat) (l1 : List (S31)) (r : Bool) (w : World) (hr0 : Kd.C k31 w A0 l0.length l0) (hc0 : l0.length ≤ c0) (hr1 : Kd.C k31 w A1 l1.length l1) (hc1 : l1.length ≤ c1) (h : spec_SameRecs.f k l0 l1 = some r) :
    Calls Tryz.prog 26 #[.slice A0 l0.length c0, .slice A1 l1.length c1] w fun e w' => e = .returned (.bool r) ∧ Below w.heap.size w w' := by
  have hu31 := Tryz.underlying31
  have HR0 := Aside0.mk hr0
  have HC0 := Aside0.mk hc0
  clear hr0 hc0
  have HR1 := Aside0.mk hr1
  have HC1 := Aside0.mk hc1
  clear hr1 hc1
  have HB := Aside0.mk (Below.refl w.heap.size w)
  have H : (if (l0.length : Int) = (l1.length : Int) then (spec_SameRecs.l0 k l1 l0 (l0.length : Int) 0) else (some false)) = some r := h
  clear h
  by_cases c3 : (l0.length : Int) = (l1.length : Int)
  · rw [if_pos c3] at H
    have c3b0 : ((l0.length : Int) == (l1.length : Int)) = true := beq_iff_eq.mpr c3
    have c3b1 : ((l0.length : Int) != (l1.length : Int)) = false := bne_eq_false_iff_eq.mpr c3
    have c3b2 : (l0.length == l1.length) = true := by first | simpa using c3 | (simp at c3 ⊢; omega)
    clear c3
    have H' := Aside0.mk H
    clear H
    go_enter Tryz.func26, Tryz.ntmps26
    go_wp2
    go_loopg [14] k (fun kq v14 w' => ∃ (x14_1 : Int), v14 = .int .i64 x14_1 ∧ Aside0 (spec_SameRecs.l0 kq l1 l0 (l0.length : Int) x14_1 = some r) ∧ Aside0 (kq ≤ k) ∧ Aside0 (Below w.heap.size w w'))
    case atStart => exact ⟨(0), (by first | rfl | (simp; done) | (simp [*]; done)), H', ⟨Nat.le_refl _⟩, ⟨by repeat (first | (with_reducible first | exact HB.out | apply below_alloc | apply pw_below_drewN | apply below_drew1) | exact HB.out)⟩⟩
    case round =>
      clear H'
      try clear c1
      try clear c2
      try clear p2
      try clear c3
      try clear c3b0
      try clear c3b1
      try clear c3b2
      obtain ⟨x14_1, rfl, HA, HK1, HB⟩ := hrel
      cases gk with
      | zero => exact absurd HA.out (by simp [spec_SameRecs.l0])
      | succ k1 =>
        have H := HA.out
        clear HA
        simp only [spec_SameRecs.l0] at H
        by_cases c4 : x14_1 < (l0.length : Int)
        · rw [if_pos c4] at H
          have c4b0 : decide (x14_1 < (l0.length : Int)) = true := decide_eq_true c4
          clear c4
          by_cases c5 : 0 ≤ x14_1
          · rw [if_pos c5] at H
            have c5b0 : decide (0 ≤ x14_1) = true := decide_eq_true c5
            clear c5
            by_cases c6 : x14_1 < (l0.length : Int)
            · rw [if_pos c6] at H
              have c6b0 : decide (x14_1 < (l0.length : Int)) = true := decide_eq_true c6
              clear c6
              by_cases c7 : x14_1 < (l1.length : Int)
              · rw [if_pos c7] at H
                have c7b0 : decide (x14_1 < (l1.length : Int)) = true := decide_eq_true c7
                clear c7
                replace H := Option.bind_eq_some_iff.mp H
                obtain ⟨t239, A80, H⟩ := H
                replace H : (if t239 = true then (spec_SameRecs.l0 k1 l1 l0 (l0.length : Int) (wrap64 (x14_1 + 1))) else (some false)) = some r := H
                have A8 := Aside0.mk A80
                clear A80
                by_cases c9 : t239 = true
                · subst c9
                  have H1 : (spec_SameRecs.l0 k1 l1 l0 (l0.length : Int) (wrap64 (x14_1 + 1))) = some r := by rw [if_pos rfl] at H; exact H
                  clear H
                  have H := H1
                  clear H1
                  have H' := Aside0.mk H
                  clear H
                  have p236 : 0 ≤ (x14_1 : Int) := of_decide_eq_true (by first | (with_reducible assumption) | assumption)
                  have q236 : x14_1 < (l0.length : Int) := of_decide_eq_true (by first | (with_reducible assumption) | assumption)
                  obtain ⟨ad236, A236_0, c236_0, A236_1, c236_1, e236, hx236_0, hx236_1, hx236_2, hx236_3, hx236_4, hl236_0, hi236_0, hl236_1, hi236_1⟩ := at_T31 HR0.out x14_1 p236 q236
                  cases e236
                  replace hx236_0 := (HB.out.cell (World.block_lt_of_cell? w _ hx236_0)).trans hx236_0
                  replace hx236_1 := (HB.out.cell (World.block_lt_of_cell? w _ hx236_1)).trans hx236_1
                  replace hx236_2 := (HB.out.cell (World.block_lt_of_cell? w _ hx236_2)).trans hx236_2
                  replace hx236_3 := (HB.out.cell (World.block_lt_of_cell? w _ hx236_3)).trans hx236_3
                  replace hx236_4 := (HB.out.cell (World.block_lt_of_cell? w _ hx236_4)).trans hx236_4
                  have HR236_0 := Aside0.mk hi236_0
                  have HC236_0 := Aside0.mk hl236_0
                  clear hi236_0 hl236_0
                  have HR236_1 := Aside0.mk hi236_1
                  have HC236_1 := Aside0.mk hl236_1
                  clear hi236_1 hl236_1
                  replace p236 := eq_true p236
                  replace q236 := eq_true q236
                  try go_wp2_with (first | ((with_reducible refine gate_dst (N := 6) rfl ?_); refine box_event ?hg (N := 6) ?hd (cs := #[.slice none 0 0, .slice none 0 0, .int .u64 0, .int .u8 0, .int .u8 0]) (t := 31) ?hr ?_; (case hd => rfl); (case hg => rfl); (case hr => first | (go_simp; done) | (go_simp; rfl)); intro gb237 hg w10 hbox hb; have n0_ := Aside0.mk (below_step (by repeat (first | (with_reducible first | exact HB.out | apply below_alloc | apply pw_below_drewN | apply below_drew1) | exact HB.out)) hb); have n1_ := Aside0.mk (hbox); have n2_ := Aside0.mk ((by rw [hg]; exact (below_size (by repeat (first | (with_reducible first | exact HB.out | apply below_alloc | apply pw_below_drewN | apply below_drew1) | exact HB.out))) : w.heap.size ≤ gb237)); have n3_ := Aside0.mk ((by rw [hg]; exact (below_size (by repeat (first | (with_reducible first | exact HB.out | apply below_alloc | apply pw_below_drewN | apply below_drew1) | exact HB.out))) : w.heap.size ≤ gb237)); clear HB; have HB := n0_; have BK237 := n1_; have GW237 := n2_; have GE237 := n3_; clear n0_ n1_ n2_ n3_; clear hb hbox hg; have hcz11_0 : w10.cell? ⟨gb237, 0, none⟩ = some (.slice none 0 0) := (blk_cell BK237.out 0).trans rfl; have hcz11_1 : w10.cell? ⟨gb237, 1, none⟩ = some (.slice none 0 0) := (blk_cell BK237.out 1).trans rfl; have hcz11_2 : w10.cell? ⟨gb237, 2, none⟩ = some (.int .u64 0) := (blk_cell BK237.out 2).trans rfl; have hcz11_3 : w10.cell? ⟨gb237, 3, none⟩ = some (.int .u8 0) := (blk_cell BK237.out 3).trans rfl; have hcz11_4 : w10.cell? ⟨gb237, 4, none⟩ = some (.int .u8 0) := (blk_cell BK237.out 4).trans rfl; have hfz11_0 := blk_frozen BK237.out 0; have hfz11_1 := blk_frozen BK237.out 1; have hfz11_2 := blk_frozen BK237.out 2; have hfz11_3 := blk_frozen BK237.out 3; have hfz11_4 := blk_frozen BK237.out 4))
                  have n0_ : Aside0 ((((((w10.setCell ⟨gb237, 0, none⟩ (.slice A236_0 ((rd_T31 l0 x14_1).f0).length c236_0)).setCell ⟨gb237, 1, none⟩ (.slice A236_1 ((rd_T31 l0 x14_1).f1).length c236_1)).setCell ⟨gb237, 2, none⟩ (.int .u64 ((rd_T31 l0 x14_1).f2))).setCell ⟨gb237, 3, none⟩ (.int .u8 ((rd_T31 l0 x14_1).f3))).setCell ⟨gb237, 4, none⟩ (.int .u8 ((rd_T31 l0 x14_1).f4))).heap[gb237]? = some (.cells #[.slice A236_0 ((rd_T31 l0 x14_1).f0).length c236_0, .slice A236_1 ((rd_T31 l0 x14_1).f1).length c236_1, .int .u64 ((rd_T31 l0 x14_1).f2), .int .u8 ((rd_T31 l0 x14_1).f3), .int .u8 ((rd_T31 l0 x14_1).f4)] 31 (0, 0))) := ⟨by (with_reducible repeat (first | refine blk_drewN ?_ _ | refine blk_drew ?_ | refine blk_alloc ?_ _)); refine blk_put (cs := #[.slice A236_0 ((rd_T31 l0 x14_1).f0).length c236_0, .slice A236_1 ((rd_T31 l0 x14_1).f1).length c236_1, .int .u64 ((rd_T31 l0 x14_1).f2), .int .u8 ((rd_T31 l0 x14_1).f3), .int .u8 0]) ?_ 4 _ rfl; (with_reducible repeat (first | refine blk_drewN ?_ _ | refine blk_drew ?_ | refine blk_alloc ?_ _)); refine blk_put (cs := #[.slice A236_0 ((rd_T31 l0 x14_1).f0).length c236_0, .slice A236_1 ((rd_T31 l0 x14_1).f1).length c236_1, .int .u64 ((rd_T31 l0 x14_1).f2), .int .u8 0, .int .u8 0]) ?_ 3 _ rfl; (with_reducible repeat (first | refine blk_drewN ?_ _ | refine blk_drew ?_ | refine blk_alloc ?_ _)); refine blk_put (cs := #[.slice A236_0 ((rd_T31 l0 x14_1).f0).length c236_0, .slice A236_1 ((rd_T31 l0 x14_1).f1).length c236_1, .int .u64 0, .int .u8 0, .int .u8 0]) ?_ 2 _ rfl; (with_reducible repeat (first | refine blk_drewN ?_ _ | refine blk_drew ?_ | refine blk_alloc ?_ _)); refine blk_put (cs := #[.slice A236_0 ((rd_T31 l0 x14_1).f0).length c236_0, .slice none 0 0, .int .u64 0, .int .u8 0, .int .u8 0]) ?_ 1 _ rfl; (with_reducible repeat (first | refine blk_drewN ?_ _ | refine blk_drew ?_ | refine blk_alloc ?_ _)); refine blk_put (cs := #[.slice none 0 0, .slice none 0 0, .int .u64 0, .int .u8 0, .int .u8 0]) ?_ 0 _ rfl; (with_reducible repeat (first | refine blk_drewN ?_ _ | refine blk_drew ?_ | refine blk_alloc ?_ _)); exact BK237.out⟩
                  have n1_ : Aside0 (Below w.heap.size w (((((w10.setCell ⟨gb237, 0, none⟩ (.slice A236_0 ((rd_T31 l0 x14_1).f0).length c236_0)).setCell ⟨gb237, 1, none⟩ (.slice A236_1 ((rd_T31 l0 x14_1).f1).length c236_1)).setCell ⟨gb237, 2, none⟩ (.int .u64 ((rd_T31 l0 x14_1).f2))).setCell ⟨gb237, 3, none⟩ (.int .u8 ((rd_T31 l0 x14_1).f3))).setCell ⟨gb237, 4, none⟩ (.int .u8 ((rd_T31 l0 x14_1).f4)))) := ⟨by repeat (first | (with_reducible first | exact HB.out | apply below_alloc | apply pw_below_drewN | apply below_drew1 | refine below_set ?_ GE237.out) | exact HB.out)⟩
                  (try clear BK237)
                  (try clear HB)
                  generalize (((((w10.setCell ⟨gb237, 0, none⟩ (.slice A236_0 ((rd_T31 l0 x14_1).f0).length c236_0)).setCell ⟨gb237, 1, none⟩ (.slice A236_1 ((rd_T31 l0 x14_1).f1).length c236_1)).setCell ⟨gb237, 2, none⟩ (.int .u64 ((rd_T31 l0 x14_1).f2))).setCell ⟨gb237, 3, none⟩ (.int .u8 ((rd_T31 l0 x14_1).f3))).setCell ⟨gb237, 4, none⟩ (.int .u8 ((rd_T31 l0 x14_1).f4))) = w12 at n0_ n1_ ⊢
                  have BK237 := n0_
                  have HB := n1_
                  clear n0_ n1_
                  have n0_ := Aside0.mk (blk_drew BK237.out)
                  have n1_ := Aside0.mk (below_drew1 HB.out)
                  clear BK237
                  clear HB
                  have BK237 := n0_
                  have HB := n1_
                  clear n0_ n1_
                  have p238 : 0 ≤ (x14_1 : Int) := of_decide_eq_true (by first | (with_reducible assumption) | assumption)
                  have q238 : x14_1 < (l1.length : Int) := of_decide_eq_true (by first | (with_reducible assumption) | assumption)
                  obtain ⟨ad238, A238_0, c238_0, A238_1, c238_1, e238, hx238_0, hx238_1, hx238_2, hx238_3, hx238_4, hl238_0, hi238_0, hl238_1, hi238_1⟩ := at_T31 HR1.out x14_1 p238 q238
                  have hw238_4 := hx238_4
                  have hw238_3 := hx238_3
                  have hw238_2 := hx238_2
                  have hw238_1 := hx238_1
                  have hw238_0 := hx238_0
                  cases e238
                  replace hx238_0 := (HB.out.cell (World.block_lt_of_cell? w _ hx238_0)).trans hx238_0
                  replace hx238_1 := (HB.out.cell (World.block_lt_of_cell? w _ hx238_1)).trans hx238_1
                  replace hx238_2 := (HB.out.cell (World.block_lt_of_cell? w _ hx238_2)).trans hx238_2
                  replace hx238_3 := (HB.out.cell (World.block_lt_of_cell? w _ hx238_3)).trans hx238_3
                  replace hx238_4 := (HB.out.cell (World.block_lt_of_cell? w _ hx238_4)).trans hx238_4
                  have HR238_0 := Aside0.mk hi238_0
                  have HC238_0 := Aside0.mk hl238_0
                  clear hi238_0 hl238_0
                  have HR238_1 := Aside0.mk hi238_1
                  have HC238_1 := Aside0.mk hl238_1
                  clear hi238_1 hl238_1
                  replace p238 := eq_true p238
                  replace q238 := eq_true q238
                  refine start_ (n := 7) (S := fun w' => w'.cell? ⟨gb237, 0, none⟩ = some (.slice A236_0 ((rd_T31 l0 x14_1).f0).length c236_0) ∧ w'.cell? ⟨gb237, 1, none⟩ = some (.slice A236_1 ((rd_T31 l0 x14_1).f1).length c236_1) ∧ w'.cell? ⟨gb237, 2, none⟩ = some (.int .u64 ((rd_T31 l0 x14_1).f2)) ∧ w'.cell? ⟨gb237, 3, none⟩ = some (.int .u8 ((rd_T31 l0 x14_1).f3)) ∧ w'.cell? ⟨gb237, 4, none⟩ = some (.int .u8 ((rd_T31 l0 x14_1).f4)) ∧ w'.cell? (ad238.add ((x14_1).toNat * 5)) = some (.slice A238_0 ((rd_T31 l1 x14_1).f0).length c238_0) ∧ w'.cell? ⟨(ad238.add ((x14_1).toNat * 5)).block, (ad238.add ((x14_1).toNat * 5)).off + 1, none⟩ = some (.slice A238_1 ((rd_T31 l1 x14_1).f1).length c238_1) ∧ w'.cell? ⟨(ad238.add ((x14_1).toNat * 5)).block, (ad238.add ((x14_1).toNat * 5)).off + 2, none⟩ = some (.int .u64 ((rd_T31 l1 x14_1).f2)) ∧ w'.cell? ⟨(ad238.add ((x14_1).toNat * 5)).block, (ad238.add ((x14_1).toNat * 5)).off + 3, none⟩ = some (.int .u8 ((rd_T31 l1 x14_1).f3)) ∧ w'.cell? ⟨(ad238.add ((x14_1).toNat * 5)).block, (ad238.add ((x14_1).toNat * 5)).off + 4, none⟩ = some (.int .u8 ((rd_T31 l1 x14_1).f4))) (ds := []) #[false, false, false, false, false, false, false] (by kernel_rfl) rfl rfl ⟨(blk_cell BK237.out 0).trans rfl, (blk_cell BK237.out 1).trans rfl, (blk_cell BK237.out 2).trans rfl, (blk_cell BK237.out 3).trans rfl, (blk_cell BK237.out 4).trans rfl, ((HB.out.cell (World.block_lt_of_cell? w _ hw238_0)).trans hw238_0), ((HB.out.cell (World.block_lt_of_cell? w _ hw238_1)).trans hw238_1), ((HB.out.cell (World.block_lt_of_cell? w _ hw238_2)).trans hw238_2), ((HB.out.cell (World.block_lt_of_cell? w _ hw238_3)).trans hw238_3), ((HB.out.cell (World.block_lt_of_cell? w _ hw238_4)).trans hw238_4)⟩ (fun hHeld => ?_)
                  generalize w12.drew = w13 at BK237 HB HR238_0 HR238_1 hx238_0 hx238_1 hx238_2 hx238_3 hx238_4 hHeld ⊢
                  refine pure_ (i := 1) (N := some 20) (v := ?_) (a' := ?_) #[false, true, false, false, false, false, false] rfl rfl (by kernel_rfl) (fun _ _ _ h => h) (Or.inl ⟨by rfl, ?_⟩) ?_ ?_
                  rotate_left
                  · intro w'
                    go_simp
                    with_reducible rfl
                  rotate_left
                  · simp only [Act.put, List.setIfInBounds_toArray, List.set_cons_zero, List.set_cons_succ, i64_w, i32_w]
                    rfl
                  refine pure_ (i := 2) (N := some 21) (v := ?_) (a' := ?_) #[false, true, true, false, false, false, false] rfl rfl (by kernel_rfl) (fun _ _ _ h => h) (Or.inl ⟨by rfl, ?_⟩) ?_ ?_
                  rotate_left
                  · intro w'
                    go_simp
                    with_reducible rfl
                  rotate_left
                  · simp only [Act.put, List.setIfInBounds_toArray, List.set_cons_zero, List.set_cons_succ, i64_w, i32_w]
                    rfl
                  refine pure_ (i := 3) (N := some 22) (v := ?_) (a' := ?_) #[false, true, true, true, false, false, false] rfl rfl (by kernel_rfl) (fun _ _ _ h => h) (Or.inl ⟨by rfl, ?_⟩) ?_ ?_
                  rotate_left
                  · intro w'
                    go_simp
                    with_reducible rfl
                  rotate_left
                  · simp only [Act.put, List.setIfInBounds_toArray, List.set_cons_zero, List.set_cons_succ, i64_w, i32_w]
                    rfl
                  refine take_ (i := 0) (N := some 19) (v := ?_) (a' := ?_) #[true, true, true, true, false, false, false] rfl rfl (by kernel_rfl) (fun _ _ _ h => h) (Or.inl ⟨by rfl, ?_⟩) hHeld ?_ ?_
                  rotate_left
                  · rintro w' ⟨s0, s1, s2, s3, s4, s5, s6, s7, s8, s9⟩
                    go_simp
                    with_reducible rfl
                  rotate_left
                  · simp only [Act.put, List.setIfInBounds_toArray, List.set_cons_zero, List.set_cons_succ, i64_w, i32_w]
                    rfl
                  refine take_ (i := 4) (N := some 23) (v := ?_) (a' := ?_) #[true, true, true, true, true, false, false] rfl rfl (by kernel_rfl) (fun _ _ _ h => h) (Or.inl ⟨by rfl, ?_⟩) hHeld ?_ ?_
                  rotate_left
                  · rintro w' ⟨s0, s1, s2, s3, s4, s5, s6, s7, s8, s9⟩
                    go_simp
                    with_reducible rfl
                  rotate_left
                  · simp only [Act.put, List.setIfInBounds_toArray, List.set_cons_zero, List.set_cons_succ, i64_w, i32_w]
                    rfl
                  refine one_ (i := 5) (N := some 24) #[true, true, true, true, true, true, false] rfl rfl (by kernel_rfl) (by decide) (fun K hK => ?_)
                  refine goes_ Tryz.func34 (by kernel_rfl) rfl #[.agg #[.slice A236_0 ((rd_T31 l0 x14_1).f0).length c236_0, .slice A236_1 ((rd_T31 l0 x14_1).f1).length c236_1, .int .u64 ((rd_T31 l0 x14_1).f2), .int .u8 ((rd_T31 l0 x14_1).f3), .int .u8 ((rd_T31 l0 x14_1).f4)], .agg #[.slice A238_0 ((rd_T31 l1 x14_1).f0).length c238_0, .slice A238_1 ((rd_T31 l1 x14_1).f1).length c238_1, .int .u64 ((rd_T31 l1 x14_1).f2), .int .u8 ((rd_T31 l1 x14_1).f3), .int .u8 ((rd_T31 l1 x14_1).f4)]] (by rfl) rfl rfl (by (try simp only [List.map_toArray, List.map_cons, List.map_nil]); first | done | rfl | (simp only [List.length_drop, List.length_take]; rfl)) ?_
                  with_reducible refine (spec_SameRec.calls _ _ ((rd_T31 l0 x14_1).f0) _ _ ((rd_T31 l0 x14_1).f1) ((rd_T31 l0 x14_1).f2) ((rd_T31 l0 x14_1).f3) ((rd_T31 l0 x14_1).f4) _ _ ((rd_T31 l1 x14_1).f0) _ _ ((rd_T31 l1 x14_1).f1) ((rd_T31 l1 x14_1).f2) ((rd_T31 l1 x14_1).f3) ((rd_T31 l1 x14_1).f4) true _ ?side1 ?side2 ?side3 ?side4 ?side5 ?side6 ?side7 ?side8 A8.out).mono ?_
                  (case side1 => repeat (first | exact (Kd.C_below HR236_0.out HB.out) | (with_reducible refine Kd.C_alloc ?_ _) | (with_reducible refine Kd.C_drewN ?_ _) | (with_reducible refine Kd.C_drew ?_)))
                  (case side2 => exact HC236_0.out)
                  (case side3 => repeat (first | exact (Kd.C_below HR236_1.out HB.out) | (with_reducible refine Kd.C_alloc ?_ _) | (with_reducible refine Kd.C_drewN ?_ _) | (with_reducible refine Kd.C_drew ?_)))
                  (case side4 => exact HC236_1.out)
                  (case side5 => repeat (first | exact (Kd.C_below HR238_0.out HB.out) | (with_reducible refine Kd.C_alloc ?_ _) | (with_reducible refine Kd.C_drewN ?_ _) | (with_reducible refine Kd.C_drew ?_)))
                  (case side6 => exact HC238_0.out)
                  (case side7 => repeat (first | exact (Kd.C_below HR238_1.out HB.out) | (with_reducible refine Kd.C_alloc ?_ _) | (with_reducible refine Kd.C_drewN ?_ _) | (with_reducible refine Kd.C_drew ?_)))
                  (case side8 => exact HC238_1.out)
                  rintro e w14 ⟨rfl, hb⟩
                  refine ⟨_, rfl, ?_⟩
                  have n0_ := Aside0.mk (blk_below (g := gb237) (o := .cells #[.slice A236_0 ((rd_T31 l0 x14_1).f0).length c236_0, .slice A236_1 ((rd_T31 l0 x14_1).f1).length c236_1, .int .u64 ((rd_T31 l0 x14_1).f2), .int .u8 ((rd_T31 l0 x14_1).f3), .int .u8 ((rd_T31 l0 x14_1).f4)] 31 (0, 0)) (by (with_reducible repeat (first | refine blk_drewN ?_ _ | refine blk_drew ?_ | refine blk_alloc ?_ _)); exact BK237.out) hb)
                  have n1_ := Aside0.mk (below_step (by repeat (first | (with_reducible first | exact HB.out | apply below_alloc | apply pw_below_drewN | apply below_drew1 | refine below_set ?_ GE237.out) | exact HB.out)) hb)
                  clear BK237
                  clear HB
                  have BK237 := n0_
                  have HB := n1_
                  clear n0_ n1_
                  (try clear hb)
                  (try clear hb2)
                  (try clear hk)
                  (try clear hi)
                  refine hK.out _ _ ⟨(blk_cell BK237.out 0).trans rfl, (blk_cell BK237.out 1).trans rfl, (blk_cell BK237.out 2).trans rfl, (blk_cell BK237.out 3).trans rfl, (blk_cell BK237.out 4).trans rfl, ((HB.out.cell (World.block_lt_of_cell? w _ hw238_0)).trans hw238_0), ((HB.out.cell (World.block_lt_of_cell? w _ hw238_1)).trans hw238_1), ((HB.out.cell (World.block_lt_of_cell? w _ hw238_2)).trans hw238_2), ((HB.out.cell (World.block_lt_of_cell? w _ hw238_3)).trans hw238_3), ((HB.out.cell (World.block_lt_of_cell? w _ hw238_4)).trans hw238_4)⟩ (fun hHeld => ?_)
                  clear hK K
                  refine norm_ (a' := ?_) ?_ ?_
                  rotate_left
                  · show Act.put _ (some 24) _ = _
                    simp only [Act.put, List.setIfInBounds_toArray, List.set_cons_zero, List.set_cons_succ, i64_w, i32_w]
                    rfl
                  refine pure_ (i := 6) (N := some 25) (v := ?_) (a' := ?_) #[true, true, true, true, true, true, true] rfl rfl (by kernel_rfl) (fun _ _ _ h => h) (Or.inl ⟨by rfl, ?_⟩) ?_ ?_
                  rotate_left
                  · intro w'
                    go_simp
                    with_reducible rfl
                  rotate_left
                  · simp only [Act.put, List.setIfInBounds_toArray, List.set_cons_zero, List.set_cons_succ, i64_w, i32_w]
                    rfl
                  refine done_ (by kernel_rfl) ?_
                  try go_wp2
                  go_roundg k1
                  case measure => have := HK1.out; omega
                  case rel => exact ⟨(wrap64 (x14_1 + 1)), (by first | rfl | (simp; done) | (simp [*]; done)), H', ⟨by have := HK1.out; omega⟩, ⟨by repeat (first | (with_reducible first | exact HB.out | apply below_alloc | apply pw_below_drewN | apply below_drew1 | refine below_set ?_ GE237.out) | exact HB.out)⟩⟩
                · replace c9 := Bool.eq_false_iff.mpr c9
                  subst c9
                  have H1 : (some false) = some r := by rw [if_neg (show ¬ (false = true) by decide)] at H; exact H
                  clear H
                  have H := H1
                  clear H1
                  obtain rfl := Option.some.inj H
                  have p236 : 0 ≤ (x14_1 : Int) := of_decide_eq_true (by first | (with_reducible assumption) | assumption)
                  have q236 : x14_1 < (l0.length : Int) := of_decide_eq_true (by first | (with_reducible assumption) | assumption)
                  obtain ⟨ad236, A236_0, c236_0, A236_1, c236_1, e236, hx236_0, hx236_1, hx236_2, hx236_3, hx236_4, hl236_0, hi236_0, hl236_1, hi236_1⟩ := at_T31 HR0.out x14_1 p236 q236
                  cases e236
                  replace hx236_0 := (HB.out.cell (World.block_lt_of_cell? w _ hx236_0)).trans hx236_0
                  replace hx236_1 := (HB.out.cell (World.block_lt_of_cell? w _ hx236_1)).trans hx236_1
                  replace hx236_2 := (HB.out.cell (World.block_lt_of_cell? w _ hx236_2)).trans hx236_2
                  replace hx236_3 := (HB.out.cell (World.block_lt_of_cell? w _ hx236_3)).trans hx236_3
                  replace hx236_4 := (HB.out.cell (World.block_lt_of_cell? w _ hx236_4)).trans hx236_4
                  have HR236_0 := Aside0.mk hi236_0
                  have HC236_0 := Aside0.mk hl236_0
                  clear hi236_0 hl236_0
                  have HR236_1 := Aside0.mk hi236_1
                  have HC236_1 := Aside0.mk hl236_1
                  clear hi236_1 hl236_1
                  replace p236 := eq_true p236
                  replace q236 := eq_true q236
                  try go_wp2_with (first | ((with_reducible refine gate_dst (N := 6) rfl ?_); refine box_event ?hg (N := 6) ?hd (cs := #[.slice none 0 0, .slice none 0 0, .int .u64 0, .int .u8 0, .int .u8 0]) (t := 31) ?hr ?_; (case hd => rfl); (case hg => rfl); (case hr => first | (go_simp; done) | (go_simp; rfl)); intro gb237 hg w15 hbox hb; have n0_ := Aside0.mk (below_step (by repeat (first | (with_reducible first | exact HB.out | apply below_alloc | apply pw_below_drewN | apply below_drew1) | exact HB.out)) hb); have n1_ := Aside0.mk (hbox); have n2_ := Aside0.mk ((by rw [hg]; exact (below_size (by repeat (first | (with_reducible first | exact HB.out | apply below_alloc | apply pw_below_drewN | apply below_drew1) | exact HB.out))) : w.heap.size ≤ gb237)); have n3_ := Aside0.mk ((by rw [hg]; exact (below_size (by repeat (first | (with_reducible first | exact HB.out | apply below_alloc | apply pw_below_drewN | apply below_drew1) | exact HB.out))) : w.heap.size ≤ gb237)); clear HB; have HB := n0_; have BK237 := n1_; have GW237 := n2_; have GE237 := n3_; clear n0_ n1_ n2_ n3_; clear hb hbox hg; have hcz16_0 : w15.cell? ⟨gb237, 0, none⟩ = some (.slice none 0 0) := (blk_cell BK237.out 0).trans rfl; have hcz16_1 : w15.cell? ⟨gb237, 1, none⟩ = some (.slice none 0 0) := (blk_cell BK237.out 1).trans rfl; have hcz16_2 : w15.cell? ⟨gb237, 2, none⟩ = some (.int .u64 0) := (blk_cell BK237.out 2).trans rfl; have hcz16_3 : w15.cell? ⟨gb237, 3, none⟩ = some (.int .u8 0) := (blk_cell BK237.out 3).trans rfl; have hcz16_4 : w15.cell? ⟨gb237, 4, none⟩ = some (.int .u8 0) := (blk_cell BK237.out 4).trans rfl; have hfz16_0 := blk_frozen BK237.out 0; have hfz16_1 := blk_frozen BK237.out 1; have hfz16_2 := blk_frozen BK237.out 2; have hfz16_3 := blk_frozen BK237.out 3; have hfz16_4 := blk_frozen BK237.out 4))
                  have n0_ : Aside0 ((((((w15.setCell ⟨gb237, 0, none⟩ (.slice A236_0 ((rd_T31 l0 x14_1).f0).length c236_0)).setCell ⟨gb237, 1, none⟩ (.slice A236_1 ((rd_T31 l0 x14_1).f1).length c236_1)).setCell ⟨gb237, 2, none⟩ (.int .u64 ((rd_T31 l0 x14_1).f2))).setCell ⟨gb237, 3, none⟩ (.int .u8 ((rd_T31 l0 x14_1).f3))).setCell ⟨gb237, 4, none⟩ (.int .u8 ((rd_T31 l0 x14_1).f4))).heap[gb237]? = some (.cells #[.slice A236_0 ((rd_T31 l0 x14_1).f0).length c236_0, .slice A236_1 ((rd_T31 l0 x14_1).f1).length c236_1, .int .u64 ((rd_T31 l0 x14_1).f2), .int .u8 ((rd_T31 l0 x14_1).f3), .int .u8 ((rd_T31 l0 x14_1).f4)] 31 (0, 0))) := ⟨by (with_reducible repeat (first | refine blk_drewN ?_ _ | refine blk_drew ?_ | refine blk_alloc ?_ _)); refine blk_put (cs := #[.slice A236_0 ((rd_T31 l0 x14_1).f0).length c236_0, .slice A236_1 ((rd_T31 l0 x14_1).f1).length c236_1, .int .u64 ((rd_T31 l0 x14_1).f2), .int .u8 ((rd_T31 l0 x14_1).f3), .int .u8 0]) ?_ 4 _ rfl; (with_reducible repeat (first | refine blk_drewN ?_ _ | refine blk_drew ?_ | refine blk_alloc ?_ _)); refine blk_put (cs := #[.slice A236_0 ((rd_T31 l0 x14_1).f0).length c236_0, .slice A236_1 ((rd_T31 l0 x14_1).f1).length c236_1, .int .u64 ((rd_T31 l0 x14_1).f2), .int .u8 0, .int .u8 0]) ?_ 3 _ rfl; (with_reducible repeat (first | refine blk_drewN ?_ _ | refine blk_drew ?_ | refine blk_alloc ?_ _)); refine blk_put (cs := #[.slice A236_0 ((rd_T31 l0 x14_1).f0).length c236_0, .slice A236_1 ((rd_T31 l0 x14_1).f1).length c236_1, .int .u64 0, .int .u8 0, .int .u8 0]) ?_ 2 _ rfl; (with_reducible repeat (first | refine blk_drewN ?_ _ | refine blk_drew ?_ | refine blk_alloc ?_ _)); refine blk_put (cs := #[.slice A236_0 ((rd_T31 l0 x14_1).f0).length c236_0, .slice none 0 0, .int .u64 0, .int .u8 0, .int .u8 0]) ?_ 1 _ rfl; (with_reducible repeat (first | refine blk_drewN ?_ _ | refine blk_drew ?_ | refine blk_alloc ?_ _)); refine blk_put (cs := #[.slice none 0 0, .slice none 0 0, .int .u64 0, .int .u8 0, .int .u8 0]) ?_ 0 _ rfl; (with_reducible repeat (first | refine blk_drewN ?_ _ | refine blk_drew ?_ | refine blk_alloc ?_ _)); exact BK237.out⟩
                  have n1_ : Aside0 (Below w.heap.size w (((((w15.setCell ⟨gb237, 0, none⟩ (.slice A236_0 ((rd_T31 l0 x14_1).f0).length c236_0)).setCell ⟨gb237, 1, none⟩ (.slice A236_1 ((rd_T31 l0 x14_1).f1).length c236_1)).setCell ⟨gb237, 2, none⟩ (.int .u64 ((rd_T31 l0 x14_1).f2))).setCell ⟨gb237, 3, none⟩ (.int .u8 ((rd_T31 l0 x14_1).f3))).setCell ⟨gb237, 4, none⟩ (.int .u8 ((rd_T31 l0 x14_1).f4)))) := ⟨by repeat (first | (with_reducible first | exact HB.out | apply below_alloc | apply pw_below_drewN | apply below_drew1 | refine below_set ?_ GE237.out) | exact HB.out)⟩
                  (try clear BK237)
                  (try clear HB)
                  generalize (((((w15.setCell ⟨gb237, 0, none⟩ (.slice A236_0 ((rd_T31 l0 x14_1).f0).length c236_0)).setCell ⟨gb237, 1, none⟩ (.slice A236_1 ((rd_T31 l0 x14_1).f1).length c236_1)).setCell ⟨gb237, 2, none⟩ (.int .u64 ((rd_T31 l0 x14_1).f2))).setCell ⟨gb237, 3, none⟩ (.int .u8 ((rd_T31 l0 x14_1).f3))).setCell ⟨gb237, 4, none⟩ (.int .u8 ((rd_T31 l0 x14_1).f4))) = w17 at n0_ n1_ ⊢
                  have BK237 := n0_
                  have HB := n1_
                  clear n0_ n1_
                  have n0_ := Aside0.mk (blk_drew BK237.out)
                  have n1_ := Aside0.mk (below_drew1 HB.out)
                  clear BK237
                  clear HB
                  have BK237 := n0_
                  have HB := n1_
                  clear n0_ n1_
                  have p238 : 0 ≤ (x14_1 : Int) := of_decide_eq_true (by first | (with_reducible assumption) | assumption)
                  have q238 : x14_1 < (l1.length : Int) := of_decide_eq_true (by first | (with_reducible assumption) | assumption)
                  obtain ⟨ad238, A238_0, c238_0, A238_1, c238_1, e238, hx238_0, hx238_1, hx238_2, hx238_3, hx238_4, hl238_0, hi238_0, hl238_1, hi238_1⟩ := at_T31 HR1.out x14_1 p238 q238
                  have hw238_4 := hx238_4
                  have hw238_3 := hx238_3
                  have hw238_2 := hx238_2
                  have hw238_1 := hx238_1
                  have hw238_0 := hx238_0
                  cases e238
                  replace hx238_0 := (HB.out.cell (World.block_lt_of_cell? w _ hx238_0)).trans hx238_0
                  replace hx238_1 := (HB.out.cell (World.block_lt_of_cell? w _ hx238_1)).trans hx238_1
                  replace hx238_2 := (HB.out.cell (World.block_lt_of_cell? w _ hx238_2)).trans hx238_2
                  replace hx238_3 := (HB.out.cell (World.block_lt_of_cell? w _ hx238_3)).trans hx238_3
                  replace hx238_4 := (HB.out.cell (World.block_lt_of_cell? w _ hx238_4)).trans hx238_4
                  have HR238_0 := Aside0.mk hi238_0
                  have HC238_0 := Aside0.mk hl238_0
                  clear hi238_0 hl238_0
                  have HR238_1 := Aside0.mk hi238_1
                  have HC238_1 := Aside0.mk hl238_1
                  clear hi238_1 hl238_1
                  replace p238 := eq_true p238
                  replace q238 := eq_true q238
                  refine start_ (n := 7) (S := fun w' => w'.cell? ⟨gb237, 0, none⟩ = some (.slice A236_0 ((rd_T31 l0 x14_1).f0).length c236_0) ∧ w'.cell? ⟨gb237, 1, none⟩ = some (.slice A236_1 ((rd_T31 l0 x14_1).f1).length c236_1) ∧ w'.cell? ⟨gb237, 2, none⟩ = some (.int .u64 ((rd_T31 l0 x14_1).f2)) ∧ w'.cell? ⟨gb237, 3, none⟩ = some (.int .u8 ((rd_T31 l0 x14_1).f3)) ∧ w'.cell? ⟨gb237, 4, none⟩ = some (.int .u8 ((rd_T31 l0 x14_1).f4)) ∧ w'.cell? (ad238.add ((x14_1).toNat * 5)) = some (.slice A238_0 ((rd_T31 l1 x14_1).f0).length c238_0) ∧ w'.cell? ⟨(ad238.add ((x14_1).toNat * 5)).block, (ad238.add ((x14_1).toNat * 5)).off + 1, none⟩ = some (.slice A238_1 ((rd_T31 l1 x14_1).f1).length c238_1) ∧ w'.cell? ⟨(ad238.add ((x14_1).toNat * 5)).block, (ad238.add ((x14_1).toNat * 5)).off + 2, none⟩ = some (.int .u64 ((rd_T31 l1 x14_1).f2)) ∧ w'.cell? ⟨(ad238.add ((x14_1).toNat * 5)).block, (ad238.add ((x14_1).toNat * 5)).off + 3, none⟩ = some (.int .u8 ((rd_T31 l1 x14_1).f3)) ∧ w'.cell? ⟨(ad238.add ((x14_1).toNat * 5)).block, (ad238.add ((x14_1).toNat * 5)).off + 4, none⟩ = some (.int .u8 ((rd_T31 l1 x14_1).f4))) (ds := []) #[false, false, false, false, false, false, false] (by kernel_rfl) rfl rfl ⟨(blk_cell BK237.out 0).trans rfl, (blk_cell BK237.out 1).trans rfl, (blk_cell BK237.out 2).trans rfl, (blk_cell BK237.out 3).trans rfl, (blk_cell BK237.out 4).trans rfl, ((HB.out.cell (World.block_lt_of_cell? w _ hw238_0)).trans hw238_0), ((HB.out.cell (World.block_lt_of_cell? w _ hw238_1)).trans hw238_1), ((HB.out.cell (World.block_lt_of_cell? w _ hw238_2)).trans hw238_2), ((HB.out.cell (World.block_lt_of_cell? w _ hw238_3)).trans hw238_3), ((HB.out.cell (World.block_lt_of_cell? w _ hw238_4)).trans hw238_4)⟩ (fun hHeld => ?_)
                  generalize w17.drew = w18 at BK237 HB HR238_0 HR238_1 hx238_0 hx238_1 hx238_2 hx238_3 hx238_4 hHeld ⊢
                  refine pure_ (i := 1) (N := some 20) (v := ?_) (a' := ?_) #[false, true, false, false, false, false, false] rfl rfl (by kernel_rfl) (fun _ _ _ h => h) (Or.inl ⟨by rfl, ?_⟩) ?_ ?_
                  rotate_left
                  · intro w'
                    go_simp
                    with_reducible rfl
                  rotate_left
                  · simp only [Act.put, List.setIfInBounds_toArray, List.set_cons_zero, List.set_cons_succ, i64_w, i32_w]
                    rfl
                  refine pure_ (i := 2) (N := some 21) (v := ?_) (a' := ?_) #[false, true, true, false, false, false, false] rfl rfl (by kernel_rfl) (fun _ _ _ h => h) (Or.inl ⟨by rfl, ?_⟩) ?_ ?_
                  rotate_left
                  · intro w'
                    go_simp
                    with_reducible rfl
                  rotate_left
                  · simp only [Act.put, List.setIfInBounds_toArray, List.set_cons_zero, List.set_cons_succ, i64_w, i32_w]
                    rfl
                  refine pure_ (i := 3) (N := some 22) (v := ?_) (a' := ?_) #[false, true, true, true, false, false, false] rfl rfl (by kernel_rfl) (fun _ _ _ h => h) (Or.inl ⟨by rfl, ?_⟩) ?_ ?_
                  rotate_left
                  · intro w'
                    go_simp
                    with_reducible rfl
                  rotate_left
                  · simp only [Act.put, List.setIfInBounds_toArray, List.set_cons_zero, List.set_cons_succ, i64_w, i32_w]
                    rfl
                  refine take_ (i := 0) (N := some 19) (v := ?_) (a' := ?_) #[true, true, true, true, false, false, false] rfl rfl (by kernel_rfl) (fun _ _ _ h => h) (Or.inl ⟨by rfl, ?_⟩) hHeld ?_ ?_
                  rotate_left
                  · rintro w' ⟨s0, s1, s2, s3, s4, s5, s6, s7, s8, s9⟩
                    go_simp
                    with_reducible rfl
                  rotate_left
                  · simp only [Act.put, List.setIfInBounds_toArray, List.set_cons_zero, List.set_cons_succ, i64_w, i32_w]
                    rfl
                  refine take_ (i := 4) (N := some 23) (v := ?_) (a' := ?_) #[true, true, true, true, true, false, false] rfl rfl (by kernel_rfl) (fun _ _ _ h => h) (Or.inl ⟨by rfl, ?_⟩) hHeld ?_ ?_
                  rotate_left
                  · rintro w' ⟨s0, s1, s2, s3, s4, s5, s6, s7, s8, s9⟩
                    go_simp
                    with_reducible rfl
                  rotate_left
                  · simp only [Act.put, List.setIfInBounds_toArray, List.set_cons_zero, List.set_cons_succ, i64_w, i32_w]
                    rfl
                  refine one_ (i := 5) (N := some 24) #[true, true, true, true, true, true, false] rfl rfl (by kernel_rfl) (by decide) (fun K hK => ?_)
                  refine goes_ Tryz.func34 (by kernel_rfl) rfl #[.agg #[.slice A236_0 ((rd_T31 l0 x14_1).f0).length c236_0, .slice A236_1 ((rd_T31 l0 x14_1).f1).length c236_1, .int .u64 ((rd_T31 l0 x14_1).f2), .int .u8 ((rd_T31 l0 x14_1).f3), .int .u8 ((rd_T31 l0 x14_1).f4)], .agg #[.slice A238_0 ((rd_T31 l1 x14_1).f0).length c238_0, .slice A238_1 ((rd_T31 l1 x14_1).f1).length c238_1, .int .u64 ((rd_T31 l1 x14_1).f2), .int .u8 ((rd_T31 l1 x14_1).f3), .int .u8 ((rd_T31 l1 x14_1).f4)]] (by rfl) rfl rfl (by (try simp only [List.map_toArray, List.map_cons, List.map_nil]); first | done | rfl | (simp only [List.length_drop, List.length_take]; rfl)) ?_
                  with_reducible refine (spec_SameRec.calls _ _ ((rd_T31 l0 x14_1).f0) _ _ ((rd_T31 l0 x14_1).f1) ((rd_T31 l0 x14_1).f2) ((rd_T31 l0 x14_1).f3) ((rd_T31 l0 x14_1).f4) _ _ ((rd_T31 l1 x14_1).f0) _ _ ((rd_T31 l1 x14_1).f1) ((rd_T31 l1 x14_1).f2) ((rd_T31 l1 x14_1).f3) ((rd_T31 l1 x14_1).f4) false _ ?side1 ?side2 ?side3 ?side4 ?side5 ?side6 ?side7 ?side8 A8.out).mono ?_
                  (case side1 => repeat (first | exact (Kd.C_below HR236_0.out HB.out) | (with_reducible refine Kd.C_alloc ?_ _) | (with_reducible refine Kd.C_drewN ?_ _) | (with_reducible refine Kd.C_drew ?_)))
                  (case side2 => exact HC236_0.out)
                  (case side3 => repeat (first | exact (Kd.C_below HR236_1.out HB.out) | (with_reducible refine Kd.C_alloc ?_ _) | (with_reducible refine Kd.C_drewN ?_ _) | (with_reducible refine Kd.C_drew ?_)))
                  (case side4 => exact HC236_1.out)
                  (case side5 => repeat (first | exact (Kd.C_below HR238_0.out HB.out) | (with_reducible refine Kd.C_alloc ?_ _) | (with_reducible refine Kd.C_drewN ?_ _) | (with_reducible refine Kd.C_drew ?_)))
                  (case side6 => exact HC238_0.out)
                  (case side7 => repeat (first | exact (Kd.C_below HR238_1.out HB.out) | (with_reducible refine Kd.C_alloc ?_ _) | (with_reducible refine Kd.C_drewN ?_ _) | (with_reducible refine Kd.C_drew ?_)))
                  (case side8 => exact HC238_1.out)
                  rintro e w19 ⟨rfl, hb⟩
                  refine ⟨_, rfl, ?_⟩
                  have n0_ := Aside0.mk (blk_below (g := gb237) (o := .cells #[.slice A236_0 ((rd_T31 l0 x14_1).f0).length c236_0, .slice A236_1 ((rd_T31 l0 x14_1).f1).length c236_1, .int .u64 ((rd_T31 l0 x14_1).f2), .int .u8 ((rd_T31 l0 x14_1).f3), .int .u8 ((rd_T31 l0 x14_1).f4)] 31 (0, 0)) (by (with_reducible repeat (first | refine blk_drewN ?_ _ | refine blk_drew ?_ | refine blk_alloc ?_ _)); exact BK237.out) hb)
                  have n1_ := Aside0.mk (below_step (by repeat (first | (with_reducible first | exact HB.out | apply below_alloc | apply pw_below_drewN | apply below_drew1 | refine below_set ?_ GE237.out) | exact HB.out)) hb)
                  clear BK237
                  clear HB
                  have BK237 := n0_
                  have HB := n1_
                  clear n0_ n1_
                  (try clear hb)
                  (try clear hb2)
                  (try clear hk)
                  (try clear hi)
                  refine hK.out _ _ ⟨(blk_cell BK237.out 0).trans rfl, (blk_cell BK237.out 1).trans rfl, (blk_cell BK237.out 2).trans rfl, (blk_cell BK237.out 3).trans rfl, (blk_cell BK237.out 4).trans rfl, ((HB.out.cell (World.block_lt_of_cell? w _ hw238_0)).trans hw238_0), ((HB.out.cell (World.block_lt_of_cell? w _ hw238_1)).trans hw238_1), ((HB.out.cell (World.block_lt_of_cell? w _ hw238_2)).trans hw238_2), ((HB.out.cell (World.block_lt_of_cell? w _ hw238_3)).trans hw238_3), ((HB.out.cell (World.block_lt_of_cell? w _ hw238_4)).trans hw238_4)⟩ (fun hHeld => ?_)
                  clear hK K
                  refine norm_ (a' := ?_) ?_ ?_
                  rotate_left
                  · show Act.put _ (some 24) _ = _
                    simp only [Act.put, List.setIfInBounds_toArray, List.set_cons_zero, List.set_cons_succ, i64_w, i32_w]
                    rfl
                  refine pure_ (i := 6) (N := some 25) (v := ?_) (a' := ?_) #[true, true, true, true, true, true, true] rfl rfl (by kernel_rfl) (fun _ _ _ h => h) (Or.inl ⟨by rfl, ?_⟩) ?_ ?_
                  rotate_left
                  · intro w'
                    go_simp
                    with_reducible rfl
                  rotate_left
                  · simp only [Act.put, List.setIfInBounds_toArray, List.set_cons_zero, List.set_cons_succ, i64_w, i32_w]
                    rfl
                  refine done_ (by kernel_rfl) ?_
                  try go_wp2
                  go_ret
                  exact ⟨by first | rfl | (simp [errW_none, errW_some] <;> rfl) | (simp [*, errW_none, errW_some] <;> rfl), by repeat (first | (with_reducible first | exact HB.out | apply below_alloc | apply pw_below_drewN | apply below_drew1 | refine below_set ?_ GE237.out) | exact HB.out)⟩
              · rw [if_neg c7] at H
                exact absurd H (by simp)
            · rw [if_neg c6] at H
              exact absurd H (by simp)
          · rw [if_neg c5] at H
            exact absurd H (by simp)
        · rw [if_neg c4] at H
          have c4b0 : decide (x14_1 < (l0.length : Int)) = false := decide_eq_false c4
          clear c4
          obtain rfl := Option.some.inj H
          go_wp2
          go_ret
          exact ⟨by first | rfl | (simp [errW_none, errW_some] <;> rfl) | (simp [*, errW_none, errW_some] <;> rfl), by repeat (first | (with_reducible first | exact HB.out | apply below_alloc | apply pw_below_drewN | apply below_drew1) | exact HB.out)⟩
  · rw [if_neg c3] at H
    have c3b0 : ((l0.length : Int) == (l1.length : Int)) = false := beq_eq_false_iff_ne.mpr c3
    have c3b1 : ((l0.length : Int) != (l1.length : Int)) = true := bne_iff_ne.mpr c3
    have c3b2 : (l0.length == l1.length) = false := by first | simpa using c3 | (simp at c3 ⊢; omega)
    obtain rfl := Option.some.inj H
    go_enter Tryz.func26, Tryz.ntmps26
    go_wp2
    go_ret
    exact ⟨by first | rfl | (simp [errW_none, errW_some] <;> rfl) | (simp [*, errW_none, errW_some] <;> rfl), by repeat (first | (with_reducible first | exact HB.out | apply below_alloc | apply pw_below_drewN | apply below_drew1) | exact HB.out)⟩

/-! ### spec_SameSpots: function 27 -/
def spec_SameSpots.l0 : Nat → List (S60) → List (S60) → Int → Int → Option (Bool)
  | 0, _, _, _, _ => none
  | k + 1, x1, x12, x13, x14 => if x14 < x13 then (if 0 ≤ x14 then (if x14 < (x12.length : Int) then (if x14 < (x1.length : Int) then (if (!(((rd_T60 x12 x14).f0) == ((rd_T60 x1 x14).f0)) || (!(((rd_T60 x12 x14).f1) == ((rd_T60 x1 x14).f1)) || (!(((rd_T60 x12 x14).f2) == ((rd_T60 x1 x14).f2))))) = true then (some false) else (spec_SameSpots.l0 k x1 x12 x13 (wrap64 (x14 + 1)))) else (none)) else (none)) else (none)) else (some true)
def spec_SameSpots.f (k : Nat) (l0 : List (S60)) (l1 : List (S60)) : Option (Bool) := if (l0.length : Int) = (l1.length : Int) then (spec_SameSpots.l0 k l1 l0 (l0.length : Int) 0) else (some false)
set_option maxHeartbeats 8000000 in
set_option maxRecDepth 100000 in
theorem spec_SameSpots.calls (k : Nat) (A0 : Option Addr) (c0 : Nat) (l0 : List (S60)) (A1 : Option Addr) (c1 : Nat) (l1 : List (S60)) (r : Bool) (w : World) (hr0 : Kd.C k60 w A0 l0.length l0) (hc0 : l0.length ≤ c0) (hr1 : Kd.C k60 w A1 l1.length l1) (hc1 : l1.length ≤ c1) (h : spec_SameSpots.f k l0 l1 = some r) :
    Calls Tryz.prog 27 #[.slice A0 l0.length c0, .slice A1 l1.length c1] w fun e w' => e = .returned (.bool r) ∧ Below w.heap.size w w' := by
  have hu60 := Tryz.underlying60
  have HR0 := Aside0.mk hr0
  have HC0 := Aside0.mk hc0
  clear hr0 hc0
  have HR1 := Aside0.mk hr1
  have HC1 := Aside0.mk hc1
  clear hr1 hc1
  have HB := Aside0.mk (Below.refl w.heap.size w)
  have H : (if (l0.length : Int) = (l1.length : Int) then (spec_SameSpots.l0 k l1 l0 (l0.length : Int) 0) else (some false)) = some r := h
  clear h
  by_cases c3 : (l0.length : Int) = (l1.length : Int)
  · rw [if_pos c3] at H
    have c3b0 : ((l0.length : Int) == (l1.length : Int)) = true := beq_iff_eq.mpr c3
    have c3b1 : ((l0.length : Int) != (l1.length : Int)) = false := bne_eq_false_iff_eq.mpr c3
    have c3b2 : (l0.length == l1.length) = true := by first | simpa using c3 | (simp at c3 ⊢; omega)
    clear c3
    have H' := Aside0.mk H
    clear H
    go_enter Tryz.func27, Tryz.ntmps27
    go_wp2
    repeat (go_quiet (fail); try go_wp2)
    go_loopg [14] k (fun kq v14 w' => ∃ (x14_1 : Int), v14 = .int .i64 x14_1 ∧ Aside0 (spec_SameSpots.l0 kq l1 l0 (l0.length : Int) x14_1 = some r) ∧ Aside0 (kq ≤ k) ∧ Aside0 (Below w.heap.size w w'))
    case atStart => exact ⟨(0), (by first | rfl | (simp; done) | (simp [*]; done)), H', ⟨Nat.le_refl _⟩, ⟨by repeat (first | (with_reducible first | exact HB.out | apply below_alloc | apply pw_below_drewN | apply below_drew1) | exact HB.out)⟩⟩
    case round =>
      clear H'
      try clear c1
      try clear c2
      try clear p2
      try clear c3
      try clear c3b0
      try clear c3b1
      try clear c3b2
      obtain ⟨x14_1, rfl, HA, HK1, HB⟩ := hrel
      cases gk with
      | zero => exact absurd HA.out (by simp [spec_SameSpots.l0])
      | succ k1 =>
        have H := HA.out
        clear HA
        simp only [spec_SameSpots.l0] at H
        by_cases c4 : x14_1 < (l0.length : Int)
        · rw [if_pos c4] at H
          have c4b0 : decide (x14_1 < (l0.length : Int)) = true := decide_eq_true c4
          clear c4
          by_cases c5 : 0 ≤ x14_1
          · rw [if_pos c5] at H
            have c5b0 : decide (0 ≤ x14_1) = true := decide_eq_true c5
            clear c5
            by_cases c6 : x14_1 < (l0.length : Int)
            · rw [if_pos c6] at H
              have c6b0 : decide (x14_1 < (l0.length : Int)) = true := decide_eq_true c6
              clear c6
              by_cases c7 : x14_1 < (l1.length : Int)
              · rw [if_pos c7] at H
                have c7b0 : decide (x14_1 < (l1.length : Int)) = true := decide_eq_true c7
                clear c7
                by_cases c8 : (!(((rd_T60 l0 x14_1).f0) == ((rd_T60 l1 x14_1).f0)) || (!(((rd_T60 l0 x14_1).f1) == ((rd_T60 l1 x14_1).f1)) || (!(((rd_T60 l0 x14_1).f2) == ((rd_T60 l1 x14_1).f2))))) = true
                · rw [if_pos c8] at H
                  have c8b0 : (!(((rd_T60 l0 x14_1).f0) == ((rd_T60 l1 x14_1).f0)) || (!(((rd_T60 l0 x14_1).f1) == ((rd_T60 l1 x14_1).f1)) || (!(((rd_T60 l0 x14_1).f2) == ((rd_T60 l1 x14_1).f2))))) = true := c8
                  clear c8
                  obtain rfl := Option.some.inj H
                  have p240 : 0 ≤ (x14_1 : Int) := of_decide_eq_true (by first | (with_reducible assumption) | assumption)
                  have q240 : x14_1 < (l0.length : Int) := of_decide_eq_true (by first | (with_reducible assumption) | assumption)
                  obtain ⟨ad240, e240, hx240_0, hx240_1, hx240_2⟩ := at_T60 HR0.out x14_1 p240 q240
                  cases e240
                  replace hx240_0 := (HB.out.cell (World.block_lt_of_cell? w _ hx240_0)).trans hx240_0
                  replace hx240_1 := (HB.out.cell (World.block_lt_of_cell? w _ hx240_1)).trans hx240_1
                  replace hx240_2 := (HB.out.cell (World.block_lt_of_cell? w _ hx240_2)).trans hx240_2
                  replace p240 := eq_true p240
                  replace q240 := eq_true q240
                  go_wp2_with (first | ((with_reducible refine gate_dst (N := 6) rfl ?_); refine box_event ?hg (N := 6) ?hd (cs := #[.int .u32 0, .int .u32 0, .int .u32 0]) (t := 60) ?hr ?_; (case hd => rfl); (case hg => rfl); (case hr => first | (go_simp; done) | (go_simp; rfl)); intro gb241 hg w9 hbox hb; have n0_ := Aside0.mk (below_step (by repeat (first | (with_reducible first | exact HB.out | apply below_alloc | apply pw_below_drewN | apply below_drew1) | exact HB.out)) hb); have n1_ := Aside0.mk (hbox); have n2_ := Aside0.mk ((by rw [hg]; exact (below_size (by repeat (first | (with_reducible first | exact HB.out | apply below_alloc | apply pw_below_drewN | apply below_drew1) | exact HB.out))) : w.heap.size ≤ gb241)); have n3_ := Aside0.mk ((by rw [hg]; exact (below_size (by repeat (first | (with_reducible first | exact HB.out | apply below_alloc | apply pw_below_drewN | apply below_drew1) | exact HB.out))) : w.heap.size ≤ gb241)); clear HB; have HB := n0_; have BK241 := n1_; have GW241 := n2_; have GE241 := n3_; clear n0_ n1_ n2_ n3_; clear hb hbox hg; have hcz10_0 : w9.cell? ⟨gb241, 0, none⟩ = some (.int .u32 0) := (blk_cell BK241.out 0).trans rfl; have hcz10_1 : w9.cell? ⟨gb241, 1, none⟩ = some (.int .u32 0) := (blk_cell BK241.out 1).trans rfl; have hcz10_2 : w9.cell? ⟨gb241, 2, none⟩ = some (.int .u32 0) := (blk_cell BK241.out 2).trans rfl; have hfz10_0 := blk_frozen BK241.out 0; have hfz10_1 := blk_frozen BK241.out 1; have hfz10_2 := blk_frozen BK241.out 2; have p242 : 0 ≤ (x14_1 : Int) := of_decide_eq_true (by first | (with_reducible assumption) | assumption); have q242 : x14_1 < (l1.length : Int) := of_decide_eq_true (by first | (with_reducible assumption) | assumption); obtain ⟨ad242, e242, hx242_0, hx242_1, hx242_2⟩ := at_T60 HR1.out x14_1 p242 q242; cases e242; have hn242_0 : ad242.block ≠ gb241 := Nat.ne_of_lt (Nat.lt_of_lt_of_le (by have := World.block_lt_of_cell? _ _ hx242_0; first | rwa [add_block] at this | exact this) GW241.out); have hn242_1 : ad242.block ≠ gb241 := Nat.ne_of_lt (Nat.lt_of_lt_of_le (by have := World.block_lt_of_cell? _ _ hx242_0; first | rwa [add_block] at this | exact this) GW241.out); have hn242_2 : ad242.block ≠ gb241 := Nat.ne_of_lt (Nat.lt_of_lt_of_le (by have := World.block_lt_of_cell? _ _ hx242_0; first | rwa [add_block] at this | exact this) GW241.out); replace hx242_0 := (HB.out.cell (World.block_lt_of_cell? w _ hx242_0)).trans hx242_0; replace hx242_1 := (HB.out.cell (World.block_lt_of_cell? w _ hx242_1)).trans hx242_1; replace hx242_2 := (HB.out.cell (World.block_lt_of_cell? w _ hx242_2)).trans hx242_2; replace hx242_0 := (cell_far (p := ⟨gb241, 0, none⟩) (by first | (rw [add_block]; exact hn242_0) | (show (Addr.add _ _).block ≠ _; rw [add_block]; exact hn242_0) | exact hn242_0) (.int .u32 ((rd_T60 l0 x14_1).f0))).trans hx242_0; replace hx242_1 := (cell_far (p := ⟨gb241, 0, none⟩) (by first | (rw [add_block]; exact hn242_0) | (show (Addr.add _ _).block ≠ _; rw [add_block]; exact hn242_0) | exact hn242_0) (.int .u32 ((rd_T60 l0 x14_1).f0))).trans hx242_1; replace hx242_2 := (cell_far (p := ⟨gb241, 0, none⟩) (by first | (rw [add_block]; exact hn242_0) | (show (Addr.add _ _).block ≠ _; rw [add_block]; exact hn242_0) | exact hn242_0) (.int .u32 ((rd_T60 l0 x14_1).f0))).trans hx242_2; replace hx242_0 := (cell_far (p := ⟨gb241, 1, none⟩) (by first | (rw [add_block]; exact hn242_1) | (show (Addr.add _ _).block ≠ _; rw [add_block]; exact hn242_1) | exact hn242_1) (.int .u32 ((rd_T60 l0 x14_1).f1))).trans hx242_0; replace hx242_1 := (cell_far (p := ⟨gb241, 1, none⟩) (by first | (rw [add_block]; exact hn242_1) | (show (Addr.add _ _).block ≠ _; rw [add_block]; exact hn242_1) | exact hn242_1) (.int .u32 ((rd_T60 l0 x14_1).f1))).trans hx242_1; replace hx242_2 := (cell_far (p := ⟨gb241, 1, none⟩) (by first | (rw [add_block]; exact hn242_1) | (show (Addr.add _ _).block ≠ _; rw [add_block]; exact hn242_1) | exact hn242_1) (.int .u32 ((rd_T60 l0 x14_1).f1))).trans hx242_2; replace hx242_0 := (cell_far (p := ⟨gb241, 2, none⟩) (by first | (rw [add_block]; exact hn242_2) | (show (Addr.add _ _).block ≠ _; rw [add_block]; exact hn242_2) | exact hn242_2) (.int .u32 ((rd_T60 l0 x14_1).f2))).trans hx242_0; replace hx242_1 := (cell_far (p := ⟨gb241, 2, none⟩) (by first | (rw [add_block]; exact hn242_2) | (show (Addr.add _ _).block ≠ _; rw [add_block]; exact hn242_2) | exact hn242_2) (.int .u32 ((rd_T60 l0 x14_1).f2))).trans hx242_1; replace hx242_2 := (cell_far (p := ⟨gb241, 2, none⟩) (by first | (rw [add_block]; exact hn242_2) | (show (Addr.add _ _).block ≠ _; rw [add_block]; exact hn242_2) | exact hn242_2) (.int .u32 ((rd_T60 l0 x14_1).f2))).trans hx242_2; (try have hy242_0 := fun (n_ : Nat) => (show (((((w9.drewN n_).setCell ⟨gb241, 0, none⟩ (.int .u32 ((rd_T60 l0 x14_1).f0))).setCell ⟨gb241, 1, none⟩ (.int .u32 ((rd_T60 l0 x14_1).f1))).setCell ⟨gb241, 2, none⟩ (.int .u32 ((rd_T60 l0 x14_1).f2)))).cell? _ = some _ from hx242_0)); (try have hy242_1 := fun (n_ : Nat) => (show (((((w9.drewN n_).setCell ⟨gb241, 0, none⟩ (.int .u32 ((rd_T60 l0 x14_1).f0))).setCell ⟨gb241, 1, none⟩ (.int .u32 ((rd_T60 l0 x14_1).f1))).setCell ⟨gb241, 2, none⟩ (.int .u32 ((rd_T60 l0 x14_1).f2)))).cell? _ = some _ from hx242_1)); (try have hy242_2 := fun (n_ : Nat) => (show (((((w9.drewN n_).setCell ⟨gb241, 0, none⟩ (.int .u32 ((rd_T60 l0 x14_1).f0))).setCell ⟨gb241, 1, none⟩ (.int .u32 ((rd_T60 l0 x14_1).f1))).setCell ⟨gb241, 2, none⟩ (.int .u32 ((rd_T60 l0 x14_1).f2)))).cell? _ = some _ from hx242_2)); clear hn242_0; clear hn242_1; clear hn242_2; replace p242 := eq_true p242; replace q242 := eq_true q242))
                  repeat (go_quiet (first | ((with_reducible refine gate_dst (N := 6) rfl ?_); refine box_event ?hg (N := 6) ?hd (cs := #[.int .u32 0, .int .u32 0, .int .u32 0]) (t := 60) ?hr ?_; (case hd => rfl); (case hg => rfl); (case hr => first | (go_simp; done) | (go_simp; rfl)); intro gb241 hg w9 hbox hb; have n0_ := Aside0.mk (below_step (by repeat (first | (with_reducible first | exact HB.out | apply below_alloc | apply pw_below_drewN | apply below_drew1) | exact HB.out)) hb); have n1_ := Aside0.mk (hbox); have n2_ := Aside0.mk ((by rw [hg]; exact (below_size (by repeat (first | (with_reducible first | exact HB.out | apply below_alloc | apply pw_below_drewN | apply below_drew1) | exact HB.out))) : w.heap.size ≤ gb241)); have n3_ := Aside0.mk ((by rw [hg]; exact (below_size (by repeat (first | (with_reducible first | exact HB.out | apply below_alloc | apply pw_below_drewN | apply below_drew1) | exact HB.out))) : w.heap.size ≤ gb241)); clear HB; have HB := n0_; have BK241 := n1_; have GW241 := n2_; have GE241 := n3_; clear n0_ n1_ n2_ n3_; clear hb hbox hg; have hcz10_0 : w9.cell? ⟨gb241, 0, none⟩ = some (.int .u32 0) := (blk_cell BK241.out 0).trans rfl; have hcz10_1 : w9.cell? ⟨gb241, 1, none⟩ = some (.int .u32 0) := (blk_cell BK241.out 1).trans rfl; have hcz10_2 : w9.cell? ⟨gb241, 2, none⟩ = some (.int .u32 0) := (blk_cell BK241.out 2).trans rfl; have hfz10_0 := blk_frozen BK241.out 0; have hfz10_1 := blk_frozen BK241.out 1; have hfz10_2 := blk_frozen BK241.out 2; have p242 : 0 ≤ (x14_1 : Int) := of_decide_eq_true (by first | (with_reducible assumption) | assumption); have q242 : x14_1 < (l1.length : Int) := of_decide_eq_true (by first | (with_reducible assumption) | assumption); obtain ⟨ad242, e242, hx242_0, hx242_1, hx242_2⟩ := at_T60 HR1.out x14_1 p242 q242; cases e242; have hn242_0 : ad242.block ≠ gb241 := Nat.ne_of_lt (Nat.lt_of_lt_of_le (by have := World.block_lt_of_cell? _ _ hx242_0; first | rwa [add_block] at this | exact this) GW241.out); have hn242_1 : ad242.block ≠ gb241 := Nat.ne_of_lt (Nat.lt_of_lt_of_le (by have := World.block_lt_of_cell? _ _ hx242_0; first | rwa [add_block] at this | exact this) GW241.out); have hn242_2 : ad242.block ≠ gb241 := Nat.ne_of_lt (Nat.lt_of_lt_of_le (by have := World.block_lt_of_cell? _ _ hx242_0; first | rwa [add_block] at this | exact this) GW241.out); replace hx242_0 := (HB.out.cell (World.block_lt_of_cell? w _ hx242_0)).trans hx242_0; replace hx242_1 := (HB.out.cell (World.block_lt_of_cell? w _ hx242_1)).trans hx242_1; replace hx242_2 := (HB.out.cell (World.block_lt_of_cell? w _ hx242_2)).trans hx242_2; replace hx242_0 := (cell_far (p := ⟨gb241, 0, none⟩) (by first | (rw [add_block]; exact hn242_0) | (show (Addr.add _ _).block ≠ _; rw [add_block]; exact hn242_0) | exact hn242_0) (.int .u32 ((rd_T60 l0 x14_1).f0))).trans hx242_0; replace hx242_1 := (cell_far (p := ⟨gb241, 0, none⟩) (by first | (rw [add_block]; exact hn242_0) | (show (Addr.add _ _).block ≠ _; rw [add_block]; exact hn242_0) | exact hn242_0) (.int .u32 ((rd_T60 l0 x14_1).f0))).trans hx242_1; replace hx242_2 := (cell_far (p := ⟨gb241, 0, none⟩) (by first | (rw [add_block]; exact hn242_0) | (show (Addr.add _ _).block ≠ _; rw [add_block]; exact hn242_0) | exact hn242_0) (.int .u32 ((rd_T60 l0 x14_1).f0))).trans hx242_2; replace hx242_0 := (cell_far (p := ⟨gb241, 1, none⟩) (by first | (rw [add_block]; exact hn242_1) | (show (Addr.add _ _).block ≠ _; rw [add_block]; exact hn242_1) | exact hn242_1) (.int .u32 ((rd_T60 l0 x14_1).f1))).trans hx242_0; replace hx242_1 := (cell_far (p := ⟨gb241, 1, none⟩) (by first | (rw [add_block]; exact hn242_1) | (show (Addr.add _ _).block ≠ _; rw [add_block]; exact hn242_1) | exact hn242_1) (.int .u32 ((rd_T60 l0 x14_1).f1))).trans hx242_1; replace hx242_2 := (cell_far (p := ⟨gb241, 1, none⟩) (by first | (rw [add_block]; exact hn242_1) | (show (Addr.add _ _).block ≠ _; rw [add_block]; exact hn242_1) | exact hn242_1) (.int .u32 ((rd_T60 l0 x14_1).f1))).trans hx242_2; replace hx242_0 := (cell_far (p := ⟨gb241, 2, none⟩) (by first | (rw [add_block]; exact hn242_2) | (show (Addr.add _ _).block ≠ _; rw [add_block]; exact hn242_2) | exact hn242_2) (.int .u32 ((rd_T60 l0 x14_1).f2))).trans hx242_0; replace hx242_1 := (cell_far (p := ⟨gb241, 2, none⟩) (by first | (rw [add_block]; exact hn242_2) | (show (Addr.add _ _).block ≠ _; rw [add_block]; exact hn242_2) | exact hn242_2) (.int .u32 ((rd_T60 l0 x14_1).f2))).trans hx242_1; replace hx242_2 := (cell_far (p := ⟨gb241, 2, none⟩) (by first | (rw [add_block]; exact hn242_2) | (show (Addr.add _ _).block ≠ _; rw [add_block]; exact hn242_2) | exact hn242_2) (.int .u32 ((rd_T60 l0 x14_1).f2))).trans hx242_2; (try have hy242_0 := fun (n_ : Nat) => (show (((((w9.drewN n_).setCell ⟨gb241, 0, none⟩ (.int .u32 ((rd_T60 l0 x14_1).f0))).setCell ⟨gb241, 1, none⟩ (.int .u32 ((rd_T60 l0 x14_1).f1))).setCell ⟨gb241, 2, none⟩ (.int .u32 ((rd_T60 l0 x14_1).f2)))).cell? _ = some _ from hx242_0)); (try have hy242_1 := fun (n_ : Nat) => (show (((((w9.drewN n_).setCell ⟨gb241, 0, none⟩ (.int .u32 ((rd_T60 l0 x14_1).f0))).setCell ⟨gb241, 1, none⟩ (.int .u32 ((rd_T60 l0 x14_1).f1))).setCell ⟨gb241, 2, none⟩ (.int .u32 ((rd_T60 l0 x14_1).f2)))).cell? _ = some _ from hx242_1)); (try have hy242_2 := fun (n_ : Nat) => (show (((((w9.drewN n_).setCell ⟨gb241, 0, none⟩ (.int .u32 ((rd_T60 l0 x14_1).f0))).setCell ⟨gb241, 1, none⟩ (.int .u32 ((rd_T60 l0 x14_1).f1))).setCell ⟨gb241, 2, none⟩ (.int .u32 ((rd_T60 l0 x14_1).f2)))).cell? _ = some _ from hx242_2)); clear hn242_0; clear hn242_1; clear hn242_2; replace p242 := eq_true p242; replace q242 := eq_true q242)); try go_wp2_with (first | ((with_reducible refine gate_dst (N := 6) rfl ?_); refine box_event ?hg (N := 6) ?hd (cs := #[.int .u32 0, .int .u32 0, .int .u32 0]) (t := 60) ?hr ?_; (case hd => rfl); (case hg => rfl); (case hr => first | (go_simp; done) | (go_simp; rfl)); intro gb241 hg w9 hbox hb; have n0_ := Aside0.mk (below_step (by repeat (first | (with_reducible first | exact HB.out | apply below_alloc | apply pw_below_drewN | apply below_drew1) | exact HB.out)) hb); have n1_ := Aside0.mk (hbox); have n2_ := Aside0.mk ((by rw [hg]; exact (below_size (by repeat (first | (with_reducible first | exact HB.out | apply below_alloc | apply pw_below_drewN | apply below_drew1) | exact HB.out))) : w.heap.size ≤ gb241)); have n3_ := Aside0.mk ((by rw [hg]; exact (below_size (by repeat (first | (with_reducible first | exact HB.out | apply below_alloc | apply pw_below_drewN | apply below_drew1) | exact HB.out))) : w.heap.size ≤ gb241)); clear HB; have HB := n0_; have BK241 := n1_; have GW241 := n2_; have GE241 := n3_; clear n0_ n1_ n2_ n3_; clear hb hbox hg; have hcz10_0 : w9.cell? ⟨gb241, 0, none⟩ = some (.int .u32 0) := (blk_cell BK241.out 0).trans rfl; have hcz10_1 : w9.cell? ⟨gb241, 1, none⟩ = some (.int .u32 0) := (blk_cell BK241.out 1).trans rfl; have hcz10_2 : w9.cell? ⟨gb241, 2, none⟩ = some (.int .u32 0) := (blk_cell BK241.out 2).trans rfl; have hfz10_0 := blk_frozen BK241.out 0; have hfz10_1 := blk_frozen BK241.out 1; have hfz10_2 := blk_frozen BK241.out 2; have p242 : 0 ≤ (x14_1 : Int) := of_decide_eq_true (by first | (with_reducible assumption) | assumption); have q242 : x14_1 < (l1.length : Int) := of_decide_eq_true (by first | (with_reducible assumption) | assumption); obtain ⟨ad242, e242, hx242_0, hx242_1, hx242_2⟩ := at_T60 HR1.out x14_1 p242 q242; cases e242; have hn242_0 : ad242.block ≠ gb241 := Nat.ne_of_lt (Nat.lt_of_lt_of_le (by have := World.block_lt_of_cell? _ _ hx242_0; first | rwa [add_block] at this | exact this) GW241.out); have hn242_1 : ad242.block ≠ gb241 := Nat.ne_of_lt (Nat.lt_of_lt_of_le (by have := World.block_lt_of_cell? _ _ hx242_0; first | rwa [add_block] at this | exact this) GW241.out); have hn242_2 : ad242.block ≠ gb241 := Nat.ne_of_lt (Nat.lt_of_lt_of_le (by have := World.block_lt_of_cell? _ _ hx242_0; first | rwa [add_block] at this | exact this) GW241.out); replace hx242_0 := (HB.out.cell (World.block_lt_of_cell? w _ hx242_0)).trans hx242_0; replace hx242_1 := (HB.out.cell (World.block_lt_of_cell? w _ hx242_1)).trans hx242_1; replace hx242_2 := (HB.out.cell (World.block_lt_of_cell? w _ hx242_2)).trans hx242_2; replace hx242_0 := (cell_far (p := ⟨gb241, 0, none⟩) (by first | (rw [add_block]; exact hn242_0) | (show (Addr.add _ _).block ≠ _; rw [add_block]; exact hn242_0) | exact hn242_0) (.int .u32 ((rd_T60 l0 x14_1).f0))).trans hx242_0; replace hx242_1 := (cell_far (p := ⟨gb241, 0, none⟩) (by first | (rw [add_block]; exact hn242_0) | (show (Addr.add _ _).block ≠ _; rw [add_block]; exact hn242_0) | exact hn242_0) (.int .u32 ((rd_T60 l0 x14_1).f0))).trans hx242_1; replace hx242_2 := (cell_far (p := ⟨gb241, 0, none⟩) (by first | (rw [add_block]; exact hn242_0) | (show (Addr.add _ _).block ≠ _; rw [add_block]; exact hn242_0) | exact hn242_0) (.int .u32 ((rd_T60 l0 x14_1).f0))).trans hx242_2; replace hx242_0 := (cell_far (p := ⟨gb241, 1, none⟩) (by first | (rw [add_block]; exact hn242_1) | (show (Addr.add _ _).block ≠ _; rw [add_block]; exact hn242_1) | exact hn242_1) (.int .u32 ((rd_T60 l0 x14_1).f1))).trans hx242_0; replace hx242_1 := (cell_far (p := ⟨gb241, 1, none⟩) (by first | (rw [add_block]; exact hn242_1) | (show (Addr.add _ _).block ≠ _; rw [add_block]; exact hn242_1) | exact hn242_1) (.int .u32 ((rd_T60 l0 x14_1).f1))).trans hx242_1; replace hx242_2 := (cell_far (p := ⟨gb241, 1, none⟩) (by first | (rw [add_block]; exact hn242_1) | (show (Addr.add _ _).block ≠ _; rw [add_block]; exact hn242_1) | exact hn242_1) (.int .u32 ((rd_T60 l0 x14_1).f1))).trans hx242_2; replace hx242_0 := (cell_far (p := ⟨gb241, 2, none⟩) (by first | (rw [add_block]; exact hn242_2) | (show (Addr.add _ _).block ≠ _; rw [add_block]; exact hn242_2) | exact hn242_2) (.int .u32 ((rd_T60 l0 x14_1).f2))).trans hx242_0; replace hx242_1 := (cell_far (p := ⟨gb241, 2, none⟩) (by first | (rw [add_block]; exact hn242_2) | (show (Addr.add _ _).block ≠ _; rw [add_block]; exact hn242_2) | exact hn242_2) (.int .u32 ((rd_T60 l0 x14_1).f2))).trans hx242_1; replace hx242_2 := (cell_far (p := ⟨gb241, 2, none⟩) (by first | (rw [add_block]; exact hn242_2) | (show (Addr.add _ _).block ≠ _; rw [add_block]; exact hn242_2) | exact hn242_2) (.int .u32 ((rd_T60 l0 x14_1).f2))).trans hx242_2; (try have hy242_0 := fun (n_ : Nat) => (show (((((w9.drewN n_).setCell ⟨gb241, 0, none⟩ (.int .u32 ((rd_T60 l0 x14_1).f0))).setCell ⟨gb241, 1, none⟩ (.int .u32 ((rd_T60 l0 x14_1).f1))).setCell ⟨gb241, 2, none⟩ (.int .u32 ((rd_T60 l0 x14_1).f2)))).cell? _ = some _ from hx242_0)); (try have hy242_1 := fun (n_ : Nat) => (show (((((w9.drewN n_).setCell ⟨gb241, 0, none⟩ (.int .u32 ((rd_T60 l0 x14_1).f0))).setCell ⟨gb241, 1, none⟩ (.int .u32 ((rd_T60 l0 x14_1).f1))).setCell ⟨gb241, 2, none⟩ (.int .u32 ((rd_T60 l0 x14_1).f2)))).cell? _ = some _ from hx242_1)); (try have hy242_2 := fun (n_ : Nat) => (show (((((w9.drewN n_).setCell ⟨gb241, 0, none⟩ (.int .u32 ((rd_T60 l0 x14_1).f0))).setCell ⟨gb241, 1, none⟩ (.int .u32 ((rd_T60 l0 x14_1).f1))).setCell ⟨gb241, 2, none⟩ (.int .u32 ((rd_T60 l0 x14_1).f2)))).cell? _ = some _ from hx242_2)); clear hn242_0; clear hn242_1; clear hn242_2; replace p242 := eq_true p242; replace q242 := eq_true q242)))
                  go_ret
                  exact ⟨by first | rfl | (simp [errW_none, errW_some] <;> rfl) | (simp [*, errW_none, errW_some] <;> rfl), by repeat (first | (with_reducible first | exact HB.out | apply below_alloc | apply pw_below_drewN | apply below_drew1 | refine below_set ?_ GE241.out) | exact HB.out)⟩
                · rw [if_neg c8] at H
                  have c8b0 : (!(((rd_T60 l0 x14_1).f0) == ((rd_T60 l1 x14_1).f0)) || (!(((rd_T60 l0 x14_1).f1) == ((rd_T60 l1 x14_1).f1)) || (!(((rd_T60 l0 x14_1).f2) == ((rd_T60 l1 x14_1).f2))))) = false := by simpa using c8
                  clear c8
                  have H' := Aside0.mk H
                  clear H
                  have p240 : 0 ≤ (x14_1 : Int) := of_decide_eq_true (by first | (with_reducible assumption) | assumption)
                  have q240 : x14_1 < (l0.length : Int) := of_decide_eq_true (by first | (with_reducible assumption) | assumption)
                  obtain ⟨ad240, e240, hx240_0, hx240_1, hx240_2⟩ := at_T60 HR0.out x14_1 p240 q240
                  cases e240
                  replace hx240_0 := (HB.out.cell (World.block_lt_of_cell? w _ hx240_0)).trans hx240_0
                  replace hx240_1 := (HB.out.cell (World.block_lt_of_cell? w _ hx240_1)).trans hx240_1
                  replace hx240_2 := (HB.out.cell (World.block_lt_of_cell? w _ hx240_2)).trans hx240_2
                  replace p240 := eq_true p240
                  replace q240 := eq_true q240
                  go_wp2_with (first | ((with_reducible refine gate_dst (N := 6) rfl ?_); refine box_event ?hg (N := 6) ?hd (cs := #[.int .u32 0, .int .u32 0, .int .u32 0]) (t := 60) ?hr ?_; (case hd => rfl); (case hg => rfl); (case hr => first | (go_simp; done) | (go_simp; rfl)); intro gb241 hg w11 hbox hb; have n0_ := Aside0.mk (below_step (by repeat (first | (with_reducible first | exact HB.out | apply below_alloc | apply pw_below_drewN | apply below_drew1) | exact HB.out)) hb); have n1_ := Aside0.mk (hbox); have n2_ := Aside0.mk ((by rw [hg]; exact (below_size (by repeat (first | (with_reducible first | exact HB.out | apply below_alloc | apply pw_below_drewN | apply below_drew1) | exact HB.out))) : w.heap.size ≤ gb241)); have n3_ := Aside0.mk ((by rw [hg]; exact (below_size (by repeat (first | (with_reducible first | exact HB.out | apply below_alloc | apply pw_below_drewN | apply below_drew1) | exact HB.out))) : w.heap.size ≤ gb241)); clear HB; have HB := n0_; have BK241 := n1_; have GW241 := n2_; have GE241 := n3_; clear n0_ n1_ n2_ n3_; clear hb hbox hg; have hcz12_0 : w11.cell? ⟨gb241, 0, none⟩ = some (.int .u32 0) := (blk_cell BK241.out 0).trans rfl; have hcz12_1 : w11.cell? ⟨gb241, 1, none⟩ = some (.int .u32 0) := (blk_cell BK241.out 1).trans rfl; have hcz12_2 : w11.cell? ⟨gb241, 2, none⟩ = some (.int .u32 0) := (blk_cell BK241.out 2).trans rfl; have hfz12_0 := blk_frozen BK241.out 0; have hfz12_1 := blk_frozen BK241.out 1; have hfz12_2 := blk_frozen BK241.out 2; have p242 : 0 ≤ (x14_1 : Int) := of_decide_eq_true (by first | (with_reducible assumption) | assumption); have q242 : x14_1 < (l1.length : Int) := of_decide_eq_true (by first | (with_reducible assumption) | assumption); obtain ⟨ad242, e242, hx242_0, hx242_1, hx242_2⟩ := at_T60 HR1.out x14_1 p242 q242; cases e242; have hn242_0 : ad242.block ≠ gb241 := Nat.ne_of_lt (Nat.lt_of_lt_of_le (by have := World.block_lt_of_cell? _ _ hx242_0; first | rwa [add_block] at this | exact this) GW241.out); have hn242_1 : ad242.block ≠ gb241 := Nat.ne_of_lt (Nat.lt_of_lt_of_le (by have := World.block_lt_of_cell? _ _ hx242_0; first | rwa [add_block] at this | exact this) GW241.out); have hn242_2 : ad242.block ≠ gb241 := Nat.ne_of_lt (Nat.lt_of_lt_of_le (by have := World.block_lt_of_cell? _ _ hx242_0; first | rwa [add_block] at this | exact this) GW241.out); replace hx242_0 := (HB.out.cell (World.block_lt_of_cell? w _ hx242_0)).trans hx242_0; replace hx242_1 := (HB.out.cell (World.block_lt_of_cell? w _ hx242_1)).trans hx242_1; replace hx242_2 := (HB.out.cell (World.block_lt_of_cell? w _ hx242_2)).trans hx242_2; replace hx242_0 := (cell_far (p := ⟨gb241, 0, none⟩) (by first | (rw [add_block]; exact hn242_0) | (show (Addr.add _ _).block ≠ _; rw [add_block]; exact hn242_0) | exact hn242_0) (.int .u32 ((rd_T60 l0 x14_1).f0))).trans hx242_0; replace hx242_1 := (cell_far (p := ⟨gb241, 0, none⟩) (by first | (rw [add_block]; exact hn242_0) | (show (Addr.add _ _).block ≠ _; rw [add_block]; exact hn242_0) | exact hn242_0) (.int .u32 ((rd_T60 l0 x14_1).f0))).trans hx242_1; replace hx242_2 := (cell_far (p := ⟨gb241, 0, none⟩) (by first | (rw [add_block]; exact hn242_0) | (show (Addr.add _ _).block ≠ _; rw [add_block]; exact hn242_0) | exact hn242_0) (.int .u32 ((rd_T60 l0 x14_1).f0))).trans hx242_2; replace hx242_0 := (cell_far (p := ⟨gb241, 1, none⟩) (by first | (rw [add_block]; exact hn242_1) | (show (Addr.add _ _).block ≠ _; rw [add_block]; exact hn242_1) | exact hn242_1) (.int .u32 ((rd_T60 l0 x14_1).f1))).trans hx242_0; replace hx242_1 := (cell_far (p := ⟨gb241, 1, none⟩) (by first | (rw [add_block]; exact hn242_1) | (show (Addr.add _ _).block ≠ _; rw [add_block]; exact hn242_1) | exact hn242_1) (.int .u32 ((rd_T60 l0 x14_1).f1))).trans hx242_1; replace hx242_2 := (cell_far (p := ⟨gb241, 1, none⟩) (by first | (rw [add_block]; exact hn242_1) | (show (Addr.add _ _).block ≠ _; rw [add_block]; exact hn242_1) | exact hn242_1) (.int .u32 ((rd_T60 l0 x14_1).f1))).trans hx242_2; replace hx242_0 := (cell_far (p := ⟨gb241, 2, none⟩) (by first | (rw [add_block]; exact hn242_2) | (show (Addr.add _ _).block ≠ _; rw [add_block]; exact hn242_2) | exact hn242_2) (.int .u32 ((rd_T60 l0 x14_1).f2))).trans hx242_0; replace hx242_1 := (cell_far (p := ⟨gb241, 2, none⟩) (by first | (rw [add_block]; exact hn242_2) | (show (Addr.add _ _).block ≠ _; rw [add_block]; exact hn242_2) | exact hn242_2) (.int .u32 ((rd_T60 l0 x14_1).f2))).trans hx242_1; replace hx242_2 := (cell_far (p := ⟨gb241, 2, none⟩) (by first | (rw [add_block]; exact hn242_2) | (show (Addr.add _ _).block ≠ _; rw [add_block]; exact hn242_2) | exact hn242_2) (.int .u32 ((rd_T60 l0 x14_1).f2))).trans hx242_2; (try have hy242_0 := fun (n_ : Nat) => (show (((((w11.drewN n_).setCell ⟨gb241, 0, none⟩ (.int .u32 ((rd_T60 l0 x14_1).f0))).setCell ⟨gb241, 1, none⟩ (.int .u32 ((rd_T60 l0 x14_1).f1))).setCell ⟨gb241, 2, none⟩ (.int .u32 ((rd_T60 l0 x14_1).f2)))).cell? _ = some _ from hx242_0)); (try have hy242_1 := fun (n_ : Nat) => (show (((((w11.drewN n_).setCell ⟨gb241, 0, none⟩ (.int .u32 ((rd_T60 l0 x14_1).f0))).setCell ⟨gb241, 1, none⟩ (.int .u32 ((rd_T60 l0 x14_1).f1))).setCell ⟨gb241, 2, none⟩ (.int .u32 ((rd_T60 l0 x14_1).f2)))).cell? _ = some _ from hx242_1)); (try have hy242_2 := fun (n_ : Nat) => (show (((((w11.drewN n_).setCell ⟨gb241, 0, none⟩ (.int .u32 ((rd_T60 l0 x14_1).f0))).setCell ⟨gb241, 1, none⟩ (.int .u32 ((rd_T60 l0 x14_1).f1))).setCell ⟨gb241, 2, none⟩ (.int .u32 ((rd_T60 l0 x14_1).f2)))).cell? _ = some _ from hx242_2)); clear hn242_0; clear hn242_1; clear hn242_2; replace p242 := eq_true p242; replace q242 := eq_true q242))
                  repeat (go_quiet (first | ((with_reducible refine gate_dst (N := 6) rfl ?_); refine box_event ?hg (N := 6) ?hd (cs := #[.int .u32 0, .int .u32 0, .int .u32 0]) (t := 60) ?hr ?_; (case hd => rfl); (case hg => rfl); (case hr => first | (go_simp; done) | (go_simp; rfl)); intro gb241 hg w11 hbox hb; have n0_ := Aside0.mk (below_step (by repeat (first | (with_reducible first | exact HB.out | apply below_alloc | apply pw_below_drewN | apply below_drew1) | exact HB.out)) hb); have n1_ := Aside0.mk (hbox); have n2_ := Aside0.mk ((by rw [hg]; exact (below_size (by repeat (first | (with_reducible first | exact HB.out | apply below_alloc | apply pw_below_drewN | apply below_drew1) | exact HB.out))) : w.heap.size ≤ gb241)); have n3_ := Aside0.mk ((by rw [hg]; exact (below_size (by repeat (first | (with_reducible first | exact HB.out | apply below_alloc | apply pw_below_drewN | apply below_drew1) | exact HB.out))) : w.heap.size ≤ gb241)); clear HB; have HB := n0_; have BK241 := n1_; have GW241 := n2_; have GE241 := n3_; clear n0_ n1_ n2_ n3_; clear hb hbox hg; have hcz12_0 : w11.cell? ⟨gb241, 0, none⟩ = some (.int .u32 0) := (blk_cell BK241.out 0).trans rfl; have hcz12_1 : w11.cell? ⟨gb241, 1, none⟩ = some (.int .u32 0) := (blk_cell BK241.out 1).trans rfl; have hcz12_2 : w11.cell? ⟨gb241, 2, none⟩ = some (.int .u32 0) := (blk_cell BK241.out 2).trans rfl; have hfz12_0 := blk_frozen BK241.out 0; have hfz12_1 := blk_frozen BK241.out 1; have hfz12_2 := blk_frozen BK241.out 2; have p242 : 0 ≤ (x14_1 : Int) := of_decide_eq_true (by first | (with_reducible assumption) | assumption); have q242 : x14_1 < (l1.length : Int) := of_decide_eq_true (by first | (with_reducible assumption) | assumption); obtain ⟨ad242, e242, hx242_0, hx242_1, hx242_2⟩ := at_T60 HR1.out x14_1 p242 q242; cases e242; have hn242_0 : ad242.block ≠ gb241 := Nat.ne_of_lt (Nat.lt_of_lt_of_le (by have := World.block_lt_of_cell? _ _ hx242_0; first | rwa [add_block] at this | exact this) GW241.out); have hn242_1 : ad242.block ≠ gb241 := Nat.ne_of_lt (Nat.lt_of_lt_of_le (by have := World.block_lt_of_cell? _ _ hx242_0; first | rwa [add_block] at this | exact this) GW241.out); have hn242_2 : ad242.block ≠ gb241 := Nat.ne_of_lt (Nat.lt_of_lt_of_le (by have := World.block_lt_of_cell? _ _ hx242_0; first | rwa [add_block] at this | exact this) GW241.out); replace hx242_0 := (HB.out.cell (World.block_lt_of_cell? w _ hx242_0)).trans hx242_0; replace hx242_1 := (HB.out.cell (World.block_lt_of_cell? w _ hx242_1)).trans hx242_1; replace hx242_2 := (HB.out.cell (World.block_lt_of_cell? w _ hx242_2)).trans hx242_2; replace hx242_0 := (cell_far (p := ⟨gb241, 0, none⟩) (by first | (rw [add_block]; exact hn242_0) | (show (Addr.add _ _).block ≠ _; rw [add_block]; exact hn242_0) | exact hn242_0) (.int .u32 ((rd_T60 l0 x14_1).f0))).trans hx242_0; replace hx242_1 := (cell_far (p := ⟨gb241, 0, none⟩) (by first | (rw [add_block]; exact hn242_0) | (show (Addr.add _ _).block ≠ _; rw [add_block]; exact hn242_0) | exact hn242_0) (.int .u32 ((rd_T60 l0 x14_1).f0))).trans hx242_1; replace hx242_2 := (cell_far (p := ⟨gb241, 0, none⟩) (by first | (rw [add_block]; exact hn242_0) | (show (Addr.add _ _).block ≠ _; rw [add_block]; exact hn242_0) | exact hn242_0) (.int .u32 ((rd_T60 l0 x14_1).f0))).trans hx242_2; replace hx242_0 := (cell_far (p := ⟨gb241, 1, none⟩) (by first | (rw [add_block]; exact hn242_1) | (show (Addr.add _ _).block ≠ _; rw [add_block]; exact hn242_1) | exact hn242_1) (.int .u32 ((rd_T60 l0 x14_1).f1))).trans hx242_0; replace hx242_1 := (cell_far (p := ⟨gb241, 1, none⟩) (by first | (rw [add_block]; exact hn242_1) | (show (Addr.add _ _).block ≠ _; rw [add_block]; exact hn242_1) | exact hn242_1) (.int .u32 ((rd_T60 l0 x14_1).f1))).trans hx242_1; replace hx242_2 := (cell_far (p := ⟨gb241, 1, none⟩) (by first | (rw [add_block]; exact hn242_1) | (show (Addr.add _ _).block ≠ _; rw [add_block]; exact hn242_1) | exact hn242_1) (.int .u32 ((rd_T60 l0 x14_1).f1))).trans hx242_2; replace hx242_0 := (cell_far (p := ⟨gb241, 2, none⟩) (by first | (rw [add_block]; exact hn242_2) | (show (Addr.add _ _).block ≠ _; rw [add_block]; exact hn242_2) | exact hn242_2) (.int .u32 ((rd_T60 l0 x14_1).f2))).trans hx242_0; replace hx242_1 := (cell_far (p := ⟨gb241, 2, none⟩) (by first | (rw [add_block]; exact hn242_2) | (show (Addr.add _ _).block ≠ _; rw [add_block]; exact hn242_2) | exact hn242_2) (.int .u32 ((rd_T60 l0 x14_1).f2))).trans hx242_1; replace hx242_2 := (cell_far (p := ⟨gb241, 2, none⟩) (by first | (rw [add_block]; exact hn242_2) | (show (Addr.add _ _).block ≠ _; rw [add_block]; exact hn242_2) | exact hn242_2) (.int .u32 ((rd_T60 l0 x14_1).f2))).trans hx242_2; (try have hy242_0 := fun (n_ : Nat) => (show (((((w11.drewN n_).setCell ⟨gb241, 0, none⟩ (.int .u32 ((rd_T60 l0 x14_1).f0))).setCell ⟨gb241, 1, none⟩ (.int .u32 ((rd_T60 l0 x14_1).f1))).setCell ⟨gb241, 2, none⟩ (.int .u32 ((rd_T60 l0 x14_1).f2)))).cell? _ = some _ from hx242_0)); (try have hy242_1 := fun (n_ : Nat) => (show (((((w11.drewN n_).setCell ⟨gb241, 0, none⟩ (.int .u32 ((rd_T60 l0 x14_1).f0))).setCell ⟨gb241, 1, none⟩ (.int .u32 ((rd_T60 l0 x14_1).f1))).setCell ⟨gb241, 2, none⟩ (.int .u32 ((rd_T60 l0 x14_1).f2)))).cell? _ = some _ from hx242_1)); (try have hy242_2 := fun (n_ : Nat) => (show (((((w11.drewN n_).setCell ⟨gb241, 0, none⟩ (.int .u32 ((rd_T60 l0 x14_1).f0))).setCell ⟨gb241, 1, none⟩ (.int .u32 ((rd_T60 l0 x14_1).f1))).setCell ⟨gb241, 2, none⟩ (.int .u32 ((rd_T60 l0 x14_1).f2)))).cell? _ = some _ from hx242_2)); clear hn242_0; clear hn242_1; clear hn242_2; replace p242 := eq_true p242; replace q242 := eq_true q242)); try go_wp2_with (first | ((with_reducible refine gate_dst (N := 6) rfl ?_); refine box_event ?hg (N := 6) ?hd (cs := #[.int .u32 0, .int .u32 0, .int .u32 0]) (t := 60) ?hr ?_; (case hd => rfl); (case hg => rfl); (case hr => first | (go_simp; done) | (go_simp; rfl)); intro gb241 hg w11 hbox hb; have n0_ := Aside0.mk (below_step (by repeat (first | (with_reducible first | exact HB.out | apply below_alloc | apply pw_below_drewN | apply below_drew1) | exact HB.out)) hb); have n1_ := Aside0.mk (hbox); have n2_ := Aside0.mk ((by rw [hg]; exact (below_size (by repeat (first | (with_reducible first | exact HB.out | apply below_alloc | apply pw_below_drewN | apply below_drew1) | exact HB.out))) : w.heap.size ≤ gb241)); have n3_ := Aside0.mk ((by rw [hg]; exact (below_size (by repeat (first | (with_reducible first | exact HB.out | apply below_alloc | apply pw_below_drewN | apply below_drew1) | exact HB.out))) : w.heap.size ≤ gb241)); clear HB; have HB := n0_; have BK241 := n1_; have GW241 := n2_; have GE241 := n3_; clear n0_ n1_ n2_ n3_; clear hb hbox hg; have hcz12_0 : w11.cell? ⟨gb241, 0, none⟩ = some (.int .u32 0) := (blk_cell BK241.out 0).trans rfl; have hcz12_1 : w11.cell? ⟨gb241, 1, none⟩ = some (.int .u32 0) := (blk_cell BK241.out 1).trans rfl; have hcz12_2 : w11.cell? ⟨gb241, 2, none⟩ = some (.int .u32 0) := (blk_cell BK241.out 2).trans rfl; have hfz12_0 := blk_frozen BK241.out 0; have hfz12_1 := blk_frozen BK241.out 1; have hfz12_2 := blk_frozen BK241.out 2; have p242 : 0 ≤ (x14_1 : Int) := of_decide_eq_true (by first | (with_reducible assumption) | assumption); have q242 : x14_1 < (l1.length : Int) := of_decide_eq_true (by first | (with_reducible assumption) | assumption); obtain ⟨ad242, e242, hx242_0, hx242_1, hx242_2⟩ := at_T60 HR1.out x14_1 p242 q242; cases e242; have hn242_0 : ad242.block ≠ gb241 := Nat.ne_of_lt (Nat.lt_of_lt_of_le (by have := World.block_lt_of_cell? _ _ hx242_0; first | rwa [add_block] at this | exact this) GW241.out); have hn242_1 : ad242.block ≠ gb241 := Nat.ne_of_lt (Nat.lt_of_lt_of_le (by have := World.block_lt_of_cell? _ _ hx242_0; first | rwa [add_block] at this | exact this) GW241.out); have hn242_2 : ad242.block ≠ gb241 := Nat.ne_of_lt (Nat.lt_of_lt_of_le (by have := World.block_lt_of_cell? _ _ hx242_0; first | rwa [add_block] at this | exact this) GW241.out); replace hx242_0 := (HB.out.cell (World.block_lt_of_cell? w _ hx242_0)).trans hx242_0; replace hx242_1 := (HB.out.cell (World.block_lt_of_cell? w _ hx242_1)).trans hx242_1; replace hx242_2 := (HB.out.cell (World.block_lt_of_cell? w _ hx242_2)).trans hx242_2; replace hx242_0 := (cell_far (p := ⟨gb241, 0, none⟩) (by first | (rw [add_block]; exact hn242_0) | (show (Addr.add _ _).block ≠ _; rw [add_block]; exact hn242_0) | exact hn242_0) (.int .u32 ((rd_T60 l0 x14_1).f0))).trans hx242_0; replace hx242_1 := (cell_far (p := ⟨gb241, 0, none⟩) (by first | (rw [add_block]; exact hn242_0) | (show (Addr.add _ _).block ≠ _; rw [add_block]; exact hn242_0) | exact hn242_0) (.int .u32 ((rd_T60 l0 x14_1).f0))).trans hx242_1; replace hx242_2 := (cell_far (p := ⟨gb241, 0, none⟩) (by first | (rw [add_block]; exact hn242_0) | (show (Addr.add _ _).block ≠ _; rw [add_block]; exact hn242_0) | exact hn242_0) (.int .u32 ((rd_T60 l0 x14_1).f0))).trans hx242_2; replace hx242_0 := (cell_far (p := ⟨gb241, 1, none⟩) (by first | (rw [add_block]; exact hn242_1) | (show (Addr.add _ _).block ≠ _; rw [add_block]; exact hn242_1) | exact hn242_1) (.int .u32 ((rd_T60 l0 x14_1).f1))).trans hx242_0; replace hx242_1 := (cell_far (p := ⟨gb241, 1, none⟩) (by first | (rw [add_block]; exact hn242_1) | (show (Addr.add _ _).block ≠ _; rw [add_block]; exact hn242_1) | exact hn242_1) (.int .u32 ((rd_T60 l0 x14_1).f1))).trans hx242_1; replace hx242_2 := (cell_far (p := ⟨gb241, 1, none⟩) (by first | (rw [add_block]; exact hn242_1) | (show (Addr.add _ _).block ≠ _; rw [add_block]; exact hn242_1) | exact hn242_1) (.int .u32 ((rd_T60 l0 x14_1).f1))).trans hx242_2; replace hx242_0 := (cell_far (p := ⟨gb241, 2, none⟩) (by first | (rw [add_block]; exact hn242_2) | (show (Addr.add _ _).block ≠ _; rw [add_block]; exact hn242_2) | exact hn242_2) (.int .u32 ((rd_T60 l0 x14_1).f2))).trans hx242_0; replace hx242_1 := (cell_far (p := ⟨gb241, 2, none⟩) (by first | (rw [add_block]; exact hn242_2) | (show (Addr.add _ _).block ≠ _; rw [add_block]; exact hn242_2) | exact hn242_2) (.int .u32 ((rd_T60 l0 x14_1).f2))).trans hx242_1; replace hx242_2 := (cell_far (p := ⟨gb241, 2, none⟩) (by first | (rw [add_block]; exact hn242_2) | (show (Addr.add _ _).block ≠ _; rw [add_block]; exact hn242_2) | exact hn242_2) (.int .u32 ((rd_T60 l0 x14_1).f2))).trans hx242_2; (try have hy242_0 := fun (n_ : Nat) => (show (((((w11.drewN n_).setCell ⟨gb241, 0, none⟩ (.int .u32 ((rd_T60 l0 x14_1).f0))).setCell ⟨gb241, 1, none⟩ (.int .u32 ((rd_T60 l0 x14_1).f1))).setCell ⟨gb241, 2, none⟩ (.int .u32 ((rd_T60 l0 x14_1).f2)))).cell? _ = some _ from hx242_0)); (try have hy242_1 := fun (n_ : Nat) => (show (((((w11.drewN n_).setCell ⟨gb241, 0, none⟩ (.int .u32 ((rd_T60 l0 x14_1).f0))).setCell ⟨gb241, 1, none⟩ (.int .u32 ((rd_T60 l0 x14_1).f1))).setCell ⟨gb241, 2, none⟩ (.int .u32 ((rd_T60 l0 x14_1).f2)))).cell? _ = some _ from hx242_1)); (try have hy242_2 := fun (n_ : Nat) => (show (((((w11.drewN n_).setCell ⟨gb241, 0, none⟩ (.int .u32 ((rd_T60 l0 x14_1).f0))).setCell ⟨gb241, 1, none⟩ (.int .u32 ((rd_T60 l0 x14_1).f1))).setCell ⟨gb241, 2, none⟩ (.int .u32 ((rd_T60 l0 x14_1).f2)))).cell? _ = some _ from hx242_2)); clear hn242_0; clear hn242_1; clear hn242_2; replace p242 := eq_true p242; replace q242 := eq_true q242)))
                  go_roundg k1
                  case measure => have := HK1.out; omega
                  case rel => exact ⟨(wrap64 (x14_1 + 1)), (by first | rfl | (simp; done) | (simp [*]; done)), H', ⟨by have := HK1.out; omega⟩, ⟨by repeat (first | (with_reducible first | exact HB.out | apply below_alloc | apply pw_below_drewN | apply below_drew1 | refine below_set ?_ GE241.out) | exact HB.out)⟩⟩
              · rw [if_neg c7] at H
                exact absurd H (by simp)
            · rw [if_neg c6] at H
              exact absurd H (by simp)
          · rw [if_neg c5] at H
            exact absurd H (by simp)
        · rw [if_neg c4] at H
          have c4b0 : decide (x14_1 < (l0.length : Int)) = false := decide_eq_false c4
          clear c4
          obtain rfl := Option.some.inj H
          go_wp2
          repeat (go_quiet (fail); try go_wp2)
          go_ret
          exact ⟨by first | rfl | (simp [errW_none, errW_some] <;> rfl) | (simp [*, errW_none, errW_some] <;> rfl), by repeat (first | (with_reducible first | exact HB.out | apply below_alloc | apply pw_below_drewN | apply below_drew1) | exact HB.out)⟩
  · rw [if_neg c3] at H
    have c3b0 : ((l0.length : Int) == (l1.length : Int)) = false := beq_eq_false_iff_ne.mpr c3
    have c3b1 : ((l0.length : Int) != (l1.length : Int)) = true := bne_iff_ne.mpr c3
    have c3b2 : (l0.length == l1.length) = false := by first | simpa using c3 | (simp at c3 ⊢; omega)
    obtain rfl := Option.some.inj H
    go_enter Tryz.func27, Tryz.ntmps27
    go_wp2
    repeat (go_quiet (fail); try go_wp2)
    go_ret
    exact ⟨by first | rfl | (simp [errW_none, errW_some] <;> rfl) | (simp [*, errW_none, errW_some] <;> rfl), by repeat (first | (with_reducible first | exact HB.out | apply below_alloc | apply pw_below_drewN | apply below_drew1) | exact HB.out)⟩

/-! ### impl_recOf: function 33 -/
def impl_recOf.f (l0_0 : List Int) (l0_1 : List Int) (a0_2 : Int) (a0_3 : Int) (a0_4 : Int) : Option (List Int × List Int × Int × Int × Int) := (impl_own.f l0_0).bind fun t245 => ((impl_own.f l0_1).bind fun t248 => (some (t245, t248, a0_2, a0_3, a0_4)))
def impl_recOf.T1 : Bool × List (List Nat × List Nat) := (true, [([], []), ([0], [0]), ([1], [1]), ([], []), ([3], [3]), ([4, 2], [4]), ([], []), ([6], [6]), ([], []), ([8], [8]), ([], []), ([10], [10]), ([2, 5, 7, 9, 11], [2, 5, 7, 9, 11]), ([12, 5, 0, 1, 2, 3, 4, 5, 6, 7, 8, 9, 10, 11, 12], [12])])
def impl_recOf.B1 : List Nat := [0, 1, 3, 0, 8, 31, 0, 64, 0, 256, 0, 1024, 4095, 8191]
theorem impl_recOf.tab1 : rtab .any (opsOf Tryz.f33 1) = impl_recOf.T1 := by kernel_rfl
theorem impl_recOf.bits1 : waitsOk impl_recOf.T1.2 impl_recOf.B1 = true := by kernel_rfl
set_option maxHeartbeats 8000000 in
set_option maxRecDepth 100000 in
theorem impl_recOf.calls (A0_0 : Option Addr) (c0_0 : Nat) (l0_0 : List Int) (A0_1 : Option Addr) (c0_1 : Nat) (l0_1 : List Int) (a0_2 : Int) (a0_3 : Int) (a0_4 : Int) (r1 : List Int) (r2 : List Int) (r3 : Int) (r4 : Int) (r5 : Int) (w : World) (hr0_0 : Kd.C (Kd.int .u8) w A0_0 l0_0.length l0_0) (hc0_0 : l0_0.length ≤ c0_0) (hr0_1 : Kd.C (Kd.int .u8) w A0_1 l0_1.length l0_1) (hc0_1 : l0_1.length ≤ c0_1) (h : impl_recOf.f l0_0 l0_1 a0_2 a0_3 a0_4 = some (r1, r2, r3, r4, r5)) :
    Calls Tryz.prog 33 #[.agg #[.slice A0_0 l0_0.length c0_0, .slice A0_1 l0_1.length c0_1, .int .u64 a0_2, .int .u8 a0_3, .int .u8 a0_4]] w fun e w' => ∃ v0_ v1_ : Value, e = .returned (.agg #[v0_, v1_, .int .u64 r3, .int .u8 r4, .int .u8 r5]) ∧ Kd.R (Kd.int .u8) 5 w' w.heap.size (fun k_ => some k_ ≠ (v1_ : Value).ownBlock) v0_ r1 ∧ Kd.R (Kd.int .u8) 5 w' w.heap.size (fun k_ => some k_ ≠ (v0_ : Value).ownBlock) v1_ r2 ∧ Below w.heap.size w w' := by
  have hu51 := Tryz.underlying51
  have hu31 := Tryz.underlying31
  have HR0_0 := Aside0.mk hr0_0
  have HC0_0 := Aside0.mk hc0_0
  clear hr0_0 hc0_0
  have HR0_1 := Aside0.mk hr0_1
  have HC0_1 := Aside0.mk hc0_1
  clear hr0_1 hc0_1
  have HB := Aside0.mk (Below.refl w.heap.size w)
  have H : ((impl_own.f l0_0).bind fun t245 => ((impl_own.f l0_1).bind fun t248 => (some (t245, t248, a0_2, a0_3, a0_4)))) = some (r1, r2, r3, r4, r5) := h
  clear h
  replace H := Option.bind_eq_some_iff.mp H
  obtain ⟨t245, A20, H⟩ := H
  replace H : ((impl_own.f l0_1).bind fun t248 => (some (t245, t248, a0_2, a0_3, a0_4))) = some (r1, r2, r3, r4, r5) := H
  have A2 := Aside0.mk A20
  clear A20
  replace H := Option.bind_eq_some_iff.mp H
  obtain ⟨t248, A30, H⟩ := H
  replace H : (some (t245, t248, a0_2, a0_3, a0_4)) = some (r1, r2, r3, r4, r5) := H
  have A3 := Aside0.mk A30
  clear A30
  simp only [Option.some.injEq, Prod.mk.injEq] at H
  obtain ⟨rfl, rfl, rfl, rfl, rfl⟩ := H
  go_enter Tryz.func33, Tryz.ntmps33
  try go_wp2_with (first | ((with_reducible refine gate_dst (N := 1) rfl ?_); refine box_event ?hg (N := 1) ?hd (cs := #[.slice A0_0 l0_0.length c0_0, .slice A0_1 l0_1.length c0_1, .int .u64 a0_2, .int .u8 a0_3, .int .u8 a0_4]) (t := 51) ?hr ?_; (case hd => rfl); (case hg => rfl); (case hr => first | (go_simp; done) | (go_simp; rfl)); intro gb243 hg w4 hbox hb; have n0_ := Aside0.mk (below_step (by repeat (first | (with_reducible first | exact HB.out | apply below_alloc | apply pw_below_drewN | apply below_drew1) | exact HB.out)) hb); have n1_ := Aside0.mk (hbox); have n2_ := Aside0.mk ((by rw [hg]; exact (below_size (by repeat (first | (with_reducible first | exact HB.out | apply below_alloc | apply pw_below_drewN | apply below_drew1) | exact HB.out))) : w.heap.size ≤ gb243)); have n3_ := Aside0.mk ((by rw [hg]; exact (below_size (by repeat (first | (with_reducible first | exact HB.out | apply below_alloc | apply pw_below_drewN | apply below_drew1) | exact HB.out))) : w.heap.size ≤ gb243)); clear HB; have HB := n0_; have BK243 := n1_; have GW243 := n2_; have GE243 := n3_; clear n0_ n1_ n2_ n3_; clear hb hbox hg) | ((with_reducible refine gate_dst (N := 2) rfl ?_); refine box_event ?hg (N := 2) ?hd (cs := #[.slice none 0 0, .slice none 0 0, .int .u64 0, .int .u8 0, .int .u8 0]) (t := 31) ?hr ?_; (case hd => rfl); (case hg => rfl); (case hr => first | (go_simp; done) | (go_simp; rfl)); intro gb244 hg w5 hbox hb; have n0_ := Aside0.mk (blk_below (g := gb243) (o := .cells #[.slice A0_0 l0_0.length c0_0, .slice A0_1 l0_1.length c0_1, .int .u64 a0_2, .int .u8 a0_3, .int .u8 a0_4] 51 (0, 0)) (by (with_reducible repeat (first | refine blk_drewN ?_ _ | refine blk_drew ?_ | refine blk_alloc ?_ _)); exact BK243.out) hb); have n1_ := Aside0.mk (below_step (by repeat (first | (with_reducible first | exact HB.out | apply below_alloc | apply pw_below_drewN | apply below_drew1 | refine below_set ?_ GE243.out) | exact HB.out)) hb); have n2_ := Aside0.mk (hbox); have n3_ := Aside0.mk ((by rw [hg]; exact (below_size (by repeat (first | (with_reducible first | exact HB.out | apply below_alloc | apply pw_below_drewN | apply below_drew1 | refine below_set ?_ GE243.out) | exact HB.out))) : w.heap.size ≤ gb244)); have n4_ := Aside0.mk ((by rw [hg]; exact (below_size (by repeat (first | (with_reducible first | exact HB.out | apply below_alloc | apply pw_below_drewN | apply below_drew1 | refine below_set ?_ GE243.out) | exact HB.out))) : w.heap.size ≤ gb244)); have n5_ := Aside0.mk ((by rw [hg]; exact Nat.ne_of_lt (blk_lt (g := gb243) (o := .cells #[.slice A0_0 l0_0.length c0_0, .slice A0_1 l0_1.length c0_1, .int .u64 a0_2, .int .u8 a0_3, .int .u8 a0_4] 51 (0, 0)) (by (with_reducible repeat (first | refine blk_drewN ?_ _ | refine blk_drew ?_ | refine blk_alloc ?_ _)); exact BK243.out)) : gb243 ≠ gb244)); have n6_ := Aside0.mk ((by rw [hg]; exact Nat.ne_of_gt (blk_lt (g := gb243) (o := .cells #[.slice A0_0 l0_0.length c0_0, .slice A0_1 l0_1.length c0_1, .int .u64 a0_2, .int .u8 a0_3, .int .u8 a0_4] 51 (0, 0)) (by (with_reducible repeat (first | refine blk_drewN ?_ _ | refine blk_drew ?_ | refine blk_alloc ?_ _)); exact BK243.out)) : gb244 ≠ gb243)); clear BK243; clear HB; have BK243 := n0_; have HB := n1_; have BK244 := n2_; have GW244 := n3_; have GE244 := n4_; have NB243_244 := n5_; have NB244_243 := n6_; clear n0_ n1_ n2_ n3_ n4_ n5_ n6_; clear hb hbox hg))
  have n0_ := Aside0.mk (blk_drew BK243.out)
  have n1_ := Aside0.mk (blk_drew BK244.out)
  have n2_ := Aside0.mk (below_drew1 HB.out)
  clear BK243
  clear BK244
  clear HB
  have BK243 := n0_
  have BK244 := n1_
  have HB := n2_
  clear n0_ n1_ n2_
  refine start_ (n := 14) (S := fun w' => w'.cell? ⟨gb243, 0, none⟩ = some (.slice A0_0 l0_0.length c0_0) ∧ w'.cell? ⟨gb243, 1, none⟩ = some (.slice A0_1 l0_1.length c0_1) ∧ w'.cell? ⟨gb243, 2, none⟩ = some (.int .u64 a0_2) ∧ w'.cell? ⟨gb243, 3, none⟩ = some (.int .u8 a0_3) ∧ w'.cell? ⟨gb243, 4, none⟩ = some (.int .u8 a0_4)) (ds := []) #[false, false, false, false, false, false, false, false, false, false, false, false, false, false] (by kernel_rfl) rfl rfl ⟨(blk_cell BK243.out 0).trans rfl, (blk_cell BK243.out 1).trans rfl, (blk_cell BK243.out 2).trans rfl, (blk_cell BK243.out 3).trans rfl, (blk_cell BK243.out 4).trans rfl⟩ (fun hHeld => ?_); refine with_tabW impl_recOf.tab1 impl_recOf.bits1 (fun HT_ HW_ => ?_)
  generalize w5.drew = w6 at BK243 BK244 HB hHeld ⊢
  refine pure_ (i := 0) (N := some 3) (v := ?_) (a' := ?_) #[true, false, false, false, false, false, false, false, false, false, false, false, false, false] rfl rfl (any_of HT_.out (by kernel_rfl)) (fun _ _ _ h => h) (Or.inl ⟨by rfl, ?_⟩) ?_ ?_
  rotate_left
  · intro w'
    go_simp
    with_reducible rfl
  rotate_left
  · simp only [Act.put, List.setIfInBounds_toArray, List.set_cons_zero, List.set_cons_succ, i64_w, i32_w]
    rfl
  refine pure_ (i := 3) (N := some 6) (v := ?_) (a' := ?_) #[true, false, false, true, false, false, false, false, false, false, false, false, false, false] rfl rfl (any_of HT_.out (by kernel_rfl)) (fun _ _ _ h => h) (Or.inl ⟨by rfl, ?_⟩) ?_ ?_
  rotate_left
  · intro w'
    go_simp
    with_reducible rfl
  rotate_left
  · simp only [Act.put, List.setIfInBounds_toArray, List.set_cons_zero, List.set_cons_succ, i64_w, i32_w]
    rfl
  refine pure_ (i := 6) (N := some 9) (v := ?_) (a' := ?_) #[true, false, false, true, false, false, true, false, false, false, false, false, false, false] rfl rfl (any_of HT_.out (by kernel_rfl)) (fun _ _ _ h => h) (Or.inl ⟨by rfl, ?_⟩) ?_ ?_
  rotate_left
  · intro w'
    go_simp
    with_reducible rfl
  rotate_left
  · simp only [Act.put, List.setIfInBounds_toArray, List.set_cons_zero, List.set_cons_succ, i64_w, i32_w]
    rfl
  refine pure_ (i := 8) (N := some 11) (v := ?_) (a' := ?_) #[true, false, false, true, false, false, true, false, true, false, false, false, false, false] rfl rfl (any_of HT_.out (by kernel_rfl)) (fun _ _ _ h => h) (Or.inl ⟨by rfl, ?_⟩) ?_ ?_
  rotate_left
  · intro w'
    go_simp
    with_reducible rfl
  rotate_left
  · simp only [Act.put, List.setIfInBounds_toArray, List.set_cons_zero, List.set_cons_succ, i64_w, i32_w]
    rfl
  refine pure_ (i := 10) (N := some 13) (v := ?_) (a' := ?_) #[true, false, false, true, false, false, true, false, true, false, true, false, false, false] rfl rfl (any_of HT_.out (by kernel_rfl)) (fun _ _ _ h => h) (Or.inl ⟨by rfl, ?_⟩) ?_ ?_
  rotate_left
  · intro w'
    go_simp
    with_reducible rfl
  rotate_left
  · simp only [Act.put, List.setIfInBounds_toArray, List.set_cons_zero, List.set_cons_succ, i64_w, i32_w]
    rfl
  refine take_ (i := 1) (N := some 4) (v := ?_) (a' := ?_) #[true, true, false, true, false, false, true, false, true, false, true, false, false, false] rfl rfl (take_ofW HT_.out HW_.out (by kernel_rfl)) (fun _ _ _ h => h) (Or.inl ⟨by rfl, ?_⟩) hHeld ?_ ?_
  rotate_left
  · rintro w' ⟨s0, s1, s2, s3, s4⟩
    go_simp
    with_reducible rfl
  rotate_left
  · simp only [Act.put, List.setIfInBounds_toArray, List.set_cons_zero, List.set_cons_succ, i64_w, i32_w]
    rfl
  refine take_ (i := 4) (N := some 7) (v := ?_) (a' := ?_) #[true, true, false, true, true, false, true, false, true, false, true, false, false, false] rfl rfl (take_ofW HT_.out HW_.out (by kernel_rfl)) (fun _ _ _ h => h) (Or.inl ⟨by rfl, ?_⟩) hHeld ?_ ?_
  rotate_left
  · rintro w' ⟨s0, s1, s2, s3, s4⟩
    go_simp
    with_reducible rfl
  rotate_left
  · simp only [Act.put, List.setIfInBounds_toArray, List.set_cons_zero, List.set_cons_succ, i64_w, i32_w]
    rfl
  refine take_ (i := 7) (N := some 10) (v := ?_) (a' := ?_) #[true, true, false, true, true, false, true, true, true, false, true, false, false, false] rfl rfl (take_ofW HT_.out HW_.out (by kernel_rfl)) (fun _ _ _ h => h) (Or.inl ⟨by rfl, ?_⟩) hHeld ?_ ?_
  rotate_left
  · rintro w' ⟨s0, s1, s2, s3, s4⟩
    go_simp
    with_reducible rfl
  rotate_left
  · simp only [Act.put, List.setIfInBounds_toArray, List.set_cons_zero, List.set_cons_succ, i64_w, i32_w]
    rfl
  refine take_ (i := 9) (N := some 12) (v := ?_) (a' := ?_) #[true, true, false, true, true, false, true, true, true, true, true, false, false, false] rfl rfl (take_ofW HT_.out HW_.out (by kernel_rfl)) (fun _ _ _ h => h) (Or.inl ⟨by rfl, ?_⟩) hHeld ?_ ?_
  rotate_left
  · rintro w' ⟨s0, s1, s2, s3, s4⟩
    go_simp
    with_reducible rfl
  rotate_left
  · simp only [Act.put, List.setIfInBounds_toArray, List.set_cons_zero, List.set_cons_succ, i64_w, i32_w]
    rfl
  refine take_ (i := 11) (N := some 14) (v := ?_) (a' := ?_) #[true, true, false, true, true, false, true, true, true, true, true, true, false, false] rfl rfl (take_ofW HT_.out HW_.out (by kernel_rfl)) (fun _ _ _ h => h) (Or.inl ⟨by rfl, ?_⟩) hHeld ?_ ?_
  rotate_left
  · rintro w' ⟨s0, s1, s2, s3, s4⟩
    go_simp
    with_reducible rfl
  rotate_left
  · simp only [Act.put, List.setIfInBounds_toArray, List.set_cons_zero, List.set_cons_succ, i64_w, i32_w]
    rfl
  refine one_ (i := 2) (N := some 5) #[true, true, true, true, true, false, true, true, true, true, true, true, false, false] rfl rfl (one_of HT_.out (by kernel_rfl)) (by decide) (fun K hK => ?_)
  refine goes_ Tryz.func19 (by kernel_rfl) rfl #[.slice A0_0 l0_0.length c0_0] (by rfl) rfl rfl (by (try simp only [List.map_toArray, List.map_cons, List.map_nil]); first | done | rfl | (simp only [List.length_drop, List.length_take]; rfl)) ?_
  with_reducible refine (impl_own.calls _ _ l0_0 t245 _ ?side1 ?side2 A2.out).mono ?_
  (case side1 => repeat (first | exact (Kd.C_below HR0_0.out HB.out) | (with_reducible refine Kd.C_alloc ?_ _) | (with_reducible refine Kd.C_drewN ?_ _) | (with_reducible refine Kd.C_drew ?_)))
  (case side2 => exact HC0_0.out)
  rintro e w7 ⟨v246, rfl, ho0, hb⟩
  refine ⟨_, rfl, ?_⟩
  have n0_ := Aside0.mk (Kd.R_lower ho0 (below_size (by repeat (first | (with_reducible first | exact HB.out | apply below_alloc | apply pw_below_drewN | apply below_drew1 | refine below_set ?_ GE243.out | refine below_set ?_ GE244.out) | exact HB.out))))
  have n1_ := Aside0.mk (blk_below (g := gb243) (o := .cells #[.slice A0_0 l0_0.length c0_0, .slice A0_1 l0_1.length c0_1, .int .u64 a0_2, .int .u8 a0_3, .int .u8 a0_4] 51 (0, 0)) (by (with_reducible repeat (first | refine blk_drewN ?_ _ | refine blk_drew ?_ | refine blk_alloc ?_ _)); exact BK243.out) hb)
  have n2_ := Aside0.mk (blk_below (g := gb244) (o := .cells #[.slice none 0 0, .slice none 0 0, .int .u64 0, .int .u8 0, .int .u8 0] 31 (0, 0)) (by (with_reducible repeat (first | refine blk_drewN ?_ _ | refine blk_drew ?_ | refine blk_alloc ?_ _)); exact BK244.out) hb)
  have n3_ := Aside0.mk (below_step (by repeat (first | (with_reducible first | exact HB.out | apply below_alloc | apply pw_below_drewN | apply below_drew1 | refine below_set ?_ GE243.out | refine below_set ?_ GE244.out) | exact HB.out)) hb)
  clear BK243
  clear BK244
  clear HB
  have HO247 := n0_
  have BK243 := n1_
  have BK244 := n2_
  have HB := n3_
  clear n0_ n1_ n2_ n3_
  (try clear hb)
  (try clear hb2)
  (try clear hk)
  (try clear hi)
  (try clear ho0)
  refine hK.out _ _ ⟨(blk_cell BK243.out 0).trans rfl, (blk_cell BK243.out 1).trans rfl, (blk_cell BK243.out 2).trans rfl, (blk_cell BK243.out 3).trans rfl, (blk_cell BK243.out 4).trans rfl⟩ (fun hHeld => ?_)
  clear hK K
  refine norm_ (a' := ?_) ?_ ?_
  rotate_left
  · show Act.put _ (some 5) _ = _
    simp only [Act.put, List.setIfInBounds_toArray, List.set_cons_zero, List.set_cons_succ, i64_w, i32_w]
    rfl
  refine one_ (i := 5) (N := some 8) #[true, true, true, true, true, true, true, true, true, true, true, true, false, false] rfl rfl (one_of HT_.out (by kernel_rfl)) (by decide) (fun K hK => ?_)
  refine goes_ Tryz.func19 (by kernel_rfl) rfl #[.slice A0_1 l0_1.length c0_1] (by rfl) rfl rfl (by (try simp only [List.map_toArray, List.map_cons, List.map_nil]); first | done | rfl | (simp only [List.length_drop, List.length_take]; rfl)) ?_
  with_reducible refine (impl_own.calls _ _ l0_1 t248 _ ?side1 ?side2 A3.out).mono ?_
  (case side1 => repeat (first | exact (Kd.C_below HR0_1.out HB.out) | (with_reducible refine Kd.C_alloc ?_ _) | (with_reducible refine Kd.C_drewN ?_ _) | (with_reducible refine Kd.C_drew ?_)))
  (case side2 => exact HC0_1.out)
  rintro e w8 ⟨v249, rfl, ho0, hb⟩
  refine ⟨_, rfl, ?_⟩
  have n0_ := Aside0.mk (Kd.R_elder' (by (with_reducible repeat (first | apply Kd.R_alloc | apply Kd.R_drewN | apply Kd.R_drew)); exact HO247.out) (Kd.R_base ho0) hb)
  have n1_ := Aside0.mk (Kd.R_lower (Kd.R_new' ho0 (Kd.R_lt (by (with_reducible repeat (first | apply Kd.R_alloc | apply Kd.R_drewN | apply Kd.R_drew)); exact HO247.out))) (below_size (by repeat (first | (with_reducible first | exact HB.out | apply below_alloc | apply pw_below_drewN | apply below_drew1 | refine below_set ?_ GE243.out | refine below_set ?_ GE244.out) | exact HB.out))))
  have n2_ := Aside0.mk (blk_below (g := gb243) (o := .cells #[.slice A0_0 l0_0.length c0_0, .slice A0_1 l0_1.length c0_1, .int .u64 a0_2, .int .u8 a0_3, .int .u8 a0_4] 51 (0, 0)) (by (with_reducible repeat (first | refine blk_drewN ?_ _ | refine blk_drew ?_ | refine blk_alloc ?_ _)); exact BK243.out) hb)
  have n3_ := Aside0.mk (blk_below (g := gb244) (o := .cells #[.slice none 0 0, .slice none 0 0, .int .u64 0, .int .u8 0, .int .u8 0] 31 (0, 0)) (by (with_reducible repeat (first | refine blk_drewN ?_ _ | refine blk_drew ?_ | refine blk_alloc ?_ _)); exact BK244.out) hb)
  have n4_ := Aside0.mk (below_step (by repeat (first | (with_reducible first | exact HB.out | apply below_alloc | apply pw_below_drewN | apply below_drew1 | refine below_set ?_ GE243.out | refine below_set ?_ GE244.out) | exact HB.out)) hb)
  clear HO247
  clear BK243
  clear BK244
  clear HB
  have HO247 := n0_
  have HO250 := n1_
  have BK243 := n2_
  have BK244 := n3_
  have HB := n4_
  clear n0_ n1_ n2_ n3_ n4_
  (try clear hb)
  (try clear hb2)
  (try clear hk)
  (try clear hi)
  (try clear ho0)
  obtain ⟨Ao9, co9, eo9⟩ := Kd.R_slice HO250.out
  (first | subst eo9 | (injection eo9 with f1_ f2_ f3_; have f4_ := f1_.symm; have f5_ := f3_.symm; clear f1_ f2_ f3_; subst f4_; subst f5_))
  obtain ⟨Ao10, co10, eo10⟩ := Kd.R_slice HO247.out
  (first | subst eo10 | (injection eo10 with f1_ f2_ f3_; have f4_ := f1_.symm; have f5_ := f3_.symm; clear f1_ f2_ f3_; subst f4_; subst f5_))
  refine hK.out _ _ ⟨(blk_cell BK243.out 0).trans rfl, (blk_cell BK243.out 1).trans rfl, (blk_cell BK243.out 2).trans rfl, (blk_cell BK243.out 3).trans rfl, (blk_cell BK243.out 4).trans rfl⟩ (fun hHeld => ?_)
  clear hK K
  refine norm_ (a' := ?_) ?_ ?_
  rotate_left
  · show Act.put _ (some 8) _ = _
    simp only [Act.put, List.setIfInBounds_toArray, List.set_cons_zero, List.set_cons_succ, i64_w, i32_w]
    rfl
  refine pure_ (i := 12) (N := some 15) (v := ?_) (a' := ?_) #[true, true, true, true, true, true, true, true, true, true, true, true, true, false] rfl rfl (any_of HT_.out (by kernel_rfl)) (fun _ _ _ h => h) (Or.inl ⟨by rfl, ?_⟩) ?_ ?_
  rotate_left
  · intro w'
    go_simp
    with_reducible rfl
  rotate_left
  · simp only [Act.put, List.setIfInBounds_toArray, List.set_cons_zero, List.set_cons_succ, i64_w, i32_w]
    rfl
  refine one_ (i := 13) (N := none) #[true, true, true, true, true, true, true, true, true, true, true, true, true, true] rfl rfl (one_of HT_.out (by kernel_rfl)) (by decide) (fun K hK => ?_)
  have hs11 : w8.cell? ⟨gb244, 0, none⟩ = some (.slice none 0 0) := (blk_cell BK244.out 0).trans rfl
  have hfs11 := blk_frozen BK244.out 0
  have hns11_0 := NB243_244.out
  have hms11_0 := NB244_243.out
  have hs12 : w8.cell? ⟨gb244, 1, none⟩ = some (.slice none 0 0) := (blk_cell BK244.out 1).trans rfl
  have hfs12 := blk_frozen BK244.out 1
  have hns12_0 := NB243_244.out
  have hms12_0 := NB244_243.out
  have hs13 : w8.cell? ⟨gb244, 2, none⟩ = some (.int .u64 0) := (blk_cell BK244.out 2).trans rfl
  have hfs13 := blk_frozen BK244.out 2
  have hns13_0 := NB243_244.out
  have hms13_0 := NB244_243.out
  have hs14 : w8.cell? ⟨gb244, 3, none⟩ = some (.int .u8 0) := (blk_cell BK244.out 3).trans rfl
  have hfs14 := blk_frozen BK244.out 3
  have hns14_0 := NB243_244.out
  have hms14_0 := NB244_243.out
  have hs15 : w8.cell? ⟨gb244, 4, none⟩ = some (.int .u8 0) := (blk_cell BK244.out 4).trans rfl
  have hfs15 := blk_frozen BK244.out 4
  have hns15_0 := NB243_244.out
  have hms15_0 := NB244_243.out
  refine skip_ (w1 := ?_) (by rfl) rfl ?_ ?_
  rotate_left
  · go_simp
    rfl
  refine hK.out _ _ ⟨((cell_far (p := ⟨gb244, _, none⟩) NB243_244.out _).trans (((cell_far (p := ⟨gb244, _, none⟩) NB243_244.out _).trans (((cell_far (p := ⟨gb244, _, none⟩) NB243_244.out _).trans (((cell_far (p := ⟨gb244, _, none⟩) NB243_244.out _).trans (((cell_far (p := ⟨gb244, _, none⟩) NB243_244.out _).trans (hHeld.1)))))))))), ((cell_far (p := ⟨gb244, _, none⟩) NB243_244.out _).trans (((cell_far (p := ⟨gb244, _, none⟩) NB243_244.out _).trans (((cell_far (p := ⟨gb244, _, none⟩) NB243_244.out _).trans (((cell_far (p := ⟨gb244, _, none⟩) NB243_244.out _).trans (((cell_far (p := ⟨gb244, _, none⟩) NB243_244.out _).trans (hHeld.2.1)))))))))), ((cell_far (p := ⟨gb244, _, none⟩) NB243_244.out _).trans (((cell_far (p := ⟨gb244, _, none⟩) NB243_244.out _).trans (((cell_far (p := ⟨gb244, _, none⟩) NB243_244.out _).trans (((cell_far (p := ⟨gb244, _, none⟩) NB243_244.out _).trans (((cell_far (p := ⟨gb244, _, none⟩) NB243_244.out _).trans (hHeld.2.2.1)))))))))), ((cell_far (p := ⟨gb244, _, none⟩) NB243_244.out _).trans (((cell_far (p := ⟨gb244, _, none⟩) NB243_244.out _).trans (((cell_far (p := ⟨gb244, _, none⟩) NB243_244.out _).trans (((cell_far (p := ⟨gb244, _, none⟩) NB243_244.out _).trans (((cell_far (p := ⟨gb244, _, none⟩) NB243_244.out _).trans (hHeld.2.2.2.1)))))))))), ((cell_far (p := ⟨gb244, _, none⟩) NB243_244.out _).trans (((cell_far (p := ⟨gb244, _, none⟩) NB243_244.out _).trans (((cell_far (p := ⟨gb244, _, none⟩) NB243_244.out _).trans (((cell_far (p := ⟨gb244, _, none⟩) NB243_244.out _).trans (((cell_far (p := ⟨gb244, _, none⟩) NB243_244.out _).trans (hHeld.2.2.2.2))))))))))⟩ (fun hHeld => ?_)
  clear hK K
  refine done_ (done_of HT_.out (by kernel_rfl)) ?_
  try go_wp2
  refine bodyPost_ret (results_cell_row rfl _ _ gb244 31 #[.slice Ao10 t245.length co10, .slice Ao9 t248.length co9, .int .u64 a0_2, .int .u8 a0_3, .int .u8 a0_4] (0, 0) _ rfl (by (with_reducible repeat (first | refine blk_drewN ?_ _ | refine blk_drew ?_ | refine blk_alloc ?_ _)); refine blk_put (cs := #[.slice Ao10 t245.length co10, .slice Ao9 t248.length co9, .int .u64 a0_2, .int .u8 a0_3, .int .u8 0]) ?_ 4 _ rfl; (with_reducible repeat (first | refine blk_drewN ?_ _ | refine blk_drew ?_ | refine blk_alloc ?_ _)); refine blk_put (cs := #[.slice Ao10 t245.length co10, .slice Ao9 t248.length co9, .int .u64 a0_2, .int .u8 0, .int .u8 0]) ?_ 3 _ rfl; (with_reducible repeat (first | refine blk_drewN ?_ _ | refine blk_drew ?_ | refine blk_alloc ?_ _)); refine blk_put (cs := #[.slice Ao10 t245.length co10, .slice Ao9 t248.length co9, .int .u64 0, .int .u8 0, .int .u8 0]) ?_ 2 _ rfl; (with_reducible repeat (first | refine blk_drewN ?_ _ | refine blk_drew ?_ | refine blk_alloc ?_ _)); refine blk_put (cs := #[.slice Ao10 t245.length co10, .slice none 0 0, .int .u64 0, .int .u8 0, .int .u8 0]) ?_ 1 _ rfl; (with_reducible repeat (first | refine blk_drewN ?_ _ | refine blk_drew ?_ | refine blk_alloc ?_ _)); refine blk_put (cs := #[.slice none 0 0, .slice none 0 0, .int .u64 0, .int .u8 0, .int .u8 0]) ?_ 0 _ rfl; (with_reducible repeat (first | refine blk_drewN ?_ _ | refine blk_drew ?_ | refine blk_alloc ?_ _)); exact BK244.out) Tryz.underlying31 rfl (by kernel_rfl)) rfl ?_
  exact ⟨_, _, by first | rfl | (simp [errW_none, errW_some] <;> rfl) | (simp [*, errW_none, errW_some] <;> rfl), by (with_reducible repeat (first | apply Kd.R_alloc | apply Kd.R_drewN | apply Kd.R_drew)); exact Kd.R_mono (Kd.R_far (p := ⟨gb244, 4, none⟩) (Kd.R_far (p := ⟨gb244, 3, none⟩) (Kd.R_far (p := ⟨gb244, 2, none⟩) (Kd.R_far (p := ⟨gb244, 1, none⟩) (Kd.R_far (p := ⟨gb244, 0, none⟩) (Kd.R_types HO247.out BK244.out (by decide)) (fun _ hk => hk.2) (.slice Ao10 t245.length co10)) (fun _ hk => hk.2) (.slice Ao9 t248.length co9)) (fun _ hk => hk.2) (.int .u64 a0_2)) (fun _ hk => hk.2) (.int .u8 a0_3)) (fun _ hk => hk.2) (.int .u8 a0_4)) (fun _ hk => hk.1.2), by (with_reducible repeat (first | apply Kd.R_alloc | apply Kd.R_drewN | apply Kd.R_drew)); exact Kd.R_mono (Kd.R_far (p := ⟨gb244, 4, none⟩) (Kd.R_far (p := ⟨gb244, 3, none⟩) (Kd.R_far (p := ⟨gb244, 2, none⟩) (Kd.R_far (p := ⟨gb244, 1, none⟩) (Kd.R_far (p := ⟨gb244, 0, none⟩) (Kd.R_types HO250.out BK244.out (by decide)) (fun _ hk => hk.2) (.slice Ao10 t245.length co10)) (fun _ hk => hk.2) (.slice Ao9 t248.length co9)) (fun _ hk => hk.2) (.int .u64 a0_2)) (fun _ hk => hk.2) (.int .u8 a0_3)) (fun _ hk => hk.2) (.int .u8 a0_4)) (fun _ hk => hk.1.2), by repeat (first | (with_reducible first | exact HB.out | apply below_alloc | apply pw_below_drewN | apply below_drew1 | refine below_set ?_ GE243.out | refine below_set ?_ GE244.out) | exact HB.out)⟩

end Go.Proofs.YtpfmmbhbmdbmeaaGreatDoorQ.QL
