-- Lines that a program has printed for this claim: functions as plain Lean functions, and their walks.
import Derived.Test.YtadhdimleabljaaQW0
import Derived.Test.YtadhdimleabljaaQW1
import Derived.Test.YtadhdimleabljaaQW4
namespace Go.Proofs.YtadhdimleabljaaQ.QW
open Go.RowKit Go.Proofs.YtadhdimleabljaaQ.Ext Go.Proofs.YtadhdimleabljaaW.PrintWords Go.Proofs.YtadhdimleabljaaW.PrintLast Go.Proofs.YtadhdimleabljaaW.PrintMore
attribute [local go_sem] max2_int min2_int max_two min_two max_three min_three max_four min_four   -- for this text's walks alone
set_option linter.unusedVariables false
set_option linter.unusedSimpArgs false

/-! ### laws_FnValueBack: function 22 -/
def laws_FnValueBack.f (a0_0 : Int) (a0_1 : Int) (a0_2 : Int) (l0_3 : List Int) : Option (Bool) := (laws_zzFits4.f a0_0 a0_1 a0_2 l0_3).bind fun t130 => (if t130 = true then ((laws_few.f (([l0_3] : List (List Int)))).bind fun t134 => (if t134 = true then ((impl_EncodeValue.f a0_0 a0_1 a0_2 l0_3).bind fun bt135 => (if (bt135.1.length : Int) > 2 then ((impl_DecodeValue.f bt135.1).bind fun bt139 => ((spec_SameValue.f bt139.1 bt139.2.1 bt139.2.2.1 bt139.2.2.2 a0_0 a0_1 a0_2 l0_3).bind fun t145 => (some t145))) else (some false))) else (some true))) else (some true))
def laws_FnValueBack.T6 : Bool × List (List Nat × List Nat) := (true, [([], []), ([0], [0]), ([1], [1]), ([2], [2]), ([3], [3]), ([4, 3, 3], [3, 4]), ([3], [3]), ([5, 6, 5, 3], [3, 5, 6]), ([3, 7], [3, 7]), ([8, 7, 0, 1, 2, 3, 4, 5, 6, 7, 8], [8])])
def laws_FnValueBack.B6 : List Nat := [0, 1, 3, 7, 15, 31, 15, 127, 255, 511]
theorem laws_FnValueBack.tab6 : rtab .any (opsOf Try.f22 6) = laws_FnValueBack.T6 := by kernel_rfl
theorem laws_FnValueBack.bits6 : waitsOk laws_FnValueBack.T6.2 laws_FnValueBack.B6 = true := by kernel_rfl
set_option maxHeartbeats 8000000 in
set_option maxRecDepth 100000 in
theorem laws_FnValueBack.calls (a0_0 : Int) (a0_1 : Int) (a0_2 : Int) (P0_3_ : Nat → Prop) (A0_3 : Option Addr) (c0_3 : Nat) (l0_3 : List Int) (r : Bool) (w : World) (hs0_3 : Kd.V (Kd.int .u8) 5 w w.heap.size (fun k_ => P0_3_ k_) (.slice A0_3 l0_3.length c0_3) l0_3) (h : laws_FnValueBack.f a0_0 a0_1 a0_2 l0_3 = some r) :
    Calls Try.prog 22 #[.agg #[.int .u8 a0_0, .int .u8 a0_1, .int .u64 a0_2, .slice A0_3 l0_3.length c0_3]] w fun e w' => e = .returned (.bool r) ∧ Below w.heap.size w w' := by
  have hu69 := Try.underlying69
  have HO0_3 := Aside0.mk (show Kd.V (Kd.int .u8) 5 w w.heap.size (fun k_ => (P0_3_ k_ ∨ w.heap.size ≤ k_)) (.slice A0_3 l0_3.length c0_3) l0_3 from Kd.V_mono hs0_3 (fun k_ hk => .inl hk))
  have HB := Aside0.mk (Below.refl w.heap.size w)
  have H : ((laws_zzFits4.f a0_0 a0_1 a0_2 l0_3).bind fun t130 => (if t130 = true then ((laws_few.f (([l0_3] : List (List Int)))).bind fun t134 => (if t134 = true then ((impl_EncodeValue.f a0_0 a0_1 a0_2 l0_3).bind fun bt135 => (if (bt135.1.length : Int) > 2 then ((impl_DecodeValue.f bt135.1).bind fun bt139 => ((spec_SameValue.f bt139.1 bt139.2.1 bt139.2.2.1 bt139.2.2.2 a0_0 a0_1 a0_2 l0_3).bind fun t145 => (some t145))) else (some false))) else (some true))) else (some true))) = some r := h
  clear h
  replace H := Option.bind_eq_some_iff.mp H
  obtain ⟨t130, A20, H⟩ := H
  replace H : (if t130 = true then ((laws_few.f (([l0_3] : List (List Int)))).bind fun t134 => (if t134 = true then ((impl_EncodeValue.f a0_0 a0_1 a0_2 l0_3).bind fun bt135 => (if (bt135.1.length : Int) > 2 then ((impl_DecodeValue.f bt135.1).bind fun bt139 => ((spec_SameValue.f bt139.1 bt139.2.1 bt139.2.2.1 bt139.2.2.2 a0_0 a0_1 a0_2 l0_3).bind fun t145 => (some t145))) else (some false))) else (some true))) else (some true)) = some r := H
  have A2 := Aside0.mk A20
  clear A20
  by_cases c3 : t130 = true
  · subst c3
    have H1 : ((laws_few.f (([l0_3] : List (List Int)))).bind fun t134 => (if t134 = true then ((impl_EncodeValue.f a0_0 a0_1 a0_2 l0_3).bind fun bt135 => (if (bt135.1.length : Int) > 2 then ((impl_DecodeValue.f bt135.1).bind fun bt139 => ((spec_SameValue.f bt139.1 bt139.2.1 bt139.2.2.1 bt139.2.2.2 a0_0 a0_1 a0_2 l0_3).bind fun t145 => (some t145))) else (some false))) else (some true))) = some r := by rw [if_pos rfl] at H; exact H
    clear H
    have H := H1
    clear H1
    obtain ⟨y131, hy131⟩ : ∃ y_ : List (List Int), y_ = (([l0_3] : List (List Int))) := ⟨_, rfl⟩
    replace H : ((laws_few.f y131).bind fun t134 => (if t134 = true then ((impl_EncodeValue.f a0_0 a0_1 a0_2 l0_3).bind fun bt135 => (if (bt135.1.length : Int) > 2 then ((impl_DecodeValue.f bt135.1).bind fun bt139 => ((spec_SameValue.f bt139.1 bt139.2.1 bt139.2.2.1 bt139.2.2.2 a0_0 a0_1 a0_2 l0_3).bind fun t145 => (some t145))) else (some false))) else (some true))) = some r := by first | (rw [hy131]; with_reducible exact H) | (have H2_ := (Option.bind_some _ _).symm.trans H; rw [hy131]; with_reducible exact H2_) | (have H2_ := (Option.bind_some _ _).symm.trans H; with_reducible exact H2_) | with_reducible exact H | (rw [hy131]; exact H) | exact H
    have Ny131 := Aside0.mk hy131
    clear hy131
    replace H := Option.bind_eq_some_iff.mp H
    obtain ⟨t134, A40, H⟩ := H
    replace H : (if t134 = true then ((impl_EncodeValue.f a0_0 a0_1 a0_2 l0_3).bind fun bt135 => (if (bt135.1.length : Int) > 2 then ((impl_DecodeValue.f bt135.1).bind fun bt139 => ((spec_SameValue.f bt139.1 bt139.2.1 bt139.2.2.1 bt139.2.2.2 a0_0 a0_1 a0_2 l0_3).bind fun t145 => (some t145))) else (some false))) else (some true)) = some r := H
    have A4 := Aside0.mk A40
    clear A40
    by_cases c5 : t134 = true
    · subst c5
      have H1 : ((impl_EncodeValue.f a0_0 a0_1 a0_2 l0_3).bind fun bt135 => (if (bt135.1.length : Int) > 2 then ((impl_DecodeValue.f bt135.1).bind fun bt139 => ((spec_SameValue.f bt139.1 bt139.2.1 bt139.2.2.1 bt139.2.2.2 a0_0 a0_1 a0_2 l0_3).bind fun t145 => (some t145))) else (some false))) = some r := by rw [if_pos rfl] at H; exact H
      clear H
      have H := H1
      clear H1
      replace H := Option.bind_eq_some_iff.mp H
      obtain ⟨⟨t135, t138⟩, A60, H⟩ := H
      replace H : (if (t135.length : Int) > 2 then ((impl_DecodeValue.f t135).bind fun bt139 => ((spec_SameValue.f bt139.1 bt139.2.1 bt139.2.2.1 bt139.2.2.2 a0_0 a0_1 a0_2 l0_3).bind fun t145 => (some t145))) else (some false)) = some r := H
      have A6 := Aside0.mk A60
      clear A60
      by_cases c7 : (t135.length : Int) > 2
      · rw [if_pos c7] at H
        have c7b0 : decide (2 < (t135.length : Int)) = true := decide_eq_true c7
        have c7b1 : decide (2 < t135.length) = true := decide_eq_true (by omega)
        clear c7
        replace H := Option.bind_eq_some_iff.mp H
        obtain ⟨⟨t139, t140, t141, t142⟩, A80, H⟩ := H
        replace H : ((spec_SameValue.f t139 t140 t141 t142 a0_0 a0_1 a0_2 l0_3).bind fun t145 => (some t145)) = some r := H
        have A8 := Aside0.mk A80
        clear A80
        replace H := Option.bind_eq_some_iff.mp H
        obtain ⟨t145, A90, H⟩ := H
        replace H : (some t145) = some r := H
        have A9 := Aside0.mk A90
        clear A90
        obtain rfl := Option.some.inj H
        go_enter Try.func22, Try.ntmps22
        try go_wp2_with (first | ((with_reducible refine gate_dst (N := 1) rfl ?_); refine box_event ?hg (N := 1) ?hd (cs := #[.int .u8 a0_0, .int .u8 a0_1, .int .u64 a0_2, .slice A0_3 l0_3.length c0_3]) (t := 69) ?hr ?_; (case hd => rfl); (case hg => rfl); (case hr => first | (go_simp; done) | (go_simp; rfl)); intro gb129 hg w10 hbox hb; have n0_ := Aside0.mk (Kd.V_below (Kd.V_elderB (by (with_reducible repeat (first | apply Kd.V_alloc | apply Kd.V_drewN | apply Kd.V_drew)); exact HO0_3.out) gb129 (Nat.le_of_eq hg.symm)) hb); have n1_ := Aside0.mk (below_step (by repeat (first | (with_reducible first | exact HB.out | apply below_alloc | apply pw_below_drewN | apply below_drew1) | exact HB.out)) hb); have n2_ := Aside0.mk (hbox); have n3_ := Aside0.mk ((by rw [hg]; exact (below_size (by repeat (first | (with_reducible first | exact HB.out | apply below_alloc | apply pw_below_drewN | apply below_drew1) | exact HB.out))) : w.heap.size ≤ gb129)); have n4_ := Aside0.mk ((by rw [hg]; exact (below_size (by repeat (first | (with_reducible first | exact HB.out | apply below_alloc | apply pw_below_drewN | apply below_drew1) | exact HB.out))) : w.heap.size ≤ gb129)); clear HO0_3; clear HB; have HO0_3 := n0_; have HB := n1_; have BK129 := n2_; have GW129 := n3_; have GE129 := n4_; clear n0_ n1_ n2_ n3_ n4_; clear hb hbox hg; have hcz11_0 : w10.cell? ⟨gb129, 0, none⟩ = some (.int .u8 a0_0) := (blk_cell BK129.out 0).trans rfl; have hcz11_1 : w10.cell? ⟨gb129, 1, none⟩ = some (.int .u8 a0_1) := (blk_cell BK129.out 1).trans rfl; have hcz11_2 : w10.cell? ⟨gb129, 2, none⟩ = some (.int .u64 a0_2) := (blk_cell BK129.out 2).trans rfl; have hcz11_3 : w10.cell? ⟨gb129, 3, none⟩ = some (.slice A0_3 l0_3.length c0_3) := (blk_cell BK129.out 3).trans rfl; have hfz11_0 := blk_frozen BK129.out 0; have hfz11_1 := blk_frozen BK129.out 1; have hfz11_2 := blk_frozen BK129.out 2; have hfz11_3 := blk_frozen BK129.out 3) | ((with_reducible refine gate_callee (f := 56) rfl ?_); refine goesL_ (some 6) rfl rfl Try.func56 (by kernel_rfl) rfl #[.agg #[.int .u8 a0_0, .int .u8 a0_1, .int .u64 a0_2, .slice A0_3 l0_3.length c0_3]] rfl (by (try simp only [List.map_toArray, List.map_cons, List.map_nil]); first | done | rfl | (simp only [List.length_drop, List.length_take]; rfl)) ?_; (with_reducible refine (laws_zzFits4.calls a0_0 a0_1 a0_2 _ _ l0_3 true _ ?side1 ?side2 A2.out).mono ?_); (case side1 => repeat (first | exact (Kd.V_reads' HO0_3.out).2.2 | (with_reducible refine Kd.C_alloc ?_ _) | (with_reducible refine Kd.C_drewN ?_ _) | (with_reducible refine Kd.C_drew ?_))); (case side2 => exact (Kd.V_reads' HO0_3.out).2.1); rintro e w12 ⟨rfl, hb⟩; refine ⟨_, rfl, ?_⟩; have n0_ := Aside0.mk (Kd.V_below (by (with_reducible repeat (first | apply Kd.V_alloc | apply Kd.V_drewN | apply Kd.V_drew)); exact HO0_3.out) hb); have n1_ := Aside0.mk (blk_below (g := gb129) (o := .cells #[.int .u8 a0_0, .int .u8 a0_1, .int .u64 a0_2, .slice A0_3 l0_3.length c0_3] 69 (0, 0)) (by (with_reducible repeat (first | refine blk_drewN ?_ _ | refine blk_drew ?_ | refine blk_alloc ?_ _)); exact BK129.out) hb); have n2_ := Aside0.mk (below_step (by repeat (first | (with_reducible first | exact HB.out | apply below_alloc | apply pw_below_drewN | apply below_drew1 | refine below_set ?_ GE129.out) | exact HB.out)) hb); clear HO0_3; clear BK129; clear HB; have HO0_3 := n0_; have BK129 := n1_; have HB := n2_; clear n0_ n1_ n2_; (try clear hb); (try clear hb2); (try clear hk); (try clear hi); have hcz13_0 : w12.cell? ⟨gb129, 0, none⟩ = some (.int .u8 a0_0) := (blk_cell BK129.out 0).trans rfl; have hcz13_1 : w12.cell? ⟨gb129, 1, none⟩ = some (.int .u8 a0_1) := (blk_cell BK129.out 1).trans rfl; have hcz13_2 : w12.cell? ⟨gb129, 2, none⟩ = some (.int .u64 a0_2) := (blk_cell BK129.out 2).trans rfl; have hcz13_3 : w12.cell? ⟨gb129, 3, none⟩ = some (.slice A0_3 l0_3.length c0_3) := (blk_cell BK129.out 3).trans rfl; have hfz13_0 := blk_frozen BK129.out 0; have hfz13_1 := blk_frozen BK129.out 1; have hfz13_2 := blk_frozen BK129.out 2; have hfz13_3 := blk_frozen BK129.out 3) | ((with_reducible refine gate_dst (N := 10) rfl ?_); refine Kd.N_lit (Kd.slice 5 (Kd.int .u8)) _ 26 ?hg (N' := 10) ?hd (xs := ([l0_3] : List (List Int))) (inner := [.slice A0_3 l0_3.length c0_3]) (ok := (fun k_ => (P0_3_ k_ ∨ w.heap.size ≤ k_) ∧ k_ ≠ gb129)) (okp := (fun k_ => (P0_3_ k_ ∨ w.heap.size ≤ k_) ∧ k_ ≠ gb129)) ?hr ?hp (fun _ hk => hk) ((show ∀ k_, w12.heap.size ≤ k_ → (fun k_ => (P0_3_ k_ ∨ w.heap.size ≤ k_) ∧ k_ ≠ gb129) k_ from fun k_ hk => ⟨(.inr (Nat.le_trans (below_size (by repeat (first | (with_reducible first | exact HB.out | apply below_alloc | apply pw_below_drewN | apply below_drew1 | refine below_set ?_ GE129.out) | exact HB.out))) hk)), Kd.freshB (g := gb129) (o := .cells #[.int .u8 a0_0, .int .u8 a0_1, .int .u64 a0_2, .slice A0_3 l0_3.length c0_3] 69 (0, 0)) (by (with_reducible repeat (first | refine blk_drewN ?_ _ | refine blk_drew ?_ | refine blk_alloc ?_ _)); exact BK129.out) k_ hk⟩) _ (Nat.le_refl _)) (Below.refl _ _) (Nat.le_refl _) (by simp) ?_; (case hd => rfl); (case hg => rfl); (case hr => first | (go_simp; done) | (go_simp; rfl)); (case hp => exact (Reps.one (show Kd.FK (Kd.slice 5 (Kd.int .u8)) _ _ l0_3 [.slice A0_3 l0_3.length c0_3] from (Kd.FK_slice_mk (Kd.V_reads' (Kd.V_mono (ok' := (fun k_ => (P0_3_ k_ ∨ w.heap.size ≤ k_) ∧ k_ ≠ gb129)) (HO0_3.out) (fun k_ hk => ⟨hk.1, hk.2⟩))).2.1 (Kd.V_F (Kd.V_mono (ok' := (fun k_ => (P0_3_ k_ ∨ w.heap.size ≤ k_) ∧ k_ ≠ gb129)) (HO0_3.out) (fun k_ hk => ⟨hk.1, hk.2⟩))))) (Reps.none _ _))); intro v132 w14 ho15 hb hg_ hnew_; clear hg_ hnew_; (first | rw [← Ny131.out] at ho15 | (simp only [Int.reduceToNat] at ho15; rw [← Ny131.out] at ho15)); have n0_ := Aside0.mk (Kd.V_elder' (by (with_reducible repeat (first | apply Kd.V_alloc | apply Kd.V_drewN | apply Kd.V_drew)); exact HO0_3.out) (Kd.N_base ho15) hb); have n1_ := Aside0.mk (Kd.N_lower ho15 (below_size (by repeat (first | (with_reducible first | exact HB.out | apply below_alloc | apply pw_below_drewN | apply below_drew1 | refine below_set ?_ GE129.out) | exact HB.out)))); have n2_ := Aside0.mk (blk_below (g := gb129) (o := .cells #[.int .u8 a0_0, .int .u8 a0_1, .int .u64 a0_2, .slice A0_3 l0_3.length c0_3] 69 (0, 0)) (by (with_reducible repeat (first | refine blk_drewN ?_ _ | refine blk_drew ?_ | refine blk_alloc ?_ _)); exact BK129.out) hb); have n3_ := Aside0.mk (below_step (by repeat (first | (with_reducible first | exact HB.out | apply below_alloc | apply pw_below_drewN | apply below_drew1 | refine below_set ?_ GE129.out) | exact HB.out)) hb); clear HO0_3; clear BK129; clear HB; have HO0_3 := n0_; have HO133 := n1_; have BK129 := n2_; have HB := n3_; clear n0_ n1_ n2_ n3_; clear hb ho15; obtain ⟨Ao16, co16, eo16⟩ := Kd.N_slice HO133.out; subst eo16) | ((with_reducible refine gate_callee (f := 29) rfl ?_); refine goesL_ (some 11) rfl rfl Try.func29 (by kernel_rfl) rfl #[.slice Ao16 y131.length co16] rfl (by (try simp only [List.map_toArray, List.map_cons, List.map_nil]); first | done | rfl | (simp only [List.length_drop, List.length_take]; rfl)) ?_; (with_reducible refine (laws_few.calls _ _ y131 true _ ?side1 ?side2 A4.out).mono ?_); (case side1 => repeat (first | exact (Kd.N_reads' HO133.out).2.2 | (with_reducible refine Kd.C_alloc ?_ _) | (with_reducible refine Kd.C_drewN ?_ _) | (with_reducible refine Kd.C_drew ?_))); (case side2 => exact (Kd.N_reads' HO133.out).2.1); rintro e w17 ⟨rfl, hb⟩; refine ⟨_, rfl, ?_⟩; have n0_ := Aside0.mk (Kd.V_below (by (with_reducible repeat (first | apply Kd.V_alloc | apply Kd.V_drewN | apply Kd.V_drew)); exact HO0_3.out) hb); have n1_ := Aside0.mk (Kd.N_below (by (with_reducible repeat (first | apply Kd.N_alloc | apply Kd.N_drewN | apply Kd.N_drew)); exact HO133.out) hb); have n2_ := Aside0.mk (blk_below (g := gb129) (o := .cells #[.int .u8 a0_0, .int .u8 a0_1, .int .u64 a0_2, .slice A0_3 l0_3.length c0_3] 69 (0, 0)) (by (with_reducible repeat (first | refine blk_drewN ?_ _ | refine blk_drew ?_ | refine blk_alloc ?_ _)); exact BK129.out) hb); have n3_ := Aside0.mk (below_step (by repeat (first | (with_reducible first | exact HB.out | apply below_alloc | apply pw_below_drewN | apply below_drew1 | refine below_set ?_ GE129.out) | exact HB.out)) hb); clear HO0_3; clear HO133; clear BK129; clear HB; have HO0_3 := n0_; have HO133 := n1_; have BK129 := n2_; have HB := n3_; clear n0_ n1_ n2_ n3_; (try clear hb); (try clear hb2); (try clear hk); (try clear hi); have hcz18_0 : w17.cell? ⟨gb129, 0, none⟩ = some (.int .u8 a0_0) := (blk_cell BK129.out 0).trans rfl; have hcz18_1 : w17.cell? ⟨gb129, 1, none⟩ = some (.int .u8 a0_1) := (blk_cell BK129.out 1).trans rfl; have hcz18_2 : w17.cell? ⟨gb129, 2, none⟩ = some (.int .u64 a0_2) := (blk_cell BK129.out 2).trans rfl; have hcz18_3 : w17.cell? ⟨gb129, 3, none⟩ = some (.slice A0_3 l0_3.length c0_3) := (blk_cell BK129.out 3).trans rfl; have hfz18_0 := blk_frozen BK129.out 0; have hfz18_1 := blk_frozen BK129.out 1; have hfz18_2 := blk_frozen BK129.out 2; have hfz18_3 := blk_frozen BK129.out 3) | ((with_reducible refine gate_callee (f := 57) rfl ?_); refine goesL_ (some 15) rfl rfl Try.func57 (by kernel_rfl) rfl #[.agg #[.int .u8 a0_0, .int .u8 a0_1, .int .u64 a0_2, .slice A0_3 l0_3.length c0_3]] rfl (by (try simp only [List.map_toArray, List.map_cons, List.map_nil]); first | done | rfl | (simp only [List.length_drop, List.length_take]; rfl)) ?_; (with_reducible refine (impl_EncodeValue.calls a0_0 a0_1 a0_2 _ _ l0_3 t135 t138 _ ?side1 ?side2 A6.out).mono ?_); (case side1 => repeat (first | exact (Kd.V_reads' HO0_3.out).2.2 | (with_reducible refine Kd.C_alloc ?_ _) | (with_reducible refine Kd.C_drewN ?_ _) | (with_reducible refine Kd.C_drew ?_))); (case side2 => exact (Kd.V_reads' HO0_3.out).2.1); rintro e w19 ⟨v136, rfl, ho0, hb⟩; refine ⟨_, rfl, ?_⟩; have n0_ := Aside0.mk (Kd.V_elder' (by (with_reducible repeat (first | apply Kd.V_alloc | apply Kd.V_drewN | apply Kd.V_drew)); exact HO0_3.out) (Kd.R_base ho0) hb); have n1_ := Aside0.mk (Kd.N_elder' (by (with_reducible repeat (first | apply Kd.N_alloc | apply Kd.N_drewN | apply Kd.N_drew)); exact HO133.out) (Kd.R_base ho0) hb); have n2_ := Aside0.mk (Kd.R_lower (Kd.R_newM (M := fun k_ => (w.heap.size ≤ k_)) ho0 (below_size (by repeat (first | (with_reducible first | exact HB.out | apply below_alloc | apply pw_below_drewN | apply below_drew1 | refine below_set ?_ GE129.out) | exact HB.out))) (fun k_ h_ => h_)) (below_size (by repeat (first | (with_reducible first | exact HB.out | apply below_alloc | apply pw_below_drewN | apply below_drew1 | refine below_set ?_ GE129.out) | exact HB.out)))); have n3_ := Aside0.mk (blk_below (g := gb129) (o := .cells #[.int .u8 a0_0, .int .u8 a0_1, .int .u64 a0_2, .slice A0_3 l0_3.length c0_3] 69 (0, 0)) (by (with_reducible repeat (first | refine blk_drewN ?_ _ | refine blk_drew ?_ | refine blk_alloc ?_ _)); exact BK129.out) hb); have n4_ := Aside0.mk (below_step (by repeat (first | (with_reducible first | exact HB.out | apply below_alloc | apply pw_below_drewN | apply below_drew1 | refine below_set ?_ GE129.out) | exact HB.out)) hb); clear HO0_3; clear HO133; clear BK129; clear HB; have HO0_3 := n0_; have HO133 := n1_; have HO137 := n2_; have BK129 := n3_; have HB := n4_; clear n0_ n1_ n2_ n3_ n4_; (try clear hb); (try clear hb2); (try clear hk); (try clear hi); (try clear ho0)))
        have n0_ := Aside0.mk (Kd.V_drew HO0_3.out)
        have n1_ := Aside0.mk (Kd.N_drew HO133.out)
        have n2_ := Aside0.mk (Kd.R_drew HO137.out)
        have n3_ := Aside0.mk (blk_drew BK129.out)
        have n4_ := Aside0.mk (below_drew1 HB.out)
        clear HO0_3
        clear HO133
        clear HO137
        clear BK129
        clear HB
        have HO0_3 := n0_
        have HO133 := n1_
        have HO137 := n2_
        have BK129 := n3_
        have HB := n4_
        clear n0_ n1_ n2_ n3_ n4_
        obtain ⟨Ao21, co21, eo21⟩ := Kd.R_slice HO137.out
        (first | subst eo21 | (injection eo21 with f1_ f2_ f3_; have f4_ := f1_.symm; have f5_ := f3_.symm; clear f1_ f2_ f3_; subst f4_; subst f5_))
        refine start_ (n := 10) (S := fun w' => w'.cell? ⟨gb129, 0, none⟩ = some (.int .u8 a0_0) ∧ w'.cell? ⟨gb129, 1, none⟩ = some (.int .u8 a0_1) ∧ w'.cell? ⟨gb129, 2, none⟩ = some (.int .u64 a0_2) ∧ w'.cell? ⟨gb129, 3, none⟩ = some (.slice A0_3 l0_3.length c0_3)) (ds := []) #[false, false, false, false, false, false, false, false, false, false] (by kernel_rfl) rfl rfl ⟨(blk_cell BK129.out 0).trans rfl, (blk_cell BK129.out 1).trans rfl, (blk_cell BK129.out 2).trans rfl, (blk_cell BK129.out 3).trans rfl⟩ (fun hHeld => ?_); refine with_tabW laws_FnValueBack.tab6 laws_FnValueBack.bits6 (fun HT_ HW_ => ?_)
        generalize w19.drew = w20 at HO0_3 HO133 HO137 BK129 HB hHeld ⊢
        refine pure_ (i := 0) (N := some 18) (v := ?_) (a' := ?_) #[true, false, false, false, false, false, false, false, false, false] rfl rfl (any_of HT_.out (by kernel_rfl)) (fun _ _ _ h => h) (Or.inl ⟨by rfl, ?_⟩) ?_ ?_
        rotate_left
        · intro w'
          go_simp
          with_reducible rfl
        rotate_left
        · simp only [Act.put, List.setIfInBounds_toArray, List.set_cons_zero, List.set_cons_succ, i64_w, i32_w]
          rfl
        refine pure_ (i := 1) (N := some 19) (v := ?_) (a' := ?_) #[true, true, false, false, false, false, false, false, false, false] rfl rfl (any_of HT_.out (by kernel_rfl)) (fun _ _ _ h => h) (Or.inl ⟨by rfl, ?_⟩) ?_ ?_
        rotate_left
        · intro w'
          go_simp
          with_reducible rfl
        rotate_left
        · simp only [Act.put, List.setIfInBounds_toArray, List.set_cons_zero, List.set_cons_succ, i64_w, i32_w]
          rfl
        refine pure_ (i := 2) (N := some 20) (v := ?_) (a' := ?_) #[true, true, true, false, false, false, false, false, false, false] rfl rfl (any_of HT_.out (by kernel_rfl)) (fun _ _ _ h => h) (Or.inl ⟨by rfl, ?_⟩) ?_ ?_
        rotate_left
        · intro w'
          go_simp
          with_reducible rfl
        rotate_left
        · simp only [Act.put, List.setIfInBounds_toArray, List.set_cons_zero, List.set_cons_succ, i64_w, i32_w]
          rfl
        refine pure_ (i := 3) (N := some 21) (v := ?_) (a' := ?_) #[true, true, true, true, false, false, false, false, false, false] rfl rfl (any_of HT_.out (by kernel_rfl)) (fun _ _ _ h => h) (Or.inl ⟨by rfl, ?_⟩) ?_ ?_
        rotate_left
        · intro w'
          go_simp
          with_reducible rfl
        rotate_left
        · simp only [Act.put, List.setIfInBounds_toArray, List.set_cons_zero, List.set_cons_succ, i64_w, i32_w]
          rfl
        refine pure_ (i := 4) (N := some 22) (v := ?_) (a' := ?_) #[true, true, true, true, true, false, false, false, false, false] rfl rfl (any_of HT_.out (by kernel_rfl)) (fun _ _ _ h => h) (Or.inl ⟨by rfl, ?_⟩) ?_ ?_
        rotate_left
        · intro w'
          go_simp
          with_reducible rfl
        rotate_left
        · simp only [Act.put, List.setIfInBounds_toArray, List.set_cons_zero, List.set_cons_succ, i64_w, i32_w]
          rfl
        refine take_ (i := 6) (N := some 24) (v := ?_) (a' := ?_) #[true, true, true, true, true, false, true, false, false, false] rfl rfl (take_ofW HT_.out HW_.out (by kernel_rfl)) (fun _ _ _ h => h) (Or.inl ⟨by rfl, ?_⟩) hHeld ?_ ?_
        rotate_left
        · rintro w' ⟨s0, s1, s2, s3⟩
          go_simp
          with_reducible rfl
        rotate_left
        · simp only [Act.put, List.setIfInBounds_toArray, List.set_cons_zero, List.set_cons_succ, i64_w, i32_w]
          rfl
        refine one_ (i := 5) (N := some 23) #[true, true, true, true, true, true, true, false, false, false] rfl rfl (one_of HT_.out (by kernel_rfl)) (by decide) (fun K hK => ?_)
        refine goes_ Try.func74 (by kernel_rfl) rfl #[.slice Ao21 t135.length co21] (by rfl) rfl rfl (by (try simp only [List.map_toArray, List.map_cons, List.map_nil]); first | done | rfl | (simp only [List.length_drop, List.length_take]; rfl)) ?_
        with_reducible refine (impl_DecodeValue.calls _ _ t135 t139 t140 t141 t142 _ ?side1 ?side2 A8.out).mono ?_
        (case side1 => repeat (first | exact (Kd.R_reads' HO137.out).2.2 | (with_reducible refine Kd.C_alloc ?_ _) | (with_reducible refine Kd.C_drewN ?_ _) | (with_reducible refine Kd.C_drew ?_)))
        (case side2 => exact (Kd.R_reads' HO137.out).2.1)
        rintro e w22 ⟨v143, rfl, ho0, hb⟩
        refine ⟨_, rfl, ?_⟩
        have n0_ := Aside0.mk (Kd.V_elder' (by (with_reducible repeat (first | apply Kd.V_alloc | apply Kd.V_drewN | apply Kd.V_drew)); exact HO0_3.out) (Kd.R_base ho0) hb)
        have n1_ := Aside0.mk (Kd.N_elder' (by (with_reducible repeat (first | apply Kd.N_alloc | apply Kd.N_drewN | apply Kd.N_drew)); exact HO133.out) (Kd.R_base ho0) hb)
        have n2_ := Aside0.mk (Kd.R_elder' (by (with_reducible repeat (first | apply Kd.R_alloc | apply Kd.R_drewN | apply Kd.R_drew)); exact HO137.out) (Kd.R_base ho0) hb)
        have n3_ := Aside0.mk (Kd.R_lower (Kd.R_new' (Kd.R_newM (M := fun k_ => (w.heap.size ≤ k_)) ho0 (below_size (by repeat (first | (with_reducible first | exact HB.out | apply below_alloc | apply pw_below_drewN | apply below_drew1 | refine below_set ?_ GE129.out) | exact HB.out))) (fun k_ h_ => h_)) (Kd.R_lt (by (with_reducible repeat (first | apply Kd.R_alloc | apply Kd.R_drewN | apply Kd.R_drew)); exact HO137.out))) (below_size (by repeat (first | (with_reducible first | exact HB.out | apply below_alloc | apply pw_below_drewN | apply below_drew1 | refine below_set ?_ GE129.out) | exact HB.out))))
        have n4_ := Aside0.mk (blk_below (g := gb129) (o := .cells #[.int .u8 a0_0, .int .u8 a0_1, .int .u64 a0_2, .slice A0_3 l0_3.length c0_3] 69 (0, 0)) (by (with_reducible repeat (first | refine blk_drewN ?_ _ | refine blk_drew ?_ | refine blk_alloc ?_ _)); exact BK129.out) hb)
        have n5_ := Aside0.mk (below_step (by repeat (first | (with_reducible first | exact HB.out | apply below_alloc | apply pw_below_drewN | apply below_drew1 | refine below_set ?_ GE129.out) | exact HB.out)) hb)
        clear HO0_3
        clear HO133
        clear HO137
        clear BK129
        clear HB
        have HO0_3 := n0_
        have HO133 := n1_
        have HO137 := n2_
        have HO144 := n3_
        have BK129 := n4_
        have HB := n5_
        clear n0_ n1_ n2_ n3_ n4_ n5_
        (try clear hb)
        (try clear hb2)
        (try clear hk)
        (try clear hi)
        (try clear ho0)
        obtain ⟨Ao23, co23, eo23⟩ := Kd.R_slice HO144.out
        (first | subst eo23 | (injection eo23 with f1_ f2_ f3_; have f4_ := f1_.symm; have f5_ := f3_.symm; clear f1_ f2_ f3_; subst f4_; subst f5_))
        refine hK.out _ _ ⟨(blk_cell BK129.out 0).trans rfl, (blk_cell BK129.out 1).trans rfl, (blk_cell BK129.out 2).trans rfl, (blk_cell BK129.out 3).trans rfl⟩ (fun hHeld => ?_)
        clear hK K
        refine norm_ (a' := ?_) ?_ ?_
        rotate_left
        · show Act.put _ (some 23) _ = _
          simp only [Act.put, List.setIfInBounds_toArray, List.set_cons_zero, List.set_cons_succ, i64_w, i32_w]
          rfl
        refine one_ (i := 7) (N := some 25) #[true, true, true, true, true, true, true, true, false, false] rfl rfl (one_of HT_.out (by kernel_rfl)) (by decide) (fun K hK => ?_)
        refine goes_ Try.func73 (by kernel_rfl) rfl #[.agg #[.int .u8 t139, .int .u8 t140, .int .u64 t141, .slice Ao23 t142.length co23], .agg #[.int .u8 a0_0, .int .u8 a0_1, .int .u64 a0_2, .slice A0_3 l0_3.length c0_3]] (by rfl) rfl rfl (by (try simp only [List.map_toArray, List.map_cons, List.map_nil]); first | done | rfl | (simp only [List.length_drop, List.length_take]; rfl)) ?_
        with_reducible refine (spec_SameValue.calls t139 t140 t141 _ _ t142 a0_0 a0_1 a0_2 _ _ l0_3 t145 _ ?side1 ?side2 ?side3 ?side4 A9.out).mono ?_
        (case side1 => repeat (first | exact (Kd.R_reads' HO144.out).2.2 | (with_reducible refine Kd.C_alloc ?_ _) | (with_reducible refine Kd.C_drewN ?_ _) | (with_reducible refine Kd.C_drew ?_)))
        (case side2 => exact (Kd.R_reads' HO144.out).2.1)
        (case side3 => repeat (first | exact (Kd.V_reads' HO0_3.out).2.2 | (with_reducible refine Kd.C_alloc ?_ _) | (with_reducible refine Kd.C_drewN ?_ _) | (with_reducible refine Kd.C_drew ?_)))
        (case side4 => exact (Kd.V_reads' HO0_3.out).2.1)
        rintro e w24 ⟨rfl, hb⟩
        refine ⟨_, rfl, ?_⟩
        have n0_ := Aside0.mk (Kd.V_below (by (with_reducible repeat (first | apply Kd.V_alloc | apply Kd.V_drewN | apply Kd.V_drew)); exact HO0_3.out) hb)
        have n1_ := Aside0.mk (Kd.N_below (by (with_reducible repeat (first | apply Kd.N_alloc | apply Kd.N_drewN | apply Kd.N_drew)); exact HO133.out) hb)
        have n2_ := Aside0.mk (Kd.R_below (by (with_reducible repeat (first | apply Kd.R_alloc | apply Kd.R_drewN | apply Kd.R_drew)); exact HO137.out) hb)
        have n3_ := Aside0.mk (Kd.R_below (by (with_reducible repeat (first | apply Kd.R_alloc | apply Kd.R_drewN | apply Kd.R_drew)); exact HO144.out) hb)
        have n4_ := Aside0.mk (blk_below (g := gb129) (o := .cells #[.int .u8 a0_0, .int .u8 a0_1, .int .u64 a0_2, .slice A0_3 l0_3.length c0_3] 69 (0, 0)) (by (with_reducible repeat (first | refine blk_drewN ?_ _ | refine blk_drew ?_ | refine blk_alloc ?_ _)); exact BK129.out) hb)
        have n5_ := Aside0.mk (below_step (by repeat (first | (with_reducible first | exact HB.out | apply below_alloc | apply pw_below_drewN | apply below_drew1 | refine below_set ?_ GE129.out) | exact HB.out)) hb)
        clear HO0_3
        clear HO133
        clear HO137
        clear HO144
        clear BK129
        clear HB
        have HO0_3 := n0_
        have HO133 := n1_
        have HO137 := n2_
        have HO144 := n3_
        have BK129 := n4_
        have HB := n5_
        clear n0_ n1_ n2_ n3_ n4_ n5_
        (try clear hb)
        (try clear hb2)
        (try clear hk)
        (try clear hi)
        refine hK.out _ _ ⟨(blk_cell BK129.out 0).trans rfl, (blk_cell BK129.out 1).trans rfl, (blk_cell BK129.out 2).trans rfl, (blk_cell BK129.out 3).trans rfl⟩ (fun hHeld => ?_)
        clear hK K
        refine norm_ (a' := ?_) ?_ ?_
        rotate_left
        · show Act.put _ (some 25) _ = _
          simp only [Act.put, List.setIfInBounds_toArray, List.set_cons_zero, List.set_cons_succ, i64_w, i32_w]
          rfl
        refine pure_ (i := 8) (N := some 26) (v := ?_) (a' := ?_) #[true, true, true, true, true, true, true, true, true, false] rfl rfl (any_of HT_.out (by kernel_rfl)) (fun _ _ _ h => h) (Or.inl ⟨by rfl, ?_⟩) ?_ ?_
        rotate_left
        · intro w'
          go_simp
          with_reducible rfl
        rotate_left
        · simp only [Act.put, List.setIfInBounds_toArray, List.set_cons_zero, List.set_cons_succ, i64_w, i32_w]
          rfl
        refine pure_ (i := 9) (N := some 2) (v := ?_) (a' := ?_) #[true, true, true, true, true, true, true, true, true, true] rfl rfl (any_of HT_.out (by kernel_rfl)) (fun _ _ _ h => h) (Or.inl ⟨by rfl, ?_⟩) ?_ ?_
        rotate_left
        · intro w'
          go_simp
          with_reducible rfl
        rotate_left
        · simp only [Act.put, List.setIfInBounds_toArray, List.set_cons_zero, List.set_cons_succ, i64_w, i32_w]
          rfl
        refine done_ (done_of HT_.out (by kernel_rfl)) ?_
        try go_wp2
        go_ret
        exact ⟨by first | rfl | (simp [errW_none, errW_some] <;> rfl) | (simp [*, errW_none, errW_some] <;> rfl), by repeat (first | (with_reducible first | exact HB.out | apply below_alloc | apply pw_below_drewN | apply below_drew1 | refine below_set ?_ GE129.out) | exact HB.out)⟩
      · rw [if_neg c7] at H
        have c7b0 : decide (2 < (t135.length : Int)) = false := decide_eq_false c7
        have c7b1 : decide (2 < t135.length) = false := decide_eq_false (by omega)
        clear c7
        obtain rfl := Option.some.inj H
        go_enter Try.func22, Try.ntmps22
        try go_wp2_with (first | ((with_reducible refine gate_dst (N := 1) rfl ?_); refine box_event ?hg (N := 1) ?hd (cs := #[.int .u8 a0_0, .int .u8 a0_1, .int .u64 a0_2, .slice A0_3 l0_3.length c0_3]) (t := 69) ?hr ?_; (case hd => rfl); (case hg => rfl); (case hr => first | (go_simp; done) | (go_simp; rfl)); intro gb129 hg w25 hbox hb; have n0_ := Aside0.mk (Kd.V_below (Kd.V_elderB (by (with_reducible repeat (first | apply Kd.V_alloc | apply Kd.V_drewN | apply Kd.V_drew)); exact HO0_3.out) gb129 (Nat.le_of_eq hg.symm)) hb); have n1_ := Aside0.mk (below_step (by repeat (first | (with_reducible first | exact HB.out | apply below_alloc | apply pw_below_drewN | apply below_drew1) | exact HB.out)) hb); have n2_ := Aside0.mk (hbox); have n3_ := Aside0.mk ((by rw [hg]; exact (below_size (by repeat (first | (with_reducible first | exact HB.out | apply below_alloc | apply pw_below_drewN | apply below_drew1) | exact HB.out))) : w.heap.size ≤ gb129)); have n4_ := Aside0.mk ((by rw [hg]; exact (below_size (by repeat (first | (with_reducible first | exact HB.out | apply below_alloc | apply pw_below_drewN | apply below_drew1) | exact HB.out))) : w.heap.size ≤ gb129)); clear HO0_3; clear HB; have HO0_3 := n0_; have HB := n1_; have BK129 := n2_; have GW129 := n3_; have GE129 := n4_; clear n0_ n1_ n2_ n3_ n4_; clear hb hbox hg; have hcz26_0 : w25.cell? ⟨gb129, 0, none⟩ = some (.int .u8 a0_0) := (blk_cell BK129.out 0).trans rfl; have hcz26_1 : w25.cell? ⟨gb129, 1, none⟩ = some (.int .u8 a0_1) := (blk_cell BK129.out 1).trans rfl; have hcz26_2 : w25.cell? ⟨gb129, 2, none⟩ = some (.int .u64 a0_2) := (blk_cell BK129.out 2).trans rfl; have hcz26_3 : w25.cell? ⟨gb129, 3, none⟩ = some (.slice A0_3 l0_3.length c0_3) := (blk_cell BK129.out 3).trans rfl; have hfz26_0 := blk_frozen BK129.out 0; have hfz26_1 := blk_frozen BK129.out 1; have hfz26_2 := blk_frozen BK129.out 2; have hfz26_3 := blk_frozen BK129.out 3) | ((with_reducible refine gate_callee (f := 56) rfl ?_); refine goesL_ (some 6) rfl rfl Try.func56 (by kernel_rfl) rfl #[.agg #[.int .u8 a0_0, .int .u8 a0_1, .int .u64 a0_2, .slice A0_3 l0_3.length c0_3]] rfl (by (try simp only [List.map_toArray, List.map_cons, List.map_nil]); first | done | rfl | (simp only [List.length_drop, List.length_take]; rfl)) ?_; (with_reducible refine (laws_zzFits4.calls a0_0 a0_1 a0_2 _ _ l0_3 true _ ?side1 ?side2 A2.out).mono ?_); (case side1 => repeat (first | exact (Kd.V_reads' HO0_3.out).2.2 | (with_reducible refine Kd.C_alloc ?_ _) | (with_reducible refine Kd.C_drewN ?_ _) | (with_reducible refine Kd.C_drew ?_))); (case side2 => exact (Kd.V_reads' HO0_3.out).2.1); rintro e w27 ⟨rfl, hb⟩; refine ⟨_, rfl, ?_⟩; have n0_ := Aside0.mk (Kd.V_below (by (with_reducible repeat (first | apply Kd.V_alloc | apply Kd.V_drewN | apply Kd.V_drew)); exact HO0_3.out) hb); have n1_ := Aside0.mk (blk_below (g := gb129) (o := .cells #[.int .u8 a0_0, .int .u8 a0_1, .int .u64 a0_2, .slice A0_3 l0_3.length c0_3] 69 (0, 0)) (by (with_reducible repeat (first | refine blk_drewN ?_ _ | refine blk_drew ?_ | refine blk_alloc ?_ _)); exact BK129.out) hb); have n2_ := Aside0.mk (below_step (by repeat (first | (with_reducible first | exact HB.out | apply below_alloc | apply pw_below_drewN | apply below_drew1 | refine below_set ?_ GE129.out) | exact HB.out)) hb); clear HO0_3; clear BK129; clear HB; have HO0_3 := n0_; have BK129 := n1_; have HB := n2_; clear n0_ n1_ n2_; (try clear hb); (try clear hb2); (try clear hk); (try clear hi); have hcz28_0 : w27.cell? ⟨gb129, 0, none⟩ = some (.int .u8 a0_0) := (blk_cell BK129.out 0).trans rfl; have hcz28_1 : w27.cell? ⟨gb129, 1, none⟩ = some (.int .u8 a0_1) := (blk_cell BK129.out 1).trans rfl; have hcz28_2 : w27.cell? ⟨gb129, 2, none⟩ = some (.int .u64 a0_2) := (blk_cell BK129.out 2).trans rfl; have hcz28_3 : w27.cell? ⟨gb129, 3, none⟩ = some (.slice A0_3 l0_3.length c0_3) := (blk_cell BK129.out 3).trans rfl; have hfz28_0 := blk_frozen BK129.out 0; have hfz28_1 := blk_frozen BK129.out 1; have hfz28_2 := blk_frozen BK129.out 2; have hfz28_3 := blk_frozen BK129.out 3) | ((with_reducible refine gate_dst (N := 10) rfl ?_); refine Kd.N_lit (Kd.slice 5 (Kd.int .u8)) _ 26 ?hg (N' := 10) ?hd (xs := ([l0_3] : List (List Int))) (inner := [.slice A0_3 l0_3.length c0_3]) (ok := (fun k_ => (P0_3_ k_ ∨ w.heap.size ≤ k_) ∧ k_ ≠ gb129)) (okp := (fun k_ => (P0_3_ k_ ∨ w.heap.size ≤ k_) ∧ k_ ≠ gb129)) ?hr ?hp (fun _ hk => hk) ((show ∀ k_, w27.heap.size ≤ k_ → (fun k_ => (P0_3_ k_ ∨ w.heap.size ≤ k_) ∧ k_ ≠ gb129) k_ from fun k_ hk => ⟨(.inr (Nat.le_trans (below_size (by repeat (first | (with_reducible first | exact HB.out | apply below_alloc | apply pw_below_drewN | apply below_drew1 | refine below_set ?_ GE129.out) | exact HB.out))) hk)), Kd.freshB (g := gb129) (o := .cells #[.int .u8 a0_0, .int .u8 a0_1, .int .u64 a0_2, .slice A0_3 l0_3.length c0_3] 69 (0, 0)) (by (with_reducible repeat (first | refine blk_drewN ?_ _ | refine blk_drew ?_ | refine blk_alloc ?_ _)); exact BK129.out) k_ hk⟩) _ (Nat.le_refl _)) (Below.refl _ _) (Nat.le_refl _) (by simp) ?_; (case hd => rfl); (case hg => rfl); (case hr => first | (go_simp; done) | (go_simp; rfl)); (case hp => exact (Reps.one (show Kd.FK (Kd.slice 5 (Kd.int .u8)) _ _ l0_3 [.slice A0_3 l0_3.length c0_3] from (Kd.FK_slice_mk (Kd.V_reads' (Kd.V_mono (ok' := (fun k_ => (P0_3_ k_ ∨ w.heap.size ≤ k_) ∧ k_ ≠ gb129)) (HO0_3.out) (fun k_ hk => ⟨hk.1, hk.2⟩))).2.1 (Kd.V_F (Kd.V_mono (ok' := (fun k_ => (P0_3_ k_ ∨ w.heap.size ≤ k_) ∧ k_ ≠ gb129)) (HO0_3.out) (fun k_ hk => ⟨hk.1, hk.2⟩))))) (Reps.none _ _))); intro v132 w29 ho30 hb hg_ hnew_; clear hg_ hnew_; (first | rw [← Ny131.out] at ho30 | (simp only [Int.reduceToNat] at ho30; rw [← Ny131.out] at ho30)); have n0_ := Aside0.mk (Kd.V_elder' (by (with_reducible repeat (first | apply Kd.V_alloc | apply Kd.V_drewN | apply Kd.V_drew)); exact HO0_3.out) (Kd.N_base ho30) hb); have n1_ := Aside0.mk (Kd.N_lower ho30 (below_size (by repeat (first | (with_reducible first | exact HB.out | apply below_alloc | apply pw_below_drewN | apply below_drew1 | refine below_set ?_ GE129.out) | exact HB.out)))); have n2_ := Aside0.mk (blk_below (g := gb129) (o := .cells #[.int .u8 a0_0, .int .u8 a0_1, .int .u64 a0_2, .slice A0_3 l0_3.length c0_3] 69 (0, 0)) (by (with_reducible repeat (first | refine blk_drewN ?_ _ | refine blk_drew ?_ | refine blk_alloc ?_ _)); exact BK129.out) hb); have n3_ := Aside0.mk (below_step (by repeat (first | (with_reducible first | exact HB.out | apply below_alloc | apply pw_below_drewN | apply below_drew1 | refine below_set ?_ GE129.out) | exact HB.out)) hb); clear HO0_3; clear BK129; clear HB; have HO0_3 := n0_; have HO133 := n1_; have BK129 := n2_; have HB := n3_; clear n0_ n1_ n2_ n3_; clear hb ho30; obtain ⟨Ao31, co31, eo31⟩ := Kd.N_slice HO133.out; subst eo31) | ((with_reducible refine gate_callee (f := 29) rfl ?_); refine goesL_ (some 11) rfl rfl Try.func29 (by kernel_rfl) rfl #[.slice Ao31 y131.length co31] rfl (by (try simp only [List.map_toArray, List.map_cons, List.map_nil]); first | done | rfl | (simp only [List.length_drop, List.length_take]; rfl)) ?_; (with_reducible refine (laws_few.calls _ _ y131 true _ ?side1 ?side2 A4.out).mono ?_); (case side1 => repeat (first | exact (Kd.N_reads' HO133.out).2.2 | (with_reducible refine Kd.C_alloc ?_ _) | (with_reducible refine Kd.C_drewN ?_ _) | (with_reducible refine Kd.C_drew ?_))); (case side2 => exact (Kd.N_reads' HO133.out).2.1); rintro e w32 ⟨rfl, hb⟩; refine ⟨_, rfl, ?_⟩; have n0_ := Aside0.mk (Kd.V_below (by (with_reducible repeat (first | apply Kd.V_alloc | apply Kd.V_drewN | apply Kd.V_drew)); exact HO0_3.out) hb); have n1_ := Aside0.mk (Kd.N_below (by (with_reducible repeat (first | apply Kd.N_alloc | apply Kd.N_drewN | apply Kd.N_drew)); exact HO133.out) hb); have n2_ := Aside0.mk (blk_below (g := gb129) (o := .cells #[.int .u8 a0_0, .int .u8 a0_1, .int .u64 a0_2, .slice A0_3 l0_3.length c0_3] 69 (0, 0)) (by (with_reducible repeat (first | refine blk_drewN ?_ _ | refine blk_drew ?_ | refine blk_alloc ?_ _)); exact BK129.out) hb); have n3_ := Aside0.mk (below_step (by repeat (first | (with_reducible first | exact HB.out | apply below_alloc | apply pw_below_drewN | apply below_drew1 | refine below_set ?_ GE129.out) | exact HB.out)) hb); clear HO0_3; clear HO133; clear BK129; clear HB; have HO0_3 := n0_; have HO133 := n1_; have BK129 := n2_; have HB := n3_; clear n0_ n1_ n2_ n3_; (try clear hb); (try clear hb2); (try clear hk); (try clear hi); have hcz33_0 : w32.cell? ⟨gb129, 0, none⟩ = some (.int .u8 a0_0) := (blk_cell BK129.out 0).trans rfl; have hcz33_1 : w32.cell? ⟨gb129, 1, none⟩ = some (.int .u8 a0_1) := (blk_cell BK129.out 1).trans rfl; have hcz33_2 : w32.cell? ⟨gb129, 2, none⟩ = some (.int .u64 a0_2) := (blk_cell BK129.out 2).trans rfl; have hcz33_3 : w32.cell? ⟨gb129, 3, none⟩ = some (.slice A0_3 l0_3.length c0_3) := (blk_cell BK129.out 3).trans rfl; have hfz33_0 := blk_frozen BK129.out 0; have hfz33_1 := blk_frozen BK129.out 1; have hfz33_2 := blk_frozen BK129.out 2; have hfz33_3 := blk_frozen BK129.out 3) | ((with_reducible refine gate_callee (f := 57) rfl ?_); refine goesL_ (some 15) rfl rfl Try.func57 (by kernel_rfl) rfl #[.agg #[.int .u8 a0_0, .int .u8 a0_1, .int .u64 a0_2, .slice A0_3 l0_3.length c0_3]] rfl (by (try simp only [List.map_toArray, List.map_cons, List.map_nil]); first | done | rfl | (simp only [List.length_drop, List.length_take]; rfl)) ?_; (with_reducible refine (impl_EncodeValue.calls a0_0 a0_1 a0_2 _ _ l0_3 t135 t138 _ ?side1 ?side2 A6.out).mono ?_); (case side1 => repeat (first | exact (Kd.V_reads' HO0_3.out).2.2 | (with_reducible refine Kd.C_alloc ?_ _) | (with_reducible refine Kd.C_drewN ?_ _) | (with_reducible refine Kd.C_drew ?_))); (case side2 => exact (Kd.V_reads' HO0_3.out).2.1); rintro e w34 ⟨v136, rfl, ho0, hb⟩; refine ⟨_, rfl, ?_⟩; have n0_ := Aside0.mk (Kd.V_elder' (by (with_reducible repeat (first | apply Kd.V_alloc | apply Kd.V_drewN | apply Kd.V_drew)); exact HO0_3.out) (Kd.R_base ho0) hb); have n1_ := Aside0.mk (Kd.N_elder' (by (with_reducible repeat (first | apply Kd.N_alloc | apply Kd.N_drewN | apply Kd.N_drew)); exact HO133.out) (Kd.R_base ho0) hb); have n2_ := Aside0.mk (Kd.R_lower (Kd.R_newM (M := fun k_ => (w.heap.size ≤ k_)) ho0 (below_size (by repeat (first | (with_reducible first | exact HB.out | apply below_alloc | apply pw_below_drewN | apply below_drew1 | refine below_set ?_ GE129.out) | exact HB.out))) (fun k_ h_ => h_)) (below_size (by repeat (first | (with_reducible first | exact HB.out | apply below_alloc | apply pw_below_drewN | apply below_drew1 | refine below_set ?_ GE129.out) | exact HB.out)))); have n3_ := Aside0.mk (blk_below (g := gb129) (o := .cells #[.int .u8 a0_0, .int .u8 a0_1, .int .u64 a0_2, .slice A0_3 l0_3.length c0_3] 69 (0, 0)) (by (with_reducible repeat (first | refine blk_drewN ?_ _ | refine blk_drew ?_ | refine blk_alloc ?_ _)); exact BK129.out) hb); have n4_ := Aside0.mk (below_step (by repeat (first | (with_reducible first | exact HB.out | apply below_alloc | apply pw_below_drewN | apply below_drew1 | refine below_set ?_ GE129.out) | exact HB.out)) hb); clear HO0_3; clear HO133; clear BK129; clear HB; have HO0_3 := n0_; have HO133 := n1_; have HO137 := n2_; have BK129 := n3_; have HB := n4_; clear n0_ n1_ n2_ n3_ n4_; (try clear hb); (try clear hb2); (try clear hk); (try clear hi); (try clear ho0)))
        have n0_ := Aside0.mk (Kd.V_drew HO0_3.out)
        have n1_ := Aside0.mk (Kd.N_drew HO133.out)
        have n2_ := Aside0.mk (Kd.R_drew HO137.out)
        have n3_ := Aside0.mk (blk_drew BK129.out)
        have n4_ := Aside0.mk (below_drew1 HB.out)
        clear HO0_3
        clear HO133
        clear HO137
        clear BK129
        clear HB
        have HO0_3 := n0_
        have HO133 := n1_
        have HO137 := n2_
        have BK129 := n3_
        have HB := n4_
        clear n0_ n1_ n2_ n3_ n4_
        obtain ⟨Ao36, co36, eo36⟩ := Kd.R_slice HO137.out
        (first | subst eo36 | (injection eo36 with f1_ f2_ f3_; have f4_ := f1_.symm; have f5_ := f3_.symm; clear f1_ f2_ f3_; subst f4_; subst f5_))
        refine start_ (n := 10) (S := fun w' => True) (ds := []) #[false, false, false, false, false, false, false, false, false, false] (by kernel_rfl) rfl rfl trivial (fun hHeld => ?_); refine with_tabW laws_FnValueBack.tab6 laws_FnValueBack.bits6 (fun HT_ HW_ => ?_)
        generalize w34.drew = w35 at HO0_3 HO133 HO137 BK129 HB hHeld ⊢
        refine pure_ (i := 0) (N := some 18) (v := ?_) (a' := ?_) #[true, false, false, false, false, false, false, false, false, false] rfl rfl (any_of HT_.out (by kernel_rfl)) (fun _ _ _ h => h) (Or.inl ⟨by rfl, ?_⟩) ?_ ?_
        rotate_left
        · intro w'
          go_simp
          with_reducible rfl
        rotate_left
        · simp only [Act.put, List.setIfInBounds_toArray, List.set_cons_zero, List.set_cons_succ, i64_w, i32_w]
          rfl
        refine pure_ (i := 1) (N := some 19) (v := ?_) (a' := ?_) #[true, true, false, false, false, false, false, false, false, false] rfl rfl (any_of HT_.out (by kernel_rfl)) (fun _ _ _ h => h) (Or.inl ⟨by rfl, ?_⟩) ?_ ?_
        rotate_left
        · intro w'
          go_simp
          with_reducible rfl
        rotate_left
        · simp only [Act.put, List.setIfInBounds_toArray, List.set_cons_zero, List.set_cons_succ, i64_w, i32_w]
          rfl
        refine pure_ (i := 2) (N := some 20) (v := ?_) (a' := ?_) #[true, true, true, false, false, false, false, false, false, false] rfl rfl (any_of HT_.out (by kernel_rfl)) (fun _ _ _ h => h) (Or.inl ⟨by rfl, ?_⟩) ?_ ?_
        rotate_left
        · intro w'
          go_simp
          with_reducible rfl
        rotate_left
        · simp only [Act.put, List.setIfInBounds_toArray, List.set_cons_zero, List.set_cons_succ, i64_w, i32_w]
          rfl
        refine pure_ (i := 3) (N := some 21) (v := ?_) (a' := ?_) #[true, true, true, true, false, false, false, false, false, false] rfl rfl (any_of HT_.out (by kernel_rfl)) (fun _ _ _ h => h) (Or.inl ⟨by rfl, ?_⟩) ?_ ?_
        rotate_left
        · intro w'
          go_simp
          with_reducible rfl
        rotate_left
        · simp only [Act.put, List.setIfInBounds_toArray, List.set_cons_zero, List.set_cons_succ, i64_w, i32_w]
          rfl
        refine pure_ (i := 4) (N := some 22) (v := undef) (a' := ?_) #[true, true, true, true, true, false, false, false, false, false] rfl rfl (any_of HT_.out (by kernel_rfl)) (fun _ _ _ h => h) (Or.inr ⟨by rfl, rfl⟩) ?_ ?_
        rotate_left
        · simp only [Act.put, List.setIfInBounds_toArray, List.set_cons_zero, List.set_cons_succ, i64_w, i32_w]
          rfl
        refine pure_ (i := 5) (N := some 23) (v := undef) (a' := ?_) #[true, true, true, true, true, true, false, false, false, false] rfl rfl (any_of HT_.out (by kernel_rfl)) (fun _ _ _ h => h) (Or.inr ⟨by rfl, rfl⟩) ?_ ?_
        rotate_left
        · simp only [Act.put, List.setIfInBounds_toArray, List.set_cons_zero, List.set_cons_succ, i64_w, i32_w]
          rfl
        refine pure_ (i := 6) (N := some 24) (v := undef) (a' := ?_) #[true, true, true, true, true, true, true, false, false, false] rfl rfl (any_of HT_.out (by kernel_rfl)) (fun _ _ _ h => h) (Or.inr ⟨by rfl, rfl⟩) ?_ ?_
        rotate_left
        · simp only [Act.put, List.setIfInBounds_toArray, List.set_cons_zero, List.set_cons_succ, i64_w, i32_w]
          rfl
        refine pure_ (i := 7) (N := some 25) (v := undef) (a' := ?_) #[true, true, true, true, true, true, true, true, false, false] rfl rfl (any_of HT_.out (by kernel_rfl)) (fun _ _ _ h => h) (Or.inr ⟨by rfl, rfl⟩) ?_ ?_
        rotate_left
        · simp only [Act.put, List.setIfInBounds_toArray, List.set_cons_zero, List.set_cons_succ, i64_w, i32_w]
          rfl
        refine pure_ (i := 8) (N := some 26) (v := ?_) (a' := ?_) #[true, true, true, true, true, true, true, true, true, false] rfl rfl (any_of HT_.out (by kernel_rfl)) (fun _ _ _ h => h) (Or.inl ⟨by rfl, ?_⟩) ?_ ?_
        rotate_left
        · intro w'
          go_simp
          with_reducible rfl
        rotate_left
        · simp only [Act.put, List.setIfInBounds_toArray, List.set_cons_zero, List.set_cons_succ, i64_w, i32_w]
          rfl
        refine pure_ (i := 9) (N := some 2) (v := ?_) (a' := ?_) #[true, true, true, true, true, true, true, true, true, true] rfl rfl (any_of HT_.out (by kernel_rfl)) (fun _ _ _ h => h) (Or.inl ⟨by rfl, ?_⟩) ?_ ?_
        rotate_left
        · intro w'
          go_simp
          with_reducible rfl
        rotate_left
        · simp only [Act.put, List.setIfInBounds_toArray, List.set_cons_zero, List.set_cons_succ, i64_w, i32_w]
          rfl
        refine done_ (done_of HT_.out (by kernel_rfl)) ?_
        try go_wp2
        go_ret
        exact ⟨by first | rfl | (simp [errW_none, errW_some] <;> rfl) | (simp [*, errW_none, errW_some] <;> rfl), by repeat (first | (with_reducible first | exact HB.out | apply below_alloc | apply pw_below_drewN | apply below_drew1 | refine below_set ?_ GE129.out) | exact HB.out)⟩
    · replace c5 := Bool.eq_false_iff.mpr c5
      subst c5
      have H1 : (some true) = some r := by rw [if_neg (show ¬ (false = true) by decide)] at H; exact H
      clear H
      have H := H1
      clear H1
      obtain rfl := Option.some.inj H
      go_enter Try.func22, Try.ntmps22
      go_wp2_with (first | ((with_reducible refine gate_dst (N := 1) rfl ?_); refine box_event ?hg (N := 1) ?hd (cs := #[.int .u8 a0_0, .int .u8 a0_1, .int .u64 a0_2, .slice A0_3 l0_3.length c0_3]) (t := 69) ?hr ?_; (case hd => rfl); (case hg => rfl); (case hr => first | (go_simp; done) | (go_simp; rfl)); intro gb129 hg w37 hbox hb; have n0_ := Aside0.mk (Kd.V_below (Kd.V_elderB (by (with_reducible repeat (first | apply Kd.V_alloc | apply Kd.V_drewN | apply Kd.V_drew)); exact HO0_3.out) gb129 (Nat.le_of_eq hg.symm)) hb); have n1_ := Aside0.mk (below_step (by repeat (first | (with_reducible first | exact HB.out | apply below_alloc | apply pw_below_drewN | apply below_drew1) | exact HB.out)) hb); have n2_ := Aside0.mk (hbox); have n3_ := Aside0.mk ((by rw [hg]; exact (below_size (by repeat (first | (with_reducible first | exact HB.out | apply below_alloc | apply pw_below_drewN | apply below_drew1) | exact HB.out))) : w.heap.size ≤ gb129)); have n4_ := Aside0.mk ((by rw [hg]; exact (below_size (by repeat (first | (with_reducible first | exact HB.out | apply below_alloc | apply pw_below_drewN | apply below_drew1) | exact HB.out))) : w.heap.size ≤ gb129)); clear HO0_3; clear HB; have HO0_3 := n0_; have HB := n1_; have BK129 := n2_; have GW129 := n3_; have GE129 := n4_; clear n0_ n1_ n2_ n3_ n4_; clear hb hbox hg; have hcz38_0 : w37.cell? ⟨gb129, 0, none⟩ = some (.int .u8 a0_0) := (blk_cell BK129.out 0).trans rfl; have hcz38_1 : w37.cell? ⟨gb129, 1, none⟩ = some (.int .u8 a0_1) := (blk_cell BK129.out 1).trans rfl; have hcz38_2 : w37.cell? ⟨gb129, 2, none⟩ = some (.int .u64 a0_2) := (blk_cell BK129.out 2).trans rfl; have hcz38_3 : w37.cell? ⟨gb129, 3, none⟩ = some (.slice A0_3 l0_3.length c0_3) := (blk_cell BK129.out 3).trans rfl; have hfz38_0 := blk_frozen BK129.out 0; have hfz38_1 := blk_frozen BK129.out 1; have hfz38_2 := blk_frozen BK129.out 2; have hfz38_3 := blk_frozen BK129.out 3) | ((with_reducible refine gate_callee (f := 56) rfl ?_); refine goesL_ (some 6) rfl rfl Try.func56 (by kernel_rfl) rfl #[.agg #[.int .u8 a0_0, .int .u8 a0_1, .int .u64 a0_2, .slice A0_3 l0_3.length c0_3]] rfl (by (try simp only [List.map_toArray, List.map_cons, List.map_nil]); first | done | rfl | (simp only [List.length_drop, List.length_take]; rfl)) ?_; (with_reducible refine (laws_zzFits4.calls a0_0 a0_1 a0_2 _ _ l0_3 true _ ?side1 ?side2 A2.out).mono ?_); (case side1 => repeat (first | exact (Kd.V_reads' HO0_3.out).2.2 | (with_reducible refine Kd.C_alloc ?_ _) | (with_reducible refine Kd.C_drewN ?_ _) | (with_reducible refine Kd.C_drew ?_))); (case side2 => exact (Kd.V_reads' HO0_3.out).2.1); rintro e w39 ⟨rfl, hb⟩; refine ⟨_, rfl, ?_⟩; have n0_ := Aside0.mk (Kd.V_below (by (with_reducible repeat (first | apply Kd.V_alloc | apply Kd.V_drewN | apply Kd.V_drew)); exact HO0_3.out) hb); have n1_ := Aside0.mk (blk_below (g := gb129) (o := .cells #[.int .u8 a0_0, .int .u8 a0_1, .int .u64 a0_2, .slice A0_3 l0_3.length c0_3] 69 (0, 0)) (by (with_reducible repeat (first | refine blk_drewN ?_ _ | refine blk_drew ?_ | refine blk_alloc ?_ _)); exact BK129.out) hb); have n2_ := Aside0.mk (below_step (by repeat (first | (with_reducible first | exact HB.out | apply below_alloc | apply pw_below_drewN | apply below_drew1 | refine below_set ?_ GE129.out) | exact HB.out)) hb); clear HO0_3; clear BK129; clear HB; have HO0_3 := n0_; have BK129 := n1_; have HB := n2_; clear n0_ n1_ n2_; (try clear hb); (try clear hb2); (try clear hk); (try clear hi); have hcz40_0 : w39.cell? ⟨gb129, 0, none⟩ = some (.int .u8 a0_0) := (blk_cell BK129.out 0).trans rfl; have hcz40_1 : w39.cell? ⟨gb129, 1, none⟩ = some (.int .u8 a0_1) := (blk_cell BK129.out 1).trans rfl; have hcz40_2 : w39.cell? ⟨gb129, 2, none⟩ = some (.int .u64 a0_2) := (blk_cell BK129.out 2).trans rfl; have hcz40_3 : w39.cell? ⟨gb129, 3, none⟩ = some (.slice A0_3 l0_3.length c0_3) := (blk_cell BK129.out 3).trans rfl; have hfz40_0 := blk_frozen BK129.out 0; have hfz40_1 := blk_frozen BK129.out 1; have hfz40_2 := blk_frozen BK129.out 2; have hfz40_3 := blk_frozen BK129.out 3) | ((with_reducible refine gate_dst (N := 10) rfl ?_); refine Kd.N_lit (Kd.slice 5 (Kd.int .u8)) _ 26 ?hg (N' := 10) ?hd (xs := ([l0_3] : List (List Int))) (inner := [.slice A0_3 l0_3.length c0_3]) (ok := (fun k_ => (P0_3_ k_ ∨ w.heap.size ≤ k_) ∧ k_ ≠ gb129)) (okp := (fun k_ => (P0_3_ k_ ∨ w.heap.size ≤ k_) ∧ k_ ≠ gb129)) ?hr ?hp (fun _ hk => hk) ((show ∀ k_, w39.heap.size ≤ k_ → (fun k_ => (P0_3_ k_ ∨ w.heap.size ≤ k_) ∧ k_ ≠ gb129) k_ from fun k_ hk => ⟨(.inr (Nat.le_trans (below_size (by repeat (first | (with_reducible first | exact HB.out | apply below_alloc | apply pw_below_drewN | apply below_drew1 | refine below_set ?_ GE129.out) | exact HB.out))) hk)), Kd.freshB (g := gb129) (o := .cells #[.int .u8 a0_0, .int .u8 a0_1, .int .u64 a0_2, .slice A0_3 l0_3.length c0_3] 69 (0, 0)) (by (with_reducible repeat (first | refine blk_drewN ?_ _ | refine blk_drew ?_ | refine blk_alloc ?_ _)); exact BK129.out) k_ hk⟩) _ (Nat.le_refl _)) (Below.refl _ _) (Nat.le_refl _) (by simp) ?_; (case hd => rfl); (case hg => rfl); (case hr => first | (go_simp; done) | (go_simp; rfl)); (case hp => exact (Reps.one (show Kd.FK (Kd.slice 5 (Kd.int .u8)) _ _ l0_3 [.slice A0_3 l0_3.length c0_3] from (Kd.FK_slice_mk (Kd.V_reads' (Kd.V_mono (ok' := (fun k_ => (P0_3_ k_ ∨ w.heap.size ≤ k_) ∧ k_ ≠ gb129)) (HO0_3.out) (fun k_ hk => ⟨hk.1, hk.2⟩))).2.1 (Kd.V_F (Kd.V_mono (ok' := (fun k_ => (P0_3_ k_ ∨ w.heap.size ≤ k_) ∧ k_ ≠ gb129)) (HO0_3.out) (fun k_ hk => ⟨hk.1, hk.2⟩))))) (Reps.none _ _))); intro v132 w41 ho42 hb hg_ hnew_; clear hg_ hnew_; (first | rw [← Ny131.out] at ho42 | (simp only [Int.reduceToNat] at ho42; rw [← Ny131.out] at ho42)); have n0_ := Aside0.mk (Kd.V_elder' (by (with_reducible repeat (first | apply Kd.V_alloc | apply Kd.V_drewN | apply Kd.V_drew)); exact HO0_3.out) (Kd.N_base ho42) hb); have n1_ := Aside0.mk (Kd.N_lower ho42 (below_size (by repeat (first | (with_reducible first | exact HB.out | apply below_alloc | apply pw_below_drewN | apply below_drew1 | refine below_set ?_ GE129.out) | exact HB.out)))); have n2_ := Aside0.mk (blk_below (g := gb129) (o := .cells #[.int .u8 a0_0, .int .u8 a0_1, .int .u64 a0_2, .slice A0_3 l0_3.length c0_3] 69 (0, 0)) (by (with_reducible repeat (first | refine blk_drewN ?_ _ | refine blk_drew ?_ | refine blk_alloc ?_ _)); exact BK129.out) hb); have n3_ := Aside0.mk (below_step (by repeat (first | (with_reducible first | exact HB.out | apply below_alloc | apply pw_below_drewN | apply below_drew1 | refine below_set ?_ GE129.out) | exact HB.out)) hb); clear HO0_3; clear BK129; clear HB; have HO0_3 := n0_; have HO133 := n1_; have BK129 := n2_; have HB := n3_; clear n0_ n1_ n2_ n3_; clear hb ho42; obtain ⟨Ao43, co43, eo43⟩ := Kd.N_slice HO133.out; subst eo43) | ((with_reducible refine gate_callee (f := 29) rfl ?_); refine goesL_ (some 11) rfl rfl Try.func29 (by kernel_rfl) rfl #[.slice Ao43 y131.length co43] rfl (by (try simp only [List.map_toArray, List.map_cons, List.map_nil]); first | done | rfl | (simp only [List.length_drop, List.length_take]; rfl)) ?_; (with_reducible refine (laws_few.calls _ _ y131 false _ ?side1 ?side2 A4.out).mono ?_); (case side1 => repeat (first | exact (Kd.N_reads' HO133.out).2.2 | (with_reducible refine Kd.C_alloc ?_ _) | (with_reducible refine Kd.C_drewN ?_ _) | (with_reducible refine Kd.C_drew ?_))); (case side2 => exact (Kd.N_reads' HO133.out).2.1); rintro e w44 ⟨rfl, hb⟩; refine ⟨_, rfl, ?_⟩; have n0_ := Aside0.mk (Kd.V_below (by (with_reducible repeat (first | apply Kd.V_alloc | apply Kd.V_drewN | apply Kd.V_drew)); exact HO0_3.out) hb); have n1_ := Aside0.mk (Kd.N_below (by (with_reducible repeat (first | apply Kd.N_alloc | apply Kd.N_drewN | apply Kd.N_drew)); exact HO133.out) hb); have n2_ := Aside0.mk (blk_below (g := gb129) (o := .cells #[.int .u8 a0_0, .int .u8 a0_1, .int .u64 a0_2, .slice A0_3 l0_3.length c0_3] 69 (0, 0)) (by (with_reducible repeat (first | refine blk_drewN ?_ _ | refine blk_drew ?_ | refine blk_alloc ?_ _)); exact BK129.out) hb); have n3_ := Aside0.mk (below_step (by repeat (first | (with_reducible first | exact HB.out | apply below_alloc | apply pw_below_drewN | apply below_drew1 | refine below_set ?_ GE129.out) | exact HB.out)) hb); clear HO0_3; clear HO133; clear BK129; clear HB; have HO0_3 := n0_; have HO133 := n1_; have BK129 := n2_; have HB := n3_; clear n0_ n1_ n2_ n3_; (try clear hb); (try clear hb2); (try clear hk); (try clear hi)))
      go_ret
      exact ⟨by first | rfl | (simp [errW_none, errW_some] <;> rfl) | (simp [*, errW_none, errW_some] <;> rfl), by repeat (first | (with_reducible first | exact HB.out | apply below_alloc | apply pw_below_drewN | apply below_drew1 | refine below_set ?_ GE129.out) | exact HB.out)⟩
  · replace c3 := Bool.eq_false_iff.mpr c3
    subst c3
    have H1 : (some true) = some r := by rw [if_neg (show ¬ (false = true) by decide)] at H; exact H
    clear H
    have H := H1
    clear H1
    obtain rfl := Option.some.inj H
    go_enter Try.func22, Try.ntmps22
    go_wp2_with (first | ((with_reducible refine gate_dst (N := 1) rfl ?_); refine box_event ?hg (N := 1) ?hd (cs := #[.int .u8 a0_0, .int .u8 a0_1, .int .u64 a0_2, .slice A0_3 l0_3.length c0_3]) (t := 69) ?hr ?_; (case hd => rfl); (case hg => rfl); (case hr => first | (go_simp; done) | (go_simp; rfl)); intro gb129 hg w45 hbox hb; have n0_ := Aside0.mk (Kd.V_below (Kd.V_elderB (by (with_reducible repeat (first | apply Kd.V_alloc | apply Kd.V_drewN | apply Kd.V_drew)); exact HO0_3.out) gb129 (Nat.le_of_eq hg.symm)) hb); have n1_ := Aside0.mk (below_step (by repeat (first | (with_reducible first | exact HB.out | apply below_alloc | apply pw_below_drewN | apply below_drew1) | exact HB.out)) hb); have n2_ := Aside0.mk (hbox); have n3_ := Aside0.mk ((by rw [hg]; exact (below_size (by repeat (first | (with_reducible first | exact HB.out | apply below_alloc | apply pw_below_drewN | apply below_drew1) | exact HB.out))) : w.heap.size ≤ gb129)); have n4_ := Aside0.mk ((by rw [hg]; exact (below_size (by repeat (first | (with_reducible first | exact HB.out | apply below_alloc | apply pw_below_drewN | apply below_drew1) | exact HB.out))) : w.heap.size ≤ gb129)); clear HO0_3; clear HB; have HO0_3 := n0_; have HB := n1_; have BK129 := n2_; have GW129 := n3_; have GE129 := n4_; clear n0_ n1_ n2_ n3_ n4_; clear hb hbox hg; have hcz46_0 : w45.cell? ⟨gb129, 0, none⟩ = some (.int .u8 a0_0) := (blk_cell BK129.out 0).trans rfl; have hcz46_1 : w45.cell? ⟨gb129, 1, none⟩ = some (.int .u8 a0_1) := (blk_cell BK129.out 1).trans rfl; have hcz46_2 : w45.cell? ⟨gb129, 2, none⟩ = some (.int .u64 a0_2) := (blk_cell BK129.out 2).trans rfl; have hcz46_3 : w45.cell? ⟨gb129, 3, none⟩ = some (.slice A0_3 l0_3.length c0_3) := (blk_cell BK129.out 3).trans rfl; have hfz46_0 := blk_frozen BK129.out 0; have hfz46_1 := blk_frozen BK129.out 1; have hfz46_2 := blk_frozen BK129.out 2; have hfz46_3 := blk_frozen BK129.out 3) | ((with_reducible refine gate_callee (f := 56) rfl ?_); refine goesL_ (some 6) rfl rfl Try.func56 (by kernel_rfl) rfl #[.agg #[.int .u8 a0_0, .int .u8 a0_1, .int .u64 a0_2, .slice A0_3 l0_3.length c0_3]] rfl (by (try simp only [List.map_toArray, List.map_cons, List.map_nil]); first | done | rfl | (simp only [List.length_drop, List.length_take]; rfl)) ?_; (with_reducible refine (laws_zzFits4.calls a0_0 a0_1 a0_2 _ _ l0_3 false _ ?side1 ?side2 A2.out).mono ?_); (case side1 => repeat (first | exact (Kd.V_reads' HO0_3.out).2.2 | (with_reducible refine Kd.C_alloc ?_ _) | (with_reducible refine Kd.C_drewN ?_ _) | (with_reducible refine Kd.C_drew ?_))); (case side2 => exact (Kd.V_reads' HO0_3.out).2.1); rintro e w47 ⟨rfl, hb⟩; refine ⟨_, rfl, ?_⟩; have n0_ := Aside0.mk (Kd.V_below (by (with_reducible repeat (first | apply Kd.V_alloc | apply Kd.V_drewN | apply Kd.V_drew)); exact HO0_3.out) hb); have n1_ := Aside0.mk (blk_below (g := gb129) (o := .cells #[.int .u8 a0_0, .int .u8 a0_1, .int .u64 a0_2, .slice A0_3 l0_3.length c0_3] 69 (0, 0)) (by (with_reducible repeat (first | refine blk_drewN ?_ _ | refine blk_drew ?_ | refine blk_alloc ?_ _)); exact BK129.out) hb); have n2_ := Aside0.mk (below_step (by repeat (first | (with_reducible first | exact HB.out | apply below_alloc | apply pw_below_drewN | apply below_drew1 | refine below_set ?_ GE129.out) | exact HB.out)) hb); clear HO0_3; clear BK129; clear HB; have HO0_3 := n0_; have BK129 := n1_; have HB := n2_; clear n0_ n1_ n2_; (try clear hb); (try clear hb2); (try clear hk); (try clear hi)))
    go_ret
    exact ⟨by first | rfl | (simp [errW_none, errW_some] <;> rfl) | (simp [*, errW_none, errW_some] <;> rfl), by repeat (first | (with_reducible first | exact HB.out | apply below_alloc | apply pw_below_drewN | apply below_drew1 | refine below_set ?_ GE129.out) | exact HB.out)⟩

end Go.Proofs.YtadhdimleabljaaQ.QW
