-- Lines that a program has printed for this claim: functions as plain Lean functions, and their walks.
import Derived.Test.YtadhdimleabljaaQB0
import Derived.Test.YtadhdimleabljaaQB1
namespace Go.Proofs.YtadhdimleabljaaQ.QB
open Go.RowKit Go.Proofs.YtadhdimleabljaaQ.Ext Go.Proofs.YtadhdimleabljaaW.PrintWords Go.Proofs.YtadhdimleabljaaW.PrintLast Go.Proofs.YtadhdimleabljaaW.PrintMore
attribute [local go_sem] max2_int min2_int max_two min_two max_three min_three max_four min_four   -- for this text's walks alone
set_option linter.unusedVariables false
set_option linter.unusedSimpArgs false

/-! ### laws_FnFilterHas: function 23 -/
def laws_FnFilterHas.l0 : Nat → List Int → List Int → Int → Int → Option (Bool)
  | 0, _, _, _, _ => none
  | k + 1, x5, x18, x19, x20 => if x20 < x19 then (if 0 ≤ x20 then (if x20 < (x18.length : Int) then ((impl_MayHave.f k x5 (rd x18 x20)).bind fun t112 => (if t112 = true then (laws_FnFilterHas.l0 k x5 x18 x19 (wrap64 (x20 + 1))) else (some false))) else (none)) else (none)) else (some (decide ((x5.length : Int) > 0)))
def laws_FnFilterHas.f (k : Nat) (l0 : List Int) (a1 : Int) : Option (Bool) := if (l0.length : Int) > 2147483647 then (some true) else ((laws_bitsOk.f l0 a1).bind fun t107 => (if t107 = true then ((impl_FilterOf.f l0 a1).bind fun t108 => (laws_FnFilterHas.l0 k t108 l0 (l0.length : Int) 0)) else (some true)))
theorem laws_FnFilterHas.mono_l : ∀ k, (∀ y0 y1 y2 y3, LeO (laws_FnFilterHas.l0 k y0 y1 y2 y3) (laws_FnFilterHas.l0 (k + 1) y0 y1 y2 y3))
  | 0 => fun _ _ _ _ r h => by simp [laws_FnFilterHas.l0] at h
  | k + 1 => by
    have ih0 := laws_FnFilterHas.mono_l k
    · intro y0 y1 y2 y3
      unfold laws_FnFilterHas.l0
      repeat' first
      | (with_reducible exact ih0 _ _ _ _)
      | (with_reducible exact impl_MayHave.mono _ _ _)
      | (with_reducible exact LeO.refl _)
      | (with_reducible exact LeO.none _)
      | (with_reducible refine LeO.ite ?_ ?_)
      | (with_reducible refine LeO.bind ?_ (fun _ => ?_))
      | exact ih0 _ _ _ _
      | exact impl_MayHave.mono _ _ _
      | exact LeO.none _
      | refine LeO.ite ?_ ?_
      | refine LeO.bind ?_ (fun _ => ?_)
theorem laws_FnFilterHas.mono : ∀ a0 a1 k, LeO (laws_FnFilterHas.f k a0 a1) (laws_FnFilterHas.f (k + 1) a0 a1) := by
  intro a0 a1 k
  have ih0 := laws_FnFilterHas.mono_l k
  unfold laws_FnFilterHas.f
  repeat' first
      | (with_reducible exact ih0 _ _ _ _)
      | (with_reducible exact impl_MayHave.mono _ _ _)
      | (with_reducible exact LeO.refl _)
      | (with_reducible exact LeO.none _)
      | (with_reducible refine LeO.ite ?_ ?_)
      | (with_reducible refine LeO.bind ?_ (fun _ => ?_))
      | exact ih0 _ _ _ _
      | exact impl_MayHave.mono _ _ _
      | exact LeO.none _
      | refine LeO.ite ?_ ?_
      | refine LeO.bind ?_ (fun _ => ?_)
set_option maxHeartbeats 8000000 in
set_option maxRecDepth 100000 in
theorem laws_FnFilterHas.calls (k : Nat) (A0 : Option Addr) (c0 : Nat) (l0 : List Int) (a1 : Int) (r : Bool) (w : World) (hr0 : Kd.C (Kd.int .u32) w A0 l0.length l0) (hc0 : l0.length ≤ c0) (h : laws_FnFilterHas.f k l0 a1 = some r) :
    Calls Try.prog 23 #[.slice A0 l0.length c0, .int .i64 a1] w fun e w' => e = .returned (.bool r) ∧ Below w.heap.size w w' := by
  have HR0 := Aside0.mk hr0
  have HC0 := Aside0.mk hc0
  clear hr0 hc0
  have HB := Aside0.mk (Below.refl w.heap.size w)
  have H : (if (l0.length : Int) > 2147483647 then (some true) else ((laws_bitsOk.f l0 a1).bind fun t107 => (if t107 = true then ((impl_FilterOf.f l0 a1).bind fun t108 => (laws_FnFilterHas.l0 k t108 l0 (l0.length : Int) 0)) else (some true)))) = some r := h
  clear h
  by_cases c3 : (l0.length : Int) > 2147483647
  · rw [if_pos c3] at H
    have c3b0 : decide (2147483647 < (l0.length : Int)) = true := decide_eq_true c3
    have c3b1 : decide (2147483647 < l0.length) = true := decide_eq_true (by omega)
    clear c3
    obtain rfl := Option.some.inj H
    go_enter Try.func23, Try.ntmps23
    go_wp2
    go_ret
    exact ⟨by first | rfl | (simp [errW_none, errW_some] <;> rfl) | (simp [*, errW_none, errW_some] <;> rfl), by repeat (first | (with_reducible first | exact HB.out | apply below_alloc | apply pw_below_drewN | apply below_drew1) | exact HB.out)⟩
  · rw [if_neg c3] at H
    have c3b0 : decide (2147483647 < (l0.length : Int)) = false := decide_eq_false c3
    have c3b1 : decide (2147483647 < l0.length) = false := decide_eq_false (by omega)
    clear c3
    replace H := Option.bind_eq_some_iff.mp H
    obtain ⟨t107, A40, H⟩ := H
    replace H : (if t107 = true then ((impl_FilterOf.f l0 a1).bind fun t108 => (laws_FnFilterHas.l0 k t108 l0 (l0.length : Int) 0)) else (some true)) = some r := H
    have A4 := Aside0.mk A40
    clear A40
    by_cases c5 : t107 = true
    · subst c5
      have H1 : ((impl_FilterOf.f l0 a1).bind fun t108 => (laws_FnFilterHas.l0 k t108 l0 (l0.length : Int) 0)) = some r := by rw [if_pos rfl] at H; exact H
      clear H
      have H := H1
      clear H1
      replace H := Option.bind_eq_some_iff.mp H
      obtain ⟨t108, A60, H⟩ := H
      replace H : (laws_FnFilterHas.l0 k t108 l0 (l0.length : Int) 0) = some r := H
      have A6 := Aside0.mk A60
      clear A60
      have H' := Aside0.mk H
      clear H
      go_enter Try.func23, Try.ntmps23
      go_wp2_with (first | ((with_reducible refine gate_callee (f := 75) rfl ?_); refine goesL_ (some 13) rfl rfl Try.func75 (by kernel_rfl) rfl #[.slice A0 l0.length c0, .int .i64 a1] rfl (by (try simp only [List.map_toArray, List.map_cons, List.map_nil]); first | done | rfl | (simp only [List.length_drop, List.length_take]; rfl)) ?_; (with_reducible refine (laws_bitsOk.calls _ _ l0 a1 true _ ?side1 ?side2 A4.out).mono ?_); (case side1 => repeat (first | exact HR0.out | (with_reducible refine Kd.C_alloc ?_ _) | (with_reducible refine Kd.C_drewN ?_ _) | (with_reducible refine Kd.C_drew ?_))); (case side2 => exact HC0.out); rintro e w' ⟨rfl, ⟨nd, rfl⟩⟩; refine ⟨_, rfl, ?_⟩) | ((with_reducible refine gate_callee (f := 76) rfl ?_); refine goesL_ (some 17) rfl rfl Try.func76 (by kernel_rfl) rfl #[.slice A0 l0.length c0, .int .i64 a1] rfl (by (try simp only [List.map_toArray, List.map_cons, List.map_nil]); first | done | rfl | (simp only [List.length_drop, List.length_take]; rfl)) ?_; (with_reducible refine (impl_FilterOf.calls _ _ l0 a1 t108 _ ?side1 ?side2 A6.out).mono ?_); (case side1 => repeat (first | exact HR0.out | (with_reducible refine Kd.C_alloc ?_ _) | (with_reducible refine Kd.C_drewN ?_ _) | (with_reducible refine Kd.C_drew ?_))); (case side2 => exact HC0.out); rintro e w7 ⟨v109, rfl, ho0, hb⟩; refine ⟨_, rfl, ?_⟩; have n0_ := Aside0.mk (Kd.R_lower ho0 (below_size (by repeat (first | (with_reducible first | exact HB.out | apply below_alloc | apply pw_below_drewN | apply below_drew1) | exact HB.out)))); have n1_ := Aside0.mk (below_step (by repeat (first | (with_reducible first | exact HB.out | apply below_alloc | apply pw_below_drewN | apply below_drew1) | exact HB.out)) hb); clear HB; have HO110 := n0_; have HB := n1_; clear n0_ n1_; (try clear hb); (try clear hb2); (try clear hk); (try clear hi); (try clear ho0)))
      go_loopg [20] k (fun kq v20 w' => ∃ (x20_1 : Int), v20 = .int .i64 x20_1 ∧ Aside0 (laws_FnFilterHas.l0 kq t108 l0 (l0.length : Int) x20_1 = some r) ∧ Aside0 (kq ≤ k) ∧ Aside0 (Kd.R (Kd.int .u8) 5 w' w.heap.size (fun _ => True) v109 t108) ∧ Aside0 (Below w.heap.size w w'))
      case atStart => exact ⟨(0), (by first | rfl | (simp; done) | (simp [*]; done)), H', ⟨Nat.le_refl _⟩, ⟨by (with_reducible repeat (first | apply Kd.R_alloc | apply Kd.R_drewN | apply Kd.R_drew)); exact HO110.out⟩, ⟨by repeat (first | (with_reducible first | exact HB.out | apply below_alloc | apply pw_below_drewN | apply below_drew1) | exact HB.out)⟩⟩
      case round =>
        clear H'
        try clear c2
        try clear p2
        try clear c3
        try clear c3b0
        try clear c3b1
        try clear c5
        try clear c7
        obtain ⟨x20_1, rfl, HA, HK1, HO_5, HB⟩ := hrel
        cases gk with
        | zero => exact absurd HA.out (by simp [laws_FnFilterHas.l0])
        | succ k1 =>
          have H := HA.out
          clear HA
          simp only [laws_FnFilterHas.l0] at H
          by_cases c8 : x20_1 < (l0.length : Int)
          · rw [if_pos c8] at H
            have c8b0 : decide (x20_1 < (l0.length : Int)) = true := decide_eq_true c8
            clear c8
            by_cases c9 : 0 ≤ x20_1
            · rw [if_pos c9] at H
              have c9b0 : decide (0 ≤ x20_1) = true := decide_eq_true c9
              clear c9
              by_cases c10 : x20_1 < (l0.length : Int)
              · rw [if_pos c10] at H
                have c10b0 : decide (x20_1 < (l0.length : Int)) = true := decide_eq_true c10
                clear c10
                replace H := Option.bind_eq_some_iff.mp H
                obtain ⟨t112, A110, H⟩ := H
                replace H : (if t112 = true then (laws_FnFilterHas.l0 k1 t108 l0 (l0.length : Int) (wrap64 (x20_1 + 1))) else (some false)) = some r := H
                have A11 := Aside0.mk A110
                clear A110
                by_cases c12 : t112 = true
                · subst c12
                  have H1 : (laws_FnFilterHas.l0 k1 t108 l0 (l0.length : Int) (wrap64 (x20_1 + 1))) = some r := by rw [if_pos rfl] at H; exact H
                  clear H
                  have H := H1
                  clear H1
                  have H' := Aside0.mk H
                  clear H
                  have p111 : 0 ≤ (x20_1 : Int) := of_decide_eq_true (by first | (with_reducible assumption) | assumption)
                  have q111 : x20_1 < (l0.length : Int) := of_decide_eq_true (by first | (with_reducible assumption) | assumption)
                  obtain ⟨ad111, e111, hx111_0⟩ := Kd.at_int HR0.out x20_1 p111 q111
                  cases e111
                  replace hx111_0 := (HB.out.cell (World.block_lt_of_cell? w _ hx111_0)).trans hx111_0
                  replace p111 := eq_true p111
                  replace q111 := eq_true q111
                  obtain ⟨Ao13, co13, eo13⟩ := Kd.R_slice HO_5.out
                  subst eo13
                  go_wp2_with (first | ((with_reducible refine gate_callee (f := 77) rfl ?_); refine goesL_ (some 26) rfl rfl Try.func77 (by kernel_rfl) rfl #[.slice Ao13 t108.length co13, .int .u32 (rd l0 x20_1)] rfl (by (try simp only [List.map_toArray, List.map_cons, List.map_nil]); first | done | rfl | (simp only [List.length_drop, List.length_take]; rfl)) ?_; (with_reducible refine (impl_MayHave.calls k1 _ _ t108 (rd l0 x20_1) true _ ?side1 ?side2 A11.out).mono ?_); (case side1 => repeat (first | exact (Kd.R_reads' HO_5.out).2.2 | (with_reducible refine Kd.C_alloc ?_ _) | (with_reducible refine Kd.C_drewN ?_ _) | (with_reducible refine Kd.C_drew ?_))); (case side2 => exact (Kd.R_reads' HO_5.out).2.1); rintro e w14 ⟨rfl, hb⟩; refine ⟨_, rfl, ?_⟩; have n0_ := Aside0.mk (Kd.R_below (by (with_reducible repeat (first | apply Kd.R_alloc | apply Kd.R_drewN | apply Kd.R_drew)); exact HO_5.out) hb); have n1_ := Aside0.mk (below_step (by repeat (first | (with_reducible first | exact HB.out | apply below_alloc | apply pw_below_drewN | apply below_drew1) | exact HB.out)) hb); clear HO_5; clear HB; have HO_5 := n0_; have HB := n1_; clear n0_ n1_; (try clear hb); (try clear hb2); (try clear hk); (try clear hi)))
                  go_roundg k1
                  case measure => have := HK1.out; omega
                  case rel => exact ⟨(wrap64 (x20_1 + 1)), (by first | rfl | (simp; done) | (simp [*]; done)), H', ⟨by have := HK1.out; omega⟩, ⟨by (with_reducible repeat (first | apply Kd.R_alloc | apply Kd.R_drewN | apply Kd.R_drew)); exact HO_5.out⟩, ⟨by repeat (first | (with_reducible first | exact HB.out | apply below_alloc | apply pw_below_drewN | apply below_drew1) | exact HB.out)⟩⟩
                · replace c12 := Bool.eq_false_iff.mpr c12
                  subst c12
                  have H1 : (some false) = some r := by rw [if_neg (show ¬ (false = true) by decide)] at H; exact H
                  clear H
                  have H := H1
                  clear H1
                  obtain rfl := Option.some.inj H
                  have p111 : 0 ≤ (x20_1 : Int) := of_decide_eq_true (by first | (with_reducible assumption) | assumption)
                  have q111 : x20_1 < (l0.length : Int) := of_decide_eq_true (by first | (with_reducible assumption) | assumption)
                  obtain ⟨ad111, e111, hx111_0⟩ := Kd.at_int HR0.out x20_1 p111 q111
                  cases e111
                  replace hx111_0 := (HB.out.cell (World.block_lt_of_cell? w _ hx111_0)).trans hx111_0
                  replace p111 := eq_true p111
                  replace q111 := eq_true q111
                  obtain ⟨Ao15, co15, eo15⟩ := Kd.R_slice HO_5.out
                  subst eo15
                  go_wp2_with (first | ((with_reducible refine gate_callee (f := 77) rfl ?_); refine goesL_ (some 26) rfl rfl Try.func77 (by kernel_rfl) rfl #[.slice Ao15 t108.length co15, .int .u32 (rd l0 x20_1)] rfl (by (try simp only [List.map_toArray, List.map_cons, List.map_nil]); first | done | rfl | (simp only [List.length_drop, List.length_take]; rfl)) ?_; (with_reducible refine (impl_MayHave.calls k1 _ _ t108 (rd l0 x20_1) false _ ?side1 ?side2 A11.out).mono ?_); (case side1 => repeat (first | exact (Kd.R_reads' HO_5.out).2.2 | (with_reducible refine Kd.C_alloc ?_ _) | (with_reducible refine Kd.C_drewN ?_ _) | (with_reducible refine Kd.C_drew ?_))); (case side2 => exact (Kd.R_reads' HO_5.out).2.1); rintro e w16 ⟨rfl, hb⟩; refine ⟨_, rfl, ?_⟩; have n0_ := Aside0.mk (Kd.R_below (by (with_reducible repeat (first | apply Kd.R_alloc | apply Kd.R_drewN | apply Kd.R_drew)); exact HO_5.out) hb); have n1_ := Aside0.mk (below_step (by repeat (first | (with_reducible first | exact HB.out | apply below_alloc | apply pw_below_drewN | apply below_drew1) | exact HB.out)) hb); clear HO_5; clear HB; have HO_5 := n0_; have HB := n1_; clear n0_ n1_; (try clear hb); (try clear hb2); (try clear hk); (try clear hi)))
                  go_ret
                  exact ⟨by first | rfl | (simp [errW_none, errW_some] <;> rfl) | (simp [*, errW_none, errW_some] <;> rfl), by repeat (first | (with_reducible first | exact HB.out | apply below_alloc | apply pw_below_drewN | apply below_drew1) | exact HB.out)⟩
              · rw [if_neg c10] at H
                exact absurd H (by simp)
            · rw [if_neg c9] at H
              exact absurd H (by simp)
          · rw [if_neg c8] at H
            have c8b0 : decide (x20_1 < (l0.length : Int)) = false := decide_eq_false c8
            clear c8
            obtain rfl := Option.some.inj H
            obtain ⟨Ao17, co17, eo17⟩ := Kd.R_slice HO_5.out
            subst eo17
            go_wp2
            go_ret
            exact ⟨by first | rfl | (simp [errW_none, errW_some] <;> rfl) | (simp [*, errW_none, errW_some] <;> rfl), by repeat (first | (with_reducible first | exact HB.out | apply below_alloc | apply pw_below_drewN | apply below_drew1) | exact HB.out)⟩
    · replace c5 := Bool.eq_false_iff.mpr c5
      subst c5
      have H1 : (some true) = some r := by rw [if_neg (show ¬ (false = true) by decide)] at H; exact H
      clear H
      have H := H1
      clear H1
      obtain rfl := Option.some.inj H
      go_enter Try.func23, Try.ntmps23
      go_wp2_with (first | ((with_reducible refine gate_callee (f := 75) rfl ?_); refine goesL_ (some 13) rfl rfl Try.func75 (by kernel_rfl) rfl #[.slice A0 l0.length c0, .int .i64 a1] rfl (by (try simp only [List.map_toArray, List.map_cons, List.map_nil]); first | done | rfl | (simp only [List.length_drop, List.length_take]; rfl)) ?_; (with_reducible refine (laws_bitsOk.calls _ _ l0 a1 false _ ?side1 ?side2 A4.out).mono ?_); (case side1 => repeat (first | exact HR0.out | (with_reducible refine Kd.C_alloc ?_ _) | (with_reducible refine Kd.C_drewN ?_ _) | (with_reducible refine Kd.C_drew ?_))); (case side2 => exact HC0.out); rintro e w' ⟨rfl, ⟨nd, rfl⟩⟩; refine ⟨_, rfl, ?_⟩))
      go_ret
      exact ⟨by first | rfl | (simp [errW_none, errW_some] <;> rfl) | (simp [*, errW_none, errW_some] <;> rfl), by repeat (first | (with_reducible first | exact HB.out | apply below_alloc | apply pw_below_drewN | apply below_drew1) | exact HB.out)⟩

end Go.Proofs.YtadhdimleabljaaQ.QB
