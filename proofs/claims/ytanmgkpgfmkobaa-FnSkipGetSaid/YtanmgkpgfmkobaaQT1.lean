-- Lines that a program has printed for this claim: functions as plain Lean functions, and their walks.
import Derived.Test.YtanmgkpgfmkobaaQT0
namespace Go.Proofs.YtanmgkpgfmkobaaQ.QT
open Go.RowKit Go.Proofs.YtanmgkpgfmkobaaQ.Ext Go.Proofs.YtanmgkpgfmkobaaW.PrintWords Go.Proofs.YtanmgkpgfmkobaaW.PrintLast Go.Proofs.YtanmgkpgfmkobaaW.PrintMore
attribute [local go_sem] max2_int min2_int max_two min_two max_three min_three max_four min_four   -- for this text's walks alone
set_option linter.unusedVariables false
set_option linter.unusedSimpArgs false

/-! ### spec_Compare: function 33 -/
mutual
def spec_Compare.l0 : Nat → List Int → List Int → Int → Option (Int)
  | 0, _, _, _ => none
  | k + 1, x0, x1, x5 => if x5 < (x0.length : Int) then (spec_Compare.j1 k x0 x1 x5 (decide (x5 < (x1.length : Int)))) else (spec_Compare.j1 k x0 x1 x5 false)
def spec_Compare.j1 : Nat → List Int → List Int → Int → Bool → Option (Int)
  | 0, _, _, _, _ => none
  | k + 1, x0, x1, x5, x15 => if x15 = true then (if 0 ≤ x5 then (if x5 < (x0.length : Int) then (if x5 < (x1.length : Int) then (if (rd x0 x5) = (rd x1 x5) then (spec_Compare.l0 k x0 x1 (wrap64 (x5 + 1))) else (if (rd x0 x5) < (rd x1 x5) then (some (-1)) else (some 1))) else (none)) else (none)) else (none)) else (if (x0.length : Int) < (x1.length : Int) then (some (-1)) else (if (x0.length : Int) > (x1.length : Int) then (some 1) else (some 0)))
end
def spec_Compare.f (k : Nat) (l0 : List Int) (l1 : List Int) : Option (Int) := spec_Compare.l0 k l0 l1 0
theorem spec_Compare.mono_l : ∀ k, (∀ y0 y1 y2, LeO (spec_Compare.l0 k y0 y1 y2) (spec_Compare.l0 (k + 1) y0 y1 y2)) ∧ (∀ y0 y1 y2 y3, LeO (spec_Compare.j1 k y0 y1 y2 y3) (spec_Compare.j1 (k + 1) y0 y1 y2 y3))
  | 0 => ⟨fun _ _ _ r h => by simp [spec_Compare.l0] at h, fun _ _ _ _ r h => by simp [spec_Compare.j1] at h⟩
  | k + 1 => by
    obtain ⟨ih0, ih1⟩ := spec_Compare.mono_l k
    refine ⟨?_, ?_⟩
    · intro y0 y1 y2
      unfold spec_Compare.l0
      repeat' first
      | (with_reducible exact ih0 _ _ _)
      | (with_reducible exact ih1 _ _ _ _)
      | (with_reducible exact LeO.refl _)
      | (with_reducible exact LeO.none _)
      | (with_reducible refine LeO.ite ?_ ?_)
      | (with_reducible refine LeO.bind ?_ (fun _ => ?_))
      | exact ih0 _ _ _
      | exact ih1 _ _ _ _
      | exact LeO.none _
      | refine LeO.ite ?_ ?_
      | refine LeO.bind ?_ (fun _ => ?_)
    · intro y0 y1 y2 y3
      unfold spec_Compare.j1
      repeat' first
      | (with_reducible exact ih0 _ _ _)
      | (with_reducible exact ih1 _ _ _ _)
      | (with_reducible exact LeO.refl _)
      | (with_reducible exact LeO.none _)
      | (with_reducible refine LeO.ite ?_ ?_)
      | (with_reducible refine LeO.bind ?_ (fun _ => ?_))
      | exact ih0 _ _ _
      | exact ih1 _ _ _ _
      | exact LeO.none _
      | refine LeO.ite ?_ ?_
      | refine LeO.bind ?_ (fun _ => ?_)
theorem spec_Compare.mono : ∀ a0 a1 k, LeO (spec_Compare.f k a0 a1) (spec_Compare.f (k + 1) a0 a1) := by
  intro a0 a1 k
  obtain ⟨ih0, ih1⟩ := spec_Compare.mono_l k
  unfold spec_Compare.f
  repeat' first
      | (with_reducible exact ih0 _ _ _)
      | (with_reducible exact ih1 _ _ _ _)
      | (with_reducible exact LeO.refl _)
      | (with_reducible exact LeO.none _)
      | (with_reducible refine LeO.ite ?_ ?_)
      | (with_reducible refine LeO.bind ?_ (fun _ => ?_))
      | exact ih0 _ _ _
      | exact ih1 _ _ _ _
      | exact LeO.none _
      | refine LeO.ite ?_ ?_
      | refine LeO.bind ?_ (fun _ => ?_)
set_option maxHeartbeats 8000000 in
set_option maxRecDepth 100000 in
theorem spec_Compare.calls (k : Nat) (A0 : Option Addr) (c0 : Nat) (l0 : List Int) (A1 : Option Addr) (c1 : Nat) (l1 : List Int) (r : Int) (w : World) (hr0 : Kd.C (Kd.int .u8) w A0 l0.length l0) (hc0 : l0.length ≤ c0) (hr1 : Kd.C (Kd.int .u8) w A1 l1.length l1) (hc1 : l1.length ≤ c1) (h : spec_Compare.f k l0 l1 = some r) :
    Calls Try.prog 33 #[.slice A0 l0.length c0, .slice A1 l1.length c1] w fun e w' => e = .returned (.int .i64 r) ∧ Drawn0 w w' := by
  have HR0 := Aside0.mk hr0
  have HC0 := Aside0.mk hc0
  clear hr0 hc0
  have HR1 := Aside0.mk hr1
  have HC1 := Aside0.mk hc1
  clear hr1 hc1
  have H : (spec_Compare.l0 k l0 l1 0) = some r := h
  clear h
  have H' := Aside0.mk H
  clear H
  go_enter Try.func33, Try.ntmps33
  go_wp2
  repeat (go_quiet (fail); try go_wp2)
  go_loopg [5] k (fun kq v5 w' => ∃ (x5_1 : Int), v5 = .int .i64 x5_1 ∧ Aside0 (spec_Compare.l0 kq l0 l1 x5_1 = some r) ∧ Aside0 (kq ≤ k) ∧ Drawn0 w w')
  case atStart => exact ⟨(0), (by first | rfl | (simp; done) | (simp [*]; done)), H', ⟨Nat.le_refl _⟩, by repeat (first | exact Drawn0.refl _ | apply Drawn0.step)⟩
  case round =>
    clear H'
    try clear c1
    try clear p2
    obtain ⟨x5_1, rfl, HA, HK1, ⟨m1, rfl⟩⟩ := hrel
    cases gk with
    | zero => exact absurd HA.out (by simp [spec_Compare.l0])
    | succ k1 =>
      have H := HA.out
      clear HA
      simp only [spec_Compare.l0] at H
      have HC3 := Aside0.mk H
      clear H
      go_upto_region 2 with (fail)
      repeat (go_quiet (fail); go_upto_region 2 with (fail))
      go_cut [15] (fun v15 wc => ∃ (kq : Nat) (x15_2 : Bool), v15 = .bool x15_2 ∧ Aside0 (spec_Compare.j1 kq l0 l1 x5_1 x15_2 = some r) ∧ Aside0 (kq ≤ k1) ∧ Drawn0 w wc)
      case first =>
        have H := HC3.out
        clear HC3
        by_cases c4 : x5_1 < (l0.length : Int)
        · rw [if_pos c4] at H
          have c4b0 : decide (x5_1 < (l0.length : Int)) = true := decide_eq_true c4
          clear c4
          (first | rw [c4b0] | (simp only [i64_w, i32_w]; rw [c4b0]) | skip)
          have H' := Aside0.mk H
          clear H
          go_wp2
          repeat (go_quiet (fail); try go_wp2)
          go_meet
          case rel => exact ⟨_, (decide (x5_1 < (l1.length : Int))), (by first | rfl | (simp; done) | (simp [*]; done)), H', ⟨by have := HK1.out; first | omega | exact Nat.le_refl _⟩, by repeat (first | exact Drawn0.refl _ | apply Drawn0.step)⟩
        · rw [if_neg c4] at H
          have c4b0 : decide (x5_1 < (l0.length : Int)) = false := decide_eq_false c4
          clear c4
          (first | rw [c4b0] | (simp only [i64_w, i32_w]; rw [c4b0]) | skip)
          have H' := Aside0.mk H
          clear H
          go_wp2
          repeat (go_quiet (fail); try go_wp2)
          go_meet
          case rel => exact ⟨_, (false), (by first | rfl | (simp; done) | (simp [*]; done)), H', ⟨by have := HK1.out; first | omega | exact Nat.le_refl _⟩, by repeat (first | exact Drawn0.refl _ | apply Drawn0.step)⟩
      case rest =>
        clear HC3
        try clear c1
        try clear p2
        try clear c3
        try clear c4
        try clear c4b0
        try clear p2
        obtain ⟨kq, x15_2, rfl, HA, HJ2, ⟨mc2, rfl⟩⟩ := hcut
        cases kq with
        | zero => exact absurd HA.out (by simp [spec_Compare.j1])
        | succ kj2 =>
          have H := HA.out
          clear HA
          simp only [spec_Compare.j1] at H
          by_cases c5 : x15_2 = true
          · subst c5
            have H1 : (if 0 ≤ x5_1 then (if x5_1 < (l0.length : Int) then (if x5_1 < (l1.length : Int) then (if (rd l0 x5_1) = (rd l1 x5_1) then (spec_Compare.l0 kj2 l0 l1 (wrap64 (x5_1 + 1))) else (if (rd l0 x5_1) < (rd l1 x5_1) then (some (-1)) else (some 1))) else (none)) else (none)) else (none)) = some r := by rw [if_pos rfl] at H; exact H
            clear H
            have H := H1
            clear H1
            by_cases c6 : 0 ≤ x5_1
            · rw [if_pos c6] at H
              have c6b0 : decide (0 ≤ x5_1) = true := decide_eq_true c6
              clear c6
              by_cases c7 : x5_1 < (l0.length : Int)
              · rw [if_pos c7] at H
                have c7b0 : decide (x5_1 < (l0.length : Int)) = true := decide_eq_true c7
                clear c7
                by_cases c8 : x5_1 < (l1.length : Int)
                · rw [if_pos c8] at H
                  have c8b0 : decide (x5_1 < (l1.length : Int)) = true := decide_eq_true c8
                  clear c8
                  by_cases c9 : (rd l0 x5_1) = (rd l1 x5_1)
                  · rw [if_pos c9] at H
                    have c9b0 : ((rd l0 x5_1) == (rd l1 x5_1)) = true := beq_iff_eq.mpr c9
                    have c9b1 : ((rd l0 x5_1) != (rd l1 x5_1)) = false := bne_eq_false_iff_eq.mpr c9
                    clear c9
                    have H' := Aside0.mk H
                    clear H
                    have p101 : 0 ≤ (x5_1 : Int) := of_decide_eq_true (by first | (with_reducible assumption) | assumption)
                    have q101 : x5_1 < (l0.length : Int) := of_decide_eq_true (by first | (with_reducible assumption) | assumption)
                    obtain ⟨ad101, e101, hx101_0⟩ := Kd.at_int HR0.out x5_1 p101 q101
                    cases e101
                    replace p101 := eq_true p101
                    replace q101 := eq_true q101
                    have p102 : 0 ≤ (x5_1 : Int) := of_decide_eq_true (by first | (with_reducible assumption) | assumption)
                    have q102 : x5_1 < (l1.length : Int) := of_decide_eq_true (by first | (with_reducible assumption) | assumption)
                    obtain ⟨ad102, e102, hx102_0⟩ := Kd.at_int HR1.out x5_1 p102 q102
                    cases e102
                    replace p102 := eq_true p102
                    replace q102 := eq_true q102
                    go_wp2
                    repeat (go_quiet (fail); try go_wp2)
                    go_roundg kj2
                    case measure => have := HK1.out; have := HJ2.out; omega
                    case rel => exact ⟨(wrap64 (x5_1 + 1)), (by first | rfl | (simp; done) | (simp [*]; done)), H', ⟨by have := HK1.out; have := HJ2.out; omega⟩, by repeat (first | exact Drawn0.refl _ | apply Drawn0.step)⟩
                  · rw [if_neg c9] at H
                    have c9b0 : ((rd l0 x5_1) == (rd l1 x5_1)) = false := beq_eq_false_iff_ne.mpr c9
                    have c9b1 : ((rd l0 x5_1) != (rd l1 x5_1)) = true := bne_iff_ne.mpr c9
                    by_cases c10 : (rd l0 x5_1) < (rd l1 x5_1)
                    · rw [if_pos c10] at H
                      have c10b0 : decide ((rd l0 x5_1) < (rd l1 x5_1)) = true := decide_eq_true c10
                      clear c10
                      obtain rfl := Option.some.inj H
                      have p101 : 0 ≤ (x5_1 : Int) := of_decide_eq_true (by first | (with_reducible assumption) | assumption)
                      have q101 : x5_1 < (l0.length : Int) := of_decide_eq_true (by first | (with_reducible assumption) | assumption)
                      obtain ⟨ad101, e101, hx101_0⟩ := Kd.at_int HR0.out x5_1 p101 q101
                      cases e101
                      replace p101 := eq_true p101
                      replace q101 := eq_true q101
                      have p102 : 0 ≤ (x5_1 : Int) := of_decide_eq_true (by first | (with_reducible assumption) | assumption)
                      have q102 : x5_1 < (l1.length : Int) := of_decide_eq_true (by first | (with_reducible assumption) | assumption)
                      obtain ⟨ad102, e102, hx102_0⟩ := Kd.at_int HR1.out x5_1 p102 q102
                      cases e102
                      replace p102 := eq_true p102
                      replace q102 := eq_true q102
                      have p103 : 0 ≤ (x5_1 : Int) := of_decide_eq_true (by first | (with_reducible assumption) | assumption)
                      have q103 : x5_1 < (l0.length : Int) := of_decide_eq_true (by first | (with_reducible assumption) | assumption)
                      obtain ⟨ad103, e103, hx103_0⟩ := Kd.at_int HR0.out x5_1 p103 q103
                      obtain rfl : ad101 = ad103 := (by injection e103)
                      replace p103 := eq_true p103
                      replace q103 := eq_true q103
                      have p104 : 0 ≤ (x5_1 : Int) := of_decide_eq_true (by first | (with_reducible assumption) | assumption)
                      have q104 : x5_1 < (l1.length : Int) := of_decide_eq_true (by first | (with_reducible assumption) | assumption)
                      obtain ⟨ad104, e104, hx104_0⟩ := Kd.at_int HR1.out x5_1 p104 q104
                      obtain rfl : ad102 = ad104 := (by injection e104)
                      replace p104 := eq_true p104
                      replace q104 := eq_true q104
                      go_wp2
                      repeat (go_quiet (fail); try go_wp2)
                      go_ret
                      exact ⟨by first | rfl | (simp; done) | (simp [*]; done), by repeat (first | exact Drawn0.refl _ | apply Drawn0.step)⟩
                    · rw [if_neg c10] at H
                      have c10b0 : decide ((rd l0 x5_1) < (rd l1 x5_1)) = false := decide_eq_false c10
                      clear c10
                      obtain rfl := Option.some.inj H
                      have p101 : 0 ≤ (x5_1 : Int) := of_decide_eq_true (by first | (with_reducible assumption) | assumption)
                      have q101 : x5_1 < (l0.length : Int) := of_decide_eq_true (by first | (with_reducible assumption) | assumption)
                      obtain ⟨ad101, e101, hx101_0⟩ := Kd.at_int HR0.out x5_1 p101 q101
                      cases e101
                      replace p101 := eq_true p101
                      replace q101 := eq_true q101
                      have p102 : 0 ≤ (x5_1 : Int) := of_decide_eq_true (by first | (with_reducible assumption) | assumption)
                      have q102 : x5_1 < (l1.length : Int) := of_decide_eq_true (by first | (with_reducible assumption) | assumption)
                      obtain ⟨ad102, e102, hx102_0⟩ := Kd.at_int HR1.out x5_1 p102 q102
                      cases e102
                      replace p102 := eq_true p102
                      replace q102 := eq_true q102
                      have p103 : 0 ≤ (x5_1 : Int) := of_decide_eq_true (by first | (with_reducible assumption) | assumption)
                      have q103 : x5_1 < (l0.length : Int) := of_decide_eq_true (by first | (with_reducible assumption) | assumption)
                      obtain ⟨ad103, e103, hx103_0⟩ := Kd.at_int HR0.out x5_1 p103 q103
                      obtain rfl : ad101 = ad103 := (by injection e103)
                      replace p103 := eq_true p103
                      replace q103 := eq_true q103
                      have p104 : 0 ≤ (x5_1 : Int) := of_decide_eq_true (by first | (with_reducible assumption) | assumption)
                      have q104 : x5_1 < (l1.length : Int) := of_decide_eq_true (by first | (with_reducible assumption) | assumption)
                      obtain ⟨ad104, e104, hx104_0⟩ := Kd.at_int HR1.out x5_1 p104 q104
                      obtain rfl : ad102 = ad104 := (by injection e104)
                      replace p104 := eq_true p104
                      replace q104 := eq_true q104
                      go_wp2
                      repeat (go_quiet (fail); try go_wp2)
                      go_ret
                      exact ⟨by first | rfl | (simp; done) | (simp [*]; done), by repeat (first | exact Drawn0.refl _ | apply Drawn0.step)⟩
                · rw [if_neg c8] at H
                  exact absurd H (by simp)
              · rw [if_neg c7] at H
                exact absurd H (by simp)
            · rw [if_neg c6] at H
              exact absurd H (by simp)
          · replace c5 := Bool.eq_false_iff.mpr c5
            subst c5
            have H1 : (if (l0.length : Int) < (l1.length : Int) then (some (-1)) else (if (l0.length : Int) > (l1.length : Int) then (some 1) else (some 0))) = some r := by rw [if_neg (show ¬ (false = true) by decide)] at H; exact H
            clear H
            have H := H1
            clear H1
            by_cases c11 : (l0.length : Int) < (l1.length : Int)
            · rw [if_pos c11] at H
              have c11b0 : decide ((l0.length : Int) < (l1.length : Int)) = true := decide_eq_true c11
              have c11b1 : decide (l0.length < l1.length) = true := decide_eq_true (Int.ofNat_lt.mp c11)
              clear c11
              obtain rfl := Option.some.inj H
              go_wp2
              repeat (go_quiet (fail); try go_wp2)
              go_ret
              exact ⟨by first | rfl | (simp; done) | (simp [*]; done), by repeat (first | exact Drawn0.refl _ | apply Drawn0.step)⟩
            · rw [if_neg c11] at H
              have c11b0 : decide ((l0.length : Int) < (l1.length : Int)) = false := decide_eq_false c11
              have c11b1 : decide (l0.length < l1.length) = false := decide_eq_false (fun h => c11 (Int.ofNat_lt.mpr h))
              clear c11
              by_cases c12 : (l0.length : Int) > (l1.length : Int)
              · rw [if_pos c12] at H
                have c12b0 : decide ((l1.length : Int) < (l0.length : Int)) = true := decide_eq_true c12
                have c12b1 : decide (l1.length < l0.length) = true := decide_eq_true (Int.ofNat_lt.mp c12)
                clear c12
                obtain rfl := Option.some.inj H
                go_wp2
                repeat (go_quiet (fail); try go_wp2)
                go_ret
                exact ⟨by first | rfl | (simp; done) | (simp [*]; done), by repeat (first | exact Drawn0.refl _ | apply Drawn0.step)⟩
              · rw [if_neg c12] at H
                have c12b0 : decide ((l1.length : Int) < (l0.length : Int)) = false := decide_eq_false c12
                have c12b1 : decide (l1.length < l0.length) = false := decide_eq_false (fun h => c12 (Int.ofNat_lt.mpr h))
                clear c12
                obtain rfl := Option.some.inj H
                go_wp2
                repeat (go_quiet (fail); try go_wp2)
                go_ret
                exact ⟨by first | rfl | (simp; done) | (simp [*]; done), by repeat (first | exact Drawn0.refl _ | apply Drawn0.step)⟩

/-! ### spec_SameBytes: function 15 -/
def spec_SameBytes.f (k : Nat) (l0 : List Int) (l1 : List Int) : Option (Bool) := (spec_Compare.f k l0 l1).bind fun t105 => (some (t105 == 0))
theorem spec_SameBytes.mono : ∀ a0 a1 k, LeO (spec_SameBytes.f k a0 a1) (spec_SameBytes.f (k + 1) a0 a1) := by
  intro a0 a1 k
  unfold spec_SameBytes.f
  repeat' first
      | (with_reducible exact spec_Compare.mono _ _ _)
      | (with_reducible exact LeO.refl _)
      | (with_reducible exact LeO.none _)
      | (with_reducible refine LeO.ite ?_ ?_)
      | (with_reducible refine LeO.bind ?_ (fun _ => ?_))
      | exact spec_Compare.mono _ _ _
      | exact LeO.none _
      | refine LeO.ite ?_ ?_
      | refine LeO.bind ?_ (fun _ => ?_)
set_option maxHeartbeats 8000000 in
set_option maxRecDepth 100000 in
theorem spec_SameBytes.calls (k : Nat) (A0 : Option Addr) (c0 : Nat) (l0 : List Int) (A1 : Option Addr) (c1 : Nat) (l1 : List Int) (r : Bool) (w : World) (hr0 : Kd.C (Kd.int .u8) w A0 l0.length l0) (hc0 : l0.length ≤ c0) (hr1 : Kd.C (Kd.int .u8) w A1 l1.length l1) (hc1 : l1.length ≤ c1) (h : spec_SameBytes.f k l0 l1 = some r) :
    Calls Try.prog 15 #[.slice A0 l0.length c0, .slice A1 l1.length c1] w fun e w' => e = .returned (.bool r) ∧ Drawn0 w w' := by
  have HR0 := Aside0.mk hr0
  have HC0 := Aside0.mk hc0
  clear hr0 hc0
  have HR1 := Aside0.mk hr1
  have HC1 := Aside0.mk hc1
  clear hr1 hc1
  have H : ((spec_Compare.f k l0 l1).bind fun t105 => (some (t105 == 0))) = some r := h
  clear h
  replace H := Option.bind_eq_some_iff.mp H
  obtain ⟨t105, A30, H⟩ := H
  replace H : (some (t105 == 0)) = some r := H
  have A3 := Aside0.mk A30
  clear A30
  obtain rfl := Option.some.inj H
  go_enter Try.func15, Try.ntmps15
  go_wp2_with (first | ((with_reducible refine gate_callee (f := 33) rfl ?_); refine goesL_ (some 7) rfl rfl Try.func33 (by kernel_rfl) rfl #[.slice A0 l0.length c0, .slice A1 l1.length c1] rfl (by (try simp only [List.map_toArray, List.map_cons, List.map_nil]); first | done | rfl | (simp only [List.length_drop, List.length_take]; rfl)) ?_; (with_reducible refine (spec_Compare.calls k _ _ l0 _ _ l1 t105 _ ?side1 ?side2 ?side3 ?side4 A3.out).mono ?_); (case side1 => repeat (first | exact HR0.out | (with_reducible refine Kd.C_alloc ?_ _) | (with_reducible refine Kd.C_drewN ?_ _) | (with_reducible refine Kd.C_drew ?_))); (case side2 => exact HC0.out); (case side3 => repeat (first | exact HR1.out | (with_reducible refine Kd.C_alloc ?_ _) | (with_reducible refine Kd.C_drewN ?_ _) | (with_reducible refine Kd.C_drew ?_))); (case side4 => exact HC1.out); rintro e w' ⟨rfl, ⟨nd, rfl⟩⟩; refine ⟨_, rfl, ?_⟩))
  go_ret
  exact ⟨by first | rfl | (simp; done) | (simp [*]; done), by repeat (first | exact Drawn0.refl _ | apply Drawn0.step)⟩

/-! ### spec_SameValue: function 17 -/
def spec_SameValue.f (k : Nat) (a0_0 : Int) (a0_1 : Int) (a0_2 : Int) (l0_3 : List Int) (a1_0 : Int) (a1_1 : Int) (a1_2 : Int) (l1_3 : List Int) : Option (Bool) := if a0_0 = a1_0 then (if a0_1 = a1_1 then (if a0_2 = a1_2 then ((spec_SameBytes.f k l0_3 l1_3).bind fun t108 => (some t108)) else (some false)) else (some false)) else (some false)
theorem spec_SameValue.mono : ∀ a0 a1 a2 a3 a4 a5 a6 a7 k, LeO (spec_SameValue.f k a0 a1 a2 a3 a4 a5 a6 a7) (spec_SameValue.f (k + 1) a0 a1 a2 a3 a4 a5 a6 a7) := by
  intro a0 a1 a2 a3 a4 a5 a6 a7 k
  unfold spec_SameValue.f
  repeat' first
      | (with_reducible exact spec_SameBytes.mono _ _ _)
      | (with_reducible exact LeO.refl _)
      | (with_reducible exact LeO.none _)
      | (with_reducible refine LeO.ite ?_ ?_)
      | (with_reducible refine LeO.bind ?_ (fun _ => ?_))
      | exact spec_SameBytes.mono _ _ _
      | exact LeO.none _
      | refine LeO.ite ?_ ?_
      | refine LeO.bind ?_ (fun _ => ?_)
set_option maxHeartbeats 8000000 in
set_option maxRecDepth 100000 in
theorem spec_SameValue.calls (k : Nat) (a0_0 : Int) (a0_1 : Int) (a0_2 : Int) (A0_3 : Option Addr) (c0_3 : Nat) (l0_3 : List Int) (a1_0 : Int) (a1_1 : Int) (a1_2 : Int) (A1_3 : Option Addr) (c1_3 : Nat) (l1_3 : List Int) (r : Bool) (w : World) (hr0_3 : Kd.C (Kd.int .u8) w A0_3 l0_3.length l0_3) (hc0_3 : l0_3.length ≤ c0_3) (hr1_3 : Kd.C (Kd.int .u8) w A1_3 l1_3.length l1_3) (hc1_3 : l1_3.length ≤ c1_3) (h : spec_SameValue.f k a0_0 a0_1 a0_2 l0_3 a1_0 a1_1 a1_2 l1_3 = some r) :
    Calls Try.prog 17 #[.agg #[.int .u8 a0_0, .int .u8 a0_1, .int .u64 a0_2, .slice A0_3 l0_3.length c0_3], .agg #[.int .u8 a1_0, .int .u8 a1_1, .int .u64 a1_2, .slice A1_3 l1_3.length c1_3]] w fun e w' => e = .returned (.bool r) ∧ Below w.heap.size w w' := by
  have hu30 := Try.underlying30
  have HR0_3 := Aside0.mk hr0_3
  have HC0_3 := Aside0.mk hc0_3
  clear hr0_3 hc0_3
  have HR1_3 := Aside0.mk hr1_3
  have HC1_3 := Aside0.mk hc1_3
  clear hr1_3 hc1_3
  have HB := Aside0.mk (Below.refl w.heap.size w)
  have H : (if a0_0 = a1_0 then (if a0_1 = a1_1 then (if a0_2 = a1_2 then ((spec_SameBytes.f k l0_3 l1_3).bind fun t108 => (some t108)) else (some false)) else (some false)) else (some false)) = some r := h
  clear h
  by_cases c3 : a0_0 = a1_0
  · rw [if_pos c3] at H
    have c3b0 : (a0_0 == a1_0) = true := beq_iff_eq.mpr c3
    have c3b1 : (a0_0 != a1_0) = false := bne_eq_false_iff_eq.mpr c3
    clear c3
    by_cases c4 : a0_1 = a1_1
    · rw [if_pos c4] at H
      have c4b0 : (a0_1 == a1_1) = true := beq_iff_eq.mpr c4
      have c4b1 : (a0_1 != a1_1) = false := bne_eq_false_iff_eq.mpr c4
      clear c4
      by_cases c5 : a0_2 = a1_2
      · rw [if_pos c5] at H
        have c5b0 : (a0_2 == a1_2) = true := beq_iff_eq.mpr c5
        have c5b1 : (a0_2 != a1_2) = false := bne_eq_false_iff_eq.mpr c5
        clear c5
        replace H := Option.bind_eq_some_iff.mp H
        obtain ⟨t108, A60, H⟩ := H
        replace H : (some t108) = some r := H
        have A6 := Aside0.mk A60
        clear A60
        obtain rfl := Option.some.inj H
        go_enter Try.func17, Try.ntmps17
        go_wp2_with (first | ((with_reducible refine gate_dst (N := 2) rfl ?_); refine box_event ?hg (N := 2) ?hd (cs := #[.int .u8 a0_0, .int .u8 a0_1, .int .u64 a0_2, .slice A0_3 l0_3.length c0_3]) (t := 30) ?hr ?_; (case hd => rfl); (case hg => rfl); (case hr => first | (go_simp; done) | (go_simp; rfl)); intro gb106 hg w7 hbox hb; have n0_ := Aside0.mk (below_step (by repeat (first | (with_reducible first | exact HB.out | apply below_alloc | apply pw_below_drewN | apply below_drew1) | exact HB.out)) hb); have n1_ := Aside0.mk (hbox); have n2_ := Aside0.mk ((by rw [hg]; exact (below_size (by repeat (first | (with_reducible first | exact HB.out | apply below_alloc | apply pw_below_drewN | apply below_drew1) | exact HB.out))) : w.heap.size ≤ gb106)); have n3_ := Aside0.mk ((by rw [hg]; exact (below_size (by repeat (first | (with_reducible first | exact HB.out | apply below_alloc | apply pw_below_drewN | apply below_drew1) | exact HB.out))) : w.heap.size ≤ gb106)); clear HB; have HB := n0_; have BK106 := n1_; have GW106 := n2_; have GE106 := n3_; clear n0_ n1_ n2_ n3_; clear hb hbox hg) | ((with_reducible refine gate_dst (N := 3) rfl ?_); refine box_event ?hg (N := 3) ?hd (cs := #[.int .u8 a1_0, .int .u8 a1_1, .int .u64 a1_2, .slice A1_3 l1_3.length c1_3]) (t := 30) ?hr ?_; (case hd => rfl); (case hg => rfl); (case hr => first | (go_simp; done) | (go_simp; rfl)); intro gb107 hg w8 hbox hb; have n0_ := Aside0.mk (blk_below (g := gb106) (o := .cells #[.int .u8 a0_0, .int .u8 a0_1, .int .u64 a0_2, .slice A0_3 l0_3.length c0_3] 30 (0, 0)) (by (with_reducible repeat (first | refine blk_drewN ?_ _ | refine blk_drew ?_ | refine blk_alloc ?_ _)); exact BK106.out) hb); have n1_ := Aside0.mk (below_step (by repeat (first | (with_reducible first | exact HB.out | apply below_alloc | apply pw_below_drewN | apply below_drew1 | refine below_set ?_ GE106.out) | exact HB.out)) hb); have n2_ := Aside0.mk (hbox); have n3_ := Aside0.mk ((by rw [hg]; exact (below_size (by repeat (first | (with_reducible first | exact HB.out | apply below_alloc | apply pw_below_drewN | apply below_drew1 | refine below_set ?_ GE106.out) | exact HB.out))) : w.heap.size ≤ gb107)); have n4_ := Aside0.mk ((by rw [hg]; exact (below_size (by repeat (first | (with_reducible first | exact HB.out | apply below_alloc | apply pw_below_drewN | apply below_drew1 | refine below_set ?_ GE106.out) | exact HB.out))) : w.heap.size ≤ gb107)); have n5_ := Aside0.mk ((by rw [hg]; exact Nat.ne_of_lt (blk_lt (g := gb106) (o := .cells #[.int .u8 a0_0, .int .u8 a0_1, .int .u64 a0_2, .slice A0_3 l0_3.length c0_3] 30 (0, 0)) (by (with_reducible repeat (first | refine blk_drewN ?_ _ | refine blk_drew ?_ | refine blk_alloc ?_ _)); exact BK106.out)) : gb106 ≠ gb107)); have n6_ := Aside0.mk ((by rw [hg]; exact Nat.ne_of_gt (blk_lt (g := gb106) (o := .cells #[.int .u8 a0_0, .int .u8 a0_1, .int .u64 a0_2, .slice A0_3 l0_3.length c0_3] 30 (0, 0)) (by (with_reducible repeat (first | refine blk_drewN ?_ _ | refine blk_drew ?_ | refine blk_alloc ?_ _)); exact BK106.out)) : gb107 ≠ gb106)); clear BK106; clear HB; have BK106 := n0_; have HB := n1_; have BK107 := n2_; have GW107 := n3_; have GE107 := n4_; have NB106_107 := n5_; have NB107_106 := n6_; clear n0_ n1_ n2_ n3_ n4_ n5_ n6_; clear hb hbox hg; have hnb9 := NB106_107.out; have hnc9 := NB107_106.out; have hcz10_0 : w8.cell? ⟨gb106, 0, none⟩ = some (.int .u8 a0_0) := (blk_cell BK106.out 0).trans rfl; have hcz10_1 : w8.cell? ⟨gb106, 1, none⟩ = some (.int .u8 a0_1) := (blk_cell BK106.out 1).trans rfl; have hcz10_2 : w8.cell? ⟨gb106, 2, none⟩ = some (.int .u64 a0_2) := (blk_cell BK106.out 2).trans rfl; have hcz10_3 : w8.cell? ⟨gb106, 3, none⟩ = some (.slice A0_3 l0_3.length c0_3) := (blk_cell BK106.out 3).trans rfl; have hfz10_0 := blk_frozen BK106.out 0; have hfz10_1 := blk_frozen BK106.out 1; have hfz10_2 := blk_frozen BK106.out 2; have hfz10_3 := blk_frozen BK106.out 3; have hcz11_0 : w8.cell? ⟨gb107, 0, none⟩ = some (.int .u8 a1_0) := (blk_cell BK107.out 0).trans rfl; have hcz11_1 : w8.cell? ⟨gb107, 1, none⟩ = some (.int .u8 a1_1) := (blk_cell BK107.out 1).trans rfl; have hcz11_2 : w8.cell? ⟨gb107, 2, none⟩ = some (.int .u64 a1_2) := (blk_cell BK107.out 2).trans rfl; have hcz11_3 : w8.cell? ⟨gb107, 3, none⟩ = some (.slice A1_3 l1_3.length c1_3) := (blk_cell BK107.out 3).trans rfl; have hfz11_0 := blk_frozen BK107.out 0; have hfz11_1 := blk_frozen BK107.out 1; have hfz11_2 := blk_frozen BK107.out 2; have hfz11_3 := blk_frozen BK107.out 3) | (go_at_call 15; (with_reducible refine (spec_SameBytes.calls k _ _ l0_3 _ _ l1_3 t108 _ ?side1 ?side2 ?side3 ?side4 A6.out).mono ?_); (case side1 => repeat (first | exact (Kd.C_below HR0_3.out HB.out) | (with_reducible refine Kd.C_alloc ?_ _) | (with_reducible refine Kd.C_drewN ?_ _) | (with_reducible refine Kd.C_drew ?_))); (case side2 => exact HC0_3.out); (case side3 => repeat (first | exact (Kd.C_below HR1_3.out HB.out) | (with_reducible refine Kd.C_alloc ?_ _) | (with_reducible refine Kd.C_drewN ?_ _) | (with_reducible refine Kd.C_drew ?_))); (case side4 => exact HC1_3.out); rintro e w' ⟨rfl, ⟨nd, rfl⟩⟩))
        go_ret
        exact ⟨by first | rfl | (simp [errW_none, errW_some] <;> rfl) | (simp [*, errW_none, errW_some] <;> rfl), by repeat (first | (with_reducible first | exact HB.out | apply below_alloc | apply pw_below_drewN | apply below_drew1 | refine below_set ?_ GE106.out | refine below_set ?_ GE107.out) | exact HB.out)⟩
      · rw [if_neg c5] at H
        have c5b0 : (a0_2 == a1_2) = false := beq_eq_false_iff_ne.mpr c5
        have c5b1 : (a0_2 != a1_2) = true := bne_iff_ne.mpr c5
        obtain rfl := Option.some.inj H
        go_enter Try.func17, Try.ntmps17
        go_wp2_with (first | ((with_reducible refine gate_dst (N := 2) rfl ?_); refine box_event ?hg (N := 2) ?hd (cs := #[.int .u8 a0_0, .int .u8 a0_1, .int .u64 a0_2, .slice A0_3 l0_3.length c0_3]) (t := 30) ?hr ?_; (case hd => rfl); (case hg => rfl); (case hr => first | (go_simp; done) | (go_simp; rfl)); intro gb106 hg w12 hbox hb; have n0_ := Aside0.mk (below_step (by repeat (first | (with_reducible first | exact HB.out | apply below_alloc | apply pw_below_drewN | apply below_drew1) | exact HB.out)) hb); have n1_ := Aside0.mk (hbox); have n2_ := Aside0.mk ((by rw [hg]; exact (below_size (by repeat (first | (with_reducible first | exact HB.out | apply below_alloc | apply pw_below_drewN | apply below_drew1) | exact HB.out))) : w.heap.size ≤ gb106)); have n3_ := Aside0.mk ((by rw [hg]; exact (below_size (by repeat (first | (with_reducible first | exact HB.out | apply below_alloc | apply pw_below_drewN | apply below_drew1) | exact HB.out))) : w.heap.size ≤ gb106)); clear HB; have HB := n0_; have BK106 := n1_; have GW106 := n2_; have GE106 := n3_; clear n0_ n1_ n2_ n3_; clear hb hbox hg) | ((with_reducible refine gate_dst (N := 3) rfl ?_); refine box_event ?hg (N := 3) ?hd (cs := #[.int .u8 a1_0, .int .u8 a1_1, .int .u64 a1_2, .slice A1_3 l1_3.length c1_3]) (t := 30) ?hr ?_; (case hd => rfl); (case hg => rfl); (case hr => first | (go_simp; done) | (go_simp; rfl)); intro gb107 hg w13 hbox hb; have n0_ := Aside0.mk (blk_below (g := gb106) (o := .cells #[.int .u8 a0_0, .int .u8 a0_1, .int .u64 a0_2, .slice A0_3 l0_3.length c0_3] 30 (0, 0)) (by (with_reducible repeat (first | refine blk_drewN ?_ _ | refine blk_drew ?_ | refine blk_alloc ?_ _)); exact BK106.out) hb); have n1_ := Aside0.mk (below_step (by repeat (first | (with_reducible first | exact HB.out | apply below_alloc | apply pw_below_drewN | apply below_drew1 | refine below_set ?_ GE106.out) | exact HB.out)) hb); have n2_ := Aside0.mk (hbox); have n3_ := Aside0.mk ((by rw [hg]; exact (below_size (by repeat (first | (with_reducible first | exact HB.out | apply below_alloc | apply pw_below_drewN | apply below_drew1 | refine below_set ?_ GE106.out) | exact HB.out))) : w.heap.size ≤ gb107)); have n4_ := Aside0.mk ((by rw [hg]; exact (below_size (by repeat (first | (with_reducible first | exact HB.out | apply below_alloc | apply pw_below_drewN | apply below_drew1 | refine below_set ?_ GE106.out) | exact HB.out))) : w.heap.size ≤ gb107)); have n5_ := Aside0.mk ((by rw [hg]; exact Nat.ne_of_lt (blk_lt (g := gb106) (o := .cells #[.int .u8 a0_0, .int .u8 a0_1, .int .u64 a0_2, .slice A0_3 l0_3.length c0_3] 30 (0, 0)) (by (with_reducible repeat (first | refine blk_drewN ?_ _ | refine blk_drew ?_ | refine blk_alloc ?_ _)); exact BK106.out)) : gb106 ≠ gb107)); have n6_ := Aside0.mk ((by rw [hg]; exact Nat.ne_of_gt (blk_lt (g := gb106) (o := .cells #[.int .u8 a0_0, .int .u8 a0_1, .int .u64 a0_2, .slice A0_3 l0_3.length c0_3] 30 (0, 0)) (by (with_reducible repeat (first | refine blk_drewN ?_ _ | refine blk_drew ?_ | refine blk_alloc ?_ _)); exact BK106.out)) : gb107 ≠ gb106)); clear BK106; clear HB; have BK106 := n0_; have HB := n1_; have BK107 := n2_; have GW107 := n3_; have GE107 := n4_; have NB106_107 := n5_; have NB107_106 := n6_; clear n0_ n1_ n2_ n3_ n4_ n5_ n6_; clear hb hbox hg; have hnb14 := NB106_107.out; have hnc14 := NB107_106.out; have hcz15_0 : w13.cell? ⟨gb106, 0, none⟩ = some (.int .u8 a0_0) := (blk_cell BK106.out 0).trans rfl; have hcz15_1 : w13.cell? ⟨gb106, 1, none⟩ = some (.int .u8 a0_1) := (blk_cell BK106.out 1).trans rfl; have hcz15_2 : w13.cell? ⟨gb106, 2, none⟩ = some (.int .u64 a0_2) := (blk_cell BK106.out 2).trans rfl; have hcz15_3 : w13.cell? ⟨gb106, 3, none⟩ = some (.slice A0_3 l0_3.length c0_3) := (blk_cell BK106.out 3).trans rfl; have hfz15_0 := blk_frozen BK106.out 0; have hfz15_1 := blk_frozen BK106.out 1; have hfz15_2 := blk_frozen BK106.out 2; have hfz15_3 := blk_frozen BK106.out 3; have hcz16_0 : w13.cell? ⟨gb107, 0, none⟩ = some (.int .u8 a1_0) := (blk_cell BK107.out 0).trans rfl; have hcz16_1 : w13.cell? ⟨gb107, 1, none⟩ = some (.int .u8 a1_1) := (blk_cell BK107.out 1).trans rfl; have hcz16_2 : w13.cell? ⟨gb107, 2, none⟩ = some (.int .u64 a1_2) := (blk_cell BK107.out 2).trans rfl; have hcz16_3 : w13.cell? ⟨gb107, 3, none⟩ = some (.slice A1_3 l1_3.length c1_3) := (blk_cell BK107.out 3).trans rfl; have hfz16_0 := blk_frozen BK107.out 0; have hfz16_1 := blk_frozen BK107.out 1; have hfz16_2 := blk_frozen BK107.out 2; have hfz16_3 := blk_frozen BK107.out 3))
        go_ret
        exact ⟨by first | rfl | (simp [errW_none, errW_some] <;> rfl) | (simp [*, errW_none, errW_some] <;> rfl), by repeat (first | (with_reducible first | exact HB.out | apply below_alloc | apply pw_below_drewN | apply below_drew1 | refine below_set ?_ GE106.out | refine below_set ?_ GE107.out) | exact HB.out)⟩
    · rw [if_neg c4] at H
      have c4b0 : (a0_1 == a1_1) = false := beq_eq_false_iff_ne.mpr c4
      have c4b1 : (a0_1 != a1_1) = true := bne_iff_ne.mpr c4
      obtain rfl := Option.some.inj H
      go_enter Try.func17, Try.ntmps17
      go_wp2_with (first | ((with_reducible refine gate_dst (N := 2) rfl ?_); refine box_event ?hg (N := 2) ?hd (cs := #[.int .u8 a0_0, .int .u8 a0_1, .int .u64 a0_2, .slice A0_3 l0_3.length c0_3]) (t := 30) ?hr ?_; (case hd => rfl); (case hg => rfl); (case hr => first | (go_simp; done) | (go_simp; rfl)); intro gb106 hg w17 hbox hb; have n0_ := Aside0.mk (below_step (by repeat (first | (with_reducible first | exact HB.out | apply below_alloc | apply pw_below_drewN | apply below_drew1) | exact HB.out)) hb); have n1_ := Aside0.mk (hbox); have n2_ := Aside0.mk ((by rw [hg]; exact (below_size (by repeat (first | (with_reducible first | exact HB.out | apply below_alloc | apply pw_below_drewN | apply below_drew1) | exact HB.out))) : w.heap.size ≤ gb106)); have n3_ := Aside0.mk ((by rw [hg]; exact (below_size (by repeat (first | (with_reducible first | exact HB.out | apply below_alloc | apply pw_below_drewN | apply below_drew1) | exact HB.out))) : w.heap.size ≤ gb106)); clear HB; have HB := n0_; have BK106 := n1_; have GW106 := n2_; have GE106 := n3_; clear n0_ n1_ n2_ n3_; clear hb hbox hg) | ((with_reducible refine gate_dst (N := 3) rfl ?_); refine box_event ?hg (N := 3) ?hd (cs := #[.int .u8 a1_0, .int .u8 a1_1, .int .u64 a1_2, .slice A1_3 l1_3.length c1_3]) (t := 30) ?hr ?_; (case hd => rfl); (case hg => rfl); (case hr => first | (go_simp; done) | (go_simp; rfl)); intro gb107 hg w18 hbox hb; have n0_ := Aside0.mk (blk_below (g := gb106) (o := .cells #[.int .u8 a0_0, .int .u8 a0_1, .int .u64 a0_2, .slice A0_3 l0_3.length c0_3] 30 (0, 0)) (by (with_reducible repeat (first | refine blk_drewN ?_ _ | refine blk_drew ?_ | refine blk_alloc ?_ _)); exact BK106.out) hb); have n1_ := Aside0.mk (below_step (by repeat (first | (with_reducible first | exact HB.out | apply below_alloc | apply pw_below_drewN | apply below_drew1 | refine below_set ?_ GE106.out) | exact HB.out)) hb); have n2_ := Aside0.mk (hbox); have n3_ := Aside0.mk ((by rw [hg]; exact (below_size (by repeat (first | (with_reducible first | exact HB.out | apply below_alloc | apply pw_below_drewN | apply below_drew1 | refine below_set ?_ GE106.out) | exact HB.out))) : w.heap.size ≤ gb107)); have n4_ := Aside0.mk ((by rw [hg]; exact (below_size (by repeat (first | (with_reducible first | exact HB.out | apply below_alloc | apply pw_below_drewN | apply below_drew1 | refine below_set ?_ GE106.out) | exact HB.out))) : w.heap.size ≤ gb107)); have n5_ := Aside0.mk ((by rw [hg]; exact Nat.ne_of_lt (blk_lt (g := gb106) (o := .cells #[.int .u8 a0_0, .int .u8 a0_1, .int .u64 a0_2, .slice A0_3 l0_3.length c0_3] 30 (0, 0)) (by (with_reducible repeat (first | refine blk_drewN ?_ _ | refine blk_drew ?_ | refine blk_alloc ?_ _)); exact BK106.out)) : gb106 ≠ gb107)); have n6_ := Aside0.mk ((by rw [hg]; exact Nat.ne_of_gt (blk_lt (g := gb106) (o := .cells #[.int .u8 a0_0, .int .u8 a0_1, .int .u64 a0_2, .slice A0_3 l0_3.length c0_3] 30 (0, 0)) (by (with_reducible repeat (first | refine blk_drewN ?_ _ | refine blk_drew ?_ | refine blk_alloc ?_ _)); exact BK106.out)) : gb107 ≠ gb106)); clear BK106; clear HB; have BK106 := n0_; have HB := n1_; have BK107 := n2_; have GW107 := n3_; have GE107 := n4_; have NB106_107 := n5_; have NB107_106 := n6_; clear n0_ n1_ n2_ n3_ n4_ n5_ n6_; clear hb hbox hg; have hnb19 := NB106_107.out; have hnc19 := NB107_106.out; have hcz20_0 : w18.cell? ⟨gb106, 0, none⟩ = some (.int .u8 a0_0) := (blk_cell BK106.out 0).trans rfl; have hcz20_1 : w18.cell? ⟨gb106, 1, none⟩ = some (.int .u8 a0_1) := (blk_cell BK106.out 1).trans rfl; have hcz20_2 : w18.cell? ⟨gb106, 2, none⟩ = some (.int .u64 a0_2) := (blk_cell BK106.out 2).trans rfl; have hcz20_3 : w18.cell? ⟨gb106, 3, none⟩ = some (.slice A0_3 l0_3.length c0_3) := (blk_cell BK106.out 3).trans rfl; have hfz20_0 := blk_frozen BK106.out 0; have hfz20_1 := blk_frozen BK106.out 1; have hfz20_2 := blk_frozen BK106.out 2; have hfz20_3 := blk_frozen BK106.out 3; have hcz21_0 : w18.cell? ⟨gb107, 0, none⟩ = some (.int .u8 a1_0) := (blk_cell BK107.out 0).trans rfl; have hcz21_1 : w18.cell? ⟨gb107, 1, none⟩ = some (.int .u8 a1_1) := (blk_cell BK107.out 1).trans rfl; have hcz21_2 : w18.cell? ⟨gb107, 2, none⟩ = some (.int .u64 a1_2) := (blk_cell BK107.out 2).trans rfl; have hcz21_3 : w18.cell? ⟨gb107, 3, none⟩ = some (.slice A1_3 l1_3.length c1_3) := (blk_cell BK107.out 3).trans rfl; have hfz21_0 := blk_frozen BK107.out 0; have hfz21_1 := blk_frozen BK107.out 1; have hfz21_2 := blk_frozen BK107.out 2; have hfz21_3 := blk_frozen BK107.out 3))
      go_ret
      exact ⟨by first | rfl | (simp [errW_none, errW_some] <;> rfl) | (simp [*, errW_none, errW_some] <;> rfl), by repeat (first | (with_reducible first | exact HB.out | apply below_alloc | apply pw_below_drewN | apply below_drew1 | refine below_set ?_ GE106.out | refine below_set ?_ GE107.out) | exact HB.out)⟩
  · rw [if_neg c3] at H
    have c3b0 : (a0_0 == a1_0) = false := beq_eq_false_iff_ne.mpr c3
    have c3b1 : (a0_0 != a1_0) = true := bne_iff_ne.mpr c3
    obtain rfl := Option.some.inj H
    go_enter Try.func17, Try.ntmps17
    go_wp2_with (first | ((with_reducible refine gate_dst (N := 2) rfl ?_); refine box_event ?hg (N := 2) ?hd (cs := #[.int .u8 a0_0, .int .u8 a0_1, .int .u64 a0_2, .slice A0_3 l0_3.length c0_3]) (t := 30) ?hr ?_; (case hd => rfl); (case hg => rfl); (case hr => first | (go_simp; done) | (go_simp; rfl)); intro gb106 hg w22 hbox hb; have n0_ := Aside0.mk (below_step (by repeat (first | (with_reducible first | exact HB.out | apply below_alloc | apply pw_below_drewN | apply below_drew1) | exact HB.out)) hb); have n1_ := Aside0.mk (hbox); have n2_ := Aside0.mk ((by rw [hg]; exact (below_size (by repeat (first | (with_reducible first | exact HB.out | apply below_alloc | apply pw_below_drewN | apply below_drew1) | exact HB.out))) : w.heap.size ≤ gb106)); have n3_ := Aside0.mk ((by rw [hg]; exact (below_size (by repeat (first | (with_reducible first | exact HB.out | apply below_alloc | apply pw_below_drewN | apply below_drew1) | exact HB.out))) : w.heap.size ≤ gb106)); clear HB; have HB := n0_; have BK106 := n1_; have GW106 := n2_; have GE106 := n3_; clear n0_ n1_ n2_ n3_; clear hb hbox hg) | ((with_reducible refine gate_dst (N := 3) rfl ?_); refine box_event ?hg (N := 3) ?hd (cs := #[.int .u8 a1_0, .int .u8 a1_1, .int .u64 a1_2, .slice A1_3 l1_3.length c1_3]) (t := 30) ?hr ?_; (case hd => rfl); (case hg => rfl); (case hr => first | (go_simp; done) | (go_simp; rfl)); intro gb107 hg w23 hbox hb; have n0_ := Aside0.mk (blk_below (g := gb106) (o := .cells #[.int .u8 a0_0, .int .u8 a0_1, .int .u64 a0_2, .slice A0_3 l0_3.length c0_3] 30 (0, 0)) (by (with_reducible repeat (first | refine blk_drewN ?_ _ | refine blk_drew ?_ | refine blk_alloc ?_ _)); exact BK106.out) hb); have n1_ := Aside0.mk (below_step (by repeat (first | (with_reducible first | exact HB.out | apply below_alloc | apply pw_below_drewN | apply below_drew1 | refine below_set ?_ GE106.out) | exact HB.out)) hb); have n2_ := Aside0.mk (hbox); have n3_ := Aside0.mk ((by rw [hg]; exact (below_size (by repeat (first | (with_reducible first | exact HB.out | apply below_alloc | apply pw_below_drewN | apply below_drew1 | refine below_set ?_ GE106.out) | exact HB.out))) : w.heap.size ≤ gb107)); have n4_ := Aside0.mk ((by rw [hg]; exact (below_size (by repeat (first | (with_reducible first | exact HB.out | apply below_alloc | apply pw_below_drewN | apply below_drew1 | refine below_set ?_ GE106.out) | exact HB.out))) : w.heap.size ≤ gb107)); have n5_ := Aside0.mk ((by rw [hg]; exact Nat.ne_of_lt (blk_lt (g := gb106) (o := .cells #[.int .u8 a0_0, .int .u8 a0_1, .int .u64 a0_2, .slice A0_3 l0_3.length c0_3] 30 (0, 0)) (by (with_reducible repeat (first | refine blk_drewN ?_ _ | refine blk_drew ?_ | refine blk_alloc ?_ _)); exact BK106.out)) : gb106 ≠ gb107)); have n6_ := Aside0.mk ((by rw [hg]; exact Nat.ne_of_gt (blk_lt (g := gb106) (o := .cells #[.int .u8 a0_0, .int .u8 a0_1, .int .u64 a0_2, .slice A0_3 l0_3.length c0_3] 30 (0, 0)) (by (with_reducible repeat (first | refine blk_drewN ?_ _ | refine blk_drew ?_ | refine blk_alloc ?_ _)); exact BK106.out)) : gb107 ≠ gb106)); clear BK106; clear HB; have BK106 := n0_; have HB := n1_; have BK107 := n2_; have GW107 := n3_; have GE107 := n4_; have NB106_107 := n5_; have NB107_106 := n6_; clear n0_ n1_ n2_ n3_ n4_ n5_ n6_; clear hb hbox hg; have hnb24 := NB106_107.out; have hnc24 := NB107_106.out; have hcz25_0 : w23.cell? ⟨gb106, 0, none⟩ = some (.int .u8 a0_0) := (blk_cell BK106.out 0).trans rfl; have hcz25_1 : w23.cell? ⟨gb106, 1, none⟩ = some (.int .u8 a0_1) := (blk_cell BK106.out 1).trans rfl; have hcz25_2 : w23.cell? ⟨gb106, 2, none⟩ = some (.int .u64 a0_2) := (blk_cell BK106.out 2).trans rfl; have hcz25_3 : w23.cell? ⟨gb106, 3, none⟩ = some (.slice A0_3 l0_3.length c0_3) := (blk_cell BK106.out 3).trans rfl; have hfz25_0 := blk_frozen BK106.out 0; have hfz25_1 := blk_frozen BK106.out 1; have hfz25_2 := blk_frozen BK106.out 2; have hfz25_3 := blk_frozen BK106.out 3; have hcz26_0 : w23.cell? ⟨gb107, 0, none⟩ = some (.int .u8 a1_0) := (blk_cell BK107.out 0).trans rfl; have hcz26_1 : w23.cell? ⟨gb107, 1, none⟩ = some (.int .u8 a1_1) := (blk_cell BK107.out 1).trans rfl; have hcz26_2 : w23.cell? ⟨gb107, 2, none⟩ = some (.int .u64 a1_2) := (blk_cell BK107.out 2).trans rfl; have hcz26_3 : w23.cell? ⟨gb107, 3, none⟩ = some (.slice A1_3 l1_3.length c1_3) := (blk_cell BK107.out 3).trans rfl; have hfz26_0 := blk_frozen BK107.out 0; have hfz26_1 := blk_frozen BK107.out 1; have hfz26_2 := blk_frozen BK107.out 2; have hfz26_3 := blk_frozen BK107.out 3))
    go_ret
    exact ⟨by first | rfl | (simp [errW_none, errW_some] <;> rfl) | (simp [*, errW_none, errW_some] <;> rfl), by repeat (first | (with_reducible first | exact HB.out | apply below_alloc | apply pw_below_drewN | apply below_drew1 | refine below_set ?_ GE106.out | refine below_set ?_ GE107.out) | exact HB.out)⟩

/-! ### laws_putsOk: function 12 -/
def laws_putsOk.l0 : Nat → List Int → List (S32) → List (S32) → Int → Int → Option (Bool)
  | 0, _, _, _, _, _ => none
  | k + 1, x0, x1, x7, x8, x9 => if x9 < x8 then (if 0 ≤ x9 then (if x9 < (x7.length : Int) then (if (((rd_T32 x7 x9).f0).length : Int) < 1 then (some false) else (if (((rd_T32 x7 x9).f0).length : Int) > 40 then (some false) else (if (((rd_T32 x7 x9).f2.f3).length : Int) > 200 then (some false) else (laws_putsOk.l0 k x0 x1 x7 x8 (wrap64 (x9 + 1)))))) else (none)) else (none)) else (if (x1.length : Int) ≤ 80 then (if (x0.length : Int) ≥ 1 then (some (decide ((x0.length : Int) ≤ 60))) else (some false)) else (some false))
def laws_putsOk.f (k : Nat) (l0 : List Int) (l1 : List (S32)) : Option (Bool) := laws_putsOk.l0 k l0 l1 l1 (l1.length : Int) 0
theorem laws_putsOk.mono_l : ∀ k, (∀ y0 y1 y2 y3 y4, LeO (laws_putsOk.l0 k y0 y1 y2 y3 y4) (laws_putsOk.l0 (k + 1) y0 y1 y2 y3 y4))
  | 0 => fun _ _ _ _ _ r h => by simp [laws_putsOk.l0] at h
  | k + 1 => by
    have ih0 := laws_putsOk.mono_l k
    · intro y0 y1 y2 y3 y4
      unfold laws_putsOk.l0
      repeat' first
      | (with_reducible exact ih0 _ _ _ _ _)
      | (with_reducible exact LeO.refl _)
      | (with_reducible exact LeO.none _)
      | (with_reducible refine LeO.ite ?_ ?_)
      | (with_reducible refine LeO.bind ?_ (fun _ => ?_))
      | exact ih0 _ _ _ _ _
      | exact LeO.none _
      | refine LeO.ite ?_ ?_
      | refine LeO.bind ?_ (fun _ => ?_)
theorem laws_putsOk.mono : ∀ a0 a1 k, LeO (laws_putsOk.f k a0 a1) (laws_putsOk.f (k + 1) a0 a1) := by
  intro a0 a1 k
  have ih0 := laws_putsOk.mono_l k
  unfold laws_putsOk.f
  repeat' first
      | (with_reducible exact ih0 _ _ _ _ _)
      | (with_reducible exact LeO.refl _)
      | (with_reducible exact LeO.none _)
      | (with_reducible refine LeO.ite ?_ ?_)
      | (with_reducible refine LeO.bind ?_ (fun _ => ?_))
      | exact ih0 _ _ _ _ _
      | exact LeO.none _
      | refine LeO.ite ?_ ?_
      | refine LeO.bind ?_ (fun _ => ?_)
set_option maxHeartbeats 8000000 in
set_option maxRecDepth 100000 in
theorem laws_putsOk.calls (k : Nat) (A0 : Option Addr) (c0 : Nat) (l0 : List Int) (A1 : Option Addr) (c1 : Nat) (l1 : List (S32)) (r : Bool) (w : World) (hr0 : Kd.C (Kd.int .u32) w A0 l0.length l0) (hc0 : l0.length ≤ c0) (hr1 : Kd.C k32 w A1 l1.length l1) (hc1 : l1.length ≤ c1) (h : laws_putsOk.f k l0 l1 = some r) :
    Calls Try.prog 12 #[.slice A0 l0.length c0, .slice A1 l1.length c1] w fun e w' => e = .returned (.bool r) ∧ Below w.heap.size w w' := by
  have hu32 := Try.underlying32
  have HR0 := Aside0.mk hr0
  have HC0 := Aside0.mk hc0
  clear hr0 hc0
  have HR1 := Aside0.mk hr1
  have HC1 := Aside0.mk hc1
  clear hr1 hc1
  have HB := Aside0.mk (Below.refl w.heap.size w)
  have H : (laws_putsOk.l0 k l0 l1 l1 (l1.length : Int) 0) = some r := h
  clear h
  have H' := Aside0.mk H
  clear H
  go_enter Try.func12, Try.ntmps12
  go_wp2
  go_loopg [9] k (fun kq v9 w' => ∃ (x9_1 : Int), v9 = .int .i64 x9_1 ∧ Aside0 (laws_putsOk.l0 kq l0 l1 l1 (l1.length : Int) x9_1 = some r) ∧ Aside0 (kq ≤ k) ∧ Aside0 (Below w.heap.size w w'))
  case atStart => exact ⟨(0), (by first | rfl | (simp; done) | (simp [*]; done)), H', ⟨Nat.le_refl _⟩, ⟨by repeat (first | (with_reducible first | exact HB.out | apply below_alloc | apply pw_below_drewN | apply below_drew1) | exact HB.out)⟩⟩
  case round =>
    clear H'
    try clear c1
    try clear p2
    obtain ⟨x9_1, rfl, HA, HK1, HB⟩ := hrel
    cases gk with
    | zero => exact absurd HA.out (by simp [laws_putsOk.l0])
    | succ k1 =>
      have H := HA.out
      clear HA
      simp only [laws_putsOk.l0] at H
      by_cases c3 : x9_1 < (l1.length : Int)
      · rw [if_pos c3] at H
        have c3b0 : decide (x9_1 < (l1.length : Int)) = true := decide_eq_true c3
        clear c3
        by_cases c4 : 0 ≤ x9_1
        · rw [if_pos c4] at H
          have c4b0 : decide (0 ≤ x9_1) = true := decide_eq_true c4
          clear c4
          by_cases c5 : x9_1 < (l1.length : Int)
          · rw [if_pos c5] at H
            have c5b0 : decide (x9_1 < (l1.length : Int)) = true := decide_eq_true c5
            clear c5
            by_cases c6 : (((rd_T32 l1 x9_1).f0).length : Int) < 1
            · rw [if_pos c6] at H
              have c6b0 : decide ((((rd_T32 l1 x9_1).f0).length : Int) < 1) = true := decide_eq_true c6
              have c6b1 : decide (((rd_T32 l1 x9_1).f0).length < 1) = true := decide_eq_true (by omega)
              clear c6
              obtain rfl := Option.some.inj H
              have p109 : 0 ≤ (x9_1 : Int) := of_decide_eq_true (by first | (with_reducible assumption) | assumption)
              have q109 : x9_1 < (l1.length : Int) := of_decide_eq_true (by first | (with_reducible assumption) | assumption)
              obtain ⟨ad109, A109_0, c109_0, A109_5, c109_5, e109, hx109_0, hx109_1, hx109_2, hx109_3, hx109_4, hx109_5, hl109_0, hi109_0, hl109_5, hi109_5⟩ := at_T32 HR1.out x9_1 p109 q109
              cases e109
              replace hx109_0 := (HB.out.cell (World.block_lt_of_cell? w _ hx109_0)).trans hx109_0
              replace hx109_1 := (HB.out.cell (World.block_lt_of_cell? w _ hx109_1)).trans hx109_1
              replace hx109_2 := (HB.out.cell (World.block_lt_of_cell? w _ hx109_2)).trans hx109_2
              replace hx109_3 := (HB.out.cell (World.block_lt_of_cell? w _ hx109_3)).trans hx109_3
              replace hx109_4 := (HB.out.cell (World.block_lt_of_cell? w _ hx109_4)).trans hx109_4
              replace hx109_5 := (HB.out.cell (World.block_lt_of_cell? w _ hx109_5)).trans hx109_5
              have HR109_0 := Aside0.mk hi109_0
              have HC109_0 := Aside0.mk hl109_0
              clear hi109_0 hl109_0
              have HR109_5 := Aside0.mk hi109_5
              have HC109_5 := Aside0.mk hl109_5
              clear hi109_5 hl109_5
              replace p109 := eq_true p109
              replace q109 := eq_true q109
              go_wp2_with (first | ((with_reducible refine gate_dst (N := 6) rfl ?_); (try (refine gate_guard (by rfl) ?_; dsimp only)); refine box_event ?hg (N := 6) ?hd (cs := #[.slice none 0 0, .int .u64 0, .int .u8 0, .int .u8 0, .int .u64 0, .slice none 0 0]) (t := 32) ?hr ?_; (case hd => rfl); (case hg => rfl); (case hr => first | (go_simp; done) | (go_simp; rfl)); intro gb110 hg w7 hbox hb; have n0_ := Aside0.mk (below_step (by repeat (first | (with_reducible first | exact HB.out | apply below_alloc | apply pw_below_drewN | apply below_drew1) | exact HB.out)) hb); have n1_ := Aside0.mk (hbox); have n2_ := Aside0.mk ((by rw [hg]; exact (below_size (by repeat (first | (with_reducible first | exact HB.out | apply below_alloc | apply pw_below_drewN | apply below_drew1) | exact HB.out))) : w.heap.size ≤ gb110)); have n3_ := Aside0.mk ((by rw [hg]; exact (below_size (by repeat (first | (with_reducible first | exact HB.out | apply below_alloc | apply pw_below_drewN | apply below_drew1) | exact HB.out))) : w.heap.size ≤ gb110)); clear HB; have HB := n0_; have BK110 := n1_; have GW110 := n2_; have GE110 := n3_; clear n0_ n1_ n2_ n3_; clear hb hbox hg; have hcz8_0 : w7.cell? ⟨gb110, 0, none⟩ = some (.slice none 0 0) := (blk_cell BK110.out 0).trans rfl; have hcz8_1 : w7.cell? ⟨gb110, 1, none⟩ = some (.int .u64 0) := (blk_cell BK110.out 1).trans rfl; have hcz8_2 : w7.cell? ⟨gb110, 2, none⟩ = some (.int .u8 0) := (blk_cell BK110.out 2).trans rfl; have hcz8_3 : w7.cell? ⟨gb110, 3, none⟩ = some (.int .u8 0) := (blk_cell BK110.out 3).trans rfl; have hcz8_4 : w7.cell? ⟨gb110, 4, none⟩ = some (.int .u64 0) := (blk_cell BK110.out 4).trans rfl; have hcz8_5 : w7.cell? ⟨gb110, 5, none⟩ = some (.slice none 0 0) := (blk_cell BK110.out 5).trans rfl; have hfz8_0 := blk_frozen BK110.out 0; have hfz8_1 := blk_frozen BK110.out 1; have hfz8_2 := blk_frozen BK110.out 2; have hfz8_3 := blk_frozen BK110.out 3; have hfz8_4 := blk_frozen BK110.out 4; have hfz8_5 := blk_frozen BK110.out 5))
              go_ret
              exact ⟨by first | rfl | (simp [errW_none, errW_some] <;> rfl) | (simp [*, errW_none, errW_some] <;> rfl), by repeat (first | (with_reducible first | exact HB.out | apply below_alloc | apply pw_below_drewN | apply below_drew1 | refine below_set ?_ GE110.out) | exact HB.out)⟩
            · rw [if_neg c6] at H
              have c6b0 : decide ((((rd_T32 l1 x9_1).f0).length : Int) < 1) = false := decide_eq_false c6
              have c6b1 : decide (((rd_T32 l1 x9_1).f0).length < 1) = false := decide_eq_false (by omega)
              clear c6
              by_cases c9 : (((rd_T32 l1 x9_1).f0).length : Int) > 40
              · rw [if_pos c9] at H
                have c9b0 : decide (40 < (((rd_T32 l1 x9_1).f0).length : Int)) = true := decide_eq_true c9
                have c9b1 : decide (40 < ((rd_T32 l1 x9_1).f0).length) = true := decide_eq_true (by omega)
                clear c9
                obtain rfl := Option.some.inj H
                have p109 : 0 ≤ (x9_1 : Int) := of_decide_eq_true (by first | (with_reducible assumption) | assumption)
                have q109 : x9_1 < (l1.length : Int) := of_decide_eq_true (by first | (with_reducible assumption) | assumption)
                obtain ⟨ad109, A109_0, c109_0, A109_5, c109_5, e109, hx109_0, hx109_1, hx109_2, hx109_3, hx109_4, hx109_5, hl109_0, hi109_0, hl109_5, hi109_5⟩ := at_T32 HR1.out x9_1 p109 q109
                cases e109
                replace hx109_0 := (HB.out.cell (World.block_lt_of_cell? w _ hx109_0)).trans hx109_0
                replace hx109_1 := (HB.out.cell (World.block_lt_of_cell? w _ hx109_1)).trans hx109_1
                replace hx109_2 := (HB.out.cell (World.block_lt_of_cell? w _ hx109_2)).trans hx109_2
                replace hx109_3 := (HB.out.cell (World.block_lt_of_cell? w _ hx109_3)).trans hx109_3
                replace hx109_4 := (HB.out.cell (World.block_lt_of_cell? w _ hx109_4)).trans hx109_4
                replace hx109_5 := (HB.out.cell (World.block_lt_of_cell? w _ hx109_5)).trans hx109_5
                have HR109_0 := Aside0.mk hi109_0
                have HC109_0 := Aside0.mk hl109_0
                clear hi109_0 hl109_0
                have HR109_5 := Aside0.mk hi109_5
                have HC109_5 := Aside0.mk hl109_5
                clear hi109_5 hl109_5
                replace p109 := eq_true p109
                replace q109 := eq_true q109
                go_wp2_with (first | ((with_reducible refine gate_dst (N := 6) rfl ?_); (try (refine gate_guard (by rfl) ?_; dsimp only)); refine box_event ?hg (N := 6) ?hd (cs := #[.slice none 0 0, .int .u64 0, .int .u8 0, .int .u8 0, .int .u64 0, .slice none 0 0]) (t := 32) ?hr ?_; (case hd => rfl); (case hg => rfl); (case hr => first | (go_simp; done) | (go_simp; rfl)); intro gb110 hg w10 hbox hb; have n0_ := Aside0.mk (below_step (by repeat (first | (with_reducible first | exact HB.out | apply below_alloc | apply pw_below_drewN | apply below_drew1) | exact HB.out)) hb); have n1_ := Aside0.mk (hbox); have n2_ := Aside0.mk ((by rw [hg]; exact (below_size (by repeat (first | (with_reducible first | exact HB.out | apply below_alloc | apply pw_below_drewN | apply below_drew1) | exact HB.out))) : w.heap.size ≤ gb110)); have n3_ := Aside0.mk ((by rw [hg]; exact (below_size (by repeat (first | (with_reducible first | exact HB.out | apply below_alloc | apply pw_below_drewN | apply below_drew1) | exact HB.out))) : w.heap.size ≤ gb110)); clear HB; have HB := n0_; have BK110 := n1_; have GW110 := n2_; have GE110 := n3_; clear n0_ n1_ n2_ n3_; clear hb hbox hg; have hcz11_0 : w10.cell? ⟨gb110, 0, none⟩ = some (.slice none 0 0) := (blk_cell BK110.out 0).trans rfl; have hcz11_1 : w10.cell? ⟨gb110, 1, none⟩ = some (.int .u64 0) := (blk_cell BK110.out 1).trans rfl; have hcz11_2 : w10.cell? ⟨gb110, 2, none⟩ = some (.int .u8 0) := (blk_cell BK110.out 2).trans rfl; have hcz11_3 : w10.cell? ⟨gb110, 3, none⟩ = some (.int .u8 0) := (blk_cell BK110.out 3).trans rfl; have hcz11_4 : w10.cell? ⟨gb110, 4, none⟩ = some (.int .u64 0) := (blk_cell BK110.out 4).trans rfl; have hcz11_5 : w10.cell? ⟨gb110, 5, none⟩ = some (.slice none 0 0) := (blk_cell BK110.out 5).trans rfl; have hfz11_0 := blk_frozen BK110.out 0; have hfz11_1 := blk_frozen BK110.out 1; have hfz11_2 := blk_frozen BK110.out 2; have hfz11_3 := blk_frozen BK110.out 3; have hfz11_4 := blk_frozen BK110.out 4; have hfz11_5 := blk_frozen BK110.out 5))
                go_ret
                exact ⟨by first | rfl | (simp [errW_none, errW_some] <;> rfl) | (simp [*, errW_none, errW_some] <;> rfl), by repeat (first | (with_reducible first | exact HB.out | apply below_alloc | apply pw_below_drewN | apply below_drew1 | refine below_set ?_ GE110.out) | exact HB.out)⟩
              · rw [if_neg c9] at H
                have c9b0 : decide (40 < (((rd_T32 l1 x9_1).f0).length : Int)) = false := decide_eq_false c9
                have c9b1 : decide (40 < ((rd_T32 l1 x9_1).f0).length) = false := decide_eq_false (by omega)
                clear c9
                by_cases c12 : (((rd_T32 l1 x9_1).f2.f3).length : Int) > 200
                · rw [if_pos c12] at H
                  have c12b0 : decide (200 < (((rd_T32 l1 x9_1).f2.f3).length : Int)) = true := decide_eq_true c12
                  have c12b1 : decide (200 < ((rd_T32 l1 x9_1).f2.f3).length) = true := decide_eq_true (by omega)
                  clear c12
                  obtain rfl := Option.some.inj H
                  have p109 : 0 ≤ (x9_1 : Int) := of_decide_eq_true (by first | (with_reducible assumption) | assumption)
                  have q109 : x9_1 < (l1.length : Int) := of_decide_eq_true (by first | (with_reducible assumption) | assumption)
                  obtain ⟨ad109, A109_0, c109_0, A109_5, c109_5, e109, hx109_0, hx109_1, hx109_2, hx109_3, hx109_4, hx109_5, hl109_0, hi109_0, hl109_5, hi109_5⟩ := at_T32 HR1.out x9_1 p109 q109
                  cases e109
                  replace hx109_0 := (HB.out.cell (World.block_lt_of_cell? w _ hx109_0)).trans hx109_0
                  replace hx109_1 := (HB.out.cell (World.block_lt_of_cell? w _ hx109_1)).trans hx109_1
                  replace hx109_2 := (HB.out.cell (World.block_lt_of_cell? w _ hx109_2)).trans hx109_2
                  replace hx109_3 := (HB.out.cell (World.block_lt_of_cell? w _ hx109_3)).trans hx109_3
                  replace hx109_4 := (HB.out.cell (World.block_lt_of_cell? w _ hx109_4)).trans hx109_4
                  replace hx109_5 := (HB.out.cell (World.block_lt_of_cell? w _ hx109_5)).trans hx109_5
                  have HR109_0 := Aside0.mk hi109_0
                  have HC109_0 := Aside0.mk hl109_0
                  clear hi109_0 hl109_0
                  have HR109_5 := Aside0.mk hi109_5
                  have HC109_5 := Aside0.mk hl109_5
                  clear hi109_5 hl109_5
                  replace p109 := eq_true p109
                  replace q109 := eq_true q109
                  go_wp2_with (first | ((with_reducible refine gate_dst (N := 6) rfl ?_); (try (refine gate_guard (by rfl) ?_; dsimp only)); refine box_event ?hg (N := 6) ?hd (cs := #[.slice none 0 0, .int .u64 0, .int .u8 0, .int .u8 0, .int .u64 0, .slice none 0 0]) (t := 32) ?hr ?_; (case hd => rfl); (case hg => rfl); (case hr => first | (go_simp; done) | (go_simp; rfl)); intro gb110 hg w13 hbox hb; have n0_ := Aside0.mk (below_step (by repeat (first | (with_reducible first | exact HB.out | apply below_alloc | apply pw_below_drewN | apply below_drew1) | exact HB.out)) hb); have n1_ := Aside0.mk (hbox); have n2_ := Aside0.mk ((by rw [hg]; exact (below_size (by repeat (first | (with_reducible first | exact HB.out | apply below_alloc | apply pw_below_drewN | apply below_drew1) | exact HB.out))) : w.heap.size ≤ gb110)); have n3_ := Aside0.mk ((by rw [hg]; exact (below_size (by repeat (first | (with_reducible first | exact HB.out | apply below_alloc | apply pw_below_drewN | apply below_drew1) | exact HB.out))) : w.heap.size ≤ gb110)); clear HB; have HB := n0_; have BK110 := n1_; have GW110 := n2_; have GE110 := n3_; clear n0_ n1_ n2_ n3_; clear hb hbox hg; have hcz14_0 : w13.cell? ⟨gb110, 0, none⟩ = some (.slice none 0 0) := (blk_cell BK110.out 0).trans rfl; have hcz14_1 : w13.cell? ⟨gb110, 1, none⟩ = some (.int .u64 0) := (blk_cell BK110.out 1).trans rfl; have hcz14_2 : w13.cell? ⟨gb110, 2, none⟩ = some (.int .u8 0) := (blk_cell BK110.out 2).trans rfl; have hcz14_3 : w13.cell? ⟨gb110, 3, none⟩ = some (.int .u8 0) := (blk_cell BK110.out 3).trans rfl; have hcz14_4 : w13.cell? ⟨gb110, 4, none⟩ = some (.int .u64 0) := (blk_cell BK110.out 4).trans rfl; have hcz14_5 : w13.cell? ⟨gb110, 5, none⟩ = some (.slice none 0 0) := (blk_cell BK110.out 5).trans rfl; have hfz14_0 := blk_frozen BK110.out 0; have hfz14_1 := blk_frozen BK110.out 1; have hfz14_2 := blk_frozen BK110.out 2; have hfz14_3 := blk_frozen BK110.out 3; have hfz14_4 := blk_frozen BK110.out 4; have hfz14_5 := blk_frozen BK110.out 5))
                  go_ret
                  exact ⟨by first | rfl | (simp [errW_none, errW_some] <;> rfl) | (simp [*, errW_none, errW_some] <;> rfl), by repeat (first | (with_reducible first | exact HB.out | apply below_alloc | apply pw_below_drewN | apply below_drew1 | refine below_set ?_ GE110.out) | exact HB.out)⟩
                · rw [if_neg c12] at H
                  have c12b0 : decide (200 < (((rd_T32 l1 x9_1).f2.f3).length : Int)) = false := decide_eq_false c12
                  have c12b1 : decide (200 < ((rd_T32 l1 x9_1).f2.f3).length) = false := decide_eq_false (by omega)
                  clear c12
                  have H' := Aside0.mk H
                  clear H
                  have p109 : 0 ≤ (x9_1 : Int) := of_decide_eq_true (by first | (with_reducible assumption) | assumption)
                  have q109 : x9_1 < (l1.length : Int) := of_decide_eq_true (by first | (with_reducible assumption) | assumption)
                  obtain ⟨ad109, A109_0, c109_0, A109_5, c109_5, e109, hx109_0, hx109_1, hx109_2, hx109_3, hx109_4, hx109_5, hl109_0, hi109_0, hl109_5, hi109_5⟩ := at_T32 HR1.out x9_1 p109 q109
                  cases e109
                  replace hx109_0 := (HB.out.cell (World.block_lt_of_cell? w _ hx109_0)).trans hx109_0
                  replace hx109_1 := (HB.out.cell (World.block_lt_of_cell? w _ hx109_1)).trans hx109_1
                  replace hx109_2 := (HB.out.cell (World.block_lt_of_cell? w _ hx109_2)).trans hx109_2
                  replace hx109_3 := (HB.out.cell (World.block_lt_of_cell? w _ hx109_3)).trans hx109_3
                  replace hx109_4 := (HB.out.cell (World.block_lt_of_cell? w _ hx109_4)).trans hx109_4
                  replace hx109_5 := (HB.out.cell (World.block_lt_of_cell? w _ hx109_5)).trans hx109_5
                  have HR109_0 := Aside0.mk hi109_0
                  have HC109_0 := Aside0.mk hl109_0
                  clear hi109_0 hl109_0
                  have HR109_5 := Aside0.mk hi109_5
                  have HC109_5 := Aside0.mk hl109_5
                  clear hi109_5 hl109_5
                  replace p109 := eq_true p109
                  replace q109 := eq_true q109
                  go_wp2_with (first | ((with_reducible refine gate_dst (N := 6) rfl ?_); (try (refine gate_guard (by rfl) ?_; dsimp only)); refine box_event ?hg (N := 6) ?hd (cs := #[.slice none 0 0, .int .u64 0, .int .u8 0, .int .u8 0, .int .u64 0, .slice none 0 0]) (t := 32) ?hr ?_; (case hd => rfl); (case hg => rfl); (case hr => first | (go_simp; done) | (go_simp; rfl)); intro gb110 hg w15 hbox hb; have n0_ := Aside0.mk (below_step (by repeat (first | (with_reducible first | exact HB.out | apply below_alloc | apply pw_below_drewN | apply below_drew1) | exact HB.out)) hb); have n1_ := Aside0.mk (hbox); have n2_ := Aside0.mk ((by rw [hg]; exact (below_size (by repeat (first | (with_reducible first | exact HB.out | apply below_alloc | apply pw_below_drewN | apply below_drew1) | exact HB.out))) : w.heap.size ≤ gb110)); have n3_ := Aside0.mk ((by rw [hg]; exact (below_size (by repeat (first | (with_reducible first | exact HB.out | apply below_alloc | apply pw_below_drewN | apply below_drew1) | exact HB.out))) : w.heap.size ≤ gb110)); clear HB; have HB := n0_; have BK110 := n1_; have GW110 := n2_; have GE110 := n3_; clear n0_ n1_ n2_ n3_; clear hb hbox hg; have hcz16_0 : w15.cell? ⟨gb110, 0, none⟩ = some (.slice none 0 0) := (blk_cell BK110.out 0).trans rfl; have hcz16_1 : w15.cell? ⟨gb110, 1, none⟩ = some (.int .u64 0) := (blk_cell BK110.out 1).trans rfl; have hcz16_2 : w15.cell? ⟨gb110, 2, none⟩ = some (.int .u8 0) := (blk_cell BK110.out 2).trans rfl; have hcz16_3 : w15.cell? ⟨gb110, 3, none⟩ = some (.int .u8 0) := (blk_cell BK110.out 3).trans rfl; have hcz16_4 : w15.cell? ⟨gb110, 4, none⟩ = some (.int .u64 0) := (blk_cell BK110.out 4).trans rfl; have hcz16_5 : w15.cell? ⟨gb110, 5, none⟩ = some (.slice none 0 0) := (blk_cell BK110.out 5).trans rfl; have hfz16_0 := blk_frozen BK110.out 0; have hfz16_1 := blk_frozen BK110.out 1; have hfz16_2 := blk_frozen BK110.out 2; have hfz16_3 := blk_frozen BK110.out 3; have hfz16_4 := blk_frozen BK110.out 4; have hfz16_5 := blk_frozen BK110.out 5))
                  go_roundg k1
                  case measure => have := HK1.out; omega
                  case rel => exact ⟨(wrap64 (x9_1 + 1)), (by first | rfl | (simp; done) | (simp [*]; done)), H', ⟨by have := HK1.out; omega⟩, ⟨by repeat (first | (with_reducible first | exact HB.out | apply below_alloc | apply pw_below_drewN | apply below_drew1 | refine below_set ?_ GE110.out) | exact HB.out)⟩⟩
          · rw [if_neg c5] at H
            exact absurd H (by simp)
        · rw [if_neg c4] at H
          exact absurd H (by simp)
      · rw [if_neg c3] at H
        have c3b0 : decide (x9_1 < (l1.length : Int)) = false := decide_eq_false c3
        clear c3
        by_cases c17 : (l1.length : Int) ≤ 80
        · rw [if_pos c17] at H
          have c17b0 : decide ((l1.length : Int) ≤ 80) = true := decide_eq_true c17
          have c17b1 : decide (l1.length ≤ 80) = true := decide_eq_true (by omega)
          clear c17
          by_cases c18 : (l0.length : Int) ≥ 1
          · rw [if_pos c18] at H
            have c18b0 : decide (1 ≤ (l0.length : Int)) = true := decide_eq_true c18
            have c18b1 : decide (1 ≤ l0.length) = true := decide_eq_true (by omega)
            clear c18
            obtain rfl := Option.some.inj H
            go_wp2
            go_ret
            exact ⟨by first | rfl | (simp [errW_none, errW_some] <;> rfl) | (simp [*, errW_none, errW_some] <;> rfl), by repeat (first | (with_reducible first | exact HB.out | apply below_alloc | apply pw_below_drewN | apply below_drew1) | exact HB.out)⟩
          · rw [if_neg c18] at H
            have c18b0 : decide (1 ≤ (l0.length : Int)) = false := decide_eq_false c18
            have c18b1 : decide (1 ≤ l0.length) = false := decide_eq_false (by omega)
            clear c18
            obtain rfl := Option.some.inj H
            go_wp2
            go_ret
            exact ⟨by first | rfl | (simp [errW_none, errW_some] <;> rfl) | (simp [*, errW_none, errW_some] <;> rfl), by repeat (first | (with_reducible first | exact HB.out | apply below_alloc | apply pw_below_drewN | apply below_drew1) | exact HB.out)⟩
        · rw [if_neg c17] at H
          have c17b0 : decide ((l1.length : Int) ≤ 80) = false := decide_eq_false c17
          have c17b1 : decide (l1.length ≤ 80) = false := decide_eq_false (by omega)
          clear c17
          obtain rfl := Option.some.inj H
          go_wp2
          go_ret
          exact ⟨by first | rfl | (simp [errW_none, errW_some] <;> rfl) | (simp [*, errW_none, errW_some] <;> rfl), by repeat (first | (with_reducible first | exact HB.out | apply below_alloc | apply pw_below_drewN | apply below_drew1) | exact HB.out)⟩

/-! ### laws_zzFits4: function 65 -/
def laws_zzFits4.f (a0_0 : Int) (a0_1 : Int) (a0_2 : Int) (l0_3 : List Int) : Option (Bool) := if (l0_3.length : Int) > 2147483647 then (some false) else (some true)
set_option maxHeartbeats 8000000 in
set_option maxRecDepth 100000 in
theorem laws_zzFits4.calls (a0_0 : Int) (a0_1 : Int) (a0_2 : Int) (A0_3 : Option Addr) (c0_3 : Nat) (l0_3 : List Int) (r : Bool) (w : World) (hr0_3 : Kd.C (Kd.int .u8) w A0_3 l0_3.length l0_3) (hc0_3 : l0_3.length ≤ c0_3) (h : laws_zzFits4.f a0_0 a0_1 a0_2 l0_3 = some r) :
    Calls Try.prog 65 #[.agg #[.int .u8 a0_0, .int .u8 a0_1, .int .u64 a0_2, .slice A0_3 l0_3.length c0_3]] w fun e w' => e = .returned (.bool r) ∧ Below w.heap.size w w' := by
  have hu30 := Try.underlying30
  have HR0_3 := Aside0.mk hr0_3
  have HC0_3 := Aside0.mk hc0_3
  clear hr0_3 hc0_3
  have HB := Aside0.mk (Below.refl w.heap.size w)
  have H : (if (l0_3.length : Int) > 2147483647 then (some false) else (some true)) = some r := h
  clear h
  by_cases c2 : (l0_3.length : Int) > 2147483647
  · rw [if_pos c2] at H
    have c2b0 : decide (2147483647 < (l0_3.length : Int)) = true := decide_eq_true c2
    have c2b1 : decide (2147483647 < l0_3.length) = true := decide_eq_true (by omega)
    clear c2
    obtain rfl := Option.some.inj H
    go_enter Try.func65, Try.ntmps65
    go_wp2_with (first | ((with_reducible refine gate_dst (N := 1) rfl ?_); refine box_event ?hg (N := 1) ?hd (cs := #[.int .u8 a0_0, .int .u8 a0_1, .int .u64 a0_2, .slice A0_3 l0_3.length c0_3]) (t := 30) ?hr ?_; (case hd => rfl); (case hg => rfl); (case hr => first | (go_simp; done) | (go_simp; rfl)); intro gb111 hg w3 hbox hb; have n0_ := Aside0.mk (below_step (by repeat (first | (with_reducible first | exact HB.out | apply below_alloc | apply pw_below_drewN | apply below_drew1) | exact HB.out)) hb); have n1_ := Aside0.mk (hbox); have n2_ := Aside0.mk ((by rw [hg]; exact (below_size (by repeat (first | (with_reducible first | exact HB.out | apply below_alloc | apply pw_below_drewN | apply below_drew1) | exact HB.out))) : w.heap.size ≤ gb111)); have n3_ := Aside0.mk ((by rw [hg]; exact (below_size (by repeat (first | (with_reducible first | exact HB.out | apply below_alloc | apply pw_below_drewN | apply below_drew1) | exact HB.out))) : w.heap.size ≤ gb111)); clear HB; have HB := n0_; have BK111 := n1_; have GW111 := n2_; have GE111 := n3_; clear n0_ n1_ n2_ n3_; clear hb hbox hg; have hcz4_0 : w3.cell? ⟨gb111, 0, none⟩ = some (.int .u8 a0_0) := (blk_cell BK111.out 0).trans rfl; have hcz4_1 : w3.cell? ⟨gb111, 1, none⟩ = some (.int .u8 a0_1) := (blk_cell BK111.out 1).trans rfl; have hcz4_2 : w3.cell? ⟨gb111, 2, none⟩ = some (.int .u64 a0_2) := (blk_cell BK111.out 2).trans rfl; have hcz4_3 : w3.cell? ⟨gb111, 3, none⟩ = some (.slice A0_3 l0_3.length c0_3) := (blk_cell BK111.out 3).trans rfl; have hfz4_0 := blk_frozen BK111.out 0; have hfz4_1 := blk_frozen BK111.out 1; have hfz4_2 := blk_frozen BK111.out 2; have hfz4_3 := blk_frozen BK111.out 3))
    go_ret
    exact ⟨by first | rfl | (simp [errW_none, errW_some] <;> rfl) | (simp [*, errW_none, errW_some] <;> rfl), by repeat (first | (with_reducible first | exact HB.out | apply below_alloc | apply pw_below_drewN | apply below_drew1 | refine below_set ?_ GE111.out) | exact HB.out)⟩
  · rw [if_neg c2] at H
    have c2b0 : decide (2147483647 < (l0_3.length : Int)) = false := decide_eq_false c2
    have c2b1 : decide (2147483647 < l0_3.length) = false := decide_eq_false (by omega)
    clear c2
    obtain rfl := Option.some.inj H
    go_enter Try.func65, Try.ntmps65
    go_wp2_with (first | ((with_reducible refine gate_dst (N := 1) rfl ?_); refine box_event ?hg (N := 1) ?hd (cs := #[.int .u8 a0_0, .int .u8 a0_1, .int .u64 a0_2, .slice A0_3 l0_3.length c0_3]) (t := 30) ?hr ?_; (case hd => rfl); (case hg => rfl); (case hr => first | (go_simp; done) | (go_simp; rfl)); intro gb111 hg w5 hbox hb; have n0_ := Aside0.mk (below_step (by repeat (first | (with_reducible first | exact HB.out | apply below_alloc | apply pw_below_drewN | apply below_drew1) | exact HB.out)) hb); have n1_ := Aside0.mk (hbox); have n2_ := Aside0.mk ((by rw [hg]; exact (below_size (by repeat (first | (with_reducible first | exact HB.out | apply below_alloc | apply pw_below_drewN | apply below_drew1) | exact HB.out))) : w.heap.size ≤ gb111)); have n3_ := Aside0.mk ((by rw [hg]; exact (below_size (by repeat (first | (with_reducible first | exact HB.out | apply below_alloc | apply pw_below_drewN | apply below_drew1) | exact HB.out))) : w.heap.size ≤ gb111)); clear HB; have HB := n0_; have BK111 := n1_; have GW111 := n2_; have GE111 := n3_; clear n0_ n1_ n2_ n3_; clear hb hbox hg; have hcz6_0 : w5.cell? ⟨gb111, 0, none⟩ = some (.int .u8 a0_0) := (blk_cell BK111.out 0).trans rfl; have hcz6_1 : w5.cell? ⟨gb111, 1, none⟩ = some (.int .u8 a0_1) := (blk_cell BK111.out 1).trans rfl; have hcz6_2 : w5.cell? ⟨gb111, 2, none⟩ = some (.int .u64 a0_2) := (blk_cell BK111.out 2).trans rfl; have hcz6_3 : w5.cell? ⟨gb111, 3, none⟩ = some (.slice A0_3 l0_3.length c0_3) := (blk_cell BK111.out 3).trans rfl; have hfz6_0 := blk_frozen BK111.out 0; have hfz6_1 := blk_frozen BK111.out 1; have hfz6_2 := blk_frozen BK111.out 2; have hfz6_3 := blk_frozen BK111.out 3))
    go_ret
    exact ⟨by first | rfl | (simp [errW_none, errW_some] <;> rfl) | (simp [*, errW_none, errW_some] <;> rfl), by repeat (first | (with_reducible first | exact HB.out | apply below_alloc | apply pw_below_drewN | apply below_drew1 | refine below_set ?_ GE111.out) | exact HB.out)⟩

/-! ### laws_zzFits3: function 29 -/
def laws_zzFits3.f (l0_0 : List Int) (a0_1 : Int) (a0_2 : Int) (a0_3 : Int) (a0_4 : Int) (l0_5 : List Int) : Option (Bool) := if (l0_0.length : Int) > 2147483647 then (some false) else ((laws_zzFits4.f a0_2 a0_3 a0_4 l0_5).bind fun t113 => (if t113 = true then (some true) else (some false)))
set_option maxHeartbeats 8000000 in
set_option maxRecDepth 100000 in
theorem laws_zzFits3.calls (A0_0 : Option Addr) (c0_0 : Nat) (l0_0 : List Int) (a0_1 : Int) (a0_2 : Int) (a0_3 : Int) (a0_4 : Int) (A0_5 : Option Addr) (c0_5 : Nat) (l0_5 : List Int) (r : Bool) (w : World) (hr0_0 : Kd.C (Kd.int .u8) w A0_0 l0_0.length l0_0) (hc0_0 : l0_0.length ≤ c0_0) (hr0_5 : Kd.C (Kd.int .u8) w A0_5 l0_5.length l0_5) (hc0_5 : l0_5.length ≤ c0_5) (h : laws_zzFits3.f l0_0 a0_1 a0_2 a0_3 a0_4 l0_5 = some r) :
    Calls Try.prog 29 #[.agg #[.slice A0_0 l0_0.length c0_0, .int .u64 a0_1, .int .u8 a0_2, .int .u8 a0_3, .int .u64 a0_4, .slice A0_5 l0_5.length c0_5]] w fun e w' => e = .returned (.bool r) ∧ Below w.heap.size w w' := by
  have hu32 := Try.underlying32
  have hu30 := Try.underlying30
  have HR0_0 := Aside0.mk hr0_0
  have HC0_0 := Aside0.mk hc0_0
  clear hr0_0 hc0_0
  have HR0_5 := Aside0.mk hr0_5
  have HC0_5 := Aside0.mk hc0_5
  clear hr0_5 hc0_5
  have HB := Aside0.mk (Below.refl w.heap.size w)
  have H : (if (l0_0.length : Int) > 2147483647 then (some false) else ((laws_zzFits4.f a0_2 a0_3 a0_4 l0_5).bind fun t113 => (if t113 = true then (some true) else (some false)))) = some r := h
  clear h
  by_cases c2 : (l0_0.length : Int) > 2147483647
  · rw [if_pos c2] at H
    have c2b0 : decide (2147483647 < (l0_0.length : Int)) = true := decide_eq_true c2
    have c2b1 : decide (2147483647 < l0_0.length) = true := decide_eq_true (by omega)
    clear c2
    obtain rfl := Option.some.inj H
    go_enter Try.func29, Try.ntmps29
    go_wp2_with (first | ((with_reducible refine gate_dst (N := 1) rfl ?_); refine box_event ?hg (N := 1) ?hd (cs := #[.slice A0_0 l0_0.length c0_0, .int .u64 a0_1, .int .u8 a0_2, .int .u8 a0_3, .int .u64 a0_4, .slice A0_5 l0_5.length c0_5]) (t := 32) ?hr ?_; (case hd => rfl); (case hg => rfl); (case hr => first | (go_simp; done) | (go_simp; rfl)); intro gb112 hg w3 hbox hb; have n0_ := Aside0.mk (below_step (by repeat (first | (with_reducible first | exact HB.out | apply below_alloc | apply pw_below_drewN | apply below_drew1) | exact HB.out)) hb); have n1_ := Aside0.mk (hbox); have n2_ := Aside0.mk ((by rw [hg]; exact (below_size (by repeat (first | (with_reducible first | exact HB.out | apply below_alloc | apply pw_below_drewN | apply below_drew1) | exact HB.out))) : w.heap.size ≤ gb112)); have n3_ := Aside0.mk ((by rw [hg]; exact (below_size (by repeat (first | (with_reducible first | exact HB.out | apply below_alloc | apply pw_below_drewN | apply below_drew1) | exact HB.out))) : w.heap.size ≤ gb112)); clear HB; have HB := n0_; have BK112 := n1_; have GW112 := n2_; have GE112 := n3_; clear n0_ n1_ n2_ n3_; clear hb hbox hg; have hcz4_0 : w3.cell? ⟨gb112, 0, none⟩ = some (.slice A0_0 l0_0.length c0_0) := (blk_cell BK112.out 0).trans rfl; have hcz4_1 : w3.cell? ⟨gb112, 1, none⟩ = some (.int .u64 a0_1) := (blk_cell BK112.out 1).trans rfl; have hcz4_2 : w3.cell? ⟨gb112, 2, none⟩ = some (.int .u8 a0_2) := (blk_cell BK112.out 2).trans rfl; have hcz4_3 : w3.cell? ⟨gb112, 3, none⟩ = some (.int .u8 a0_3) := (blk_cell BK112.out 3).trans rfl; have hcz4_4 : w3.cell? ⟨gb112, 4, none⟩ = some (.int .u64 a0_4) := (blk_cell BK112.out 4).trans rfl; have hcz4_5 : w3.cell? ⟨gb112, 5, none⟩ = some (.slice A0_5 l0_5.length c0_5) := (blk_cell BK112.out 5).trans rfl; have hfz4_0 := blk_frozen BK112.out 0; have hfz4_1 := blk_frozen BK112.out 1; have hfz4_2 := blk_frozen BK112.out 2; have hfz4_3 := blk_frozen BK112.out 3; have hfz4_4 := blk_frozen BK112.out 4; have hfz4_5 := blk_frozen BK112.out 5))
    go_ret
    exact ⟨by first | rfl | (simp [errW_none, errW_some] <;> rfl) | (simp [*, errW_none, errW_some] <;> rfl), by repeat (first | (with_reducible first | exact HB.out | apply below_alloc | apply pw_below_drewN | apply below_drew1 | refine below_set ?_ GE112.out) | exact HB.out)⟩
  · rw [if_neg c2] at H
    have c2b0 : decide (2147483647 < (l0_0.length : Int)) = false := decide_eq_false c2
    have c2b1 : decide (2147483647 < l0_0.length) = false := decide_eq_false (by omega)
    clear c2
    replace H := Option.bind_eq_some_iff.mp H
    obtain ⟨t113, A50, H⟩ := H
    replace H : (if t113 = true then (some true) else (some false)) = some r := H
    have A5 := Aside0.mk A50
    clear A50
    by_cases c6 : t113 = true
    · subst c6
      have H1 : (some true) = some r := by rw [if_pos rfl] at H; exact H
      clear H
      have H := H1
      clear H1
      obtain rfl := Option.some.inj H
      go_enter Try.func29, Try.ntmps29
      go_wp2_with (first | ((with_reducible refine gate_dst (N := 1) rfl ?_); refine box_event ?hg (N := 1) ?hd (cs := #[.slice A0_0 l0_0.length c0_0, .int .u64 a0_1, .int .u8 a0_2, .int .u8 a0_3, .int .u64 a0_4, .slice A0_5 l0_5.length c0_5]) (t := 32) ?hr ?_; (case hd => rfl); (case hg => rfl); (case hr => first | (go_simp; done) | (go_simp; rfl)); intro gb112 hg w7 hbox hb; have n0_ := Aside0.mk (below_step (by repeat (first | (with_reducible first | exact HB.out | apply below_alloc | apply pw_below_drewN | apply below_drew1) | exact HB.out)) hb); have n1_ := Aside0.mk (hbox); have n2_ := Aside0.mk ((by rw [hg]; exact (below_size (by repeat (first | (with_reducible first | exact HB.out | apply below_alloc | apply pw_below_drewN | apply below_drew1) | exact HB.out))) : w.heap.size ≤ gb112)); have n3_ := Aside0.mk ((by rw [hg]; exact (below_size (by repeat (first | (with_reducible first | exact HB.out | apply below_alloc | apply pw_below_drewN | apply below_drew1) | exact HB.out))) : w.heap.size ≤ gb112)); clear HB; have HB := n0_; have BK112 := n1_; have GW112 := n2_; have GE112 := n3_; clear n0_ n1_ n2_ n3_; clear hb hbox hg; have hcz8_0 : w7.cell? ⟨gb112, 0, none⟩ = some (.slice A0_0 l0_0.length c0_0) := (blk_cell BK112.out 0).trans rfl; have hcz8_1 : w7.cell? ⟨gb112, 1, none⟩ = some (.int .u64 a0_1) := (blk_cell BK112.out 1).trans rfl; have hcz8_2 : w7.cell? ⟨gb112, 2, none⟩ = some (.int .u8 a0_2) := (blk_cell BK112.out 2).trans rfl; have hcz8_3 : w7.cell? ⟨gb112, 3, none⟩ = some (.int .u8 a0_3) := (blk_cell BK112.out 3).trans rfl; have hcz8_4 : w7.cell? ⟨gb112, 4, none⟩ = some (.int .u64 a0_4) := (blk_cell BK112.out 4).trans rfl; have hcz8_5 : w7.cell? ⟨gb112, 5, none⟩ = some (.slice A0_5 l0_5.length c0_5) := (blk_cell BK112.out 5).trans rfl; have hfz8_0 := blk_frozen BK112.out 0; have hfz8_1 := blk_frozen BK112.out 1; have hfz8_2 := blk_frozen BK112.out 2; have hfz8_3 := blk_frozen BK112.out 3; have hfz8_4 := blk_frozen BK112.out 4; have hfz8_5 := blk_frozen BK112.out 5) | ((with_reducible refine gate_callee (f := 65) rfl ?_); refine goesL_ (some 9) rfl rfl Try.func65 (by kernel_rfl) rfl #[.agg #[.int .u8 a0_2, .int .u8 a0_3, .int .u64 a0_4, .slice A0_5 l0_5.length c0_5]] rfl (by (try simp only [List.map_toArray, List.map_cons, List.map_nil]); first | done | rfl | (simp only [List.length_drop, List.length_take]; rfl)) ?_; (with_reducible refine (laws_zzFits4.calls a0_2 a0_3 a0_4 _ _ l0_5 true _ ?side1 ?side2 A5.out).mono ?_); (case side1 => repeat (first | exact (Kd.C_below HR0_5.out HB.out) | (with_reducible refine Kd.C_alloc ?_ _) | (with_reducible refine Kd.C_drewN ?_ _) | (with_reducible refine Kd.C_drew ?_))); (case side2 => exact HC0_5.out); rintro e w9 ⟨rfl, hb⟩; refine ⟨_, rfl, ?_⟩; have n0_ := Aside0.mk (blk_below (g := gb112) (o := .cells #[.slice A0_0 l0_0.length c0_0, .int .u64 a0_1, .int .u8 a0_2, .int .u8 a0_3, .int .u64 a0_4, .slice A0_5 l0_5.length c0_5] 32 (0, 0)) (by (with_reducible repeat (first | refine blk_drewN ?_ _ | refine blk_drew ?_ | refine blk_alloc ?_ _)); exact BK112.out) hb); have n1_ := Aside0.mk (below_step (by repeat (first | (with_reducible first | exact HB.out | apply below_alloc | apply pw_below_drewN | apply below_drew1 | refine below_set ?_ GE112.out) | exact HB.out)) hb); clear BK112; clear HB; have BK112 := n0_; have HB := n1_; clear n0_ n1_; (try clear hb); (try clear hb2); (try clear hk); (try clear hi)))
      go_ret
      exact ⟨by first | rfl | (simp [errW_none, errW_some] <;> rfl) | (simp [*, errW_none, errW_some] <;> rfl), by repeat (first | (with_reducible first | exact HB.out | apply below_alloc | apply pw_below_drewN | apply below_drew1 | refine below_set ?_ GE112.out) | exact HB.out)⟩
    · replace c6 := Bool.eq_false_iff.mpr c6
      subst c6
      have H1 : (some false) = some r := by rw [if_neg (show ¬ (false = true) by decide)] at H; exact H
      clear H
      have H := H1
      clear H1
      obtain rfl := Option.some.inj H
      go_enter Try.func29, Try.ntmps29
      go_wp2_with (first | ((with_reducible refine gate_dst (N := 1) rfl ?_); refine box_event ?hg (N := 1) ?hd (cs := #[.slice A0_0 l0_0.length c0_0, .int .u64 a0_1, .int .u8 a0_2, .int .u8 a0_3, .int .u64 a0_4, .slice A0_5 l0_5.length c0_5]) (t := 32) ?hr ?_; (case hd => rfl); (case hg => rfl); (case hr => first | (go_simp; done) | (go_simp; rfl)); intro gb112 hg w10 hbox hb; have n0_ := Aside0.mk (below_step (by repeat (first | (with_reducible first | exact HB.out | apply below_alloc | apply pw_below_drewN | apply below_drew1) | exact HB.out)) hb); have n1_ := Aside0.mk (hbox); have n2_ := Aside0.mk ((by rw [hg]; exact (below_size (by repeat (first | (with_reducible first | exact HB.out | apply below_alloc | apply pw_below_drewN | apply below_drew1) | exact HB.out))) : w.heap.size ≤ gb112)); have n3_ := Aside0.mk ((by rw [hg]; exact (below_size (by repeat (first | (with_reducible first | exact HB.out | apply below_alloc | apply pw_below_drewN | apply below_drew1) | exact HB.out))) : w.heap.size ≤ gb112)); clear HB; have HB := n0_; have BK112 := n1_; have GW112 := n2_; have GE112 := n3_; clear n0_ n1_ n2_ n3_; clear hb hbox hg; have hcz11_0 : w10.cell? ⟨gb112, 0, none⟩ = some (.slice A0_0 l0_0.length c0_0) := (blk_cell BK112.out 0).trans rfl; have hcz11_1 : w10.cell? ⟨gb112, 1, none⟩ = some (.int .u64 a0_1) := (blk_cell BK112.out 1).trans rfl; have hcz11_2 : w10.cell? ⟨gb112, 2, none⟩ = some (.int .u8 a0_2) := (blk_cell BK112.out 2).trans rfl; have hcz11_3 : w10.cell? ⟨gb112, 3, none⟩ = some (.int .u8 a0_3) := (blk_cell BK112.out 3).trans rfl; have hcz11_4 : w10.cell? ⟨gb112, 4, none⟩ = some (.int .u64 a0_4) := (blk_cell BK112.out 4).trans rfl; have hcz11_5 : w10.cell? ⟨gb112, 5, none⟩ = some (.slice A0_5 l0_5.length c0_5) := (blk_cell BK112.out 5).trans rfl; have hfz11_0 := blk_frozen BK112.out 0; have hfz11_1 := blk_frozen BK112.out 1; have hfz11_2 := blk_frozen BK112.out 2; have hfz11_3 := blk_frozen BK112.out 3; have hfz11_4 := blk_frozen BK112.out 4; have hfz11_5 := blk_frozen BK112.out 5) | ((with_reducible refine gate_callee (f := 65) rfl ?_); refine goesL_ (some 9) rfl rfl Try.func65 (by kernel_rfl) rfl #[.agg #[.int .u8 a0_2, .int .u8 a0_3, .int .u64 a0_4, .slice A0_5 l0_5.length c0_5]] rfl (by (try simp only [List.map_toArray, List.map_cons, List.map_nil]); first | done | rfl | (simp only [List.length_drop, List.length_take]; rfl)) ?_; (with_reducible refine (laws_zzFits4.calls a0_2 a0_3 a0_4 _ _ l0_5 false _ ?side1 ?side2 A5.out).mono ?_); (case side1 => repeat (first | exact (Kd.C_below HR0_5.out HB.out) | (with_reducible refine Kd.C_alloc ?_ _) | (with_reducible refine Kd.C_drewN ?_ _) | (with_reducible refine Kd.C_drew ?_))); (case side2 => exact HC0_5.out); rintro e w12 ⟨rfl, hb⟩; refine ⟨_, rfl, ?_⟩; have n0_ := Aside0.mk (blk_below (g := gb112) (o := .cells #[.slice A0_0 l0_0.length c0_0, .int .u64 a0_1, .int .u8 a0_2, .int .u8 a0_3, .int .u64 a0_4, .slice A0_5 l0_5.length c0_5] 32 (0, 0)) (by (with_reducible repeat (first | refine blk_drewN ?_ _ | refine blk_drew ?_ | refine blk_alloc ?_ _)); exact BK112.out) hb); have n1_ := Aside0.mk (below_step (by repeat (first | (with_reducible first | exact HB.out | apply below_alloc | apply pw_below_drewN | apply below_drew1 | refine below_set ?_ GE112.out) | exact HB.out)) hb); clear BK112; clear HB; have BK112 := n0_; have HB := n1_; clear n0_ n1_; (try clear hb); (try clear hb2); (try clear hk); (try clear hi)))
      go_ret
      exact ⟨by first | rfl | (simp [errW_none, errW_some] <;> rfl) | (simp [*, errW_none, errW_some] <;> rfl), by repeat (first | (with_reducible first | exact HB.out | apply below_alloc | apply pw_below_drewN | apply below_drew1 | refine below_set ?_ GE112.out) | exact HB.out)⟩

/-! ### laws_zzFits2: function 11 -/
def laws_zzFits2.l0 : Nat → List (S32) → Int → Int → Option (Bool)
  | 0, _, _, _ => none
  | k + 1, x8, x9, x10 => if x10 < x9 then (if 0 ≤ x10 then (if x10 < (x8.length : Int) then ((laws_zzFits3.f ((rd_T32 x8 x10).f0) ((rd_T32 x8 x10).f1) ((rd_T32 x8 x10).f2.f0) ((rd_T32 x8 x10).f2.f1) ((rd_T32 x8 x10).f2.f2) ((rd_T32 x8 x10).f2.f3)).bind fun t116 => (if t116 = true then (laws_zzFits2.l0 k x8 x9 (wrap64 (x10 + 1))) else (some false))) else (none)) else (none)) else (some true)
def laws_zzFits2.f (k : Nat) (l0 : List (S32)) : Option (Bool) := if (l0.length : Int) > 2147483647 then (some false) else (laws_zzFits2.l0 k l0 (l0.length : Int) 0)
theorem laws_zzFits2.mono_l : ∀ k, (∀ y0 y1 y2, LeO (laws_zzFits2.l0 k y0 y1 y2) (laws_zzFits2.l0 (k + 1) y0 y1 y2))
  | 0 => fun _ _ _ r h => by simp [laws_zzFits2.l0] at h
  | k + 1 => by
    have ih0 := laws_zzFits2.mono_l k
    · intro y0 y1 y2
      unfold laws_zzFits2.l0
      repeat' first
      | (with_reducible exact ih0 _ _ _)
      | (with_reducible exact LeO.refl _)
      | (with_reducible exact LeO.none _)
      | (with_reducible refine LeO.ite ?_ ?_)
      | (with_reducible refine LeO.bind ?_ (fun _ => ?_))
      | exact ih0 _ _ _
      | exact LeO.none _
      | refine LeO.ite ?_ ?_
      | refine LeO.bind ?_ (fun _ => ?_)
theorem laws_zzFits2.mono : ∀ a0 k, LeO (laws_zzFits2.f k a0) (laws_zzFits2.f (k + 1) a0) := by
  intro a0 k
  have ih0 := laws_zzFits2.mono_l k
  unfold laws_zzFits2.f
  repeat' first
      | (with_reducible exact ih0 _ _ _)
      | (with_reducible exact LeO.refl _)
      | (with_reducible exact LeO.none _)
      | (with_reducible refine LeO.ite ?_ ?_)
      | (with_reducible refine LeO.bind ?_ (fun _ => ?_))
      | exact ih0 _ _ _
      | exact LeO.none _
      | refine LeO.ite ?_ ?_
      | refine LeO.bind ?_ (fun _ => ?_)
set_option maxHeartbeats 8000000 in
set_option maxRecDepth 100000 in
theorem laws_zzFits2.calls (k : Nat) (A0 : Option Addr) (c0 : Nat) (l0 : List (S32)) (r : Bool) (w : World) (hr0 : Kd.C k32 w A0 l0.length l0) (hc0 : l0.length ≤ c0) (h : laws_zzFits2.f k l0 = some r) :
    Calls Try.prog 11 #[.slice A0 l0.length c0] w fun e w' => e = .returned (.bool r) ∧ Below w.heap.size w w' := by
  have hu32 := Try.underlying32
  have HR0 := Aside0.mk hr0
  have HC0 := Aside0.mk hc0
  clear hr0 hc0
  have HB := Aside0.mk (Below.refl w.heap.size w)
  have H : (if (l0.length : Int) > 2147483647 then (some false) else (laws_zzFits2.l0 k l0 (l0.length : Int) 0)) = some r := h
  clear h
  by_cases c2 : (l0.length : Int) > 2147483647
  · rw [if_pos c2] at H
    have c2b0 : decide (2147483647 < (l0.length : Int)) = true := decide_eq_true c2
    have c2b1 : decide (2147483647 < l0.length) = true := decide_eq_true (by omega)
    clear c2
    obtain rfl := Option.some.inj H
    go_enter Try.func11, Try.ntmps11
    go_wp2
    go_ret
    exact ⟨by first | rfl | (simp [errW_none, errW_some] <;> rfl) | (simp [*, errW_none, errW_some] <;> rfl), by repeat (first | (with_reducible first | exact HB.out | apply below_alloc | apply pw_below_drewN | apply below_drew1) | exact HB.out)⟩
  · rw [if_neg c2] at H
    have c2b0 : decide (2147483647 < (l0.length : Int)) = false := decide_eq_false c2
    have c2b1 : decide (2147483647 < l0.length) = false := decide_eq_false (by omega)
    clear c2
    have H' := Aside0.mk H
    clear H
    go_enter Try.func11, Try.ntmps11
    go_wp2
    go_loopg [10] k (fun kq v10 w' => ∃ (x10_1 : Int), v10 = .int .i64 x10_1 ∧ Aside0 (laws_zzFits2.l0 kq l0 (l0.length : Int) x10_1 = some r) ∧ Aside0 (kq ≤ k) ∧ Aside0 (Below w.heap.size w w'))
    case atStart => exact ⟨(0), (by first | rfl | (simp; done) | (simp [*]; done)), H', ⟨Nat.le_refl _⟩, ⟨by repeat (first | (with_reducible first | exact HB.out | apply below_alloc | apply pw_below_drewN | apply below_drew1) | exact HB.out)⟩⟩
    case round =>
      clear H'
      try clear c1
      try clear c2
      try clear c2b0
      try clear c2b1
      try clear p2
      obtain ⟨x10_1, rfl, HA, HK1, HB⟩ := hrel
      cases gk with
      | zero => exact absurd HA.out (by simp [laws_zzFits2.l0])
      | succ k1 =>
        have H := HA.out
        clear HA
        simp only [laws_zzFits2.l0] at H
        by_cases c3 : x10_1 < (l0.length : Int)
        · rw [if_pos c3] at H
          have c3b0 : decide (x10_1 < (l0.length : Int)) = true := decide_eq_true c3
          clear c3
          by_cases c4 : 0 ≤ x10_1
          · rw [if_pos c4] at H
            have c4b0 : decide (0 ≤ x10_1) = true := decide_eq_true c4
            clear c4
            by_cases c5 : x10_1 < (l0.length : Int)
            · rw [if_pos c5] at H
              have c5b0 : decide (x10_1 < (l0.length : Int)) = true := decide_eq_true c5
              clear c5
              replace H := Option.bind_eq_some_iff.mp H
              obtain ⟨t116, A60, H⟩ := H
              replace H : (if t116 = true then (laws_zzFits2.l0 k1 l0 (l0.length : Int) (wrap64 (x10_1 + 1))) else (some false)) = some r := H
              have A6 := Aside0.mk A60
              clear A60
              by_cases c7 : t116 = true
              · subst c7
                have H1 : (laws_zzFits2.l0 k1 l0 (l0.length : Int) (wrap64 (x10_1 + 1))) = some r := by rw [if_pos rfl] at H; exact H
                clear H
                have H := H1
                clear H1
                have H' := Aside0.mk H
                clear H
                have p114 : 0 ≤ (x10_1 : Int) := of_decide_eq_true (by first | (with_reducible assumption) | assumption)
                have q114 : x10_1 < (l0.length : Int) := of_decide_eq_true (by first | (with_reducible assumption) | assumption)
                obtain ⟨ad114, A114_0, c114_0, A114_5, c114_5, e114, hx114_0, hx114_1, hx114_2, hx114_3, hx114_4, hx114_5, hl114_0, hi114_0, hl114_5, hi114_5⟩ := at_T32 HR0.out x10_1 p114 q114
                cases e114
                replace hx114_0 := (HB.out.cell (World.block_lt_of_cell? w _ hx114_0)).trans hx114_0
                replace hx114_1 := (HB.out.cell (World.block_lt_of_cell? w _ hx114_1)).trans hx114_1
                replace hx114_2 := (HB.out.cell (World.block_lt_of_cell? w _ hx114_2)).trans hx114_2
                replace hx114_3 := (HB.out.cell (World.block_lt_of_cell? w _ hx114_3)).trans hx114_3
                replace hx114_4 := (HB.out.cell (World.block_lt_of_cell? w _ hx114_4)).trans hx114_4
                replace hx114_5 := (HB.out.cell (World.block_lt_of_cell? w _ hx114_5)).trans hx114_5
                have HR114_0 := Aside0.mk hi114_0
                have HC114_0 := Aside0.mk hl114_0
                clear hi114_0 hl114_0
                have HR114_5 := Aside0.mk hi114_5
                have HC114_5 := Aside0.mk hl114_5
                clear hi114_5 hl114_5
                replace p114 := eq_true p114
                replace q114 := eq_true q114
                go_wp2_with (first | ((with_reducible refine gate_dst (N := 4) rfl ?_); refine box_event ?hg (N := 4) ?hd (cs := #[.slice none 0 0, .int .u64 0, .int .u8 0, .int .u8 0, .int .u64 0, .slice none 0 0]) (t := 32) ?hr ?_; (case hd => rfl); (case hg => rfl); (case hr => first | (go_simp; done) | (go_simp; rfl)); intro gb115 hg w8 hbox hb; have n0_ := Aside0.mk (below_step (by repeat (first | (with_reducible first | exact HB.out | apply below_alloc | apply pw_below_drewN | apply below_drew1) | exact HB.out)) hb); have n1_ := Aside0.mk (hbox); have n2_ := Aside0.mk ((by rw [hg]; exact (below_size (by repeat (first | (with_reducible first | exact HB.out | apply below_alloc | apply pw_below_drewN | apply below_drew1) | exact HB.out))) : w.heap.size ≤ gb115)); have n3_ := Aside0.mk ((by rw [hg]; exact (below_size (by repeat (first | (with_reducible first | exact HB.out | apply below_alloc | apply pw_below_drewN | apply below_drew1) | exact HB.out))) : w.heap.size ≤ gb115)); clear HB; have HB := n0_; have BK115 := n1_; have GW115 := n2_; have GE115 := n3_; clear n0_ n1_ n2_ n3_; clear hb hbox hg; have hcz9_0 : w8.cell? ⟨gb115, 0, none⟩ = some (.slice none 0 0) := (blk_cell BK115.out 0).trans rfl; have hcz9_1 : w8.cell? ⟨gb115, 1, none⟩ = some (.int .u64 0) := (blk_cell BK115.out 1).trans rfl; have hcz9_2 : w8.cell? ⟨gb115, 2, none⟩ = some (.int .u8 0) := (blk_cell BK115.out 2).trans rfl; have hcz9_3 : w8.cell? ⟨gb115, 3, none⟩ = some (.int .u8 0) := (blk_cell BK115.out 3).trans rfl; have hcz9_4 : w8.cell? ⟨gb115, 4, none⟩ = some (.int .u64 0) := (blk_cell BK115.out 4).trans rfl; have hcz9_5 : w8.cell? ⟨gb115, 5, none⟩ = some (.slice none 0 0) := (blk_cell BK115.out 5).trans rfl; have hfz9_0 := blk_frozen BK115.out 0; have hfz9_1 := blk_frozen BK115.out 1; have hfz9_2 := blk_frozen BK115.out 2; have hfz9_3 := blk_frozen BK115.out 3; have hfz9_4 := blk_frozen BK115.out 4; have hfz9_5 := blk_frozen BK115.out 5) | ((with_reducible refine gate_callee (f := 29) rfl ?_); refine goesL_ (some 15) rfl rfl Try.func29 (by kernel_rfl) rfl #[.agg #[.slice A114_0 ((rd_T32 l0 x10_1).f0).length c114_0, .int .u64 ((rd_T32 l0 x10_1).f1), .int .u8 ((rd_T32 l0 x10_1).f2.f0), .int .u8 ((rd_T32 l0 x10_1).f2.f1), .int .u64 ((rd_T32 l0 x10_1).f2.f2), .slice A114_5 ((rd_T32 l0 x10_1).f2.f3).length c114_5]] rfl (by (try simp only [List.map_toArray, List.map_cons, List.map_nil]); first | done | rfl | (simp only [List.length_drop, List.length_take]; rfl)) ?_; (with_reducible refine (laws_zzFits3.calls _ _ ((rd_T32 l0 x10_1).f0) ((rd_T32 l0 x10_1).f1) ((rd_T32 l0 x10_1).f2.f0) ((rd_T32 l0 x10_1).f2.f1) ((rd_T32 l0 x10_1).f2.f2) _ _ ((rd_T32 l0 x10_1).f2.f3) true _ ?side1 ?side2 ?side3 ?side4 A6.out).mono ?_); (case side1 => exact Kd.C_below HR114_0.out (by repeat (first | (with_reducible first | exact HB.out | apply below_alloc | apply pw_below_drewN | apply below_drew1 | refine below_set ?_ GE115.out) | exact HB.out))); (case side2 => exact HC114_0.out); (case side3 => exact Kd.C_below HR114_5.out (by repeat (first | (with_reducible first | exact HB.out | apply below_alloc | apply pw_below_drewN | apply below_drew1 | refine below_set ?_ GE115.out) | exact HB.out))); (case side4 => exact HC114_5.out); rintro e w10 ⟨rfl, hb⟩; refine ⟨_, rfl, ?_⟩; have n0_ := Aside0.mk (blk_below (g := gb115) (o := .cells #[.slice A114_0 ((rd_T32 l0 x10_1).f0).length c114_0, .int .u64 ((rd_T32 l0 x10_1).f1), .int .u8 ((rd_T32 l0 x10_1).f2.f0), .int .u8 ((rd_T32 l0 x10_1).f2.f1), .int .u64 ((rd_T32 l0 x10_1).f2.f2), .slice A114_5 ((rd_T32 l0 x10_1).f2.f3).length c114_5] 32 (0, 0)) (by (with_reducible repeat (first | refine blk_drewN ?_ _ | refine blk_drew ?_ | refine blk_alloc ?_ _)); refine blk_put (cs := #[.slice A114_0 ((rd_T32 l0 x10_1).f0).length c114_0, .int .u64 ((rd_T32 l0 x10_1).f1), .int .u8 ((rd_T32 l0 x10_1).f2.f0), .int .u8 ((rd_T32 l0 x10_1).f2.f1), .int .u64 ((rd_T32 l0 x10_1).f2.f2), .slice none 0 0]) ?_ 5 _ rfl; (with_reducible repeat (first | refine blk_drewN ?_ _ | refine blk_drew ?_ | refine blk_alloc ?_ _)); refine blk_put (cs := #[.slice A114_0 ((rd_T32 l0 x10_1).f0).length c114_0, .int .u64 ((rd_T32 l0 x10_1).f1), .int .u8 ((rd_T32 l0 x10_1).f2.f0), .int .u8 ((rd_T32 l0 x10_1).f2.f1), .int .u64 0, .slice none 0 0]) ?_ 4 _ rfl; (with_reducible repeat (first | refine blk_drewN ?_ _ | refine blk_drew ?_ | refine blk_alloc ?_ _)); refine blk_put (cs := #[.slice A114_0 ((rd_T32 l0 x10_1).f0).length c114_0, .int .u64 ((rd_T32 l0 x10_1).f1), .int .u8 ((rd_T32 l0 x10_1).f2.f0), .int .u8 0, .int .u64 0, .slice none 0 0]) ?_ 3 _ rfl; (with_reducible repeat (first | refine blk_drewN ?_ _ | refine blk_drew ?_ | refine blk_alloc ?_ _)); refine blk_put (cs := #[.slice A114_0 ((rd_T32 l0 x10_1).f0).length c114_0, .int .u64 ((rd_T32 l0 x10_1).f1), .int .u8 0, .int .u8 0, .int .u64 0, .slice none 0 0]) ?_ 2 _ rfl; (with_reducible repeat (first | refine blk_drewN ?_ _ | refine blk_drew ?_ | refine blk_alloc ?_ _)); refine blk_put (cs := #[.slice A114_0 ((rd_T32 l0 x10_1).f0).length c114_0, .int .u64 0, .int .u8 0, .int .u8 0, .int .u64 0, .slice none 0 0]) ?_ 1 _ rfl; (with_reducible repeat (first | refine blk_drewN ?_ _ | refine blk_drew ?_ | refine blk_alloc ?_ _)); refine blk_put (cs := #[.slice none 0 0, .int .u64 0, .int .u8 0, .int .u8 0, .int .u64 0, .slice none 0 0]) ?_ 0 _ rfl; (with_reducible repeat (first | refine blk_drewN ?_ _ | refine blk_drew ?_ | refine blk_alloc ?_ _)); exact BK115.out) hb); have n1_ := Aside0.mk (below_step (by repeat (first | (with_reducible first | exact HB.out | apply below_alloc | apply pw_below_drewN | apply below_drew1 | refine below_set ?_ GE115.out) | exact HB.out)) hb); clear BK115; clear HB; have BK115 := n0_; have HB := n1_; clear n0_ n1_; (try clear hb); (try clear hb2); (try clear hk); (try clear hi)))
                go_roundg k1
                case measure => have := HK1.out; omega
                case rel => exact ⟨(wrap64 (x10_1 + 1)), (by first | rfl | (simp; done) | (simp [*]; done)), H', ⟨by have := HK1.out; omega⟩, ⟨by repeat (first | (with_reducible first | exact HB.out | apply below_alloc | apply pw_below_drewN | apply below_drew1 | refine below_set ?_ GE115.out) | exact HB.out)⟩⟩
              · replace c7 := Bool.eq_false_iff.mpr c7
                subst c7
                have H1 : (some false) = some r := by rw [if_neg (show ¬ (false = true) by decide)] at H; exact H
                clear H
                have H := H1
                clear H1
                obtain rfl := Option.some.inj H
                have p114 : 0 ≤ (x10_1 : Int) := of_decide_eq_true (by first | (with_reducible assumption) | assumption)
                have q114 : x10_1 < (l0.length : Int) := of_decide_eq_true (by first | (with_reducible assumption) | assumption)
                obtain ⟨ad114, A114_0, c114_0, A114_5, c114_5, e114, hx114_0, hx114_1, hx114_2, hx114_3, hx114_4, hx114_5, hl114_0, hi114_0, hl114_5, hi114_5⟩ := at_T32 HR0.out x10_1 p114 q114
                cases e114
                replace hx114_0 := (HB.out.cell (World.block_lt_of_cell? w _ hx114_0)).trans hx114_0
                replace hx114_1 := (HB.out.cell (World.block_lt_of_cell? w _ hx114_1)).trans hx114_1
                replace hx114_2 := (HB.out.cell (World.block_lt_of_cell? w _ hx114_2)).trans hx114_2
                replace hx114_3 := (HB.out.cell (World.block_lt_of_cell? w _ hx114_3)).trans hx114_3
                replace hx114_4 := (HB.out.cell (World.block_lt_of_cell? w _ hx114_4)).trans hx114_4
                replace hx114_5 := (HB.out.cell (World.block_lt_of_cell? w _ hx114_5)).trans hx114_5
                have HR114_0 := Aside0.mk hi114_0
                have HC114_0 := Aside0.mk hl114_0
                clear hi114_0 hl114_0
                have HR114_5 := Aside0.mk hi114_5
                have HC114_5 := Aside0.mk hl114_5
                clear hi114_5 hl114_5
                replace p114 := eq_true p114
                replace q114 := eq_true q114
                go_wp2_with (first | ((with_reducible refine gate_dst (N := 4) rfl ?_); refine box_event ?hg (N := 4) ?hd (cs := #[.slice none 0 0, .int .u64 0, .int .u8 0, .int .u8 0, .int .u64 0, .slice none 0 0]) (t := 32) ?hr ?_; (case hd => rfl); (case hg => rfl); (case hr => first | (go_simp; done) | (go_simp; rfl)); intro gb115 hg w11 hbox hb; have n0_ := Aside0.mk (below_step (by repeat (first | (with_reducible first | exact HB.out | apply below_alloc | apply pw_below_drewN | apply below_drew1) | exact HB.out)) hb); have n1_ := Aside0.mk (hbox); have n2_ := Aside0.mk ((by rw [hg]; exact (below_size (by repeat (first | (with_reducible first | exact HB.out | apply below_alloc | apply pw_below_drewN | apply below_drew1) | exact HB.out))) : w.heap.size ≤ gb115)); have n3_ := Aside0.mk ((by rw [hg]; exact (below_size (by repeat (first | (with_reducible first | exact HB.out | apply below_alloc | apply pw_below_drewN | apply below_drew1) | exact HB.out))) : w.heap.size ≤ gb115)); clear HB; have HB := n0_; have BK115 := n1_; have GW115 := n2_; have GE115 := n3_; clear n0_ n1_ n2_ n3_; clear hb hbox hg; have hcz12_0 : w11.cell? ⟨gb115, 0, none⟩ = some (.slice none 0 0) := (blk_cell BK115.out 0).trans rfl; have hcz12_1 : w11.cell? ⟨gb115, 1, none⟩ = some (.int .u64 0) := (blk_cell BK115.out 1).trans rfl; have hcz12_2 : w11.cell? ⟨gb115, 2, none⟩ = some (.int .u8 0) := (blk_cell BK115.out 2).trans rfl; have hcz12_3 : w11.cell? ⟨gb115, 3, none⟩ = some (.int .u8 0) := (blk_cell BK115.out 3).trans rfl; have hcz12_4 : w11.cell? ⟨gb115, 4, none⟩ = some (.int .u64 0) := (blk_cell BK115.out 4).trans rfl; have hcz12_5 : w11.cell? ⟨gb115, 5, none⟩ = some (.slice none 0 0) := (blk_cell BK115.out 5).trans rfl; have hfz12_0 := blk_frozen BK115.out 0; have hfz12_1 := blk_frozen BK115.out 1; have hfz12_2 := blk_frozen BK115.out 2; have hfz12_3 := blk_frozen BK115.out 3; have hfz12_4 := blk_frozen BK115.out 4; have hfz12_5 := blk_frozen BK115.out 5) | ((with_reducible refine gate_callee (f := 29) rfl ?_); refine goesL_ (some 15) rfl rfl Try.func29 (by kernel_rfl) rfl #[.agg #[.slice A114_0 ((rd_T32 l0 x10_1).f0).length c114_0, .int .u64 ((rd_T32 l0 x10_1).f1), .int .u8 ((rd_T32 l0 x10_1).f2.f0), .int .u8 ((rd_T32 l0 x10_1).f2.f1), .int .u64 ((rd_T32 l0 x10_1).f2.f2), .slice A114_5 ((rd_T32 l0 x10_1).f2.f3).length c114_5]] rfl (by (try simp only [List.map_toArray, List.map_cons, List.map_nil]); first | done | rfl | (simp only [List.length_drop, List.length_take]; rfl)) ?_; (with_reducible refine (laws_zzFits3.calls _ _ ((rd_T32 l0 x10_1).f0) ((rd_T32 l0 x10_1).f1) ((rd_T32 l0 x10_1).f2.f0) ((rd_T32 l0 x10_1).f2.f1) ((rd_T32 l0 x10_1).f2.f2) _ _ ((rd_T32 l0 x10_1).f2.f3) false _ ?side1 ?side2 ?side3 ?side4 A6.out).mono ?_); (case side1 => exact Kd.C_below HR114_0.out (by repeat (first | (with_reducible first | exact HB.out | apply below_alloc | apply pw_below_drewN | apply below_drew1 | refine below_set ?_ GE115.out) | exact HB.out))); (case side2 => exact HC114_0.out); (case side3 => exact Kd.C_below HR114_5.out (by repeat (first | (with_reducible first | exact HB.out | apply below_alloc | apply pw_below_drewN | apply below_drew1 | refine below_set ?_ GE115.out) | exact HB.out))); (case side4 => exact HC114_5.out); rintro e w13 ⟨rfl, hb⟩; refine ⟨_, rfl, ?_⟩; have n0_ := Aside0.mk (blk_below (g := gb115) (o := .cells #[.slice A114_0 ((rd_T32 l0 x10_1).f0).length c114_0, .int .u64 ((rd_T32 l0 x10_1).f1), .int .u8 ((rd_T32 l0 x10_1).f2.f0), .int .u8 ((rd_T32 l0 x10_1).f2.f1), .int .u64 ((rd_T32 l0 x10_1).f2.f2), .slice A114_5 ((rd_T32 l0 x10_1).f2.f3).length c114_5] 32 (0, 0)) (by (with_reducible repeat (first | refine blk_drewN ?_ _ | refine blk_drew ?_ | refine blk_alloc ?_ _)); refine blk_put (cs := #[.slice A114_0 ((rd_T32 l0 x10_1).f0).length c114_0, .int .u64 ((rd_T32 l0 x10_1).f1), .int .u8 ((rd_T32 l0 x10_1).f2.f0), .int .u8 ((rd_T32 l0 x10_1).f2.f1), .int .u64 ((rd_T32 l0 x10_1).f2.f2), .slice none 0 0]) ?_ 5 _ rfl; (with_reducible repeat (first | refine blk_drewN ?_ _ | refine blk_drew ?_ | refine blk_alloc ?_ _)); refine blk_put (cs := #[.slice A114_0 ((rd_T32 l0 x10_1).f0).length c114_0, .int .u64 ((rd_T32 l0 x10_1).f1), .int .u8 ((rd_T32 l0 x10_1).f2.f0), .int .u8 ((rd_T32 l0 x10_1).f2.f1), .int .u64 0, .slice none 0 0]) ?_ 4 _ rfl; (with_reducible repeat (first | refine blk_drewN ?_ _ | refine blk_drew ?_ | refine blk_alloc ?_ _)); refine blk_put (cs := #[.slice A114_0 ((rd_T32 l0 x10_1).f0).length c114_0, .int .u64 ((rd_T32 l0 x10_1).f1), .int .u8 ((rd_T32 l0 x10_1).f2.f0), .int .u8 0, .int .u64 0, .slice none 0 0]) ?_ 3 _ rfl; (with_reducible repeat (first | refine blk_drewN ?_ _ | refine blk_drew ?_ | refine blk_alloc ?_ _)); refine blk_put (cs := #[.slice A114_0 ((rd_T32 l0 x10_1).f0).length c114_0, .int .u64 ((rd_T32 l0 x10_1).f1), .int .u8 0, .int .u8 0, .int .u64 0, .slice none 0 0]) ?_ 2 _ rfl; (with_reducible repeat (first | refine blk_drewN ?_ _ | refine blk_drew ?_ | refine blk_alloc ?_ _)); refine blk_put (cs := #[.slice A114_0 ((rd_T32 l0 x10_1).f0).length c114_0, .int .u64 0, .int .u8 0, .int .u8 0, .int .u64 0, .slice none 0 0]) ?_ 1 _ rfl; (with_reducible repeat (first | refine blk_drewN ?_ _ | refine blk_drew ?_ | refine blk_alloc ?_ _)); refine blk_put (cs := #[.slice none 0 0, .int .u64 0, .int .u8 0, .int .u8 0, .int .u64 0, .slice none 0 0]) ?_ 0 _ rfl; (with_reducible repeat (first | refine blk_drewN ?_ _ | refine blk_drew ?_ | refine blk_alloc ?_ _)); exact BK115.out) hb); have n1_ := Aside0.mk (below_step (by repeat (first | (with_reducible first | exact HB.out | apply below_alloc | apply pw_below_drewN | apply below_drew1 | refine below_set ?_ GE115.out) | exact HB.out)) hb); clear BK115; clear HB; have BK115 := n0_; have HB := n1_; clear n0_ n1_; (try clear hb); (try clear hb2); (try clear hk); (try clear hi)))
                go_ret
                exact ⟨by first | rfl | (simp [errW_none, errW_some] <;> rfl) | (simp [*, errW_none, errW_some] <;> rfl), by repeat (first | (with_reducible first | exact HB.out | apply below_alloc | apply pw_below_drewN | apply below_drew1 | refine below_set ?_ GE115.out) | exact HB.out)⟩
            · rw [if_neg c5] at H
              exact absurd H (by simp)
          · rw [if_neg c4] at H
            exact absurd H (by simp)
        · rw [if_neg c3] at H
          have c3b0 : decide (x10_1 < (l0.length : Int)) = false := decide_eq_false c3
          clear c3
          obtain rfl := Option.some.inj H
          go_wp2
          go_ret
          exact ⟨by first | rfl | (simp [errW_none, errW_some] <;> rfl) | (simp [*, errW_none, errW_some] <;> rfl), by repeat (first | (with_reducible first | exact HB.out | apply below_alloc | apply pw_below_drewN | apply below_drew1) | exact HB.out)⟩

end Go.Proofs.YtanmgkpgfmkobaaQ.QT
