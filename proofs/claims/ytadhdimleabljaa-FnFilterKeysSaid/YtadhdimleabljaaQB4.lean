-- Lines that a program has printed for this claim: functions as plain Lean functions, and their walks.
import Derived.Test.YtadhdimleabljaaQB0
import Derived.Test.YtadhdimleabljaaQB1
namespace Go.Proofs.YtadhdimleabljaaQ.QB
open Go.RowKit Go.Proofs.YtadhdimleabljaaQ.Ext Go.Proofs.YtadhdimleabljaaW.PrintWords Go.Proofs.YtadhdimleabljaaW.PrintLast Go.Proofs.YtadhdimleabljaaW.PrintMore
attribute [local go_sem] max2_int min2_int max_two min_two max_three min_three max_four min_four   -- for this text's walks alone
set_option linter.unusedVariables false
set_option linter.unusedSimpArgs false

/-! ### laws_few: function 29 -/
def laws_few.l0 : Nat → List (List Int) → Int → Int → Option (Bool)
  | 0, _, _, _ => none
  | k + 1, x5, x6, x7 => if x7 < x6 then (if 0 ≤ x7 then (if x7 < (x5.length : Int) then (if ((rd_L2 x5 x7).length : Int) > 300 then (some false) else (laws_few.l0 k x5 x6 (wrap64 (x7 + 1)))) else (none)) else (none)) else (some true)
def laws_few.f (k : Nat) (l0 : List (List Int)) : Option (Bool) := laws_few.l0 k l0 (l0.length : Int) 0
theorem laws_few.mono_l : ∀ k, (∀ y0 y1 y2, LeO (laws_few.l0 k y0 y1 y2) (laws_few.l0 (k + 1) y0 y1 y2))
  | 0 => fun _ _ _ r h => by simp [laws_few.l0] at h
  | k + 1 => by
    have ih0 := laws_few.mono_l k
    · intro y0 y1 y2
      unfold laws_few.l0
      repeat' first
      | (with_reducible exact ih0 _ _ _)
      | (with_reducible exact LeO.refl _)
      | (with_reducible exact LeO.none _)
      | (with_reducible refine LeO.ite ?_ ?_)
      | (with_reducible refine LeO.bind ?_ (fun _ => ?_))
      | exact ih0 _ _ _
      | exact LeO.none _
      | refine LeO.ite ?_ ?_
      | refine LeO.bind ?_ (fun _ => ?_)
theorem laws_few.mono : ∀ a0 k, LeO (laws_few.f k a0) (laws_few.f (k + 1) a0) := by
  intro a0 k
  have ih0 := laws_few.mono_l k
  unfold laws_few.f
  repeat' first
      | (with_reducible exact ih0 _ _ _)
      | (with_reducible exact LeO.refl _)
      | (with_reducible exact LeO.none _)
      | (with_reducible refine LeO.ite ?_ ?_)
      | (with_reducible refine LeO.bind ?_ (fun _ => ?_))
      | exact ih0 _ _ _
      | exact LeO.none _
      | refine LeO.ite ?_ ?_
      | refine LeO.bind ?_ (fun _ => ?_)
set_option maxHeartbeats 8000000 in
set_option maxRecDepth 100000 in
theorem laws_few.calls (k : Nat) (A0 : Option Addr) (c0 : Nat) (l0 : List (List Int)) (r : Bool) (w : World) (hr0 : Kd.C (Kd.slice 5 (Kd.int .u8)) w A0 l0.length l0) (hc0 : l0.length ≤ c0) (h : laws_few.f k l0 = some r) :
    Calls Try.prog 29 #[.slice A0 l0.length c0] w fun e w' => e = .returned (.bool r) ∧ Drawn0 w w' := by
  have HR0 := Aside0.mk hr0
  have HC0 := Aside0.mk hc0
  clear hr0 hc0
  have H : (laws_few.l0 k l0 (l0.length : Int) 0) = some r := h
  clear h
  have H' := Aside0.mk H
  clear H
  go_enter Try.func29, Try.ntmps29
  go_wp2
  go_loopg [7] k (fun kq v7 w' => ∃ (x7_1 : Int), v7 = .int .i64 x7_1 ∧ Aside0 (laws_few.l0 kq l0 (l0.length : Int) x7_1 = some r) ∧ Aside0 (kq ≤ k) ∧ Drawn0 w w')
  case atStart => exact ⟨(0), (by first | rfl | (simp; done) | (simp [*]; done)), H', ⟨Nat.le_refl _⟩, by repeat (first | exact Drawn0.refl _ | apply Drawn0.step)⟩
  case round =>
    clear H'
    obtain ⟨x7_1, rfl, HA, HK1, ⟨m1, rfl⟩⟩ := hrel
    cases gk with
    | zero => exact absurd HA.out (by simp [laws_few.l0])
    | succ k1 =>
      have H := HA.out
      clear HA
      simp only [laws_few.l0] at H
      by_cases c2 : x7_1 < (l0.length : Int)
      · rw [if_pos c2] at H
        have c2b0 : decide (x7_1 < (l0.length : Int)) = true := decide_eq_true c2
        clear c2
        by_cases c3 : 0 ≤ x7_1
        · rw [if_pos c3] at H
          have c3b0 : decide (0 ≤ x7_1) = true := decide_eq_true c3
          clear c3
          by_cases c4 : x7_1 < (l0.length : Int)
          · rw [if_pos c4] at H
            have c4b0 : decide (x7_1 < (l0.length : Int)) = true := decide_eq_true c4
            clear c4
            by_cases c5 : ((rd_L2 l0 x7_1).length : Int) > 300
            · rw [if_pos c5] at H
              have c5b0 : decide (300 < ((rd_L2 l0 x7_1).length : Int)) = true := decide_eq_true c5
              have c5b1 : decide (300 < (rd_L2 l0 x7_1).length) = true := decide_eq_true (by omega)
              clear c5
              obtain rfl := Option.some.inj H
              have p139 : 0 ≤ (x7_1 : Int) := of_decide_eq_true (by first | (with_reducible assumption) | assumption)
              have q139 : x7_1 < (l0.length : Int) := of_decide_eq_true (by first | (with_reducible assumption) | assumption)
              obtain ⟨ad139, A139_0, c139_0, e139, hx139_0, hl139_0, hi139_0⟩ := at_L2 HR0.out x7_1 p139 q139
              cases e139
              have HR139_0 := Aside0.mk hi139_0
              have HC139_0 := Aside0.mk hl139_0
              clear hi139_0 hl139_0
              replace p139 := eq_true p139
              replace q139 := eq_true q139
              go_wp2
              go_ret
              exact ⟨by first | rfl | (simp; done) | (simp [*]; done), by repeat (first | exact Drawn0.refl _ | apply Drawn0.step)⟩
            · rw [if_neg c5] at H
              have c5b0 : decide (300 < ((rd_L2 l0 x7_1).length : Int)) = false := decide_eq_false c5
              have c5b1 : decide (300 < (rd_L2 l0 x7_1).length) = false := decide_eq_false (by omega)
              clear c5
              have H' := Aside0.mk H
              clear H
              have p139 : 0 ≤ (x7_1 : Int) := of_decide_eq_true (by first | (with_reducible assumption) | assumption)
              have q139 : x7_1 < (l0.length : Int) := of_decide_eq_true (by first | (with_reducible assumption) | assumption)
              obtain ⟨ad139, A139_0, c139_0, e139, hx139_0, hl139_0, hi139_0⟩ := at_L2 HR0.out x7_1 p139 q139
              cases e139
              have HR139_0 := Aside0.mk hi139_0
              have HC139_0 := Aside0.mk hl139_0
              clear hi139_0 hl139_0
              replace p139 := eq_true p139
              replace q139 := eq_true q139
              go_wp2
              go_roundg k1
              case measure => have := HK1.out; omega
              case rel => exact ⟨(wrap64 (x7_1 + 1)), (by first | rfl | (simp; done) | (simp [*]; done)), H', ⟨by have := HK1.out; omega⟩, by repeat (first | exact Drawn0.refl _ | apply Drawn0.step)⟩
          · rw [if_neg c4] at H
            exact absurd H (by simp)
        · rw [if_neg c3] at H
          exact absurd H (by simp)
      · rw [if_neg c2] at H
        have c2b0 : decide (x7_1 < (l0.length : Int)) = false := decide_eq_false c2
        clear c2
        obtain rfl := Option.some.inj H
        go_wp2
        go_ret
        exact ⟨by first | rfl | (simp; done) | (simp [*]; done), by repeat (first | exact Drawn0.refl _ | apply Drawn0.step)⟩

/-! ### laws_zzFits8: function 80 -/
def laws_zzFits8.l0 : Nat → List (List Int) → Int → Int → Option (Bool)
  | 0, _, _, _ => none
  | k + 1, x8, x9, x10 => if x10 < x9 then (if 0 ≤ x10 then (if x10 < (x8.length : Int) then (if ((rd_L2 x8 x10).length : Int) > 2147483647 then (some false) else (laws_zzFits8.l0 k x8 x9 (wrap64 (x10 + 1)))) else (none)) else (none)) else (some true)
def laws_zzFits8.f (k : Nat) (l0 : List (List Int)) : Option (Bool) := if (l0.length : Int) > 2147483647 then (some false) else (laws_zzFits8.l0 k l0 (l0.length : Int) 0)
theorem laws_zzFits8.mono_l : ∀ k, (∀ y0 y1 y2, LeO (laws_zzFits8.l0 k y0 y1 y2) (laws_zzFits8.l0 (k + 1) y0 y1 y2))
  | 0 => fun _ _ _ r h => by simp [laws_zzFits8.l0] at h
  | k + 1 => by
    have ih0 := laws_zzFits8.mono_l k
    · intro y0 y1 y2
      unfold laws_zzFits8.l0
      repeat' first
      | (with_reducible exact ih0 _ _ _)
      | (with_reducible exact LeO.refl _)
      | (with_reducible exact LeO.none _)
      | (with_reducible refine LeO.ite ?_ ?_)
      | (with_reducible refine LeO.bind ?_ (fun _ => ?_))
      | exact ih0 _ _ _
      | exact LeO.none _
      | refine LeO.ite ?_ ?_
      | refine LeO.bind ?_ (fun _ => ?_)
theorem laws_zzFits8.mono : ∀ a0 k, LeO (laws_zzFits8.f k a0) (laws_zzFits8.f (k + 1) a0) := by
  intro a0 k
  have ih0 := laws_zzFits8.mono_l k
  unfold laws_zzFits8.f
  repeat' first
      | (with_reducible exact ih0 _ _ _)
      | (with_reducible exact LeO.refl _)
      | (with_reducible exact LeO.none _)
      | (with_reducible refine LeO.ite ?_ ?_)
      | (with_reducible refine LeO.bind ?_ (fun _ => ?_))
      | exact ih0 _ _ _
      | exact LeO.none _
      | refine LeO.ite ?_ ?_
      | refine LeO.bind ?_ (fun _ => ?_)
set_option maxHeartbeats 8000000 in
set_option maxRecDepth 100000 in
theorem laws_zzFits8.calls (k : Nat) (A0 : Option Addr) (c0 : Nat) (l0 : List (List Int)) (r : Bool) (w : World) (hr0 : Kd.C (Kd.slice 5 (Kd.int .u8)) w A0 l0.length l0) (hc0 : l0.length ≤ c0) (h : laws_zzFits8.f k l0 = some r) :
    Calls Try.prog 80 #[.slice A0 l0.length c0] w fun e w' => e = .returned (.bool r) ∧ Drawn0 w w' := by
  have HR0 := Aside0.mk hr0
  have HC0 := Aside0.mk hc0
  clear hr0 hc0
  have H : (if (l0.length : Int) > 2147483647 then (some false) else (laws_zzFits8.l0 k l0 (l0.length : Int) 0)) = some r := h
  clear h
  by_cases c2 : (l0.length : Int) > 2147483647
  · rw [if_pos c2] at H
    have c2b0 : decide (2147483647 < (l0.length : Int)) = true := decide_eq_true c2
    have c2b1 : decide (2147483647 < l0.length) = true := decide_eq_true (by omega)
    clear c2
    obtain rfl := Option.some.inj H
    go_enter Try.func80, Try.ntmps80
    go_wp2
    go_ret
    exact ⟨by first | rfl | (simp; done) | (simp [*]; done), by repeat (first | exact Drawn0.refl _ | apply Drawn0.step)⟩
  · rw [if_neg c2] at H
    have c2b0 : decide (2147483647 < (l0.length : Int)) = false := decide_eq_false c2
    have c2b1 : decide (2147483647 < l0.length) = false := decide_eq_false (by omega)
    clear c2
    have H' := Aside0.mk H
    clear H
    go_enter Try.func80, Try.ntmps80
    go_wp2
    go_loopg [10] k (fun kq v10 w' => ∃ (x10_1 : Int), v10 = .int .i64 x10_1 ∧ Aside0 (laws_zzFits8.l0 kq l0 (l0.length : Int) x10_1 = some r) ∧ Aside0 (kq ≤ k) ∧ Drawn0 w w')
    case atStart => exact ⟨(0), (by first | rfl | (simp; done) | (simp [*]; done)), H', ⟨Nat.le_refl _⟩, by repeat (first | exact Drawn0.refl _ | apply Drawn0.step)⟩
    case round =>
      clear H'
      try clear c2
      try clear c2b0
      try clear c2b1
      try clear p2
      obtain ⟨x10_1, rfl, HA, HK1, ⟨m1, rfl⟩⟩ := hrel
      cases gk with
      | zero => exact absurd HA.out (by simp [laws_zzFits8.l0])
      | succ k1 =>
        have H := HA.out
        clear HA
        simp only [laws_zzFits8.l0] at H
        by_cases c3 : x10_1 < (l0.length : Int)
        · rw [if_pos c3] at H
          have c3b0 : decide (x10_1 < (l0.length : Int)) = true := decide_eq_true c3
          clear c3
          by_cases c4 : 0 ≤ x10_1
          · rw [if_pos c4] at H
            have c4b0 : decide (0 ≤ x10_1) = true := decide_eq_true c4
            clear c4
            by_cases c5 : x10_1 < (l0.length : Int)
            · rw [if_pos c5] at H
              have c5b0 : decide (x10_1 < (l0.length : Int)) = true := decide_eq_true c5
              clear c5
              by_cases c6 : ((rd_L2 l0 x10_1).length : Int) > 2147483647
              · rw [if_pos c6] at H
                have c6b0 : decide (2147483647 < ((rd_L2 l0 x10_1).length : Int)) = true := decide_eq_true c6
                have c6b1 : decide (2147483647 < (rd_L2 l0 x10_1).length) = true := decide_eq_true (by omega)
                clear c6
                obtain rfl := Option.some.inj H
                have p140 : 0 ≤ (x10_1 : Int) := of_decide_eq_true (by first | (with_reducible assumption) | assumption)
                have q140 : x10_1 < (l0.length : Int) := of_decide_eq_true (by first | (with_reducible assumption) | assumption)
                obtain ⟨ad140, A140_0, c140_0, e140, hx140_0, hl140_0, hi140_0⟩ := at_L2 HR0.out x10_1 p140 q140
                cases e140
                have HR140_0 := Aside0.mk hi140_0
                have HC140_0 := Aside0.mk hl140_0
                clear hi140_0 hl140_0
                replace p140 := eq_true p140
                replace q140 := eq_true q140
                go_wp2
                go_ret
                exact ⟨by first | rfl | (simp; done) | (simp [*]; done), by repeat (first | exact Drawn0.refl _ | apply Drawn0.step)⟩
              · rw [if_neg c6] at H
                have c6b0 : decide (2147483647 < ((rd_L2 l0 x10_1).length : Int)) = false := decide_eq_false c6
                have c6b1 : decide (2147483647 < (rd_L2 l0 x10_1).length) = false := decide_eq_false (by omega)
                clear c6
                have H' := Aside0.mk H
                clear H
                have p140 : 0 ≤ (x10_1 : Int) := of_decide_eq_true (by first | (with_reducible assumption) | assumption)
                have q140 : x10_1 < (l0.length : Int) := of_decide_eq_true (by first | (with_reducible assumption) | assumption)
                obtain ⟨ad140, A140_0, c140_0, e140, hx140_0, hl140_0, hi140_0⟩ := at_L2 HR0.out x10_1 p140 q140
                cases e140
                have HR140_0 := Aside0.mk hi140_0
                have HC140_0 := Aside0.mk hl140_0
                clear hi140_0 hl140_0
                replace p140 := eq_true p140
                replace q140 := eq_true q140
                go_wp2
                go_roundg k1
                case measure => have := HK1.out; omega
                case rel => exact ⟨(wrap64 (x10_1 + 1)), (by first | rfl | (simp; done) | (simp [*]; done)), H', ⟨by have := HK1.out; omega⟩, by repeat (first | exact Drawn0.refl _ | apply Drawn0.step)⟩
            · rw [if_neg c5] at H
              exact absurd H (by simp)
          · rw [if_neg c4] at H
            exact absurd H (by simp)
        · rw [if_neg c3] at H
          have c3b0 : decide (x10_1 < (l0.length : Int)) = false := decide_eq_false c3
          clear c3
          obtain rfl := Option.some.inj H
          go_wp2
          go_ret
          exact ⟨by first | rfl | (simp; done) | (simp [*]; done), by repeat (first | exact Drawn0.refl _ | apply Drawn0.step)⟩

/-! ### badgery_Hash: function 130 -/
def badgery_Hash.l0 : Nat → List Int → Int → Option (Int)
  | 0, _, _ => none
  | k + 1, x0, x3 => if (x0.length : Int) ≥ 4 then (if 0 < (x0.length : Int) then (if 1 < (x0.length : Int) then (if 2 < (x0.length : Int) then (if 3 < (x0.length : Int) then (if 4 ≤ (x0.length : Int) then (badgery_Hash.l0 k (x0.drop 4) (Go.bits .xor .u32 ((((x3 + (Go.bits .or .u32 (Go.bits .or .u32 (Go.bits .or .u32 ((rd x0 0) % 4294967296) ((((rd x0 1) % 4294967296) * 256) % 4294967296)) ((((rd x0 2) % 4294967296) * 65536) % 4294967296)) ((((rd x0 3) % 4294967296) * 16777216) % 4294967296))) % 4294967296) * 3332679571) % 4294967296) (((((x3 + (Go.bits .or .u32 (Go.bits .or .u32 (Go.bits .or .u32 ((rd x0 0) % 4294967296) ((((rd x0 1) % 4294967296) * 256) % 4294967296)) ((((rd x0 2) % 4294967296) * 65536) % 4294967296)) ((((rd x0 3) % 4294967296) * 16777216) % 4294967296))) % 4294967296) * 3332679571) % 4294967296) / 65536))) else (none)) else (none)) else (none)) else (none)) else (none)) else (if (x0.length : Int) = 3 then (if 2 < (x0.length : Int) then (if 1 < (x0.length : Int) then (if 0 < (x0.length : Int) then (some (Go.bits .xor .u32 ((((((((x3 + ((((rd x0 2) % 4294967296) * 65536) % 4294967296)) % 4294967296) + ((((rd x0 1) % 4294967296) * 256) % 4294967296)) % 4294967296) + ((rd x0 0) % 4294967296)) % 4294967296) * 3332679571) % 4294967296) (((((((((x3 + ((((rd x0 2) % 4294967296) * 65536) % 4294967296)) % 4294967296) + ((((rd x0 1) % 4294967296) * 256) % 4294967296)) % 4294967296) + ((rd x0 0) % 4294967296)) % 4294967296) * 3332679571) % 4294967296) / 16777216))) else (none)) else (none)) else (none)) else (if (x0.length : Int) = 2 then (if 1 < (x0.length : Int) then (if 0 < (x0.length : Int) then (some (Go.bits .xor .u32 ((((((x3 + ((((rd x0 1) % 4294967296) * 256) % 4294967296)) % 4294967296) + ((rd x0 0) % 4294967296)) % 4294967296) * 3332679571) % 4294967296) (((((((x3 + ((((rd x0 1) % 4294967296) * 256) % 4294967296)) % 4294967296) + ((rd x0 0) % 4294967296)) % 4294967296) * 3332679571) % 4294967296) / 16777216))) else (none)) else (none)) else (if (x0.length : Int) = 1 then (if 0 < (x0.length : Int) then (some (Go.bits .xor .u32 ((((x3 + ((rd x0 0) % 4294967296)) % 4294967296) * 3332679571) % 4294967296) (((((x3 + ((rd x0 0) % 4294967296)) % 4294967296) * 3332679571) % 4294967296) / 16777216))) else (none)) else (some x3))))
def badgery_Hash.f (k : Nat) (l0 : List Int) : Option (Int) := badgery_Hash.l0 k l0 (Go.bits .xor .u32 3164544308 (((((l0.length : Int)) % 4294967296) * 3332679571) % 4294967296))
theorem badgery_Hash.mono_l : ∀ k, (∀ y0 y1, LeO (badgery_Hash.l0 k y0 y1) (badgery_Hash.l0 (k + 1) y0 y1))
  | 0 => fun _ _ r h => by simp [badgery_Hash.l0] at h
  | k + 1 => by
    have ih0 := badgery_Hash.mono_l k
    · intro y0 y1
      unfold badgery_Hash.l0
      repeat' first
      | (with_reducible exact ih0 _ _)
      | (with_reducible exact LeO.refl _)
      | (with_reducible exact LeO.none _)
      | (with_reducible refine LeO.ite ?_ ?_)
      | (with_reducible refine LeO.bind ?_ (fun _ => ?_))
      | exact ih0 _ _
      | exact LeO.none _
      | refine LeO.ite ?_ ?_
      | refine LeO.bind ?_ (fun _ => ?_)
theorem badgery_Hash.mono : ∀ a0 k, LeO (badgery_Hash.f k a0) (badgery_Hash.f (k + 1) a0) := by
  intro a0 k
  have ih0 := badgery_Hash.mono_l k
  unfold badgery_Hash.f
  repeat' first
      | (with_reducible exact ih0 _ _)
      | (with_reducible exact LeO.refl _)
      | (with_reducible exact LeO.none _)
      | (with_reducible refine LeO.ite ?_ ?_)
      | (with_reducible refine LeO.bind ?_ (fun _ => ?_))
      | exact ih0 _ _
      | exact LeO.none _
      | refine LeO.ite ?_ ?_
      | refine LeO.bind ?_ (fun _ => ?_)
set_option maxHeartbeats 8000000 in
set_option maxRecDepth 100000 in
theorem badgery_Hash.calls (k : Nat) (P0_ : Nat → Prop) (A0 : Option Addr) (c0 : Nat) (l0 : List Int) (r : Int) (w : World) (hs0 : Kd.V (Kd.int .u8) 5 w w.heap.size (fun k_ => P0_ k_) (.slice A0 l0.length c0) l0) (h : badgery_Hash.f k l0 = some r) :
    Calls Try.prog 130 #[.slice A0 l0.length c0] w fun e w' => e = .returned (.int .u32 r) ∧ Below w.heap.size w w' := by
  have HO0 := Aside0.mk (show Kd.V (Kd.int .u8) 5 w w.heap.size (fun k_ => (P0_ k_ ∨ w.heap.size ≤ k_)) (.slice A0 l0.length c0) l0 from Kd.V_mono hs0 (fun k_ hk => .inl hk))
  have HB := Aside0.mk (Below.refl w.heap.size w)
  have H : (badgery_Hash.l0 k l0 (Go.bits .xor .u32 3164544308 (((((l0.length : Int)) % 4294967296) * 3332679571) % 4294967296))) = some r := h
  clear h
  have H' := Aside0.mk H
  clear H
  go_enter Try.func130, Try.ntmps130
  go_wp2
  repeat (go_quiet (fail); try go_wp2)
  go_loopg [0, 3] k (fun kq v0 v3 w' => ∃ (x0_1 : List Int) (x3_1 : Int), v3 = .int .u32 x3_1 ∧ Aside0 (badgery_Hash.l0 kq x0_1 x3_1 = some r) ∧ Aside0 (kq ≤ k) ∧ Aside0 (Kd.V (Kd.int .u8) 5 w' w.heap.size (fun k_ => (P0_ k_ ∨ w.heap.size ≤ k_)) v0 x0_1) ∧ Aside0 (Below w.heap.size w w'))
  case atStart => exact ⟨(l0), (Go.bits .xor .u32 3164544308 (((((l0.length : Int)) % 4294967296) * 3332679571) % 4294967296)), (by first | rfl | (simp; done) | (simp [*]; done)), H', ⟨Nat.le_refl _⟩, ⟨by (with_reducible repeat (first | apply Kd.V_alloc | apply Kd.V_drewN | apply Kd.V_drew)); exact HO0.out⟩, ⟨by repeat (first | (with_reducible first | exact HB.out | apply below_alloc | apply pw_below_drewN | apply below_drew1) | exact HB.out)⟩⟩
  case round =>
    clear H'
    try clear c1
    obtain ⟨x0_1, x3_1, rfl, HA, HK1, HO_0, HB⟩ := hrel
    cases gk with
    | zero => exact absurd HA.out (by simp [badgery_Hash.l0])
    | succ k1 =>
      have H := HA.out
      clear HA
      simp only [badgery_Hash.l0] at H
      by_cases c2 : (x0_1.length : Int) ≥ 4
      · rw [if_pos c2] at H
        have c2b0 : decide (4 ≤ (x0_1.length : Int)) = true := decide_eq_true c2
        have c2b1 : decide (4 ≤ x0_1.length) = true := decide_eq_true (by omega)
        clear c2
        by_cases c3 : 0 < (x0_1.length : Int)
        · rw [if_pos c3] at H
          have c3b0 : decide (0 < (x0_1.length : Int)) = true := decide_eq_true c3
          have c3b1 : decide (0 < x0_1.length) = true := decide_eq_true (by omega)
          clear c3
          by_cases c4 : 1 < (x0_1.length : Int)
          · rw [if_pos c4] at H
            have c4b0 : decide (1 < (x0_1.length : Int)) = true := decide_eq_true c4
            have c4b1 : decide (1 < x0_1.length) = true := decide_eq_true (by omega)
            clear c4
            by_cases c5 : 2 < (x0_1.length : Int)
            · rw [if_pos c5] at H
              have c5b0 : decide (2 < (x0_1.length : Int)) = true := decide_eq_true c5
              have c5b1 : decide (2 < x0_1.length) = true := decide_eq_true (by omega)
              clear c5
              by_cases c6 : 3 < (x0_1.length : Int)
              · rw [if_pos c6] at H
                have c6b0 : decide (3 < (x0_1.length : Int)) = true := decide_eq_true c6
                have c6b1 : decide (3 < x0_1.length) = true := decide_eq_true (by omega)
                clear c6
                by_cases c7 : 4 ≤ (x0_1.length : Int)
                · rw [if_pos c7] at H
                  have c7b0 := eq_true c7
                  have c7b1 : decide (4 ≤ (x0_1.length : Int)) = true := decide_eq_true c7
                  clear c7
                  obtain ⟨y145, hy145⟩ : ∃ y_ : List Int, y_ = (x0_1.drop 4) := ⟨_, rfl⟩
                  replace H : (badgery_Hash.l0 k1 y145 (Go.bits .xor .u32 ((((x3_1 + (Go.bits .or .u32 (Go.bits .or .u32 (Go.bits .or .u32 ((rd x0_1 0) % 4294967296) ((((rd x0_1 1) % 4294967296) * 256) % 4294967296)) ((((rd x0_1 2) % 4294967296) * 65536) % 4294967296)) ((((rd x0_1 3) % 4294967296) * 16777216) % 4294967296))) % 4294967296) * 3332679571) % 4294967296) (((((x3_1 + (Go.bits .or .u32 (Go.bits .or .u32 (Go.bits .or .u32 ((rd x0_1 0) % 4294967296) ((((rd x0_1 1) % 4294967296) * 256) % 4294967296)) ((((rd x0_1 2) % 4294967296) * 65536) % 4294967296)) ((((rd x0_1 3) % 4294967296) * 16777216) % 4294967296))) % 4294967296) * 3332679571) % 4294967296) / 65536))) = some r := by first | (rw [hy145]; with_reducible exact H) | (have H2_ := (Option.bind_some _ _).symm.trans H; rw [hy145]; with_reducible exact H2_) | (have H2_ := (Option.bind_some _ _).symm.trans H; with_reducible exact H2_) | with_reducible exact H | (rw [hy145]; exact H) | exact H
                  have Ny145 := Aside0.mk hy145
                  clear hy145
                  have H' := Aside0.mk H
                  clear H
                  obtain ⟨Ao8, co8, eo8⟩ := Kd.V_slice HO_0.out
                  subst eo8
                  have p141 : 0 ≤ (0 : Int) := (by omega)
                  have q141 : 0 < (x0_1.length : Int) := of_decide_eq_true (by first | (with_reducible assumption) | assumption)
                  obtain ⟨ad141, e141, hx141_0⟩ := Kd.at_int (Kd.V_reads' HO_0.out).2.2 0 p141 q141
                  cases e141
                  have qi141 : (0 < x0_1.length) = True := eq_true (by omega)
                  (try rw [show ((0 : Int)).toNat = 0 from rfl] at hx141_0)
                  (try rw [Addr.add_zero'] at hx141_0)
                  replace p141 := eq_true p141
                  replace q141 := eq_true q141
                  have p142 : 0 ≤ (1 : Int) := (by omega)
                  have q142 : 1 < (x0_1.length : Int) := of_decide_eq_true (by first | (with_reducible assumption) | assumption)
                  obtain ⟨ad142, e142, hx142_0⟩ := Kd.at_int (Kd.V_reads' HO_0.out).2.2 1 p142 q142
                  obtain rfl : ad141 = ad142 := (by injection e142)
                  (try simp only [show (1 : Int).toNat = 1 from rfl, Nat.reduceMul, Nat.reduceEqDiff, Go.Addr.add, ↓reduceIte] at hx142_0)
                  have qi142 : (1 < x0_1.length) = True := eq_true (by omega)
                  (try rw [show ((1 : Int)).toNat = 1 from rfl] at hx142_0)
                  replace p142 := eq_true p142
                  replace q142 := eq_true q142
                  have p143 : 0 ≤ (2 : Int) := (by omega)
                  have q143 : 2 < (x0_1.length : Int) := of_decide_eq_true (by first | (with_reducible assumption) | assumption)
                  obtain ⟨ad143, e143, hx143_0⟩ := Kd.at_int (Kd.V_reads' HO_0.out).2.2 2 p143 q143
                  obtain rfl : ad141 = ad143 := (by injection e143)
                  (try simp only [show (2 : Int).toNat = 2 from rfl, Nat.reduceMul, Nat.reduceEqDiff, Go.Addr.add, ↓reduceIte] at hx143_0)
                  have qi143 : (2 < x0_1.length) = True := eq_true (by omega)
                  (try rw [show ((2 : Int)).toNat = 2 from rfl] at hx143_0)
                  replace p143 := eq_true p143
                  replace q143 := eq_true q143
                  have p144 : 0 ≤ (3 : Int) := (by omega)
                  have q144 : 3 < (x0_1.length : Int) := of_decide_eq_true (by first | (with_reducible assumption) | assumption)
                  obtain ⟨ad144, e144, hx144_0⟩ := Kd.at_int (Kd.V_reads' HO_0.out).2.2 3 p144 q144
                  obtain rfl : ad141 = ad144 := (by injection e144)
                  (try simp only [show (3 : Int).toNat = 3 from rfl, Nat.reduceMul, Nat.reduceEqDiff, Go.Addr.add, ↓reduceIte] at hx144_0)
                  have qi144 : (3 < x0_1.length) = True := eq_true (by omega)
                  (try rw [show ((3 : Int)).toNat = 3 from rfl] at hx144_0)
                  replace p144 := eq_true p144
                  replace q144 := eq_true q144
                  have q9 : (4 : Int) ≤ ((x0_1.length : Int) : Int) := of_decide_eq_true (by first | (with_reducible assumption) | assumption)
                  obtain ⟨i09, hi09, _, hsz9, _⟩ := info_parts info5
                  have hroom9 : x0_1.length ≤ co8 := (Kd.V_reads' HO_0.out).2.1
                  have hC9 : Kd.F (Kd.int .u8) _ _ (some ad141) x0_1.length x0_1 := (Kd.V_at (base := w.heap.size) HO_0.out).2.2
                  have hcut9 := cut_from (P := Try.prog) 26 5 .i64 Try.underlying26 hi09 1 hsz9 (some ad141) x0_1.length co8 4 (by omega) q9
                  have hr9 := Kd.F_cut (m := (4 : Int).toNat) (c := co8) hC9 (by omega) hroom9
                  obtain ⟨A9, hA9⟩ : ∃ A1, A1 = (if co8 = (4 : Int).toNat then (some ad141) else ((some ad141) : Option Addr).map (·.add ((4 : Int).toNat * 1))) := ⟨_, rfl⟩
                  obtain ⟨c9, hc9⟩ : ∃ c1, c1 = co8 - (4 : Int).toNat := ⟨_, rfl⟩
                  have hy9 : y145.length = x0_1.length - (4 : Int).toNat := (by rw [Ny145.out, List.length_drop] <;> omega)
                  rw [show (x0_1).drop (4 : Int).toNat = y145 from Ny145.out.symm] at hr9
                  replace hr9 : Kd.F (Kd.int .u8) _ _ A9 y145.length y145 := (by rw [hA9]; exact hr9)
                  rw [← hy9, ← hA9, ← hc9] at hcut9
                  have HO149 := Aside0.mk (show Kd.V (Kd.int .u8) 5 _ w.heap.size _ (.slice A9 y145.length c9) y145 from Kd.V_mk (by rw [hy9, hc9]; exact Nat.sub_le_sub_right hroom9 _) hr9)
                  have HC149 := Aside0.mk (show y145.length ≤ c9 from by rw [hy9, hc9]; exact Nat.sub_le_sub_right hroom9 _)
                  clear hr9 hC9 hroom9 hi09 hsz9 hc9
                  have KY9 := Aside0.mk hy9
                  have KA9 := Aside0.mk hA9
                  clear hy9 hA9
                  replace q9 := eq_true q9
                  go_wp2
                  repeat (go_quiet (fail); try go_wp2)
                  go_roundg k1
                  case measure => have := HK1.out; omega
                  case rel => exact ⟨(y145), (Go.bits .xor .u32 ((((x3_1 + (Go.bits .or .u32 (Go.bits .or .u32 (Go.bits .or .u32 ((rd x0_1 0) % 4294967296) ((((rd x0_1 1) % 4294967296) * 256) % 4294967296)) ((((rd x0_1 2) % 4294967296) * 65536) % 4294967296)) ((((rd x0_1 3) % 4294967296) * 16777216) % 4294967296))) % 4294967296) * 3332679571) % 4294967296) (((((x3_1 + (Go.bits .or .u32 (Go.bits .or .u32 (Go.bits .or .u32 ((rd x0_1 0) % 4294967296) ((((rd x0_1 1) % 4294967296) * 256) % 4294967296)) ((((rd x0_1 2) % 4294967296) * 65536) % 4294967296)) ((((rd x0_1 3) % 4294967296) * 16777216) % 4294967296))) % 4294967296) * 3332679571) % 4294967296) / 65536)), (by first | rfl | (simp; done) | (simp [*]; done)), H', ⟨by have := HK1.out; omega⟩, ⟨by (with_reducible repeat (first | apply Kd.V_alloc | apply Kd.V_drewN | apply Kd.V_drew)); exact HO149.out⟩, ⟨by repeat (first | (with_reducible first | exact HB.out | apply below_alloc | apply pw_below_drewN | apply below_drew1) | exact HB.out)⟩⟩
                · rw [if_neg c7] at H
                  exact absurd H (by simp)
              · rw [if_neg c6] at H
                exact absurd H (by simp)
            · rw [if_neg c5] at H
              exact absurd H (by simp)
          · rw [if_neg c4] at H
            exact absurd H (by simp)
        · rw [if_neg c3] at H
          exact absurd H (by simp)
      · rw [if_neg c2] at H
        have c2b0 : decide (4 ≤ (x0_1.length : Int)) = false := decide_eq_false c2
        have c2b1 : decide (4 ≤ x0_1.length) = false := decide_eq_false (by omega)
        clear c2
        by_cases c10 : (x0_1.length : Int) = 3
        · rw [if_pos c10] at H
          have c10b0 : ((x0_1.length : Int) == 3) = true := beq_iff_eq.mpr c10
          have c10b1 : ((x0_1.length : Int) != 3) = false := bne_eq_false_iff_eq.mpr c10
          clear c10
          by_cases c11 : 2 < (x0_1.length : Int)
          · rw [if_pos c11] at H
            have c11b0 : decide (2 < (x0_1.length : Int)) = true := decide_eq_true c11
            have c11b1 : decide (2 < x0_1.length) = true := decide_eq_true (by omega)
            clear c11
            by_cases c12 : 1 < (x0_1.length : Int)
            · rw [if_pos c12] at H
              have c12b0 : decide (1 < (x0_1.length : Int)) = true := decide_eq_true c12
              have c12b1 : decide (1 < x0_1.length) = true := decide_eq_true (by omega)
              clear c12
              by_cases c13 : 0 < (x0_1.length : Int)
              · rw [if_pos c13] at H
                have c13b0 : decide (0 < (x0_1.length : Int)) = true := decide_eq_true c13
                have c13b1 : decide (0 < x0_1.length) = true := decide_eq_true (by omega)
                clear c13
                obtain rfl := Option.some.inj H
                obtain ⟨Ao14, co14, eo14⟩ := Kd.V_slice HO_0.out
                subst eo14
                have p150 : 0 ≤ (2 : Int) := (by omega)
                have q150 : 2 < (x0_1.length : Int) := of_decide_eq_true (by first | (with_reducible assumption) | assumption)
                obtain ⟨ad150, e150, hx150_0⟩ := Kd.at_int (Kd.V_reads' HO_0.out).2.2 2 p150 q150
                cases e150
                (try simp only [show (2 : Int).toNat = 2 from rfl, Nat.reduceMul, Nat.reduceEqDiff, Go.Addr.add, ↓reduceIte] at hx150_0)
                have qi150 : (2 < x0_1.length) = True := eq_true (by omega)
                (try rw [show ((2 : Int)).toNat = 2 from rfl] at hx150_0)
                replace p150 := eq_true p150
                replace q150 := eq_true q150
                have p151 : 0 ≤ (1 : Int) := (by omega)
                have q151 : 1 < (x0_1.length : Int) := of_decide_eq_true (by first | (with_reducible assumption) | assumption)
                obtain ⟨ad151, e151, hx151_0⟩ := Kd.at_int (Kd.V_reads' HO_0.out).2.2 1 p151 q151
                obtain rfl : ad150 = ad151 := (by injection e151)
                (try simp only [show (1 : Int).toNat = 1 from rfl, Nat.reduceMul, Nat.reduceEqDiff, Go.Addr.add, ↓reduceIte] at hx151_0)
                have qi151 : (1 < x0_1.length) = True := eq_true (by omega)
                (try rw [show ((1 : Int)).toNat = 1 from rfl] at hx151_0)
                replace p151 := eq_true p151
                replace q151 := eq_true q151
                have p152 : 0 ≤ (0 : Int) := (by omega)
                have q152 : 0 < (x0_1.length : Int) := of_decide_eq_true (by first | (with_reducible assumption) | assumption)
                obtain ⟨ad152, e152, hx152_0⟩ := Kd.at_int (Kd.V_reads' HO_0.out).2.2 0 p152 q152
                obtain rfl : ad150 = ad152 := (by injection e152)
                have qi152 : (0 < x0_1.length) = True := eq_true (by omega)
                (try rw [show ((0 : Int)).toNat = 0 from rfl] at hx152_0)
                (try rw [Addr.add_zero'] at hx152_0)
                replace p152 := eq_true p152
                replace q152 := eq_true q152
                go_wp2
                repeat (go_quiet (fail); try go_wp2)
                go_ret
                exact ⟨by first | rfl | (simp [errW_none, errW_some] <;> rfl) | (simp [*, errW_none, errW_some] <;> rfl), by repeat (first | (with_reducible first | exact HB.out | apply below_alloc | apply pw_below_drewN | apply below_drew1) | exact HB.out)⟩
              · rw [if_neg c13] at H
                exact absurd H (by simp)
            · rw [if_neg c12] at H
              exact absurd H (by simp)
          · rw [if_neg c11] at H
            exact absurd H (by simp)
        · rw [if_neg c10] at H
          have c10b0 : ((x0_1.length : Int) == 3) = false := beq_eq_false_iff_ne.mpr c10
          have c10b1 : ((x0_1.length : Int) != 3) = true := bne_iff_ne.mpr c10
          by_cases c15 : (x0_1.length : Int) = 2
          · rw [if_pos c15] at H
            have c15b0 : ((x0_1.length : Int) == 2) = true := beq_iff_eq.mpr c15
            have c15b1 : ((x0_1.length : Int) != 2) = false := bne_eq_false_iff_eq.mpr c15
            clear c15
            by_cases c16 : 1 < (x0_1.length : Int)
            · rw [if_pos c16] at H
              have c16b0 : decide (1 < (x0_1.length : Int)) = true := decide_eq_true c16
              have c16b1 : decide (1 < x0_1.length) = true := decide_eq_true (by omega)
              clear c16
              by_cases c17 : 0 < (x0_1.length : Int)
              · rw [if_pos c17] at H
                have c17b0 : decide (0 < (x0_1.length : Int)) = true := decide_eq_true c17
                have c17b1 : decide (0 < x0_1.length) = true := decide_eq_true (by omega)
                clear c17
                obtain rfl := Option.some.inj H
                obtain ⟨Ao18, co18, eo18⟩ := Kd.V_slice HO_0.out
                subst eo18
                have p153 : 0 ≤ (1 : Int) := (by omega)
                have q153 : 1 < (x0_1.length : Int) := of_decide_eq_true (by first | (with_reducible assumption) | assumption)
                obtain ⟨ad153, e153, hx153_0⟩ := Kd.at_int (Kd.V_reads' HO_0.out).2.2 1 p153 q153
                cases e153
                (try simp only [show (1 : Int).toNat = 1 from rfl, Nat.reduceMul, Nat.reduceEqDiff, Go.Addr.add, ↓reduceIte] at hx153_0)
                have qi153 : (1 < x0_1.length) = True := eq_true (by omega)
                (try rw [show ((1 : Int)).toNat = 1 from rfl] at hx153_0)
                replace p153 := eq_true p153
                replace q153 := eq_true q153
                have p154 : 0 ≤ (0 : Int) := (by omega)
                have q154 : 0 < (x0_1.length : Int) := of_decide_eq_true (by first | (with_reducible assumption) | assumption)
                obtain ⟨ad154, e154, hx154_0⟩ := Kd.at_int (Kd.V_reads' HO_0.out).2.2 0 p154 q154
                obtain rfl : ad153 = ad154 := (by injection e154)
                have qi154 : (0 < x0_1.length) = True := eq_true (by omega)
                (try rw [show ((0 : Int)).toNat = 0 from rfl] at hx154_0)
                (try rw [Addr.add_zero'] at hx154_0)
                replace p154 := eq_true p154
                replace q154 := eq_true q154
                go_wp2
                repeat (go_quiet (fail); try go_wp2)
                go_ret
                exact ⟨by first | rfl | (simp [errW_none, errW_some] <;> rfl) | (simp [*, errW_none, errW_some] <;> rfl), by repeat (first | (with_reducible first | exact HB.out | apply below_alloc | apply pw_below_drewN | apply below_drew1) | exact HB.out)⟩
              · rw [if_neg c17] at H
                exact absurd H (by simp)
            · rw [if_neg c16] at H
              exact absurd H (by simp)
          · rw [if_neg c15] at H
            have c15b0 : ((x0_1.length : Int) == 2) = false := beq_eq_false_iff_ne.mpr c15
            have c15b1 : ((x0_1.length : Int) != 2) = true := bne_iff_ne.mpr c15
            by_cases c19 : (x0_1.length : Int) = 1
            · rw [if_pos c19] at H
              have c19b0 : ((x0_1.length : Int) == 1) = true := beq_iff_eq.mpr c19
              have c19b1 : ((x0_1.length : Int) != 1) = false := bne_eq_false_iff_eq.mpr c19
              clear c19
              by_cases c20 : 0 < (x0_1.length : Int)
              · rw [if_pos c20] at H
                have c20b0 : decide (0 < (x0_1.length : Int)) = true := decide_eq_true c20
                have c20b1 : decide (0 < x0_1.length) = true := decide_eq_true (by omega)
                clear c20
                obtain rfl := Option.some.inj H
                obtain ⟨Ao21, co21, eo21⟩ := Kd.V_slice HO_0.out
                subst eo21
                have p155 : 0 ≤ (0 : Int) := (by omega)
                have q155 : 0 < (x0_1.length : Int) := of_decide_eq_true (by first | (with_reducible assumption) | assumption)
                obtain ⟨ad155, e155, hx155_0⟩ := Kd.at_int (Kd.V_reads' HO_0.out).2.2 0 p155 q155
                cases e155
                have qi155 : (0 < x0_1.length) = True := eq_true (by omega)
                (try rw [show ((0 : Int)).toNat = 0 from rfl] at hx155_0)
                (try rw [Addr.add_zero'] at hx155_0)
                replace p155 := eq_true p155
                replace q155 := eq_true q155
                go_wp2
                repeat (go_quiet (fail); try go_wp2)
                go_ret
                exact ⟨by first | rfl | (simp [errW_none, errW_some] <;> rfl) | (simp [*, errW_none, errW_some] <;> rfl), by repeat (first | (with_reducible first | exact HB.out | apply below_alloc | apply pw_below_drewN | apply below_drew1) | exact HB.out)⟩
              · rw [if_neg c20] at H
                exact absurd H (by simp)
            · rw [if_neg c19] at H
              have c19b0 : ((x0_1.length : Int) == 1) = false := beq_eq_false_iff_ne.mpr c19
              have c19b1 : ((x0_1.length : Int) != 1) = true := bne_iff_ne.mpr c19
              obtain rfl := Option.some.inj H
              obtain ⟨Ao22, co22, eo22⟩ := Kd.V_slice HO_0.out
              subst eo22
              go_wp2
              repeat (go_quiet (fail); try go_wp2)
              go_ret
              exact ⟨by first | rfl | (simp [errW_none, errW_some] <;> rfl) | (simp [*, errW_none, errW_some] <;> rfl), by repeat (first | (with_reducible first | exact HB.out | apply below_alloc | apply pw_below_drewN | apply below_drew1) | exact HB.out)⟩

/-! ### impl_HashOf: function 81 -/
def impl_HashOf.f (k : Nat) (l0 : List Int) : Option (Int) := (impl_own.f l0).bind fun t156 => ((badgery_Hash.f k t156).bind fun t159 => (some t159))
theorem impl_HashOf.mono : ∀ a0 k, LeO (impl_HashOf.f k a0) (impl_HashOf.f (k + 1) a0) := by
  intro a0 k
  unfold impl_HashOf.f
  repeat' first
      | (with_reducible exact badgery_Hash.mono _ _)
      | (with_reducible exact LeO.refl _)
      | (with_reducible exact LeO.none _)
      | (with_reducible refine LeO.ite ?_ ?_)
      | (with_reducible refine LeO.bind ?_ (fun _ => ?_))
      | exact badgery_Hash.mono _ _
      | exact LeO.none _
      | refine LeO.ite ?_ ?_
      | refine LeO.bind ?_ (fun _ => ?_)
set_option maxHeartbeats 8000000 in
set_option maxRecDepth 100000 in
theorem impl_HashOf.calls (k : Nat) (A0 : Option Addr) (c0 : Nat) (l0 : List Int) (r : Int) (w : World) (hr0 : Kd.C (Kd.int .u8) w A0 l0.length l0) (hc0 : l0.length ≤ c0) (h : impl_HashOf.f k l0 = some r) :
    Calls Try.prog 81 #[.slice A0 l0.length c0] w fun e w' => e = .returned (.int .u32 r) ∧ Below w.heap.size w w' := by
  have HR0 := Aside0.mk hr0
  have HC0 := Aside0.mk hc0
  clear hr0 hc0
  have HB := Aside0.mk (Below.refl w.heap.size w)
  have H : ((impl_own.f l0).bind fun t156 => ((badgery_Hash.f k t156).bind fun t159 => (some t159))) = some r := h
  clear h
  replace H := Option.bind_eq_some_iff.mp H
  obtain ⟨t156, A20, H⟩ := H
  replace H : ((badgery_Hash.f k t156).bind fun t159 => (some t159)) = some r := H
  have A2 := Aside0.mk A20
  clear A20
  replace H := Option.bind_eq_some_iff.mp H
  obtain ⟨t159, A30, H⟩ := H
  replace H : (some t159) = some r := H
  have A3 := Aside0.mk A30
  clear A30
  obtain rfl := Option.some.inj H
  go_enter Try.func81, Try.ntmps81
  go_wp2_with (first | ((with_reducible refine gate_callee (f := 89) rfl ?_); refine goesL_ (some 4) rfl rfl Try.func89 (by kernel_rfl) rfl #[.slice A0 l0.length c0] rfl (by (try simp only [List.map_toArray, List.map_cons, List.map_nil]); first | done | rfl | (simp only [List.length_drop, List.length_take]; rfl)) ?_; (with_reducible refine (impl_own.calls _ _ l0 t156 _ ?side1 ?side2 A2.out).mono ?_); (case side1 => repeat (first | exact HR0.out | (with_reducible refine Kd.C_alloc ?_ _) | (with_reducible refine Kd.C_drewN ?_ _) | (with_reducible refine Kd.C_drew ?_))); (case side2 => exact HC0.out); rintro e w4 ⟨v157, rfl, ho0, hb⟩; refine ⟨_, rfl, ?_⟩; have n0_ := Aside0.mk (Kd.R_lower ho0 (below_size (by repeat (first | (with_reducible first | exact HB.out | apply below_alloc | apply pw_below_drewN | apply below_drew1) | exact HB.out)))); have n1_ := Aside0.mk (below_step (by repeat (first | (with_reducible first | exact HB.out | apply below_alloc | apply pw_below_drewN | apply below_drew1) | exact HB.out)) hb); clear HB; have HO158 := n0_; have HB := n1_; clear n0_ n1_; (try clear hb); (try clear hb2); (try clear hk); (try clear hi); (try clear ho0); obtain ⟨Ao5, co5, eo5⟩ := Kd.R_slice HO158.out; subst eo5) | ((with_reducible refine gate_callee (f := 130) rfl ?_); refine goesL_ (some 5) rfl rfl Try.func130 (by kernel_rfl) rfl #[.slice Ao5 t156.length co5] rfl (by (try simp only [List.map_toArray, List.map_cons, List.map_nil]); first | done | rfl | (simp only [List.length_drop, List.length_take]; rfl)) ?_; (with_reducible refine (badgery_Hash.calls k (fun k_ => some k_ = (.slice Ao5 t156.length co5 : Value).ownBlock) _ _ t156 t159 _ ?side1 A3.out).mono ?_); (case side1 => exact Kd.R_V (Kd.R_tight rfl (HO158.out))); rintro e w6 ⟨rfl, hb⟩; refine ⟨_, rfl, ?_⟩; have n0_ := Aside0.mk (Kd.R_below (by (with_reducible repeat (first | apply Kd.R_alloc | apply Kd.R_drewN | apply Kd.R_drew)); exact HO158.out) hb); have n1_ := Aside0.mk (below_step (by repeat (first | (with_reducible first | exact HB.out | apply below_alloc | apply pw_below_drewN | apply below_drew1) | exact HB.out)) hb); clear HO158; clear HB; have HO158 := n0_; have HB := n1_; clear n0_ n1_; (try clear hb); (try clear hb2); (try clear hk); (try clear hi)))
  go_ret
  exact ⟨by first | rfl | (simp [errW_none, errW_some] <;> rfl) | (simp [*, errW_none, errW_some] <;> rfl), by repeat (first | (with_reducible first | exact HB.out | apply below_alloc | apply pw_below_drewN | apply below_drew1) | exact HB.out)⟩

/-! ### badgery_Filter_MayContainKey: function 131 -/
def badgery_Filter_MayContainKey.f (k : Nat) (l0 : List Int) (l1 : List Int) : Option (Bool) := (badgery_Hash.f k l1).bind fun t160 => ((badgery_Filter_MayContain.f k l0 t160).bind fun t161 => (some t161))
theorem badgery_Filter_MayContainKey.mono : ∀ a0 a1 k, LeO (badgery_Filter_MayContainKey.f k a0 a1) (badgery_Filter_MayContainKey.f (k + 1) a0 a1) := by
  intro a0 a1 k
  unfold badgery_Filter_MayContainKey.f
  repeat' first
      | (with_reducible exact badgery_Filter_MayContain.mono _ _ _)
      | (with_reducible exact badgery_Hash.mono _ _)
      | (with_reducible exact LeO.refl _)
      | (with_reducible exact LeO.none _)
      | (with_reducible refine LeO.ite ?_ ?_)
      | (with_reducible refine LeO.bind ?_ (fun _ => ?_))
      | exact badgery_Filter_MayContain.mono _ _ _
      | exact badgery_Hash.mono _ _
      | exact LeO.none _
      | refine LeO.ite ?_ ?_
      | refine LeO.bind ?_ (fun _ => ?_)
set_option maxHeartbeats 8000000 in
set_option maxRecDepth 100000 in
theorem badgery_Filter_MayContainKey.calls (k : Nat) (A0 : Option Addr) (c0 : Nat) (l0 : List Int) (A1 : Option Addr) (c1 : Nat) (l1 : List Int) (r : Bool) (w : World) (hr0 : Kd.C (Kd.int .u8) w A0 l0.length l0) (hc0 : l0.length ≤ c0) (hr1 : Kd.C (Kd.int .u8) w A1 l1.length l1) (hc1 : l1.length ≤ c1) (h : badgery_Filter_MayContainKey.f k l0 l1 = some r) :
    Calls Try.prog 131 #[.slice A0 l0.length c0, .slice A1 l1.length c1] w fun e w' => e = .returned (.bool r) ∧ Below w.heap.size w w' := by
  have HR0 := Aside0.mk hr0
  have HC0 := Aside0.mk hc0
  clear hr0 hc0
  have HR1 := Aside0.mk hr1
  have HC1 := Aside0.mk hc1
  clear hr1 hc1
  have HB := Aside0.mk (Below.refl w.heap.size w)
  have H : ((badgery_Hash.f k l1).bind fun t160 => ((badgery_Filter_MayContain.f k l0 t160).bind fun t161 => (some t161))) = some r := h
  clear h
  replace H := Option.bind_eq_some_iff.mp H
  obtain ⟨t160, A30, H⟩ := H
  replace H : ((badgery_Filter_MayContain.f k l0 t160).bind fun t161 => (some t161)) = some r := H
  have A3 := Aside0.mk A30
  clear A30
  replace H := Option.bind_eq_some_iff.mp H
  obtain ⟨t161, A40, H⟩ := H
  replace H : (some t161) = some r := H
  have A4 := Aside0.mk A40
  clear A40
  obtain rfl := Option.some.inj H
  go_enter Try.func131, Try.ntmps131
  go_wp2_with (first | ((with_reducible refine gate_callee (f := 130) rfl ?_); refine goesL_ (some 7) rfl rfl Try.func130 (by kernel_rfl) rfl #[.slice A1 l1.length c1] rfl (by (try simp only [List.map_toArray, List.map_cons, List.map_nil]); first | done | rfl | (simp only [List.length_drop, List.length_take]; rfl)) ?_; (with_reducible refine (badgery_Hash.calls k (fun k_ => k_ < w.heap.size) _ _ l1 t160 _ ?side1 A3.out).mono ?_); (case side1 => exact Kd.V_mk HC1.out (Kd.F_below (Kd.C_F (Kd.heap_int .u8) HR1.out) (by repeat (first | (with_reducible first | exact HB.out | apply below_alloc | apply pw_below_drewN | apply below_drew1) | exact HB.out)))); rintro e w5 ⟨rfl, hb⟩; refine ⟨_, rfl, ?_⟩; have n0_ := Aside0.mk (below_step (by repeat (first | (with_reducible first | exact HB.out | apply below_alloc | apply pw_below_drewN | apply below_drew1) | exact HB.out)) hb); clear HB; have HB := n0_; clear n0_; (try clear hb); (try clear hb2); (try clear hk); (try clear hi)) | ((with_reducible refine gate_callee (f := 127) rfl ?_); refine goesL_ (some 8) rfl rfl Try.func127 (by kernel_rfl) rfl #[.slice A0 l0.length c0, .int .u32 t160] rfl (by (try simp only [List.map_toArray, List.map_cons, List.map_nil]); first | done | rfl | (simp only [List.length_drop, List.length_take]; rfl)) ?_; (with_reducible refine (badgery_Filter_MayContain.calls k _ _ l0 t160 t161 _ ?side1 ?side2 A4.out).mono ?_); (case side1 => repeat (first | exact (Kd.C_below HR0.out HB.out) | (with_reducible refine Kd.C_alloc ?_ _) | (with_reducible refine Kd.C_drewN ?_ _) | (with_reducible refine Kd.C_drew ?_))); (case side2 => exact HC0.out); rintro e w' ⟨rfl, ⟨nd, rfl⟩⟩; refine ⟨_, rfl, ?_⟩))
  go_ret
  exact ⟨by first | rfl | (simp [errW_none, errW_some] <;> rfl) | (simp [*, errW_none, errW_some] <;> rfl), by repeat (first | (with_reducible first | exact HB.out | apply below_alloc | apply pw_below_drewN | apply below_drew1) | exact HB.out)⟩

/-! ### impl_MayHaveKey: function 82 -/
def impl_MayHaveKey.f (k : Nat) (l0 : List Int) (l1 : List Int) : Option (Bool) := (impl_own.f l0).bind fun t162 => ((impl_own.f l1).bind fun t165 => ((badgery_Filter_MayContainKey.f k t162 t165).bind fun t168 => (some t168)))
theorem impl_MayHaveKey.mono : ∀ a0 a1 k, LeO (impl_MayHaveKey.f k a0 a1) (impl_MayHaveKey.f (k + 1) a0 a1) := by
  intro a0 a1 k
  unfold impl_MayHaveKey.f
  repeat' first
      | (with_reducible exact badgery_Filter_MayContainKey.mono _ _ _)
      | (with_reducible exact LeO.refl _)
      | (with_reducible exact LeO.none _)
      | (with_reducible refine LeO.ite ?_ ?_)
      | (with_reducible refine LeO.bind ?_ (fun _ => ?_))
      | exact badgery_Filter_MayContainKey.mono _ _ _
      | exact LeO.none _
      | refine LeO.ite ?_ ?_
      | refine LeO.bind ?_ (fun _ => ?_)
set_option maxHeartbeats 8000000 in
set_option maxRecDepth 100000 in
theorem impl_MayHaveKey.calls (k : Nat) (A0 : Option Addr) (c0 : Nat) (l0 : List Int) (A1 : Option Addr) (c1 : Nat) (l1 : List Int) (r : Bool) (w : World) (hr0 : Kd.C (Kd.int .u8) w A0 l0.length l0) (hc0 : l0.length ≤ c0) (hr1 : Kd.C (Kd.int .u8) w A1 l1.length l1) (hc1 : l1.length ≤ c1) (h : impl_MayHaveKey.f k l0 l1 = some r) :
    Calls Try.prog 82 #[.slice A0 l0.length c0, .slice A1 l1.length c1] w fun e w' => e = .returned (.bool r) ∧ Below w.heap.size w w' := by
  have HR0 := Aside0.mk hr0
  have HC0 := Aside0.mk hc0
  clear hr0 hc0
  have HR1 := Aside0.mk hr1
  have HC1 := Aside0.mk hc1
  clear hr1 hc1
  have HB := Aside0.mk (Below.refl w.heap.size w)
  have H : ((impl_own.f l0).bind fun t162 => ((impl_own.f l1).bind fun t165 => ((badgery_Filter_MayContainKey.f k t162 t165).bind fun t168 => (some t168)))) = some r := h
  clear h
  replace H := Option.bind_eq_some_iff.mp H
  obtain ⟨t162, A30, H⟩ := H
  replace H : ((impl_own.f l1).bind fun t165 => ((badgery_Filter_MayContainKey.f k t162 t165).bind fun t168 => (some t168))) = some r := H
  have A3 := Aside0.mk A30
  clear A30
  replace H := Option.bind_eq_some_iff.mp H
  obtain ⟨t165, A40, H⟩ := H
  replace H : ((badgery_Filter_MayContainKey.f k t162 t165).bind fun t168 => (some t168)) = some r := H
  have A4 := Aside0.mk A40
  clear A40
  replace H := Option.bind_eq_some_iff.mp H
  obtain ⟨t168, A50, H⟩ := H
  replace H : (some t168) = some r := H
  have A5 := Aside0.mk A50
  clear A50
  obtain rfl := Option.some.inj H
  go_enter Try.func82, Try.ntmps82
  go_wp2_with (first | ((with_reducible refine gate_callee (f := 89) rfl ?_); refine goesL_ (some 6) rfl rfl Try.func89 (by kernel_rfl) rfl #[.slice A0 l0.length c0] rfl (by (try simp only [List.map_toArray, List.map_cons, List.map_nil]); first | done | rfl | (simp only [List.length_drop, List.length_take]; rfl)) ?_; (with_reducible refine (impl_own.calls _ _ l0 t162 _ ?side1 ?side2 A3.out).mono ?_); (case side1 => repeat (first | exact HR0.out | (with_reducible refine Kd.C_alloc ?_ _) | (with_reducible refine Kd.C_drewN ?_ _) | (with_reducible refine Kd.C_drew ?_))); (case side2 => exact HC0.out); rintro e w6 ⟨v163, rfl, ho0, hb⟩; refine ⟨_, rfl, ?_⟩; have n0_ := Aside0.mk (Kd.R_lower ho0 (below_size (by repeat (first | (with_reducible first | exact HB.out | apply below_alloc | apply pw_below_drewN | apply below_drew1) | exact HB.out)))); have n1_ := Aside0.mk (below_step (by repeat (first | (with_reducible first | exact HB.out | apply below_alloc | apply pw_below_drewN | apply below_drew1) | exact HB.out)) hb); clear HB; have HO164 := n0_; have HB := n1_; clear n0_ n1_; (try clear hb); (try clear hb2); (try clear hk); (try clear hi); (try clear ho0)) | ((with_reducible refine gate_callee (f := 89) rfl ?_); refine goesL_ (some 8) rfl rfl Try.func89 (by kernel_rfl) rfl #[.slice A1 l1.length c1] rfl (by (try simp only [List.map_toArray, List.map_cons, List.map_nil]); first | done | rfl | (simp only [List.length_drop, List.length_take]; rfl)) ?_; (with_reducible refine (impl_own.calls _ _ l1 t165 _ ?side1 ?side2 A4.out).mono ?_); (case side1 => repeat (first | exact (Kd.C_below HR1.out HB.out) | (with_reducible refine Kd.C_alloc ?_ _) | (with_reducible refine Kd.C_drewN ?_ _) | (with_reducible refine Kd.C_drew ?_))); (case side2 => exact HC1.out); rintro e w7 ⟨v166, rfl, ho0, hb⟩; refine ⟨_, rfl, ?_⟩; have n0_ := Aside0.mk (Kd.R_elder' (by (with_reducible repeat (first | apply Kd.R_alloc | apply Kd.R_drewN | apply Kd.R_drew)); exact HO164.out) (Kd.R_base ho0) hb); have n1_ := Aside0.mk (Kd.R_lower (Kd.R_new' ho0 (Kd.R_lt (by (with_reducible repeat (first | apply Kd.R_alloc | apply Kd.R_drewN | apply Kd.R_drew)); exact HO164.out))) (below_size (by repeat (first | (with_reducible first | exact HB.out | apply below_alloc | apply pw_below_drewN | apply below_drew1) | exact HB.out)))); have n2_ := Aside0.mk (below_step (by repeat (first | (with_reducible first | exact HB.out | apply below_alloc | apply pw_below_drewN | apply below_drew1) | exact HB.out)) hb); clear HO164; clear HB; have HO164 := n0_; have HO167 := n1_; have HB := n2_; clear n0_ n1_ n2_; (try clear hb); (try clear hb2); (try clear hk); (try clear hi); (try clear ho0); obtain ⟨Ao8, co8, eo8⟩ := Kd.R_slice HO164.out; subst eo8; obtain ⟨Ao9, co9, eo9⟩ := Kd.R_slice HO167.out; subst eo9) | ((with_reducible refine gate_callee (f := 131) rfl ?_); refine goesL_ (some 9) rfl rfl Try.func131 (by kernel_rfl) rfl #[.slice Ao8 t162.length co8, .slice Ao9 t165.length co9] rfl (by (try simp only [List.map_toArray, List.map_cons, List.map_nil]); first | done | rfl | (simp only [List.length_drop, List.length_take]; rfl)) ?_; (with_reducible refine (badgery_Filter_MayContainKey.calls k _ _ t162 _ _ t165 t168 _ ?side1 ?side2 ?side3 ?side4 A5.out).mono ?_); (case side1 => repeat (first | exact (Kd.R_reads' HO164.out).2.2 | (with_reducible refine Kd.C_alloc ?_ _) | (with_reducible refine Kd.C_drewN ?_ _) | (with_reducible refine Kd.C_drew ?_))); (case side2 => exact (Kd.R_reads' HO164.out).2.1); (case side3 => repeat (first | exact (Kd.R_reads' HO167.out).2.2 | (with_reducible refine Kd.C_alloc ?_ _) | (with_reducible refine Kd.C_drewN ?_ _) | (with_reducible refine Kd.C_drew ?_))); (case side4 => exact (Kd.R_reads' HO167.out).2.1); rintro e w10 ⟨rfl, hb⟩; refine ⟨_, rfl, ?_⟩; have n0_ := Aside0.mk (Kd.R_below (by (with_reducible repeat (first | apply Kd.R_alloc | apply Kd.R_drewN | apply Kd.R_drew)); exact HO164.out) hb); have n1_ := Aside0.mk (Kd.R_below (by (with_reducible repeat (first | apply Kd.R_alloc | apply Kd.R_drewN | apply Kd.R_drew)); exact HO167.out) hb); have n2_ := Aside0.mk (below_step (by repeat (first | (with_reducible first | exact HB.out | apply below_alloc | apply pw_below_drewN | apply below_drew1) | exact HB.out)) hb); clear HO164; clear HO167; clear HB; have HO164 := n0_; have HO167 := n1_; have HB := n2_; clear n0_ n1_ n2_; (try clear hb); (try clear hb2); (try clear hk); (try clear hi)))
  go_ret
  exact ⟨by first | rfl | (simp [errW_none, errW_some] <;> rfl) | (simp [*, errW_none, errW_some] <;> rfl), by repeat (first | (with_reducible first | exact HB.out | apply below_alloc | apply pw_below_drewN | apply below_drew1) | exact HB.out)⟩

end Go.Proofs.YtadhdimleabljaaQ.QB
