-- Lines that a program has printed for this claim: functions as plain Lean functions, and their walks.
import Derived.Test.YtadhdimleabljaaQB0
namespace Go.Proofs.YtadhdimleabljaaQ.QB
open Go.RowKit Go.Proofs.YtadhdimleabljaaQ.Ext Go.Proofs.YtadhdimleabljaaW.PrintWords Go.Proofs.YtadhdimleabljaaW.PrintLast Go.Proofs.YtadhdimleabljaaW.PrintMore
attribute [local go_sem] max2_int min2_int max_two min_two max_three min_three max_four min_four   -- for this text's walks alone
set_option linter.unusedVariables false
set_option linter.unusedSimpArgs false

/-! ### laws_bitsOk: function 75 -/
def laws_bitsOk.f (l0 : List Int) (a1 : Int) : Option (Bool) := if (l0.length : Int) ≤ 300 then (if a1 ≥ 1 then (some (decide (a1 ≤ 30))) else (some false)) else (some false)
set_option maxHeartbeats 8000000 in
set_option maxRecDepth 100000 in
theorem laws_bitsOk.calls (A0 : Option Addr) (c0 : Nat) (l0 : List Int) (a1 : Int) (r : Bool) (w : World) (hr0 : Kd.C (Kd.int .u32) w A0 l0.length l0) (hc0 : l0.length ≤ c0) (h : laws_bitsOk.f l0 a1 = some r) :
    Calls Try.prog 75 #[.slice A0 l0.length c0, .int .i64 a1] w fun e w' => e = .returned (.bool r) ∧ Drawn0 w w' := by
  have HR0 := Aside0.mk hr0
  have HC0 := Aside0.mk hc0
  clear hr0 hc0
  have H : (if (l0.length : Int) ≤ 300 then (if a1 ≥ 1 then (some (decide (a1 ≤ 30))) else (some false)) else (some false)) = some r := h
  clear h
  by_cases c3 : (l0.length : Int) ≤ 300
  · rw [if_pos c3] at H
    have c3b0 : decide ((l0.length : Int) ≤ 300) = true := decide_eq_true c3
    have c3b1 : decide (l0.length ≤ 300) = true := decide_eq_true (by omega)
    clear c3
    by_cases c4 : a1 ≥ 1
    · rw [if_pos c4] at H
      have c4b0 : decide (1 ≤ a1) = true := decide_eq_true c4
      clear c4
      obtain rfl := Option.some.inj H
      go_enter Try.func75, Try.ntmps75
      go_wp2
      go_ret
      exact ⟨by first | rfl | (simp; done) | (simp [*]; done), by repeat (first | exact Drawn0.refl _ | apply Drawn0.step)⟩
    · rw [if_neg c4] at H
      have c4b0 : decide (1 ≤ a1) = false := decide_eq_false c4
      clear c4
      obtain rfl := Option.some.inj H
      go_enter Try.func75, Try.ntmps75
      go_wp2
      go_ret
      exact ⟨by first | rfl | (simp; done) | (simp [*]; done), by repeat (first | exact Drawn0.refl _ | apply Drawn0.step)⟩
  · rw [if_neg c3] at H
    have c3b0 : decide ((l0.length : Int) ≤ 300) = false := decide_eq_false c3
    have c3b1 : decide (l0.length ≤ 300) = false := decide_eq_false (by omega)
    clear c3
    obtain rfl := Option.some.inj H
    go_enter Try.func75, Try.ntmps75
    go_wp2
    go_ret
    exact ⟨by first | rfl | (simp; done) | (simp [*]; done), by repeat (first | exact Drawn0.refl _ | apply Drawn0.step)⟩

/-! ### badgery_Filter_MayContain: function 127 -/
def badgery_Filter_MayContain.l0 : Nat → List Int → Int → Int → Int → Int → Int → Option (Bool)
  | 0, _, _, _, _, _, _ => none
  | k + 1, x0, x1, x5, x6, x7, x8 => if x8 < x5 then (if x6 = 0 then (none) else (if 0 ≤ ((Int.tdiv (Int.tmod x1 x6) 8) % 4294967296) then (if ((Int.tdiv (Int.tmod x1 x6) 8) % 4294967296) < (x0.length : Int) then (if 0 ≤ (Int.tmod (Int.tmod x1 x6) 8) then (if (Go.bits .and .u8 (rd x0 ((Int.tdiv (Int.tmod x1 x6) 8) % 4294967296)) (shl .u8 1 (Int.tmod (Int.tmod x1 x6) 8))) = 0 then (some false) else (badgery_Filter_MayContain.l0 k x0 ((x1 + x7) % 4294967296) x5 x6 x7 ((x8 + 1) % 256))) else (none)) else (none)) else (none))) else (some true)
def badgery_Filter_MayContain.f (k : Nat) (l0 : List Int) (a1 : Int) : Option (Bool) := if (l0.length : Int) < 2 then (some false) else (if 0 ≤ (wrap64 ((l0.length : Int) - 1)) then (if (wrap64 ((l0.length : Int) - 1)) < (l0.length : Int) then (if (rd l0 (wrap64 ((l0.length : Int) - 1))) > 30 then (some true) else (badgery_Filter_MayContain.l0 k l0 a1 (rd l0 (wrap64 ((l0.length : Int) - 1))) ((wrap64 (8 * (wrap64 ((l0.length : Int) - 1)))) % 4294967296) (Go.bits .or .u32 (a1 / 131072) ((a1 * 32768) % 4294967296)) 0)) else (none)) else (none))
theorem badgery_Filter_MayContain.mono_l : ∀ k, (∀ y0 y1 y2 y3 y4 y5, LeO (badgery_Filter_MayContain.l0 k y0 y1 y2 y3 y4 y5) (badgery_Filter_MayContain.l0 (k + 1) y0 y1 y2 y3 y4 y5))
  | 0 => fun _ _ _ _ _ _ r h => by simp [badgery_Filter_MayContain.l0] at h
  | k + 1 => by
    have ih0 := badgery_Filter_MayContain.mono_l k
    · intro y0 y1 y2 y3 y4 y5
      unfold badgery_Filter_MayContain.l0
      repeat' first
      | (with_reducible exact ih0 _ _ _ _ _ _)
      | (with_reducible exact LeO.refl _)
      | (with_reducible exact LeO.none _)
      | (with_reducible refine LeO.ite ?_ ?_)
      | (with_reducible refine LeO.bind ?_ (fun _ => ?_))
      | exact ih0 _ _ _ _ _ _
      | exact LeO.none _
      | refine LeO.ite ?_ ?_
      | refine LeO.bind ?_ (fun _ => ?_)
theorem badgery_Filter_MayContain.mono : ∀ a0 a1 k, LeO (badgery_Filter_MayContain.f k a0 a1) (badgery_Filter_MayContain.f (k + 1) a0 a1) := by
  intro a0 a1 k
  have ih0 := badgery_Filter_MayContain.mono_l k
  unfold badgery_Filter_MayContain.f
  repeat' first
      | (with_reducible exact ih0 _ _ _ _ _ _)
      | (with_reducible exact LeO.refl _)
      | (with_reducible exact LeO.none _)
      | (with_reducible refine LeO.ite ?_ ?_)
      | (with_reducible refine LeO.bind ?_ (fun _ => ?_))
      | exact ih0 _ _ _ _ _ _
      | exact LeO.none _
      | refine LeO.ite ?_ ?_
      | refine LeO.bind ?_ (fun _ => ?_)
set_option maxHeartbeats 8000000 in
set_option maxRecDepth 100000 in
theorem badgery_Filter_MayContain.calls (k : Nat) (A0 : Option Addr) (c0 : Nat) (l0 : List Int) (a1 : Int) (r : Bool) (w : World) (hr0 : Kd.C (Kd.int .u8) w A0 l0.length l0) (hc0 : l0.length ≤ c0) (h : badgery_Filter_MayContain.f k l0 a1 = some r) :
    Calls Try.prog 127 #[.slice A0 l0.length c0, .int .u32 a1] w fun e w' => e = .returned (.bool r) ∧ Drawn0 w w' := by
  have HR0 := Aside0.mk hr0
  have HC0 := Aside0.mk hc0
  clear hr0 hc0
  have H : (if (l0.length : Int) < 2 then (some false) else (if 0 ≤ (wrap64 ((l0.length : Int) - 1)) then (if (wrap64 ((l0.length : Int) - 1)) < (l0.length : Int) then (if (rd l0 (wrap64 ((l0.length : Int) - 1))) > 30 then (some true) else (badgery_Filter_MayContain.l0 k l0 a1 (rd l0 (wrap64 ((l0.length : Int) - 1))) ((wrap64 (8 * (wrap64 ((l0.length : Int) - 1)))) % 4294967296) (Go.bits .or .u32 (a1 / 131072) ((a1 * 32768) % 4294967296)) 0)) else (none)) else (none))) = some r := h
  clear h
  by_cases c3 : (l0.length : Int) < 2
  · rw [if_pos c3] at H
    have c3b0 : decide ((l0.length : Int) < 2) = true := decide_eq_true c3
    have c3b1 : decide (l0.length < 2) = true := decide_eq_true (by omega)
    clear c3
    obtain rfl := Option.some.inj H
    go_enter Try.func127, Try.ntmps127
    go_wp2
    go_ret
    exact ⟨by first | rfl | (simp; done) | (simp [*]; done), by repeat (first | exact Drawn0.refl _ | apply Drawn0.step)⟩
  · rw [if_neg c3] at H
    have c3b0 : decide ((l0.length : Int) < 2) = false := decide_eq_false c3
    have c3b1 : decide (l0.length < 2) = false := decide_eq_false (by omega)
    clear c3
    obtain ⟨ji4, hji4⟩ : ∃ j_ : Int, (wrap64 ((l0.length : Int) - 1)) = j_ := ⟨_, rfl⟩
    replace H : (if 0 ≤ (ji4) then (if (ji4) < (l0.length : Int) then (if (rd l0 (ji4)) > 30 then (some true) else (badgery_Filter_MayContain.l0 k l0 a1 (rd l0 (ji4)) ((wrap64 (8 * (ji4))) % 4294967296) (Go.bits .or .u32 (a1 / 131072) ((a1 * 32768) % 4294967296)) 0)) else (none)) else (none)) = some r := by first | (rw [hji4] at H; exact H) | (simp only [hji4] at H ⊢; exact H)
    have hji4w : (IntKind.i64.wrap ((l0.length : Int) - 1)) = ji4 := (i64_w _).trans hji4
    by_cases c5 : 0 ≤ (ji4)
    · rw [if_pos c5] at H
      have c5b0 : decide (0 ≤ (ji4)) = true := decide_eq_true c5
      clear c5
      by_cases c6 : (ji4) < (l0.length : Int)
      · rw [if_pos c6] at H
        have c6b0 : decide ((ji4) < (l0.length : Int)) = true := decide_eq_true c6
        clear c6
        by_cases c7 : (rd l0 (ji4)) > 30
        · rw [if_pos c7] at H
          have c7b0 : decide (30 < (rd l0 (ji4))) = true := decide_eq_true c7
          clear c7
          obtain rfl := Option.some.inj H
          have p101 : 0 ≤ ((ji4) : Int) := of_decide_eq_true (by first | (with_reducible assumption) | assumption)
          have q101 : (ji4) < (l0.length : Int) := of_decide_eq_true (by first | (with_reducible assumption) | assumption)
          obtain ⟨ad101, e101, hx101_0⟩ := Kd.at_int HR0.out (ji4) p101 q101
          cases e101
          replace p101 := eq_true p101
          replace q101 := eq_true q101
          go_enter Try.func127, Try.ntmps127
          go_wp2
          go_ret
          exact ⟨by first | rfl | (simp; done) | (simp only [← hji4] <;> (first | rfl | simp)) | (simp [*]; done), by repeat (first | exact Drawn0.refl _ | apply Drawn0.step)⟩
        · rw [if_neg c7] at H
          have c7b0 : decide (30 < (rd l0 (ji4))) = false := decide_eq_false c7
          clear c7
          have H' := Aside0.mk H
          clear H
          have p101 : 0 ≤ ((ji4) : Int) := of_decide_eq_true (by first | (with_reducible assumption) | assumption)
          have q101 : (ji4) < (l0.length : Int) := of_decide_eq_true (by first | (with_reducible assumption) | assumption)
          obtain ⟨ad101, e101, hx101_0⟩ := Kd.at_int HR0.out (ji4) p101 q101
          cases e101
          replace p101 := eq_true p101
          replace q101 := eq_true q101
          go_enter Try.func127, Try.ntmps127
          go_wp2
          go_loopg [1, 8] k (fun kq v1 v8 w' => ∃ (x1_1 : Int) (x8_1 : Int), v1 = .int .u32 x1_1 ∧ v8 = .int .u8 x8_1 ∧ Aside0 (badgery_Filter_MayContain.l0 kq l0 x1_1 (rd l0 (ji4)) ((wrap64 (8 * (ji4))) % 4294967296) (Go.bits .or .u32 (a1 / 131072) ((a1 * 32768) % 4294967296)) x8_1 = some r) ∧ Aside0 (kq ≤ k) ∧ Drawn0 w w')
          case atStart => exact ⟨(a1), (0), (by first | rfl | (simp; done) | (simp [*]; done)), (by first | rfl | (simp; done) | (simp [*]; done)), H', ⟨Nat.le_refl _⟩, by repeat (first | exact Drawn0.refl _ | apply Drawn0.step)⟩
          case round =>
            clear H'
            try clear c1
            try clear p1
            try clear q1
            try clear hx1
            try clear p2
            try clear c3
            try clear c3b0
            try clear c3b1
            try clear c5
            try clear c5b0
            try clear c6
            try clear c6b0
            try clear p6
            try clear c7
            try clear c7b0
            try clear hx101_0
            try clear p101
            try clear q101
            obtain ⟨x1_1, x8_1, rfl, rfl, HA, HK1, ⟨m1, rfl⟩⟩ := hrel
            cases gk with
            | zero => exact absurd HA.out (by simp [badgery_Filter_MayContain.l0])
            | succ k1 =>
              have H := HA.out
              clear HA
              simp only [badgery_Filter_MayContain.l0] at H
              by_cases c8 : x8_1 < (rd l0 (ji4))
              · rw [if_pos c8] at H
                have c8b0 : decide (x8_1 < (rd l0 (ji4))) = true := decide_eq_true c8
                clear c8
                by_cases c9 : ((wrap64 (8 * (ji4))) % 4294967296) = 0
                · rw [if_pos c9] at H
                  exact absurd H (by simp)
                · rw [if_neg c9] at H
                  have c9b0 : (((wrap64 (8 * (ji4))) % 4294967296) == 0) = false := beq_eq_false_iff_ne.mpr c9
                  have c9b1 : (((wrap64 (8 * (ji4))) % 4294967296) != 0) = true := bne_iff_ne.mpr c9
                  obtain ⟨ji10, hji10⟩ : ∃ j_ : Int, ((Int.tdiv (Int.tmod x1_1 ((wrap64 (8 * (ji4))) % 4294967296)) 8) % 4294967296) = j_ := ⟨_, rfl⟩
                  replace H : (if 0 ≤ (ji10) then (if (ji10) < (l0.length : Int) then (if 0 ≤ (Int.tmod (Int.tmod x1_1 ((wrap64 (8 * (ji4))) % 4294967296)) 8) then (if (Go.bits .and .u8 (rd l0 (ji10)) (shl .u8 1 (Int.tmod (Int.tmod x1_1 ((wrap64 (8 * (ji4))) % 4294967296)) 8))) = 0 then (some false) else (badgery_Filter_MayContain.l0 k1 l0 ((x1_1 + (Go.bits .or .u32 (a1 / 131072) ((a1 * 32768) % 4294967296))) % 4294967296) (rd l0 (ji4)) ((wrap64 (8 * (ji4))) % 4294967296) (Go.bits .or .u32 (a1 / 131072) ((a1 * 32768) % 4294967296)) ((x8_1 + 1) % 256))) else (none)) else (none)) else (none)) = some r := by first | (rw [hji10] at H; exact H) | (simp only [hji10] at H ⊢; exact H)
                  by_cases c11 : 0 ≤ (ji10)
                  · rw [if_pos c11] at H
                    have c11b0 : decide (0 ≤ (ji10)) = true := decide_eq_true c11
                    clear c11
                    by_cases c12 : (ji10) < (l0.length : Int)
                    · rw [if_pos c12] at H
                      have c12b0 : decide ((ji10) < (l0.length : Int)) = true := decide_eq_true c12
                      clear c12
                      obtain ⟨ji13, hji13⟩ : ∃ j_ : Int, (Int.tmod (Int.tmod x1_1 ((wrap64 (8 * (ji4))) % 4294967296)) 8) = j_ := ⟨_, rfl⟩
                      replace H : (if 0 ≤ (ji13) then (if (Go.bits .and .u8 (rd l0 (ji10)) (shl .u8 1 (ji13))) = 0 then (some false) else (badgery_Filter_MayContain.l0 k1 l0 ((x1_1 + (Go.bits .or .u32 (a1 / 131072) ((a1 * 32768) % 4294967296))) % 4294967296) (rd l0 (ji4)) ((wrap64 (8 * (ji4))) % 4294967296) (Go.bits .or .u32 (a1 / 131072) ((a1 * 32768) % 4294967296)) ((x8_1 + 1) % 256))) else (none)) = some r := by first | (rw [hji13] at H; exact H) | (simp only [hji13] at H ⊢; exact H)
                      by_cases c14 : 0 ≤ (ji13)
                      · rw [if_pos c14] at H
                        have c14b0 := eq_true c14
                        have c14b1 : decide (0 ≤ (ji13)) = true := decide_eq_true c14
                        clear c14
                        obtain ⟨ji15, hji15⟩ : ∃ j_ : Int, (shl .u8 1 (ji13)) = j_ := ⟨_, rfl⟩
                        replace H : (if (Go.bits .and .u8 (rd l0 (ji10)) (ji15)) = 0 then (some false) else (badgery_Filter_MayContain.l0 k1 l0 ((x1_1 + (Go.bits .or .u32 (a1 / 131072) ((a1 * 32768) % 4294967296))) % 4294967296) (rd l0 (ji4)) ((wrap64 (8 * (ji4))) % 4294967296) (Go.bits .or .u32 (a1 / 131072) ((a1 * 32768) % 4294967296)) ((x8_1 + 1) % 256))) = some r := by first | (rw [hji15] at H; exact H) | (simp only [hji15] at H ⊢; exact H)
                        have hji15_ : (IntKind.u8.wrap (1 * 2 ^ min (ji13).toNat 8)) = ji15 := hji15
                        have hji15z : (ji13) ≤ 8 → (IntKind.u8.wrap (1 * 2 ^ (ji13).toNat)) = ji15 := shl_small hji15
                        have hji15u : (IntKind.u8.wrap (2 ^ min (ji13).toNat 8)) = ji15 := by have h_ := hji15_; rw [Int.one_mul] at h_; exact h_
                        have hji15v : (ji13) ≤ 8 → (IntKind.u8.wrap (2 ^ (ji13).toNat)) = ji15 := fun hle_ => by have h_ := hji15z hle_; rw [Int.one_mul] at h_; exact h_
                        by_cases c16 : (Go.bits .and .u8 (rd l0 (ji10)) (ji15)) = 0
                        · rw [if_pos c16] at H
                          have c16b0 : ((Go.bits .and .u8 (rd l0 (ji10)) (ji15)) == 0) = true := beq_iff_eq.mpr c16
                          have c16b1 : ((Go.bits .and .u8 (rd l0 (ji10)) (ji15)) != 0) = false := bne_eq_false_iff_eq.mpr c16
                          clear c16
                          obtain rfl := Option.some.inj H
                          have p102 : 0 ≤ ((ji10) : Int) := of_decide_eq_true (by first | (with_reducible assumption) | assumption)
                          have q102 : (ji10) < (l0.length : Int) := of_decide_eq_true (by first | (with_reducible assumption) | assumption)
                          obtain ⟨ad102, e102, hx102_0⟩ := Kd.at_int HR0.out (ji10) p102 q102
                          obtain rfl : ad101 = ad102 := (by injection e102)
                          replace p102 := eq_true p102
                          replace q102 := eq_true q102
                          go_wp2
                          go_ret
                          exact ⟨by first | rfl | (simp; done) | (simp only [← hji4, ← hji10, ← hji13, ← hji15] <;> (first | rfl | simp)) | (simp [*]; done), by repeat (first | exact Drawn0.refl _ | apply Drawn0.step)⟩
                        · rw [if_neg c16] at H
                          have c16b0 : ((Go.bits .and .u8 (rd l0 (ji10)) (ji15)) == 0) = false := beq_eq_false_iff_ne.mpr c16
                          have c16b1 : ((Go.bits .and .u8 (rd l0 (ji10)) (ji15)) != 0) = true := bne_iff_ne.mpr c16
                          have H' := Aside0.mk H
                          clear H
                          have p102 : 0 ≤ ((ji10) : Int) := of_decide_eq_true (by first | (with_reducible assumption) | assumption)
                          have q102 : (ji10) < (l0.length : Int) := of_decide_eq_true (by first | (with_reducible assumption) | assumption)
                          obtain ⟨ad102, e102, hx102_0⟩ := Kd.at_int HR0.out (ji10) p102 q102
                          obtain rfl : ad101 = ad102 := (by injection e102)
                          replace p102 := eq_true p102
                          replace q102 := eq_true q102
                          go_wp2
                          go_roundg k1
                          case measure => have := HK1.out; omega
                          case rel => exact ⟨((x1_1 + (Go.bits .or .u32 (a1 / 131072) ((a1 * 32768) % 4294967296))) % 4294967296), ((x8_1 + 1) % 256), (by first | rfl | (simp; done) | (simp [*]; done)), (by first | rfl | (simp; done) | (simp [*]; done)), H', ⟨by have := HK1.out; omega⟩, by repeat (first | exact Drawn0.refl _ | apply Drawn0.step)⟩
                      · rw [if_neg c14] at H
                        exact absurd H (by simp)
                    · rw [if_neg c12] at H
                      exact absurd H (by simp)
                  · rw [if_neg c11] at H
                    exact absurd H (by simp)
              · rw [if_neg c8] at H
                have c8b0 : decide (x8_1 < (rd l0 (ji4))) = false := decide_eq_false c8
                clear c8
                obtain rfl := Option.some.inj H
                go_wp2
                go_ret
                exact ⟨by first | rfl | (simp; done) | (simp only [← hji4] <;> (first | rfl | simp)) | (simp [*]; done), by repeat (first | exact Drawn0.refl _ | apply Drawn0.step)⟩
      · rw [if_neg c6] at H
        exact absurd H (by simp)
    · rw [if_neg c5] at H
      exact absurd H (by simp)

/-! ### impl_MayHave: function 77 -/
def impl_MayHave.f (k : Nat) (l0 : List Int) (a1 : Int) : Option (Bool) := (impl_own.f l0).bind fun t103 => ((badgery_Filter_MayContain.f k t103 a1).bind fun t106 => (some t106))
theorem impl_MayHave.mono : ∀ a0 a1 k, LeO (impl_MayHave.f k a0 a1) (impl_MayHave.f (k + 1) a0 a1) := by
  intro a0 a1 k
  unfold impl_MayHave.f
  repeat' first
      | (with_reducible exact badgery_Filter_MayContain.mono _ _ _)
      | (with_reducible exact LeO.refl _)
      | (with_reducible exact LeO.none _)
      | (with_reducible refine LeO.ite ?_ ?_)
      | (with_reducible refine LeO.bind ?_ (fun _ => ?_))
      | exact badgery_Filter_MayContain.mono _ _ _
      | exact LeO.none _
      | refine LeO.ite ?_ ?_
      | refine LeO.bind ?_ (fun _ => ?_)
set_option maxHeartbeats 8000000 in
set_option maxRecDepth 100000 in
theorem impl_MayHave.calls (k : Nat) (A0 : Option Addr) (c0 : Nat) (l0 : List Int) (a1 : Int) (r : Bool) (w : World) (hr0 : Kd.C (Kd.int .u8) w A0 l0.length l0) (hc0 : l0.length ≤ c0) (h : impl_MayHave.f k l0 a1 = some r) :
    Calls Try.prog 77 #[.slice A0 l0.length c0, .int .u32 a1] w fun e w' => e = .returned (.bool r) ∧ Below w.heap.size w w' := by
  have HR0 := Aside0.mk hr0
  have HC0 := Aside0.mk hc0
  clear hr0 hc0
  have HB := Aside0.mk (Below.refl w.heap.size w)
  have H : ((impl_own.f l0).bind fun t103 => ((badgery_Filter_MayContain.f k t103 a1).bind fun t106 => (some t106))) = some r := h
  clear h
  replace H := Option.bind_eq_some_iff.mp H
  obtain ⟨t103, A30, H⟩ := H
  replace H : ((badgery_Filter_MayContain.f k t103 a1).bind fun t106 => (some t106)) = some r := H
  have A3 := Aside0.mk A30
  clear A30
  replace H := Option.bind_eq_some_iff.mp H
  obtain ⟨t106, A40, H⟩ := H
  replace H : (some t106) = some r := H
  have A4 := Aside0.mk A40
  clear A40
  obtain rfl := Option.some.inj H
  go_enter Try.func77, Try.ntmps77
  go_wp2_with (first | ((with_reducible refine gate_callee (f := 89) rfl ?_); refine goesL_ (some 6) rfl rfl Try.func89 (by kernel_rfl) rfl #[.slice A0 l0.length c0] rfl (by (try simp only [List.map_toArray, List.map_cons, List.map_nil]); first | done | rfl | (simp only [List.length_drop, List.length_take]; rfl)) ?_; (with_reducible refine (impl_own.calls _ _ l0 t103 _ ?side1 ?side2 A3.out).mono ?_); (case side1 => repeat (first | exact HR0.out | (with_reducible refine Kd.C_alloc ?_ _) | (with_reducible refine Kd.C_drewN ?_ _) | (with_reducible refine Kd.C_drew ?_))); (case side2 => exact HC0.out); rintro e w5 ⟨v104, rfl, ho0, hb⟩; refine ⟨_, rfl, ?_⟩; have n0_ := Aside0.mk (Kd.R_lower ho0 (below_size (by repeat (first | (with_reducible first | exact HB.out | apply below_alloc | apply pw_below_drewN | apply below_drew1) | exact HB.out)))); have n1_ := Aside0.mk (below_step (by repeat (first | (with_reducible first | exact HB.out | apply below_alloc | apply pw_below_drewN | apply below_drew1) | exact HB.out)) hb); clear HB; have HO105 := n0_; have HB := n1_; clear n0_ n1_; (try clear hb); (try clear hb2); (try clear hk); (try clear hi); (try clear ho0); obtain ⟨Ao6, co6, eo6⟩ := Kd.R_slice HO105.out; subst eo6) | ((with_reducible refine gate_callee (f := 127) rfl ?_); refine goesL_ (some 8) rfl rfl Try.func127 (by kernel_rfl) rfl #[.slice Ao6 t103.length co6, .int .u32 a1] rfl (by (try simp only [List.map_toArray, List.map_cons, List.map_nil]); first | done | rfl | (simp only [List.length_drop, List.length_take]; rfl)) ?_; (with_reducible refine (badgery_Filter_MayContain.calls k _ _ t103 a1 t106 _ ?side1 ?side2 A4.out).mono ?_); (case side1 => repeat (first | exact (Kd.R_reads' HO105.out).2.2 | (with_reducible refine Kd.C_alloc ?_ _) | (with_reducible refine Kd.C_drewN ?_ _) | (with_reducible refine Kd.C_drew ?_))); (case side2 => exact (Kd.R_reads' HO105.out).2.1); rintro e w' ⟨rfl, ⟨nd, rfl⟩⟩; refine ⟨_, rfl, ?_⟩))
  go_ret
  exact ⟨by first | rfl | (simp [errW_none, errW_some] <;> rfl) | (simp [*, errW_none, errW_some] <;> rfl), by repeat (first | (with_reducible first | exact HB.out | apply below_alloc | apply pw_below_drewN | apply below_drew1) | exact HB.out)⟩

end Go.Proofs.YtadhdimleabljaaQ.QB
