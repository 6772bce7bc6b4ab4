-- Lines that a program has printed for this claim: functions as plain Lean functions, and their walks.
import Derived.Test.YtadhdimleabljaaQN0
namespace Go.Proofs.YtadhdimleabljaaQ.QN
open Go.RowKit Go.Proofs.YtadhdimleabljaaQ.Ext Go.Proofs.YtadhdimleabljaaW.PrintWords Go.Proofs.YtadhdimleabljaaW.PrintLast Go.Proofs.YtadhdimleabljaaW.PrintMore
attribute [local go_sem] max2_int min2_int max_two min_two max_three min_three max_four min_four   -- for this text's walks alone
set_option linter.unusedVariables false
set_option linter.unusedSimpArgs false

/-! ### badgery_beUint16: function 153 -/
def badgery_beUint16.f (l0 : List Int) : Option (Int) := if 1 < (l0.length : Int) then (if 0 < (l0.length : Int) then (some (Go.bits .or .u16 (IntKind.u16.wrap (rd l0 1)) (IntKind.u16.wrap ((IntKind.u16.wrap (rd l0 0)) * 256)))) else (none)) else (none)
set_option maxHeartbeats 8000000 in
set_option maxRecDepth 100000 in
theorem badgery_beUint16.calls (A0 : Option Addr) (c0 : Nat) (l0 : List Int) (r : Int) (w : World) (hr0 : Kd.C (Kd.int .u8) w A0 l0.length l0) (hc0 : l0.length ≤ c0) (h : badgery_beUint16.f l0 = some r) :
    Calls Try.prog 153 #[.slice A0 l0.length c0] w fun e w' => e = .returned (.int .u16 r) ∧ Drawn0 w w' := by
  have HR0 := Aside0.mk hr0
  have HC0 := Aside0.mk hc0
  clear hr0 hc0
  have H : (if 1 < (l0.length : Int) then (if 0 < (l0.length : Int) then (some (Go.bits .or .u16 (IntKind.u16.wrap (rd l0 1)) (IntKind.u16.wrap ((IntKind.u16.wrap (rd l0 0)) * 256)))) else (none)) else (none)) = some r := h
  clear h
  by_cases c2 : 1 < (l0.length : Int)
  · rw [if_pos c2] at H
    have c2b0 : decide (1 < (l0.length : Int)) = true := decide_eq_true c2
    have c2b1 : decide (1 < l0.length) = true := decide_eq_true (by omega)
    clear c2
    by_cases c3 : 0 < (l0.length : Int)
    · rw [if_pos c3] at H
      have c3b0 : decide (0 < (l0.length : Int)) = true := decide_eq_true c3
      have c3b1 : decide (0 < l0.length) = true := decide_eq_true (by omega)
      clear c3
      obtain rfl := Option.some.inj H
      have p101 : 0 ≤ (1 : Int) := (by omega)
      have q101 : 1 < (l0.length : Int) := of_decide_eq_true (by first | (with_reducible assumption) | assumption)
      obtain ⟨ad101, e101, hx101_0⟩ := Kd.at_int HR0.out 1 p101 q101
      cases e101
      (try simp only [show (1 : Int).toNat = 1 from rfl, Nat.reduceMul, Nat.reduceEqDiff, Go.Addr.add, ↓reduceIte] at hx101_0)
      have qi101 : (1 < l0.length) = True := eq_true (by omega)
      (try rw [show ((1 : Int)).toNat = 1 from rfl] at hx101_0)
      replace p101 := eq_true p101
      replace q101 := eq_true q101
      have p102 : 0 ≤ (0 : Int) := (by omega)
      have q102 : 0 < (l0.length : Int) := of_decide_eq_true (by first | (with_reducible assumption) | assumption)
      obtain ⟨ad102, e102, hx102_0⟩ := Kd.at_int HR0.out 0 p102 q102
      obtain rfl : ad101 = ad102 := (by injection e102)
      have qi102 : (0 < l0.length) = True := eq_true (by omega)
      (try rw [show ((0 : Int)).toNat = 0 from rfl] at hx102_0)
      (try rw [Addr.add_zero'] at hx102_0)
      replace p102 := eq_true p102
      replace q102 := eq_true q102
      go_enter Try.func153, Try.ntmps153
      go_wp2
      repeat (go_quiet (fail); try go_wp2)
      go_ret
      exact ⟨by first | rfl | (simp; done) | (simp [*]; done), by repeat (first | exact Drawn0.refl _ | apply Drawn0.step)⟩
    · rw [if_neg c3] at H
      exact absurd H (by simp)
  · rw [if_neg c2] at H
    exact absurd H (by simp)

/-! ### badgery_BytesToU16: function 117 -/
def badgery_BytesToU16.f (l0 : List Int) : Option (Int) := (badgery_beUint16.f l0).bind fun t103 => (some t103)
set_option maxHeartbeats 8000000 in
set_option maxRecDepth 100000 in
theorem badgery_BytesToU16.calls (A0 : Option Addr) (c0 : Nat) (l0 : List Int) (r : Int) (w : World) (hr0 : Kd.C (Kd.int .u8) w A0 l0.length l0) (hc0 : l0.length ≤ c0) (h : badgery_BytesToU16.f l0 = some r) :
    Calls Try.prog 117 #[.slice A0 l0.length c0] w fun e w' => e = .returned (.int .u16 r) ∧ Drawn0 w w' := by
  have HR0 := Aside0.mk hr0
  have HC0 := Aside0.mk hc0
  clear hr0 hc0
  have H : ((badgery_beUint16.f l0).bind fun t103 => (some t103)) = some r := h
  clear h
  replace H := Option.bind_eq_some_iff.mp H
  obtain ⟨t103, A20, H⟩ := H
  replace H : (some t103) = some r := H
  have A2 := Aside0.mk A20
  clear A20
  obtain rfl := Option.some.inj H
  go_enter Try.func117, Try.ntmps117
  go_wp2_with (first | ((with_reducible refine gate_callee (f := 153) rfl ?_); refine goesL_ (some 4) rfl rfl Try.func153 (by kernel_rfl) rfl #[.slice A0 l0.length c0] rfl (by (try simp only [List.map_toArray, List.map_cons, List.map_nil]); first | done | rfl | (simp only [List.length_drop, List.length_take]; rfl)) ?_; (with_reducible refine (badgery_beUint16.calls _ _ l0 t103 _ ?side1 ?side2 A2.out).mono ?_); (case side1 => repeat (first | exact HR0.out | (with_reducible refine Kd.C_alloc ?_ _) | (with_reducible refine Kd.C_drewN ?_ _) | (with_reducible refine Kd.C_drew ?_))); (case side2 => exact HC0.out); rintro e w' ⟨rfl, ⟨nd, rfl⟩⟩; refine ⟨_, rfl, ?_⟩))
  go_ret
  exact ⟨by first | rfl | (simp; done) | (simp [*]; done), by repeat (first | exact Drawn0.refl _ | apply Drawn0.step)⟩

/-! ### impl_Read16: function 65 -/
def impl_Read16.f (l0 : List Int) : Option (Int) := (impl_own.f l0).bind fun t104 => ((badgery_BytesToU16.f t104).bind fun t107 => (some t107))
set_option maxHeartbeats 8000000 in
set_option maxRecDepth 100000 in
theorem impl_Read16.calls (A0 : Option Addr) (c0 : Nat) (l0 : List Int) (r : Int) (w : World) (hr0 : Kd.C (Kd.int .u8) w A0 l0.length l0) (hc0 : l0.length ≤ c0) (h : impl_Read16.f l0 = some r) :
    Calls Try.prog 65 #[.slice A0 l0.length c0] w fun e w' => e = .returned (.int .u16 r) ∧ Below w.heap.size w w' := by
  have HR0 := Aside0.mk hr0
  have HC0 := Aside0.mk hc0
  clear hr0 hc0
  have HB := Aside0.mk (Below.refl w.heap.size w)
  have H : ((impl_own.f l0).bind fun t104 => ((badgery_BytesToU16.f t104).bind fun t107 => (some t107))) = some r := h
  clear h
  replace H := Option.bind_eq_some_iff.mp H
  obtain ⟨t104, A20, H⟩ := H
  replace H : ((badgery_BytesToU16.f t104).bind fun t107 => (some t107)) = some r := H
  have A2 := Aside0.mk A20
  clear A20
  replace H := Option.bind_eq_some_iff.mp H
  obtain ⟨t107, A30, H⟩ := H
  replace H : (some t107) = some r := H
  have A3 := Aside0.mk A30
  clear A30
  obtain rfl := Option.some.inj H
  go_enter Try.func65, Try.ntmps65
  go_wp2_with (first | ((with_reducible refine gate_callee (f := 89) rfl ?_); refine goesL_ (some 4) rfl rfl Try.func89 (by kernel_rfl) rfl #[.slice A0 l0.length c0] rfl (by (try simp only [List.map_toArray, List.map_cons, List.map_nil]); first | done | rfl | (simp only [List.length_drop, List.length_take]; rfl)) ?_; (with_reducible refine (impl_own.calls _ _ l0 t104 _ ?side1 ?side2 A2.out).mono ?_); (case side1 => repeat (first | exact HR0.out | (with_reducible refine Kd.C_alloc ?_ _) | (with_reducible refine Kd.C_drewN ?_ _) | (with_reducible refine Kd.C_drew ?_))); (case side2 => exact HC0.out); rintro e w4 ⟨v105, rfl, ho0, hb⟩; refine ⟨_, rfl, ?_⟩; have n0_ := Aside0.mk (Kd.R_lower ho0 (below_size (by repeat (first | (with_reducible first | exact HB.out | apply below_alloc | apply pw_below_drewN | apply below_drew1) | exact HB.out)))); have n1_ := Aside0.mk (below_step (by repeat (first | (with_reducible first | exact HB.out | apply below_alloc | apply pw_below_drewN | apply below_drew1) | exact HB.out)) hb); clear HB; have HO106 := n0_; have HB := n1_; clear n0_ n1_; (try clear hb); (try clear hb2); (try clear hk); (try clear hi); (try clear ho0); obtain ⟨Ao5, co5, eo5⟩ := Kd.R_slice HO106.out; subst eo5) | ((with_reducible refine gate_callee (f := 117) rfl ?_); refine goesL_ (some 5) rfl rfl Try.func117 (by kernel_rfl) rfl #[.slice Ao5 t104.length co5] rfl (by (try simp only [List.map_toArray, List.map_cons, List.map_nil]); first | done | rfl | (simp only [List.length_drop, List.length_take]; rfl)) ?_; (with_reducible refine (badgery_BytesToU16.calls _ _ t104 t107 _ ?side1 ?side2 A3.out).mono ?_); (case side1 => repeat (first | exact (Kd.R_reads' HO106.out).2.2 | (with_reducible refine Kd.C_alloc ?_ _) | (with_reducible refine Kd.C_drewN ?_ _) | (with_reducible refine Kd.C_drew ?_))); (case side2 => exact (Kd.R_reads' HO106.out).2.1); rintro e w' ⟨rfl, ⟨nd, rfl⟩⟩; refine ⟨_, rfl, ?_⟩))
  go_ret
  exact ⟨by first | rfl | (simp [errW_none, errW_some] <;> rfl) | (simp [*, errW_none, errW_some] <;> rfl), by repeat (first | (with_reducible first | exact HB.out | apply below_alloc | apply pw_below_drewN | apply below_drew1) | exact HB.out)⟩

/-! ### badgery_beUint32: function 154 -/
def badgery_beUint32.f (l0 : List Int) : Option (Int) := if 2 ≤ 4 then (if 4 ≤ (l0.length : Int) then ((badgery_beUint16.f ((l0.take 4).drop 2)).bind fun t109 => ((badgery_beUint16.f l0).bind fun t110 => (some (Go.bits .or .u32 ((t109) % 4294967296) ((((t110) % 4294967296) * 65536) % 4294967296))))) else (none)) else (none)
set_option maxHeartbeats 8000000 in
set_option maxRecDepth 100000 in
theorem badgery_beUint32.calls (A0 : Option Addr) (c0 : Nat) (l0 : List Int) (r : Int) (w : World) (hr0 : Kd.C (Kd.int .u8) w A0 l0.length l0) (hc0 : l0.length ≤ c0) (h : badgery_beUint32.f l0 = some r) :
    Calls Try.prog 154 #[.slice A0 l0.length c0] w fun e w' => e = .returned (.int .u32 r) ∧ Drawn0 w w' := by
  have HR0 := Aside0.mk hr0
  have HC0 := Aside0.mk hc0
  clear hr0 hc0
  have H : (if 2 ≤ 4 then (if 4 ≤ (l0.length : Int) then ((badgery_beUint16.f ((l0.take 4).drop 2)).bind fun t109 => ((badgery_beUint16.f l0).bind fun t110 => (some (Go.bits .or .u32 ((t109) % 4294967296) ((((t110) % 4294967296) * 65536) % 4294967296))))) else (none)) else (none)) = some r := h
  clear h
  by_cases c2 : 2 ≤ 4
  · rw [if_pos c2] at H
    have c2b0 := eq_true c2
    have c2b1 : decide (2 ≤ 4) = true := decide_eq_true c2
    clear c2
    by_cases c3 : 4 ≤ (l0.length : Int)
    · rw [if_pos c3] at H
      have c3b0 := eq_true c3
      have c3b1 : decide (4 ≤ (l0.length : Int)) = true := decide_eq_true c3
      clear c3
      replace H := Option.bind_eq_some_iff.mp H
      obtain ⟨t109, A40, H⟩ := H
      replace H : ((badgery_beUint16.f l0).bind fun t110 => (some (Go.bits .or .u32 ((t109) % 4294967296) ((((t110) % 4294967296) * 65536) % 4294967296)))) = some r := H
      have A4 := Aside0.mk A40
      clear A40
      replace H := Option.bind_eq_some_iff.mp H
      obtain ⟨t110, A50, H⟩ := H
      replace H : (some (Go.bits .or .u32 ((t109) % 4294967296) ((((t110) % 4294967296) * 65536) % 4294967296))) = some r := H
      have A5 := Aside0.mk A50
      clear A50
      obtain rfl := Option.some.inj H
      obtain ⟨i06, hi06, _, hsz6, _⟩ := info_parts info5
      obtain ⟨A6, hcut6, hA6, hC6⟩ := print_mid_of (P := Try.prog) (Value.int .u8) 0 26 5 .i64 .i64 Try.underlying26 hi06 hsz6 A0 c0 l0 2 4 (by omega) (by first | omega | exact of_decide_eq_true (by first | (with_reducible assumption) | assumption)) (of_decide_eq_true (by first | (with_reducible assumption) | assumption)) HC0.out
      have HR108 := Aside0.mk (Kd.C_of_reads (h1 := fun _ => rfl) (hA6 _ (Kd.reads_of_C HR0.out)))
      have HC108 := Aside0.mk hC6
      clear hA6 hC6 hi06 hsz6
      go_enter Try.func154, Try.ntmps154
      go_wp2_with (first | ((with_reducible refine gate_callee (f := 153) rfl ?_); refine goesL_ (some 5) rfl rfl Try.func153 (by kernel_rfl) rfl #[.slice A6 ((l0.take 4).drop 2).length (c0 - 2)] rfl (by (try simp only [List.map_toArray, List.map_cons, List.map_nil]); first | done | (rw [show ((l0.take 4).drop 2).length = (4 - 2) from (by rw [List.length_drop, List.length_take]; have h_ : (4 : Int) ≤ (l0.length : Int) := of_decide_eq_true (by first | (with_reducible assumption) | assumption); omega)] <;> rfl) | rfl | (simp only [List.length_drop, List.length_take]; rfl)) ?_; (with_reducible refine (badgery_beUint16.calls _ _ ((l0.take 4).drop 2) t109 _ ?side1 ?side2 A4.out).mono ?_); (case side1 => repeat (first | exact HR108.out | (with_reducible refine Kd.C_alloc ?_ _) | (with_reducible refine Kd.C_drewN ?_ _) | (with_reducible refine Kd.C_drew ?_))); (case side2 => exact HC108.out); rintro e w' ⟨rfl, ⟨nd, rfl⟩⟩; refine ⟨_, rfl, ?_⟩) | ((with_reducible refine gate_callee (f := 153) rfl ?_); refine goesL_ (some 8) rfl rfl Try.func153 (by kernel_rfl) rfl #[.slice A0 l0.length c0] rfl (by (try simp only [List.map_toArray, List.map_cons, List.map_nil]); first | done | rfl | (simp only [List.length_drop, List.length_take]; rfl)) ?_; (with_reducible refine (badgery_beUint16.calls _ _ l0 t110 _ ?side1 ?side2 A5.out).mono ?_); (case side1 => repeat (first | exact HR0.out | (with_reducible refine Kd.C_alloc ?_ _) | (with_reducible refine Kd.C_drewN ?_ _) | (with_reducible refine Kd.C_drew ?_))); (case side2 => exact HC0.out); rintro e w' ⟨rfl, ⟨nd, rfl⟩⟩; refine ⟨_, rfl, ?_⟩))
      go_ret
      exact ⟨by first | rfl | (simp; done) | (simp [*]; done), by repeat (first | exact Drawn0.refl _ | apply Drawn0.step)⟩
    · rw [if_neg c3] at H
      exact absurd H (by simp)
  · rw [if_neg c2] at H
    exact absurd H (by simp)

/-! ### badgery_BytesToU32: function 118 -/
def badgery_BytesToU32.f (l0 : List Int) : Option (Int) := (badgery_beUint32.f l0).bind fun t111 => (some t111)
set_option maxHeartbeats 8000000 in
set_option maxRecDepth 100000 in
theorem badgery_BytesToU32.calls (A0 : Option Addr) (c0 : Nat) (l0 : List Int) (r : Int) (w : World) (hr0 : Kd.C (Kd.int .u8) w A0 l0.length l0) (hc0 : l0.length ≤ c0) (h : badgery_BytesToU32.f l0 = some r) :
    Calls Try.prog 118 #[.slice A0 l0.length c0] w fun e w' => e = .returned (.int .u32 r) ∧ Drawn0 w w' := by
  have HR0 := Aside0.mk hr0
  have HC0 := Aside0.mk hc0
  clear hr0 hc0
  have H : ((badgery_beUint32.f l0).bind fun t111 => (some t111)) = some r := h
  clear h
  replace H := Option.bind_eq_some_iff.mp H
  obtain ⟨t111, A20, H⟩ := H
  replace H : (some t111) = some r := H
  have A2 := Aside0.mk A20
  clear A20
  obtain rfl := Option.some.inj H
  go_enter Try.func118, Try.ntmps118
  go_wp2_with (first | ((with_reducible refine gate_callee (f := 154) rfl ?_); refine goesL_ (some 4) rfl rfl Try.func154 (by kernel_rfl) rfl #[.slice A0 l0.length c0] rfl (by (try simp only [List.map_toArray, List.map_cons, List.map_nil]); first | done | rfl | (simp only [List.length_drop, List.length_take]; rfl)) ?_; (with_reducible refine (badgery_beUint32.calls _ _ l0 t111 _ ?side1 ?side2 A2.out).mono ?_); (case side1 => repeat (first | exact HR0.out | (with_reducible refine Kd.C_alloc ?_ _) | (with_reducible refine Kd.C_drewN ?_ _) | (with_reducible refine Kd.C_drew ?_))); (case side2 => exact HC0.out); rintro e w' ⟨rfl, ⟨nd, rfl⟩⟩; refine ⟨_, rfl, ?_⟩))
  go_ret
  exact ⟨by first | rfl | (simp; done) | (simp [*]; done), by repeat (first | exact Drawn0.refl _ | apply Drawn0.step)⟩

/-! ### impl_Read32: function 66 -/
def impl_Read32.f (l0 : List Int) : Option (Int) := (impl_own.f l0).bind fun t112 => ((badgery_BytesToU32.f t112).bind fun t115 => (some t115))
set_option maxHeartbeats 8000000 in
set_option maxRecDepth 100000 in
theorem impl_Read32.calls (A0 : Option Addr) (c0 : Nat) (l0 : List Int) (r : Int) (w : World) (hr0 : Kd.C (Kd.int .u8) w A0 l0.length l0) (hc0 : l0.length ≤ c0) (h : impl_Read32.f l0 = some r) :
    Calls Try.prog 66 #[.slice A0 l0.length c0] w fun e w' => e = .returned (.int .u32 r) ∧ Below w.heap.size w w' := by
  have HR0 := Aside0.mk hr0
  have HC0 := Aside0.mk hc0
  clear hr0 hc0
  have HB := Aside0.mk (Below.refl w.heap.size w)
  have H : ((impl_own.f l0).bind fun t112 => ((badgery_BytesToU32.f t112).bind fun t115 => (some t115))) = some r := h
  clear h
  replace H := Option.bind_eq_some_iff.mp H
  obtain ⟨t112, A20, H⟩ := H
  replace H : ((badgery_BytesToU32.f t112).bind fun t115 => (some t115)) = some r := H
  have A2 := Aside0.mk A20
  clear A20
  replace H := Option.bind_eq_some_iff.mp H
  obtain ⟨t115, A30, H⟩ := H
  replace H : (some t115) = some r := H
  have A3 := Aside0.mk A30
  clear A30
  obtain rfl := Option.some.inj H
  go_enter Try.func66, Try.ntmps66
  go_wp2_with (first | ((with_reducible refine gate_callee (f := 89) rfl ?_); refine goesL_ (some 4) rfl rfl Try.func89 (by kernel_rfl) rfl #[.slice A0 l0.length c0] rfl (by (try simp only [List.map_toArray, List.map_cons, List.map_nil]); first | done | rfl | (simp only [List.length_drop, List.length_take]; rfl)) ?_; (with_reducible refine (impl_own.calls _ _ l0 t112 _ ?side1 ?side2 A2.out).mono ?_); (case side1 => repeat (first | exact HR0.out | (with_reducible refine Kd.C_alloc ?_ _) | (with_reducible refine Kd.C_drewN ?_ _) | (with_reducible refine Kd.C_drew ?_))); (case side2 => exact HC0.out); rintro e w4 ⟨v113, rfl, ho0, hb⟩; refine ⟨_, rfl, ?_⟩; have n0_ := Aside0.mk (Kd.R_lower ho0 (below_size (by repeat (first | (with_reducible first | exact HB.out | apply below_alloc | apply pw_below_drewN | apply below_drew1) | exact HB.out)))); have n1_ := Aside0.mk (below_step (by repeat (first | (with_reducible first | exact HB.out | apply below_alloc | apply pw_below_drewN | apply below_drew1) | exact HB.out)) hb); clear HB; have HO114 := n0_; have HB := n1_; clear n0_ n1_; (try clear hb); (try clear hb2); (try clear hk); (try clear hi); (try clear ho0); obtain ⟨Ao5, co5, eo5⟩ := Kd.R_slice HO114.out; subst eo5) | ((with_reducible refine gate_callee (f := 118) rfl ?_); refine goesL_ (some 5) rfl rfl Try.func118 (by kernel_rfl) rfl #[.slice Ao5 t112.length co5] rfl (by (try simp only [List.map_toArray, List.map_cons, List.map_nil]); first | done | rfl | (simp only [List.length_drop, List.length_take]; rfl)) ?_; (with_reducible refine (badgery_BytesToU32.calls _ _ t112 t115 _ ?side1 ?side2 A3.out).mono ?_); (case side1 => repeat (first | exact (Kd.R_reads' HO114.out).2.2 | (with_reducible refine Kd.C_alloc ?_ _) | (with_reducible refine Kd.C_drewN ?_ _) | (with_reducible refine Kd.C_drew ?_))); (case side2 => exact (Kd.R_reads' HO114.out).2.1); rintro e w' ⟨rfl, ⟨nd, rfl⟩⟩; refine ⟨_, rfl, ?_⟩))
  go_ret
  exact ⟨by first | rfl | (simp [errW_none, errW_some] <;> rfl) | (simp [*, errW_none, errW_some] <;> rfl), by repeat (first | (with_reducible first | exact HB.out | apply below_alloc | apply pw_below_drewN | apply below_drew1) | exact HB.out)⟩

/-! ### badgery_beUint64: function 150 -/
def badgery_beUint64.f (l0 : List Int) : Option (Int) := if 4 ≤ 8 then (if 8 ≤ (l0.length : Int) then ((badgery_beUint32.f ((l0.take 8).drop 4)).bind fun t117 => ((badgery_beUint32.f l0).bind fun t118 => (some (Go.bits .or .u64 (IntKind.u64.wrap (t117)) (IntKind.u64.wrap ((IntKind.u64.wrap (t118)) * 4294967296)))))) else (none)) else (none)
set_option maxHeartbeats 8000000 in
set_option maxRecDepth 100000 in
theorem badgery_beUint64.calls (A0 : Option Addr) (c0 : Nat) (l0 : List Int) (r : Int) (w : World) (hr0 : Kd.C (Kd.int .u8) w A0 l0.length l0) (hc0 : l0.length ≤ c0) (h : badgery_beUint64.f l0 = some r) :
    Calls Try.prog 150 #[.slice A0 l0.length c0] w fun e w' => e = .returned (.int .u64 r) ∧ Drawn0 w w' := by
  have HR0 := Aside0.mk hr0
  have HC0 := Aside0.mk hc0
  clear hr0 hc0
  have H : (if 4 ≤ 8 then (if 8 ≤ (l0.length : Int) then ((badgery_beUint32.f ((l0.take 8).drop 4)).bind fun t117 => ((badgery_beUint32.f l0).bind fun t118 => (some (Go.bits .or .u64 (IntKind.u64.wrap (t117)) (IntKind.u64.wrap ((IntKind.u64.wrap (t118)) * 4294967296)))))) else (none)) else (none)) = some r := h
  clear h
  by_cases c2 : 4 ≤ 8
  · rw [if_pos c2] at H
    have c2b0 := eq_true c2
    have c2b1 : decide (4 ≤ 8) = true := decide_eq_true c2
    clear c2
    by_cases c3 : 8 ≤ (l0.length : Int)
    · rw [if_pos c3] at H
      have c3b0 := eq_true c3
      have c3b1 : decide (8 ≤ (l0.length : Int)) = true := decide_eq_true c3
      clear c3
      replace H := Option.bind_eq_some_iff.mp H
      obtain ⟨t117, A40, H⟩ := H
      replace H : ((badgery_beUint32.f l0).bind fun t118 => (some (Go.bits .or .u64 (IntKind.u64.wrap (t117)) (IntKind.u64.wrap ((IntKind.u64.wrap (t118)) * 4294967296))))) = some r := H
      have A4 := Aside0.mk A40
      clear A40
      replace H := Option.bind_eq_some_iff.mp H
      obtain ⟨t118, A50, H⟩ := H
      replace H : (some (Go.bits .or .u64 (IntKind.u64.wrap (t117)) (IntKind.u64.wrap ((IntKind.u64.wrap (t118)) * 4294967296)))) = some r := H
      have A5 := Aside0.mk A50
      clear A50
      obtain rfl := Option.some.inj H
      obtain ⟨i06, hi06, _, hsz6, _⟩ := info_parts info5
      obtain ⟨A6, hcut6, hA6, hC6⟩ := print_mid_of (P := Try.prog) (Value.int .u8) 0 26 5 .i64 .i64 Try.underlying26 hi06 hsz6 A0 c0 l0 4 8 (by omega) (by first | omega | exact of_decide_eq_true (by first | (with_reducible assumption) | assumption)) (of_decide_eq_true (by first | (with_reducible assumption) | assumption)) HC0.out
      have HR116 := Aside0.mk (Kd.C_of_reads (h1 := fun _ => rfl) (hA6 _ (Kd.reads_of_C HR0.out)))
      have HC116 := Aside0.mk hC6
      clear hA6 hC6 hi06 hsz6
      go_enter Try.func150, Try.ntmps150
      go_wp2_with (first | ((with_reducible refine gate_callee (f := 154) rfl ?_); refine goesL_ (some 5) rfl rfl Try.func154 (by kernel_rfl) rfl #[.slice A6 ((l0.take 8).drop 4).length (c0 - 4)] rfl (by (try simp only [List.map_toArray, List.map_cons, List.map_nil]); first | done | (rw [show ((l0.take 8).drop 4).length = (8 - 4) from (by rw [List.length_drop, List.length_take]; have h_ : (8 : Int) ≤ (l0.length : Int) := of_decide_eq_true (by first | (with_reducible assumption) | assumption); omega)] <;> rfl) | rfl | (simp only [List.length_drop, List.length_take]; rfl)) ?_; (with_reducible refine (badgery_beUint32.calls _ _ ((l0.take 8).drop 4) t117 _ ?side1 ?side2 A4.out).mono ?_); (case side1 => repeat (first | exact HR116.out | (with_reducible refine Kd.C_alloc ?_ _) | (with_reducible refine Kd.C_drewN ?_ _) | (with_reducible refine Kd.C_drew ?_))); (case side2 => exact HC116.out); rintro e w' ⟨rfl, ⟨nd, rfl⟩⟩; refine ⟨_, rfl, ?_⟩) | ((with_reducible refine gate_callee (f := 154) rfl ?_); refine goesL_ (some 8) rfl rfl Try.func154 (by kernel_rfl) rfl #[.slice A0 l0.length c0] rfl (by (try simp only [List.map_toArray, List.map_cons, List.map_nil]); first | done | rfl | (simp only [List.length_drop, List.length_take]; rfl)) ?_; (with_reducible refine (badgery_beUint32.calls _ _ l0 t118 _ ?side1 ?side2 A5.out).mono ?_); (case side1 => repeat (first | exact HR0.out | (with_reducible refine Kd.C_alloc ?_ _) | (with_reducible refine Kd.C_drewN ?_ _) | (with_reducible refine Kd.C_drew ?_))); (case side2 => exact HC0.out); rintro e w' ⟨rfl, ⟨nd, rfl⟩⟩; refine ⟨_, rfl, ?_⟩))
      go_ret
      exact ⟨by first | rfl | (simp; done) | (simp [*]; done), by repeat (first | exact Drawn0.refl _ | apply Drawn0.step)⟩
    · rw [if_neg c3] at H
      exact absurd H (by simp)
  · rw [if_neg c2] at H
    exact absurd H (by simp)

/-! ### badgery_BytesToU64: function 119 -/
def badgery_BytesToU64.f (l0 : List Int) : Option (Int) := (badgery_beUint64.f l0).bind fun t119 => (some t119)
set_option maxHeartbeats 8000000 in
set_option maxRecDepth 100000 in
theorem badgery_BytesToU64.calls (A0 : Option Addr) (c0 : Nat) (l0 : List Int) (r : Int) (w : World) (hr0 : Kd.C (Kd.int .u8) w A0 l0.length l0) (hc0 : l0.length ≤ c0) (h : badgery_BytesToU64.f l0 = some r) :
    Calls Try.prog 119 #[.slice A0 l0.length c0] w fun e w' => e = .returned (.int .u64 r) ∧ Drawn0 w w' := by
  have HR0 := Aside0.mk hr0
  have HC0 := Aside0.mk hc0
  clear hr0 hc0
  have H : ((badgery_beUint64.f l0).bind fun t119 => (some t119)) = some r := h
  clear h
  replace H := Option.bind_eq_some_iff.mp H
  obtain ⟨t119, A20, H⟩ := H
  replace H : (some t119) = some r := H
  have A2 := Aside0.mk A20
  clear A20
  obtain rfl := Option.some.inj H
  go_enter Try.func119, Try.ntmps119
  go_wp2_with (first | ((with_reducible refine gate_callee (f := 150) rfl ?_); refine goesL_ (some 4) rfl rfl Try.func150 (by kernel_rfl) rfl #[.slice A0 l0.length c0] rfl (by (try simp only [List.map_toArray, List.map_cons, List.map_nil]); first | done | rfl | (simp only [List.length_drop, List.length_take]; rfl)) ?_; (with_reducible refine (badgery_beUint64.calls _ _ l0 t119 _ ?side1 ?side2 A2.out).mono ?_); (case side1 => repeat (first | exact HR0.out | (with_reducible refine Kd.C_alloc ?_ _) | (with_reducible refine Kd.C_drewN ?_ _) | (with_reducible refine Kd.C_drew ?_))); (case side2 => exact HC0.out); rintro e w' ⟨rfl, ⟨nd, rfl⟩⟩; refine ⟨_, rfl, ?_⟩))
  go_ret
  exact ⟨by first | rfl | (simp; done) | (simp [*]; done), by repeat (first | exact Drawn0.refl _ | apply Drawn0.step)⟩

/-! ### impl_Read64: function 67 -/
def impl_Read64.f (l0 : List Int) : Option (Int) := (impl_own.f l0).bind fun t120 => ((badgery_BytesToU64.f t120).bind fun t123 => (some t123))
set_option maxHeartbeats 8000000 in
set_option maxRecDepth 100000 in
theorem impl_Read64.calls (A0 : Option Addr) (c0 : Nat) (l0 : List Int) (r : Int) (w : World) (hr0 : Kd.C (Kd.int .u8) w A0 l0.length l0) (hc0 : l0.length ≤ c0) (h : impl_Read64.f l0 = some r) :
    Calls Try.prog 67 #[.slice A0 l0.length c0] w fun e w' => e = .returned (.int .u64 r) ∧ Below w.heap.size w w' := by
  have HR0 := Aside0.mk hr0
  have HC0 := Aside0.mk hc0
  clear hr0 hc0
  have HB := Aside0.mk (Below.refl w.heap.size w)
  have H : ((impl_own.f l0).bind fun t120 => ((badgery_BytesToU64.f t120).bind fun t123 => (some t123))) = some r := h
  clear h
  replace H := Option.bind_eq_some_iff.mp H
  obtain ⟨t120, A20, H⟩ := H
  replace H : ((badgery_BytesToU64.f t120).bind fun t123 => (some t123)) = some r := H
  have A2 := Aside0.mk A20
  clear A20
  replace H := Option.bind_eq_some_iff.mp H
  obtain ⟨t123, A30, H⟩ := H
  replace H : (some t123) = some r := H
  have A3 := Aside0.mk A30
  clear A30
  obtain rfl := Option.some.inj H
  go_enter Try.func67, Try.ntmps67
  go_wp2_with (first | ((with_reducible refine gate_callee (f := 89) rfl ?_); refine goesL_ (some 4) rfl rfl Try.func89 (by kernel_rfl) rfl #[.slice A0 l0.length c0] rfl (by (try simp only [List.map_toArray, List.map_cons, List.map_nil]); first | done | rfl | (simp only [List.length_drop, List.length_take]; rfl)) ?_; (with_reducible refine (impl_own.calls _ _ l0 t120 _ ?side1 ?side2 A2.out).mono ?_); (case side1 => repeat (first | exact HR0.out | (with_reducible refine Kd.C_alloc ?_ _) | (with_reducible refine Kd.C_drewN ?_ _) | (with_reducible refine Kd.C_drew ?_))); (case side2 => exact HC0.out); rintro e w4 ⟨v121, rfl, ho0, hb⟩; refine ⟨_, rfl, ?_⟩; have n0_ := Aside0.mk (Kd.R_lower ho0 (below_size (by repeat (first | (with_reducible first | exact HB.out | apply below_alloc | apply pw_below_drewN | apply below_drew1) | exact HB.out)))); have n1_ := Aside0.mk (below_step (by repeat (first | (with_reducible first | exact HB.out | apply below_alloc | apply pw_below_drewN | apply below_drew1) | exact HB.out)) hb); clear HB; have HO122 := n0_; have HB := n1_; clear n0_ n1_; (try clear hb); (try clear hb2); (try clear hk); (try clear hi); (try clear ho0); obtain ⟨Ao5, co5, eo5⟩ := Kd.R_slice HO122.out; subst eo5) | ((with_reducible refine gate_callee (f := 119) rfl ?_); refine goesL_ (some 5) rfl rfl Try.func119 (by kernel_rfl) rfl #[.slice Ao5 t120.length co5] rfl (by (try simp only [List.map_toArray, List.map_cons, List.map_nil]); first | done | rfl | (simp only [List.length_drop, List.length_take]; rfl)) ?_; (with_reducible refine (badgery_BytesToU64.calls _ _ t120 t123 _ ?side1 ?side2 A3.out).mono ?_); (case side1 => repeat (first | exact (Kd.R_reads' HO122.out).2.2 | (with_reducible refine Kd.C_alloc ?_ _) | (with_reducible refine Kd.C_drewN ?_ _) | (with_reducible refine Kd.C_drew ?_))); (case side2 => exact (Kd.R_reads' HO122.out).2.1); rintro e w' ⟨rfl, ⟨nd, rfl⟩⟩; refine ⟨_, rfl, ?_⟩))
  go_ret
  exact ⟨by first | rfl | (simp [errW_none, errW_some] <;> rfl) | (simp [*, errW_none, errW_some] <;> rfl), by repeat (first | (with_reducible first | exact HB.out | apply below_alloc | apply pw_below_drewN | apply below_drew1) | exact HB.out)⟩

end Go.Proofs.YtadhdimleabljaaQ.QN
