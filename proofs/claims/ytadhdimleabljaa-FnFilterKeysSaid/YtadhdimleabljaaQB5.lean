-- Lines that a program has printed for this claim: functions as plain Lean functions, and their walks.
import Derived.Test.YtadhdimleabljaaQB0
import Derived.Test.YtadhdimleabljaaQB1
import Derived.Test.YtadhdimleabljaaQB4
namespace Go.Proofs.YtadhdimleabljaaQ.QB
open Go.RowKit Go.Proofs.YtadhdimleabljaaQ.Ext Go.Proofs.YtadhdimleabljaaW.PrintWords Go.Proofs.YtadhdimleabljaaW.PrintLast Go.Proofs.YtadhdimleabljaaW.PrintMore
attribute [local go_sem] max2_int min2_int max_two min_two max_three min_three max_four min_four   -- for this text's walks alone
set_option linter.unusedVariables false
set_option linter.unusedSimpArgs false

/-! ### laws_FnFilterKeys: function 26 -/
mutual
def laws_FnFilterKeys.j0 : Nat → List (List Int) → Int → List Int → Bool → Option (Bool)
  | 0, _, _, _, _ => none
  | k + 1, x0, x1, x2, x20 => if x20 = true then (some true) else (laws_FnFilterKeys.l0 k x0 x1 x2 (([] : List Int)) x0 (x0.length : Int) 0)
def laws_FnFilterKeys.l0 : Nat → List (List Int) → Int → List Int → List Int → List (List Int) → Int → Int → Option (Bool)
  | 0, _, _, _, _, _, _, _ => none
  | k + 1, x0, x1, x2, x7, x22, x23, x24 => if x24 < x23 then (if 0 ≤ x24 then (if x24 < (x22.length : Int) then ((laws_few.f k (([rd_L2 x22 x24] : List (List Int)))).bind fun t177 => (if t177 = true then ((impl_HashOf.f k (rd_L2 x22 x24)).bind fun t178 => (if x7.length < 35184372088832 then (laws_FnFilterKeys.l0 k x0 x1 x2 (x7 ++ [t178]) x22 x23 (wrap64 (x24 + 1))) else (none))) else (some true))) else (none)) else (none)) else (if (x0.length : Int) > 60 then (laws_FnFilterKeys.j2 k x0 x1 x2 x7 true) else ((laws_bitsOk.f x7 x1).bind fun t182 => (if t182 = true then ((laws_few.f k (([x2] : List (List Int)))).bind fun t186 => (laws_FnFilterKeys.j2 k x0 x1 x2 x7 (!t186))) else (laws_FnFilterKeys.j2 k x0 x1 x2 x7 true))))
def laws_FnFilterKeys.j2 : Nat → List (List Int) → Int → List Int → List Int → Bool → Option (Bool)
  | 0, _, _, _, _, _ => none
  | k + 1, x0, x1, x2, x7, x52 => if x52 = true then (some true) else ((impl_FilterOf.f x7 x1).bind fun t187 => (laws_FnFilterKeys.l1 k x2 t187 x0 (x0.length : Int) 0))
def laws_FnFilterKeys.l1 : Nat → List Int → List Int → List (List Int) → Int → Int → Option (Bool)
  | 0, _, _, _, _, _ => none
  | k + 1, x2, x10, x56, x57, x58 => if x58 < x57 then (if 0 ≤ x58 then (if x58 < (x56.length : Int) then ((impl_MayHaveKey.f k x10 (rd_L2 x56 x58)).bind fun t191 => (if t191 = true then (laws_FnFilterKeys.l1 k x2 x10 x56 x57 (wrap64 (x58 + 1))) else (some false))) else (none)) else (none)) else (if (x10.length : Int) > 0 then ((impl_MayHaveKey.f k x10 x2).bind fun t192 => ((impl_HashOf.f k x2).bind fun t193 => ((impl_MayHave.f k x10 t193).bind fun t194 => (some (t192 == t194))))) else (some false))
end
def laws_FnFilterKeys.f (k : Nat) (l0 : List (List Int)) (a1 : Int) (l2 : List Int) : Option (Bool) := (laws_zzFits8.f k l0).bind fun t169 => (if t169 = true then (laws_FnFilterKeys.j0 k l0 a1 l2 (decide ((l2.length : Int) > 2147483647))) else (laws_FnFilterKeys.j0 k l0 a1 l2 true))
theorem laws_FnFilterKeys.mono_l : ∀ k, (∀ y0 y1 y2 y3, LeO (laws_FnFilterKeys.j0 k y0 y1 y2 y3) (laws_FnFilterKeys.j0 (k + 1) y0 y1 y2 y3)) ∧ (∀ y0 y1 y2 y3 y4 y5 y6, LeO (laws_FnFilterKeys.l0 k y0 y1 y2 y3 y4 y5 y6) (laws_FnFilterKeys.l0 (k + 1) y0 y1 y2 y3 y4 y5 y6)) ∧ (∀ y0 y1 y2 y3 y4, LeO (laws_FnFilterKeys.j2 k y0 y1 y2 y3 y4) (laws_FnFilterKeys.j2 (k + 1) y0 y1 y2 y3 y4)) ∧ (∀ y0 y1 y2 y3 y4, LeO (laws_FnFilterKeys.l1 k y0 y1 y2 y3 y4) (laws_FnFilterKeys.l1 (k + 1) y0 y1 y2 y3 y4))
  | 0 => ⟨fun _ _ _ _ r h => by simp [laws_FnFilterKeys.j0] at h, fun _ _ _ _ _ _ _ r h => by simp [laws_FnFilterKeys.l0] at h, fun _ _ _ _ _ r h => by simp [laws_FnFilterKeys.j2] at h, fun _ _ _ _ _ r h => by simp [laws_FnFilterKeys.l1] at h⟩
  | k + 1 => by
    obtain ⟨ih0, ih1, ih2, ih3⟩ := laws_FnFilterKeys.mono_l k
    refine ⟨?_, ?_, ?_, ?_⟩
    · intro y0 y1 y2 y3
      unfold laws_FnFilterKeys.j0
      repeat' first
      | (with_reducible exact ih0 _ _ _ _)
      | (with_reducible exact ih1 _ _ _ _ _ _ _)
      | (with_reducible exact ih2 _ _ _ _ _)
      | (with_reducible exact ih3 _ _ _ _ _)
      | (with_reducible exact impl_HashOf.mono _ _)
      | (with_reducible exact impl_MayHave.mono _ _ _)
      | (with_reducible exact impl_MayHaveKey.mono _ _ _)
      | (with_reducible exact laws_few.mono _ _)
      | (with_reducible exact laws_zzFits8.mono _ _)
      | (with_reducible exact LeO.refl _)
      | (with_reducible exact LeO.none _)
      | (with_reducible refine LeO.ite ?_ ?_)
      | (with_reducible refine LeO.bind ?_ (fun _ => ?_))
      | exact ih0 _ _ _ _
      | exact ih1 _ _ _ _ _ _ _
      | exact ih2 _ _ _ _ _
      | exact ih3 _ _ _ _ _
      | exact impl_HashOf.mono _ _
      | exact impl_MayHave.mono _ _ _
      | exact impl_MayHaveKey.mono _ _ _
      | exact laws_few.mono _ _
      | exact laws_zzFits8.mono _ _
      | exact LeO.none _
      | refine LeO.ite ?_ ?_
      | refine LeO.bind ?_ (fun _ => ?_)
    · intro y0 y1 y2 y3 y4 y5 y6
      unfold laws_FnFilterKeys.l0
      repeat' first
      | (with_reducible exact ih0 _ _ _ _)
      | (with_reducible exact ih1 _ _ _ _ _ _ _)
      | (with_reducible exact ih2 _ _ _ _ _)
      | (with_reducible exact ih3 _ _ _ _ _)
      | (with_reducible exact impl_HashOf.mono _ _)
      | (with_reducible exact impl_MayHave.mono _ _ _)
      | (with_reducible exact impl_MayHaveKey.mono _ _ _)
      | (with_reducible exact laws_few.mono _ _)
      | (with_reducible exact laws_zzFits8.mono _ _)
      | (with_reducible exact LeO.refl _)
      | (with_reducible exact LeO.none _)
      | (with_reducible refine LeO.ite ?_ ?_)
      | (with_reducible refine LeO.bind ?_ (fun _ => ?_))
      | exact ih0 _ _ _ _
      | exact ih1 _ _ _ _ _ _ _
      | exact ih2 _ _ _ _ _
      | exact ih3 _ _ _ _ _
      | exact impl_HashOf.mono _ _
      | exact impl_MayHave.mono _ _ _
      | exact impl_MayHaveKey.mono _ _ _
      | exact laws_few.mono _ _
      | exact laws_zzFits8.mono _ _
      | exact LeO.none _
      | refine LeO.ite ?_ ?_
      | refine LeO.bind ?_ (fun _ => ?_)
    · intro y0 y1 y2 y3 y4
      unfold laws_FnFilterKeys.j2
      repeat' first
      | (with_reducible exact ih0 _ _ _ _)
      | (with_reducible exact ih1 _ _ _ _ _ _ _)
      | (with_reducible exact ih2 _ _ _ _ _)
      | (with_reducible exact ih3 _ _ _ _ _)
      | (with_reducible exact impl_HashOf.mono _ _)
      | (with_reducible exact impl_MayHave.mono _ _ _)
      | (with_reducible exact impl_MayHaveKey.mono _ _ _)
      | (with_reducible exact laws_few.mono _ _)
      | (with_reducible exact laws_zzFits8.mono _ _)
      | (with_reducible exact LeO.refl _)
      | (with_reducible exact LeO.none _)
      | (with_reducible refine LeO.ite ?_ ?_)
      | (with_reducible refine LeO.bind ?_ (fun _ => ?_))
      | exact ih0 _ _ _ _
      | exact ih1 _ _ _ _ _ _ _
      | exact ih2 _ _ _ _ _
      | exact ih3 _ _ _ _ _
      | exact impl_HashOf.mono _ _
      | exact impl_MayHave.mono _ _ _
      | exact impl_MayHaveKey.mono _ _ _
      | exact laws_few.mono _ _
      | exact laws_zzFits8.mono _ _
      | exact LeO.none _
      | refine LeO.ite ?_ ?_
      | refine LeO.bind ?_ (fun _ => ?_)
    · intro y0 y1 y2 y3 y4
      unfold laws_FnFilterKeys.l1
      repeat' first
      | (with_reducible exact ih0 _ _ _ _)
      | (with_reducible exact ih1 _ _ _ _ _ _ _)
      | (with_reducible exact ih2 _ _ _ _ _)
      | (with_reducible exact ih3 _ _ _ _ _)
      | (with_reducible exact impl_HashOf.mono _ _)
      | (with_reducible exact impl_MayHave.mono _ _ _)
      | (with_reducible exact impl_MayHaveKey.mono _ _ _)
      | (with_reducible exact laws_few.mono _ _)
      | (with_reducible exact laws_zzFits8.mono _ _)
      | (with_reducible exact LeO.refl _)
      | (with_reducible exact LeO.none _)
      | (with_reducible refine LeO.ite ?_ ?_)
      | (with_reducible refine LeO.bind ?_ (fun _ => ?_))
      | exact ih0 _ _ _ _
      | exact ih1 _ _ _ _ _ _ _
      | exact ih2 _ _ _ _ _
      | exact ih3 _ _ _ _ _
      | exact impl_HashOf.mono _ _
      | exact impl_MayHave.mono _ _ _
      | exact impl_MayHaveKey.mono _ _ _
      | exact laws_few.mono _ _
      | exact laws_zzFits8.mono _ _
      | exact LeO.none _
      | refine LeO.ite ?_ ?_
      | refine LeO.bind ?_ (fun _ => ?_)
theorem laws_FnFilterKeys.mono : ∀ a0 a1 a2 k, LeO (laws_FnFilterKeys.f k a0 a1 a2) (laws_FnFilterKeys.f (k + 1) a0 a1 a2) := by
  intro a0 a1 a2 k
  obtain ⟨ih0, ih1, ih2, ih3⟩ := laws_FnFilterKeys.mono_l k
  unfold laws_FnFilterKeys.f
  repeat' first
      | (with_reducible exact ih0 _ _ _ _)
      | (with_reducible exact ih1 _ _ _ _ _ _ _)
      | (with_reducible exact ih2 _ _ _ _ _)
      | (with_reducible exact ih3 _ _ _ _ _)
      | (with_reducible exact impl_HashOf.mono _ _)
      | (with_reducible exact impl_MayHave.mono _ _ _)
      | (with_reducible exact impl_MayHaveKey.mono _ _ _)
      | (with_reducible exact laws_few.mono _ _)
      | (with_reducible exact laws_zzFits8.mono _ _)
      | (with_reducible exact LeO.refl _)
      | (with_reducible exact LeO.none _)
      | (with_reducible refine LeO.ite ?_ ?_)
      | (with_reducible refine LeO.bind ?_ (fun _ => ?_))
      | exact ih0 _ _ _ _
      | exact ih1 _ _ _ _ _ _ _
      | exact ih2 _ _ _ _ _
      | exact ih3 _ _ _ _ _
      | exact impl_HashOf.mono _ _
      | exact impl_MayHave.mono _ _ _
      | exact impl_MayHaveKey.mono _ _ _
      | exact laws_few.mono _ _
      | exact laws_zzFits8.mono _ _
      | exact LeO.none _
      | refine LeO.ite ?_ ?_
      | refine LeO.bind ?_ (fun _ => ?_)
set_option maxHeartbeats 8000000 in
set_option maxRecDepth 100000 in
theorem laws_FnFilterKeys.calls (k : Nat) (P0_ : Nat → Prop) (A0 : Option Addr) (c0 : Nat) (l0 : List (List Int)) (a1 : Int) (P2_ : Nat → Prop) (A2 : Option Addr) (c2 : Nat) (l2 : List Int) (r : Bool) (w : World) (hs0 : Kd.V (Kd.slice 5 (Kd.int .u8)) 26 w w.heap.size (fun k_ => P0_ k_) (.slice A0 l0.length c0) l0) (hs2 : Kd.V (Kd.int .u8) 5 w w.heap.size (fun k_ => P2_ k_) (.slice A2 l2.length c2) l2) (h : laws_FnFilterKeys.f k l0 a1 l2 = some r) :
    Calls Try.prog 26 #[.slice A0 l0.length c0, .int .i64 a1, .slice A2 l2.length c2] w fun e w' => e = .returned (.bool r) ∧ Below w.heap.size w w' := by
  have HO0 := Aside0.mk (show Kd.V (Kd.slice 5 (Kd.int .u8)) 26 w w.heap.size (fun k_ => ((P0_ k_ ∨ P2_ k_) ∨ w.heap.size ≤ k_)) (.slice A0 l0.length c0) l0 from Kd.V_mono hs0 (fun k_ hk => .inl (.inl hk)))
  have HO2 := Aside0.mk (show Kd.V (Kd.int .u8) 5 w w.heap.size (fun k_ => ((P0_ k_ ∨ P2_ k_) ∨ w.heap.size ≤ k_)) (.slice A2 l2.length c2) l2 from Kd.V_mono hs2 (fun k_ hk => .inl (.inr hk)))
  have HB := Aside0.mk (Below.refl w.heap.size w)
  have H : ((laws_zzFits8.f k l0).bind fun t169 => (if t169 = true then (laws_FnFilterKeys.j0 k l0 a1 l2 (decide ((l2.length : Int) > 2147483647))) else (laws_FnFilterKeys.j0 k l0 a1 l2 true))) = some r := h
  clear h
  have HC4 := Aside0.mk H
  clear H
  go_enter Try.func26, Try.ntmps26
  go_upto_region 1 with (fail)
  go_cut [20] (fun v20 wc => ∃ (kq : Nat) (x20_3 : Bool), v20 = .bool x20_3 ∧ Aside0 (laws_FnFilterKeys.j0 kq l0 a1 l2 x20_3 = some r) ∧ Aside0 (kq ≤ k) ∧ Aside0 (Kd.V (Kd.slice 5 (Kd.int .u8)) 26 wc w.heap.size (fun k_ => ((P0_ k_ ∨ P2_ k_) ∨ w.heap.size ≤ k_)) (.slice A0 l0.length c0) l0) ∧ Aside0 (Kd.V (Kd.int .u8) 5 wc w.heap.size (fun k_ => ((P0_ k_ ∨ P2_ k_) ∨ w.heap.size ≤ k_)) (.slice A2 l2.length c2) l2) ∧ Aside0 (Below w.heap.size w wc))
  case first =>
    have H := HC4.out
    clear HC4
    replace H := Option.bind_eq_some_iff.mp H
    obtain ⟨t169, A50, H⟩ := H
    replace H : (if t169 = true then (laws_FnFilterKeys.j0 k l0 a1 l2 (decide ((l2.length : Int) > 2147483647))) else (laws_FnFilterKeys.j0 k l0 a1 l2 true)) = some r := H
    have A5 := Aside0.mk A50
    clear A50
    by_cases c6 : t169 = true
    · subst c6
      have H1 : (laws_FnFilterKeys.j0 k l0 a1 l2 (decide ((l2.length : Int) > 2147483647))) = some r := by rw [if_pos rfl] at H; exact H
      clear H
      have H := H1
      clear H1
      have H' := Aside0.mk H
      clear H
      go_wp2_with (first | ((with_reducible refine gate_callee (f := 80) rfl ?_); refine goesL_ (some 14) rfl rfl Try.func80 (by kernel_rfl) rfl #[.slice A0 l0.length c0] rfl (by (try simp only [List.map_toArray, List.map_cons, List.map_nil]); first | done | rfl | (simp only [List.length_drop, List.length_take]; rfl)) ?_; (with_reducible refine (laws_zzFits8.calls k _ _ l0 true _ ?side1 ?side2 A5.out).mono ?_); (case side1 => repeat (first | exact (Kd.V_reads' HO0.out).2.2 | (with_reducible refine Kd.C_alloc ?_ _) | (with_reducible refine Kd.C_drewN ?_ _) | (with_reducible refine Kd.C_drew ?_))); (case side2 => exact (Kd.V_reads' HO0.out).2.1); rintro e w' ⟨rfl, ⟨nd, rfl⟩⟩; refine ⟨_, rfl, ?_⟩))
      go_meet
      case rel => exact ⟨_, (decide ((l2.length : Int) > 2147483647)), (by first | rfl | (simp; done) | (simp [*]; done)), H', ⟨by first | omega | exact Nat.le_refl _⟩, ⟨by (with_reducible repeat (first | apply Kd.V_alloc | apply Kd.V_drewN | apply Kd.V_drew)); exact HO0.out⟩, ⟨by (with_reducible repeat (first | apply Kd.V_alloc | apply Kd.V_drewN | apply Kd.V_drew)); exact HO2.out⟩, ⟨by repeat (first | (with_reducible first | exact HB.out | apply below_alloc | apply pw_below_drewN | apply below_drew1) | exact HB.out)⟩⟩
    · replace c6 := Bool.eq_false_iff.mpr c6
      subst c6
      have H1 : (laws_FnFilterKeys.j0 k l0 a1 l2 true) = some r := by rw [if_neg (show ¬ (false = true) by decide)] at H; exact H
      clear H
      have H := H1
      clear H1
      have H' := Aside0.mk H
      clear H
      go_wp2_with (first | ((with_reducible refine gate_callee (f := 80) rfl ?_); refine goesL_ (some 14) rfl rfl Try.func80 (by kernel_rfl) rfl #[.slice A0 l0.length c0] rfl (by (try simp only [List.map_toArray, List.map_cons, List.map_nil]); first | done | rfl | (simp only [List.length_drop, List.length_take]; rfl)) ?_; (with_reducible refine (laws_zzFits8.calls k _ _ l0 false _ ?side1 ?side2 A5.out).mono ?_); (case side1 => repeat (first | exact (Kd.V_reads' HO0.out).2.2 | (with_reducible refine Kd.C_alloc ?_ _) | (with_reducible refine Kd.C_drewN ?_ _) | (with_reducible refine Kd.C_drew ?_))); (case side2 => exact (Kd.V_reads' HO0.out).2.1); rintro e w' ⟨rfl, ⟨nd, rfl⟩⟩; refine ⟨_, rfl, ?_⟩))
      go_meet
      case rel => exact ⟨_, (true), (by first | rfl | (simp; done) | (simp [*]; done)), H', ⟨by first | omega | exact Nat.le_refl _⟩, ⟨by (with_reducible repeat (first | apply Kd.V_alloc | apply Kd.V_drewN | apply Kd.V_drew)); exact HO0.out⟩, ⟨by (with_reducible repeat (first | apply Kd.V_alloc | apply Kd.V_drewN | apply Kd.V_drew)); exact HO2.out⟩, ⟨by repeat (first | (with_reducible first | exact HB.out | apply below_alloc | apply pw_below_drewN | apply below_drew1) | exact HB.out)⟩⟩
  case rest =>
    clear HC4
    try clear c2
    try clear p2
    try clear c6
    obtain ⟨kq, x20_3, rfl, HA, HJ3, HO_0, HO_2, HB⟩ := hcut
    cases kq with
    | zero => exact absurd HA.out (by simp [laws_FnFilterKeys.j0])
    | succ kj3 =>
      have H := HA.out
      clear HA
      simp only [laws_FnFilterKeys.j0] at H
      by_cases c7 : x20_3 = true
      · subst c7
        have H1 : (some true) = some r := by rw [if_pos rfl] at H; exact H
        clear H
        have H := H1
        clear H1
        obtain rfl := Option.some.inj H
        go_wp2
        go_ret
        exact ⟨by first | rfl | (simp [errW_none, errW_some] <;> rfl) | (simp [*, errW_none, errW_some] <;> rfl), by repeat (first | (with_reducible first | exact HB.out | apply below_alloc | apply pw_below_drewN | apply below_drew1) | exact HB.out)⟩
      · replace c7 := Bool.eq_false_iff.mpr c7
        subst c7
        have H1 : (laws_FnFilterKeys.l0 kj3 l0 a1 l2 (([] : List Int)) l0 (l0.length : Int) 0) = some r := by rw [if_neg (show ¬ (false = true) by decide)] at H; exact H
        clear H
        have H := H1
        clear H1
        obtain ⟨y170, hy170⟩ : ∃ y_ : List Int, y_ = (([] : List Int)) := ⟨_, rfl⟩
        replace H : (laws_FnFilterKeys.l0 kj3 l0 a1 l2 y170 l0 (l0.length : Int) 0) = some r := by first | (rw [hy170]; with_reducible exact H) | (have H2_ := (Option.bind_some _ _).symm.trans H; rw [hy170]; with_reducible exact H2_) | (have H2_ := (Option.bind_some _ _).symm.trans H; with_reducible exact H2_) | with_reducible exact H | (rw [hy170]; exact H) | exact H
        have Ny170 := Aside0.mk hy170
        clear hy170
        have H' := Aside0.mk H
        clear H
        go_wp2_with (first | ((with_reducible refine gate_dst (N := 21) rfl ?_); (try (refine gate_guard (by rfl) ?_; dsimp only)); refine Kd.R_lit (Kd.int .u32) _ 22 ?hg (N := 21) ?hd (xs := ([] : List Int)) (inner := []) (ok := fun _ => True) (okp := fun _ => True) ?hr ?hp (fun _ hk => hk) trivial (Below.refl _ _) (Nat.le_refl _) (by simp) ?_; (case hd => rfl); (case hg => rfl); (case hr => first | (go_simp; done) | (go_simp; rfl)); (case hp => exact (Reps.none _ _)); intro v171 w8 ho9 hb hg_ hnew_; clear hg_ hnew_; (first | rw [← Ny170.out] at ho9 | (simp only [Int.reduceToNat] at ho9; rw [← Ny170.out] at ho9)); have n0_ := Aside0.mk (Kd.V_elder' (by (with_reducible repeat (first | apply Kd.V_alloc | apply Kd.V_drewN | apply Kd.V_drew)); exact HO_0.out) (Kd.R_base ho9) hb); have n1_ := Aside0.mk (Kd.V_elder' (by (with_reducible repeat (first | apply Kd.V_alloc | apply Kd.V_drewN | apply Kd.V_drew)); exact HO_2.out) (Kd.R_base ho9) hb); have n2_ := Aside0.mk (Kd.R_lower (Kd.R_newM (M := fun k_ => (w.heap.size ≤ k_)) ho9 (below_size (by repeat (first | (with_reducible first | exact HB.out | apply below_alloc | apply pw_below_drewN | apply below_drew1) | exact HB.out))) (fun k_ h_ => h_)) (below_size (by repeat (first | (with_reducible first | exact HB.out | apply below_alloc | apply pw_below_drewN | apply below_drew1) | exact HB.out)))); have n3_ := Aside0.mk (below_step (by repeat (first | (with_reducible first | exact HB.out | apply below_alloc | apply pw_below_drewN | apply below_drew1) | exact HB.out)) hb); clear HO_0; clear HO_2; clear HB; have HO_0 := n0_; have HO_2 := n1_; have HO172 := n2_; have HB := n3_; clear n0_ n1_ n2_ n3_; clear hb ho9))
        go_loopg [7, 24] kj3 (fun kq v7 v24 w' => ∃ (x7_2 : List Int) (x24_2 : Int), v24 = .int .i64 x24_2 ∧ Aside0 (laws_FnFilterKeys.l0 kq l0 a1 l2 x7_2 l0 (l0.length : Int) x24_2 = some r) ∧ Aside0 (kq ≤ kj3) ∧ Aside0 (Kd.V (Kd.slice 5 (Kd.int .u8)) 26 w' w.heap.size (fun k_ => ((P0_ k_ ∨ P2_ k_) ∨ w.heap.size ≤ k_) ∧ some k_ ≠ (v7 : Value).ownBlock) (.slice A0 l0.length c0) l0) ∧ Aside0 (Kd.V (Kd.int .u8) 5 w' w.heap.size (fun k_ => ((P0_ k_ ∨ P2_ k_) ∨ w.heap.size ≤ k_) ∧ some k_ ≠ (v7 : Value).ownBlock) (.slice A2 l2.length c2) l2) ∧ Aside0 (Kd.R (Kd.int .u32) 22 w' w.heap.size (fun k_ => (w.heap.size ≤ k_)) v7 x7_2) ∧ Aside0 (Kd.V (Kd.slice 5 (Kd.int .u8)) 26 w' w.heap.size (fun k_ => ((P0_ k_ ∨ P2_ k_) ∨ w.heap.size ≤ k_) ∧ some k_ ≠ (v7 : Value).ownBlock) (.slice A0 l0.length c0) l0) ∧ Aside0 (Below w.heap.size w w'))
        case atStart => exact ⟨(y170), (0), (by first | rfl | (simp; done) | (simp [*]; done)), H', ⟨Nat.le_refl _⟩, ⟨by (with_reducible repeat (first | apply Kd.V_alloc | apply Kd.V_drewN | apply Kd.V_drew)); exact HO_0.out⟩, ⟨by (with_reducible repeat (first | apply Kd.V_alloc | apply Kd.V_drewN | apply Kd.V_drew)); exact HO_2.out⟩, ⟨by (with_reducible repeat (first | apply Kd.R_alloc | apply Kd.R_drewN | apply Kd.R_drew)); exact Kd.R_mono HO172.out (fun _ hk => hk.1)⟩, ⟨by (with_reducible repeat (first | apply Kd.V_alloc | apply Kd.V_drewN | apply Kd.V_drew)); exact HO_0.out⟩, ⟨by repeat (first | (with_reducible first | exact HB.out | apply below_alloc | apply pw_below_drewN | apply below_drew1) | exact HB.out)⟩⟩
        case round =>
          clear H'
          try clear c2
          try clear p2
          try clear c6
          try clear c7
          try clear c8
          try clear p2
          obtain ⟨x7_2, x24_2, rfl, HA, HK2, HO_0, HO_2, HO_7, HO_22, HB⟩ := hrel
          cases gk with
          | zero => exact absurd HA.out (by simp [laws_FnFilterKeys.l0])
          | succ k2 =>
            have H := HA.out
            clear HA
            simp only [laws_FnFilterKeys.l0] at H
            by_cases c10 : x24_2 < (l0.length : Int)
            · rw [if_pos c10] at H
              have c10b0 : decide (x24_2 < (l0.length : Int)) = true := decide_eq_true c10
              clear c10
              by_cases c11 : 0 ≤ x24_2
              · rw [if_pos c11] at H
                have c11b0 : decide (0 ≤ x24_2) = true := decide_eq_true c11
                clear c11
                by_cases c12 : x24_2 < (l0.length : Int)
                · rw [if_pos c12] at H
                  have c12b0 : decide (x24_2 < (l0.length : Int)) = true := decide_eq_true c12
                  clear c12
                  obtain ⟨y174, hy174⟩ : ∃ y_ : List (List Int), y_ = (([rd_L2 l0 x24_2] : List (List Int))) := ⟨_, rfl⟩
                  replace H : ((laws_few.f k2 y174).bind fun t177 => (if t177 = true then ((impl_HashOf.f k2 (rd_L2 l0 x24_2)).bind fun t178 => (if x7_2.length < 35184372088832 then (laws_FnFilterKeys.l0 k2 l0 a1 l2 (x7_2 ++ [t178]) l0 (l0.length : Int) (wrap64 (x24_2 + 1))) else (none))) else (some true))) = some r := by first | (rw [hy174]; with_reducible exact H) | (have H2_ := (Option.bind_some _ _).symm.trans H; rw [hy174]; with_reducible exact H2_) | (have H2_ := (Option.bind_some _ _).symm.trans H; with_reducible exact H2_) | with_reducible exact H | (rw [hy174]; exact H) | exact H
                  have Ny174 := Aside0.mk hy174
                  clear hy174
                  replace H := Option.bind_eq_some_iff.mp H
                  obtain ⟨t177, A130, H⟩ := H
                  replace H : (if t177 = true then ((impl_HashOf.f k2 (rd_L2 l0 x24_2)).bind fun t178 => (if x7_2.length < 35184372088832 then (laws_FnFilterKeys.l0 k2 l0 a1 l2 (x7_2 ++ [t178]) l0 (l0.length : Int) (wrap64 (x24_2 + 1))) else (none))) else (some true)) = some r := H
                  have A13 := Aside0.mk A130
                  clear A130
                  by_cases c14 : t177 = true
                  · subst c14
                    have H1 : ((impl_HashOf.f k2 (rd_L2 l0 x24_2)).bind fun t178 => (if x7_2.length < 35184372088832 then (laws_FnFilterKeys.l0 k2 l0 a1 l2 (x7_2 ++ [t178]) l0 (l0.length : Int) (wrap64 (x24_2 + 1))) else (none))) = some r := by rw [if_pos rfl] at H; exact H
                    clear H
                    have H := H1
                    clear H1
                    replace H := Option.bind_eq_some_iff.mp H
                    obtain ⟨t178, A150, H⟩ := H
                    replace H : (if x7_2.length < 35184372088832 then (laws_FnFilterKeys.l0 k2 l0 a1 l2 (x7_2 ++ [t178]) l0 (l0.length : Int) (wrap64 (x24_2 + 1))) else (none)) = some r := H
                    have A15 := Aside0.mk A150
                    clear A150
                    by_cases c16 : x7_2.length < 35184372088832
                    · rw [if_pos c16] at H
                      have LMc16 := Aside0.mk c16
                      clear c16
                      obtain ⟨y179, hy179⟩ : ∃ y_ : List Int, y_ = (x7_2 ++ [t178]) := ⟨_, rfl⟩
                      replace H : (laws_FnFilterKeys.l0 k2 l0 a1 l2 y179 l0 (l0.length : Int) (wrap64 (x24_2 + 1))) = some r := by first | (rw [hy179]; with_reducible exact H) | (have H2_ := (Option.bind_some _ _).symm.trans H; rw [hy179]; with_reducible exact H2_) | (have H2_ := (Option.bind_some _ _).symm.trans H; with_reducible exact H2_) | with_reducible exact H | (rw [hy179]; exact H) | exact H
                      have Ny179 := Aside0.mk hy179
                      clear hy179
                      have H' := Aside0.mk H
                      clear H
                      have p173 : 0 ≤ (x24_2 : Int) := of_decide_eq_true (by first | (with_reducible assumption) | assumption)
                      have q173 : x24_2 < (l0.length : Int) := of_decide_eq_true (by first | (with_reducible assumption) | assumption)
                      obtain ⟨ad173, A173_0, c173_0, e173, hx173_0, hl173_0, hi173_0⟩ := at_L2 (Kd.V_reads' HO_22.out).2.2 x24_2 p173 q173
                      cases e173
                      obtain ⟨ce173, hce173, hMe173, hcc173⟩ := Kd.V_get HO_22.out [] x24_2 p173 (by first | exact q173 | exact of_decide_eq_true (by first | (with_reducible assumption) | assumption) | (have e_ := (Kd.V_reads' HO_22.out).1; omega))
                      obtain ⟨ua173_0, uc173_0, rfl, ul173_0, ge173_0⟩ := Kd.FK_slice_open hMe173
                      have hv173_0 := hcc173 0 _ rfl
                      rw [Nat.add_zero, show ((Kd.slice 5 (Kd.int .u8))).sz = 1 from rfl, Nat.mul_one] at hv173_0
                      replace hv173_0 := Option.some.inj (hv173_0.symm.trans hx173_0)
                      injection hv173_0 with hva_ hvn_ hvc_
                      rw [hva_] at ge173_0
                      rw [hvc_] at ul173_0
                      have HL173_0 := Aside0.mk (show Kd.V (Kd.int .u8) 5 _ w.heap.size _ _ (rd_L2 l0 x24_2) from Kd.V_mk ul173_0 ge173_0)
                      clear hva_ hvn_ hvc_ ge173_0 ul173_0
                      clear hcc173 hce173
                      have HR173_0 := Aside0.mk hi173_0
                      have HC173_0 := Aside0.mk hl173_0
                      clear hi173_0 hl173_0
                      replace p173 := eq_true p173
                      replace q173 := eq_true q173
                      go_wp2_with (first | ((with_reducible refine gate_dst (N := 29) rfl ?_); (try (refine gate_guard (by rfl) ?_; dsimp only)); refine Kd.N_lit (Kd.slice 5 (Kd.int .u8)) _ 26 ?hg (N' := 29) ?hd (xs := ([rd_L2 l0 x24_2] : List (List Int))) (inner := [.slice A173_0 (rd_L2 l0 x24_2).length c173_0]) (ok := (fun k_ => ((P0_ k_ ∨ P2_ k_) ∨ w.heap.size ≤ k_) ∧ some k_ ≠ (u7 : Value).ownBlock)) (okp := (fun k_ => ((P0_ k_ ∨ P2_ k_) ∨ w.heap.size ≤ k_) ∧ some k_ ≠ (u7 : Value).ownBlock)) ?hr ?hp (fun _ hk => hk) ((show ∀ k_, wr.heap.size ≤ k_ → (fun k_ => ((P0_ k_ ∨ P2_ k_) ∨ w.heap.size ≤ k_) ∧ some k_ ≠ (u7 : Value).ownBlock) k_ from fun k_ hk => ⟨(.inr (Nat.le_trans (below_size (by repeat (first | (with_reducible first | exact HB.out | apply below_alloc | apply pw_below_drewN | apply below_drew1) | exact HB.out))) hk)), Kd.fresh' (Kd.R_lt (by (with_reducible repeat (first | apply Kd.R_alloc | apply Kd.R_drewN | apply Kd.R_drew)); exact HO_7.out)) k_ hk⟩) _ (Nat.le_refl _)) (Below.refl _ _) (Nat.le_refl _) (by simp) ?_; (case hd => rfl); (case hg => rfl); (case hr => first | (go_simp; done) | (go_simp; rfl)); (case hp => exact (Reps.one (show Kd.FK (Kd.slice 5 (Kd.int .u8)) _ _ (rd_L2 l0 x24_2) [.slice A173_0 (rd_L2 l0 x24_2).length c173_0] from (Kd.FK_slice_mk (Kd.V_reads' (Kd.V_mono (ok' := (fun k_ => ((P0_ k_ ∨ P2_ k_) ∨ w.heap.size ≤ k_) ∧ some k_ ≠ (u7 : Value).ownBlock)) (HL173_0.out) (fun k_ hk => ⟨hk.1, hk.2⟩))).2.1 (Kd.V_F (Kd.V_mono (ok' := (fun k_ => ((P0_ k_ ∨ P2_ k_) ∨ w.heap.size ≤ k_) ∧ some k_ ≠ (u7 : Value).ownBlock)) (HL173_0.out) (fun k_ hk => ⟨hk.1, hk.2⟩))))) (Reps.none _ _))); intro v175 w17 ho18 hb hg_ hnew_; clear hg_ hnew_; (first | rw [← Ny174.out] at ho18 | (simp only [Int.reduceToNat] at ho18; rw [← Ny174.out] at ho18)); have n0_ := Aside0.mk (Kd.V_elder' (by (with_reducible repeat (first | apply Kd.V_alloc | apply Kd.V_drewN | apply Kd.V_drew)); exact HO_0.out) (Kd.N_base ho18) hb); have n1_ := Aside0.mk (Kd.V_elder' (by (with_reducible repeat (first | apply Kd.V_alloc | apply Kd.V_drewN | apply Kd.V_drew)); exact HO_2.out) (Kd.N_base ho18) hb); have n2_ := Aside0.mk (Kd.R_below (by (with_reducible repeat (first | apply Kd.R_alloc | apply Kd.R_drewN | apply Kd.R_drew)); exact HO_7.out) hb); have n3_ := Aside0.mk (Kd.V_elder' (by (with_reducible repeat (first | apply Kd.V_alloc | apply Kd.V_drewN | apply Kd.V_drew)); exact HO_22.out) (Kd.N_base ho18) hb); have n4_ := Aside0.mk (Kd.V_elder' (by (with_reducible repeat (first | apply Kd.V_alloc | apply Kd.V_drewN | apply Kd.V_drew)); exact HL173_0.out) (Kd.N_base ho18) hb); have n5_ := Aside0.mk (Kd.N_lower ho18 (below_size (by repeat (first | (with_reducible first | exact HB.out | apply below_alloc | apply pw_below_drewN | apply below_drew1) | exact HB.out)))); have n6_ := Aside0.mk (Kd.C_below (by repeat (first | (with_reducible exact HR173_0.out) | (with_reducible refine Kd.C_alloc ?_ _) | (with_reducible refine Kd.C_drewN ?_ _) | (with_reducible refine Kd.C_drew ?_) | exact HR173_0.out)) hb); have n7_ := Aside0.mk (below_step (by repeat (first | (with_reducible first | exact HB.out | apply below_alloc | apply pw_below_drewN | apply below_drew1) | exact HB.out)) hb); clear HO_0; clear HO_2; clear HO_7; clear HO_22; clear HL173_0; clear HR173_0; clear HB; have HO_0 := n0_; have HO_2 := n1_; have HO_7 := n2_; have HO_22 := n3_; have HL173_0 := n4_; have HO176 := n5_; have HR173_0 := n6_; have HB := n7_; clear n0_ n1_ n2_ n3_ n4_ n5_ n6_ n7_; clear hb ho18; obtain ⟨Ao19, co19, eo19⟩ := Kd.N_slice HO176.out; subst eo19) | ((with_reducible refine gate_callee (f := 29) rfl ?_); refine goesL_ (some 30) rfl rfl Try.func29 (by kernel_rfl) rfl #[.slice Ao19 y174.length co19] rfl (by (try simp only [List.map_toArray, List.map_cons, List.map_nil]); first | done | rfl | (simp only [List.length_drop, List.length_take]; rfl)) ?_; (with_reducible refine (laws_few.calls k2 _ _ y174 true _ ?side1 ?side2 A13.out).mono ?_); (case side1 => repeat (first | exact (Kd.N_reads' HO176.out).2.2 | (with_reducible refine Kd.C_alloc ?_ _) | (with_reducible refine Kd.C_drewN ?_ _) | (with_reducible refine Kd.C_drew ?_))); (case side2 => exact (Kd.N_reads' HO176.out).2.1); rintro e w' ⟨rfl, ⟨nd, rfl⟩⟩; refine ⟨_, rfl, ?_⟩) | ((with_reducible refine gate_callee (f := 81) rfl ?_); refine goesL_ (some 34) rfl rfl Try.func81 (by kernel_rfl) rfl #[.slice A173_0 (rd_L2 l0 x24_2).length c173_0] rfl (by (try simp only [List.map_toArray, List.map_cons, List.map_nil]); first | done | rfl | (simp only [List.length_drop, List.length_take]; rfl)) ?_; (with_reducible refine (impl_HashOf.calls k2 _ _ (rd_L2 l0 x24_2) t178 _ ?side1 ?side2 A15.out).mono ?_); (case side1 => repeat (first | exact (by repeat (first | (with_reducible exact HR173_0.out) | (with_reducible refine Kd.C_alloc ?_ _) | (with_reducible refine Kd.C_drewN ?_ _) | (with_reducible refine Kd.C_drew ?_) | exact HR173_0.out)) | (with_reducible refine Kd.C_alloc ?_ _) | (with_reducible refine Kd.C_drewN ?_ _) | (with_reducible refine Kd.C_drew ?_))); (case side2 => exact HC173_0.out); rintro e w20 ⟨rfl, hb⟩; refine ⟨_, rfl, ?_⟩; have n0_ := Aside0.mk (Kd.V_below (by (with_reducible repeat (first | apply Kd.V_alloc | apply Kd.V_drewN | apply Kd.V_drew)); exact HO_0.out) hb); have n1_ := Aside0.mk (Kd.V_below (by (with_reducible repeat (first | apply Kd.V_alloc | apply Kd.V_drewN | apply Kd.V_drew)); exact HO_2.out) hb); have n2_ := Aside0.mk (Kd.R_below (by (with_reducible repeat (first | apply Kd.R_alloc | apply Kd.R_drewN | apply Kd.R_drew)); exact HO_7.out) hb); have n3_ := Aside0.mk (Kd.V_below (by (with_reducible repeat (first | apply Kd.V_alloc | apply Kd.V_drewN | apply Kd.V_drew)); exact HO_22.out) hb); have n4_ := Aside0.mk (Kd.V_below (by (with_reducible repeat (first | apply Kd.V_alloc | apply Kd.V_drewN | apply Kd.V_drew)); exact HL173_0.out) hb); have n5_ := Aside0.mk (Kd.N_below (by (with_reducible repeat (first | apply Kd.N_alloc | apply Kd.N_drewN | apply Kd.N_drew)); exact HO176.out) hb); have n6_ := Aside0.mk (Kd.C_below (by repeat (first | (with_reducible exact HR173_0.out) | (with_reducible refine Kd.C_alloc ?_ _) | (with_reducible refine Kd.C_drewN ?_ _) | (with_reducible refine Kd.C_drew ?_) | exact HR173_0.out)) hb); have n7_ := Aside0.mk (below_step (by repeat (first | (with_reducible first | exact HB.out | apply below_alloc | apply pw_below_drewN | apply below_drew1) | exact HB.out)) hb); clear HO_0; clear HO_2; clear HO_7; clear HO_22; clear HL173_0; clear HO176; clear HR173_0; clear HB; have HO_0 := n0_; have HO_2 := n1_; have HO_7 := n2_; have HO_22 := n3_; have HL173_0 := n4_; have HO176 := n5_; have HR173_0 := n6_; have HB := n7_; clear n0_ n1_ n2_ n3_ n4_ n5_ n6_ n7_; (try clear hb); (try clear hb2); (try clear hk); (try clear hi)) | ((with_reducible refine gate_builtin (b := .append) (xs := #[.tmp 32, .tmp 35]) rfl ?_); (try (refine gate_guard (by rfl) ?_; dsimp only)); at_builtin; refine Kd.R_append (Kd.int .u32) (w0 := w) w.heap.size rfl (.tmp 32) (.tmp 35) 40 22 (.int .u32 0) 4 rfl Try.underlying40 info22 rfl (by decide) (by omega) u7 x7_2 t178 [.int .u32 t178] (fun k_ => (w.heap.size ≤ k_)) (fun _ => False) rfl rfl ?aP (fun _ hk => hk.elim) ?aF ?aO ?aB ?aS ?aL ?_; (case aP => exact rfl); (case aB => exact (by repeat (first | (with_reducible first | exact HB.out | apply below_alloc | apply pw_below_drewN | apply below_drew1) | exact HB.out))); (case aF => exact (fun k_ hk => (Nat.le_trans (below_size (by repeat (first | (with_reducible first | exact HB.out | apply below_alloc | apply pw_below_drewN | apply below_drew1) | exact HB.out))) hk))); (case aO => exact (by (with_reducible repeat (first | apply Kd.R_alloc | apply Kd.R_drewN | apply Kd.R_drew)); exact HO_7.out)); (case aS => exact (below_size (by repeat (first | (with_reducible first | exact HB.out | apply below_alloc | apply pw_below_drewN | apply below_drew1) | exact HB.out)))); (case aL => have := LMc16.out; omega); intro v180 w21 ho hb hg hat; rw [← Ny179.out] at ho; have n0_ := Aside0.mk (Kd.V_afterv (ok := (fun k_ => ((P0_ k_ ∨ P2_ k_) ∨ w.heap.size ≤ k_) ∧ some k_ ≠ (.slice Ao19 y174.length co19 : Value).ownBlock)) (by (with_reducible repeat (first | apply Kd.V_alloc | apply Kd.V_drewN | apply Kd.V_drew)); exact Kd.V_mono HO_0.out (fun _ hk => ⟨⟨hk.1.1, hk.2⟩, hk.1.2⟩)) hg hat); have n1_ := Aside0.mk (Kd.V_afterv (ok := (fun k_ => ((P0_ k_ ∨ P2_ k_) ∨ w.heap.size ≤ k_) ∧ some k_ ≠ (.slice Ao19 y174.length co19 : Value).ownBlock)) (by (with_reducible repeat (first | apply Kd.V_alloc | apply Kd.V_drewN | apply Kd.V_drew)); exact Kd.V_mono HO_2.out (fun _ hk => ⟨⟨hk.1.1, hk.2⟩, hk.1.2⟩)) hg hat); have n2_ := Aside0.mk (Kd.V_afterv (ok := (fun k_ => ((P0_ k_ ∨ P2_ k_) ∨ w.heap.size ≤ k_) ∧ some k_ ≠ (.slice Ao19 y174.length co19 : Value).ownBlock)) (by (with_reducible repeat (first | apply Kd.V_alloc | apply Kd.V_drewN | apply Kd.V_drew)); exact Kd.V_mono HO_22.out (fun _ hk => ⟨⟨hk.1.1, hk.2⟩, hk.1.2⟩)) hg hat); have n3_ := Aside0.mk (Kd.V_afterv (ok := (fun k_ => ((P0_ k_ ∨ P2_ k_) ∨ w.heap.size ≤ k_) ∧ some k_ ≠ (.slice Ao19 y174.length co19 : Value).ownBlock)) (by (with_reducible repeat (first | apply Kd.V_alloc | apply Kd.V_drewN | apply Kd.V_drew)); exact Kd.V_mono HL173_0.out (fun _ hk => ⟨⟨hk.1.1, hk.2⟩, hk.1.2⟩)) hg hat); have n4_ := Aside0.mk (Kd.N_afterv (ok := (fun k_ => ((P0_ k_ ∨ P2_ k_) ∨ w.heap.size ≤ k_))) (by (with_reducible repeat (first | apply Kd.N_alloc | apply Kd.N_drewN | apply Kd.N_drew)); exact HO176.out) hg hat); have n5_ := Aside0.mk (hb); have n6_ := Aside0.mk (ho); clear HO_0; clear HO_2; clear HO_22; clear HL173_0; clear HO176; clear HB; clear HO_7; have HO_0 := n0_; have HO_2 := n1_; have HO_22 := n2_; have HL173_0 := n3_; have HO176 := n4_; have HB := n5_; have HO181 := n6_; clear n0_ n1_ n2_ n3_ n4_ n5_ n6_; clear ho hb hg hat))
                      go_roundg k2
                      case measure => have := HJ3.out; have := HK2.out; omega
                      case rel => exact ⟨(y179), (wrap64 (x24_2 + 1)), (by first | rfl | (simp; done) | (simp [*]; done)), H', ⟨by have := HJ3.out; have := HK2.out; omega⟩, ⟨by (with_reducible repeat (first | apply Kd.V_alloc | apply Kd.V_drewN | apply Kd.V_drew)); exact Kd.V_mono HO_0.out (fun _ hk => ⟨hk.1.1, hk.2⟩)⟩, ⟨by (with_reducible repeat (first | apply Kd.V_alloc | apply Kd.V_drewN | apply Kd.V_drew)); exact Kd.V_mono HO_2.out (fun _ hk => ⟨hk.1.1, hk.2⟩)⟩, ⟨by (with_reducible repeat (first | apply Kd.R_alloc | apply Kd.R_drewN | apply Kd.R_drew)); exact HO181.out⟩, ⟨by (with_reducible repeat (first | apply Kd.V_alloc | apply Kd.V_drewN | apply Kd.V_drew)); exact Kd.V_mono HO_22.out (fun _ hk => ⟨hk.1.1, hk.2⟩)⟩, ⟨by repeat (first | (with_reducible first | exact HB.out | apply below_alloc | apply pw_below_drewN | apply below_drew1) | exact HB.out)⟩⟩
                    · rw [if_neg c16] at H
                      exact absurd H (by simp)
                  · replace c14 := Bool.eq_false_iff.mpr c14
                    subst c14
                    have H1 : (some true) = some r := by rw [if_neg (show ¬ (false = true) by decide)] at H; exact H
                    clear H
                    have H := H1
                    clear H1
                    obtain rfl := Option.some.inj H
                    have p173 : 0 ≤ (x24_2 : Int) := of_decide_eq_true (by first | (with_reducible assumption) | assumption)
                    have q173 : x24_2 < (l0.length : Int) := of_decide_eq_true (by first | (with_reducible assumption) | assumption)
                    obtain ⟨ad173, A173_0, c173_0, e173, hx173_0, hl173_0, hi173_0⟩ := at_L2 (Kd.V_reads' HO_22.out).2.2 x24_2 p173 q173
                    cases e173
                    obtain ⟨ce173, hce173, hMe173, hcc173⟩ := Kd.V_get HO_22.out [] x24_2 p173 (by first | exact q173 | exact of_decide_eq_true (by first | (with_reducible assumption) | assumption) | (have e_ := (Kd.V_reads' HO_22.out).1; omega))
                    obtain ⟨ua173_0, uc173_0, rfl, ul173_0, ge173_0⟩ := Kd.FK_slice_open hMe173
                    have hv173_0 := hcc173 0 _ rfl
                    rw [Nat.add_zero, show ((Kd.slice 5 (Kd.int .u8))).sz = 1 from rfl, Nat.mul_one] at hv173_0
                    replace hv173_0 := Option.some.inj (hv173_0.symm.trans hx173_0)
                    injection hv173_0 with hva_ hvn_ hvc_
                    rw [hva_] at ge173_0
                    rw [hvc_] at ul173_0
                    have HL173_0 := Aside0.mk (show Kd.V (Kd.int .u8) 5 _ w.heap.size _ _ (rd_L2 l0 x24_2) from Kd.V_mk ul173_0 ge173_0)
                    clear hva_ hvn_ hvc_ ge173_0 ul173_0
                    clear hcc173 hce173
                    have HR173_0 := Aside0.mk hi173_0
                    have HC173_0 := Aside0.mk hl173_0
                    clear hi173_0 hl173_0
                    replace p173 := eq_true p173
                    replace q173 := eq_true q173
                    go_wp2_with (first | ((with_reducible refine gate_dst (N := 29) rfl ?_); (try (refine gate_guard (by rfl) ?_; dsimp only)); refine Kd.N_lit (Kd.slice 5 (Kd.int .u8)) _ 26 ?hg (N' := 29) ?hd (xs := ([rd_L2 l0 x24_2] : List (List Int))) (inner := [.slice A173_0 (rd_L2 l0 x24_2).length c173_0]) (ok := (fun k_ => ((P0_ k_ ∨ P2_ k_) ∨ w.heap.size ≤ k_) ∧ some k_ ≠ (u7 : Value).ownBlock)) (okp := (fun k_ => ((P0_ k_ ∨ P2_ k_) ∨ w.heap.size ≤ k_) ∧ some k_ ≠ (u7 : Value).ownBlock)) ?hr ?hp (fun _ hk => hk) ((show ∀ k_, wr.heap.size ≤ k_ → (fun k_ => ((P0_ k_ ∨ P2_ k_) ∨ w.heap.size ≤ k_) ∧ some k_ ≠ (u7 : Value).ownBlock) k_ from fun k_ hk => ⟨(.inr (Nat.le_trans (below_size (by repeat (first | (with_reducible first | exact HB.out | apply below_alloc | apply pw_below_drewN | apply below_drew1) | exact HB.out))) hk)), Kd.fresh' (Kd.R_lt (by (with_reducible repeat (first | apply Kd.R_alloc | apply Kd.R_drewN | apply Kd.R_drew)); exact HO_7.out)) k_ hk⟩) _ (Nat.le_refl _)) (Below.refl _ _) (Nat.le_refl _) (by simp) ?_; (case hd => rfl); (case hg => rfl); (case hr => first | (go_simp; done) | (go_simp; rfl)); (case hp => exact (Reps.one (show Kd.FK (Kd.slice 5 (Kd.int .u8)) _ _ (rd_L2 l0 x24_2) [.slice A173_0 (rd_L2 l0 x24_2).length c173_0] from (Kd.FK_slice_mk (Kd.V_reads' (Kd.V_mono (ok' := (fun k_ => ((P0_ k_ ∨ P2_ k_) ∨ w.heap.size ≤ k_) ∧ some k_ ≠ (u7 : Value).ownBlock)) (HL173_0.out) (fun k_ hk => ⟨hk.1, hk.2⟩))).2.1 (Kd.V_F (Kd.V_mono (ok' := (fun k_ => ((P0_ k_ ∨ P2_ k_) ∨ w.heap.size ≤ k_) ∧ some k_ ≠ (u7 : Value).ownBlock)) (HL173_0.out) (fun k_ hk => ⟨hk.1, hk.2⟩))))) (Reps.none _ _))); intro v175 w22 ho23 hb hg_ hnew_; clear hg_ hnew_; (first | rw [← Ny174.out] at ho23 | (simp only [Int.reduceToNat] at ho23; rw [← Ny174.out] at ho23)); have n0_ := Aside0.mk (Kd.V_elder' (by (with_reducible repeat (first | apply Kd.V_alloc | apply Kd.V_drewN | apply Kd.V_drew)); exact HO_0.out) (Kd.N_base ho23) hb); have n1_ := Aside0.mk (Kd.V_elder' (by (with_reducible repeat (first | apply Kd.V_alloc | apply Kd.V_drewN | apply Kd.V_drew)); exact HO_2.out) (Kd.N_base ho23) hb); have n2_ := Aside0.mk (Kd.R_below (by (with_reducible repeat (first | apply Kd.R_alloc | apply Kd.R_drewN | apply Kd.R_drew)); exact HO_7.out) hb); have n3_ := Aside0.mk (Kd.V_elder' (by (with_reducible repeat (first | apply Kd.V_alloc | apply Kd.V_drewN | apply Kd.V_drew)); exact HO_22.out) (Kd.N_base ho23) hb); have n4_ := Aside0.mk (Kd.V_elder' (by (with_reducible repeat (first | apply Kd.V_alloc | apply Kd.V_drewN | apply Kd.V_drew)); exact HL173_0.out) (Kd.N_base ho23) hb); have n5_ := Aside0.mk (Kd.N_lower ho23 (below_size (by repeat (first | (with_reducible first | exact HB.out | apply below_alloc | apply pw_below_drewN | apply below_drew1) | exact HB.out)))); have n6_ := Aside0.mk (Kd.C_below (by repeat (first | (with_reducible exact HR173_0.out) | (with_reducible refine Kd.C_alloc ?_ _) | (with_reducible refine Kd.C_drewN ?_ _) | (with_reducible refine Kd.C_drew ?_) | exact HR173_0.out)) hb); have n7_ := Aside0.mk (below_step (by repeat (first | (with_reducible first | exact HB.out | apply below_alloc | apply pw_below_drewN | apply below_drew1) | exact HB.out)) hb); clear HO_0; clear HO_2; clear HO_7; clear HO_22; clear HL173_0; clear HR173_0; clear HB; have HO_0 := n0_; have HO_2 := n1_; have HO_7 := n2_; have HO_22 := n3_; have HL173_0 := n4_; have HO176 := n5_; have HR173_0 := n6_; have HB := n7_; clear n0_ n1_ n2_ n3_ n4_ n5_ n6_ n7_; clear hb ho23; obtain ⟨Ao24, co24, eo24⟩ := Kd.N_slice HO176.out; subst eo24) | ((with_reducible refine gate_callee (f := 29) rfl ?_); refine goesL_ (some 30) rfl rfl Try.func29 (by kernel_rfl) rfl #[.slice Ao24 y174.length co24] rfl (by (try simp only [List.map_toArray, List.map_cons, List.map_nil]); first | done | rfl | (simp only [List.length_drop, List.length_take]; rfl)) ?_; (with_reducible refine (laws_few.calls k2 _ _ y174 false _ ?side1 ?side2 A13.out).mono ?_); (case side1 => repeat (first | exact (Kd.N_reads' HO176.out).2.2 | (with_reducible refine Kd.C_alloc ?_ _) | (with_reducible refine Kd.C_drewN ?_ _) | (with_reducible refine Kd.C_drew ?_))); (case side2 => exact (Kd.N_reads' HO176.out).2.1); rintro e w' ⟨rfl, ⟨nd, rfl⟩⟩; refine ⟨_, rfl, ?_⟩))
                    go_ret
                    exact ⟨by first | rfl | (simp [errW_none, errW_some] <;> rfl) | (simp [*, errW_none, errW_some] <;> rfl), by repeat (first | (with_reducible first | exact HB.out | apply below_alloc | apply pw_below_drewN | apply below_drew1) | exact HB.out)⟩
                · rw [if_neg c12] at H
                  exact absurd H (by simp)
              · rw [if_neg c11] at H
                exact absurd H (by simp)
            · rw [if_neg c10] at H
              have c10b0 : decide (x24_2 < (l0.length : Int)) = false := decide_eq_false c10
              clear c10
              have HC25 := Aside0.mk H
              clear H
              go_upto_region 11 with (fail)
              go_cut [52] (fun v52 wc => ∃ (kq : Nat) (x52_24 : Bool), v52 = .bool x52_24 ∧ Aside0 (laws_FnFilterKeys.j2 kq l0 a1 l2 x7_2 x52_24 = some r) ∧ Aside0 (kq ≤ k2) ∧ Aside0 (Kd.V (Kd.slice 5 (Kd.int .u8)) 26 wc w.heap.size (fun k_ => ((P0_ k_ ∨ P2_ k_) ∨ w.heap.size ≤ k_) ∧ some k_ ≠ (u7 : Value).ownBlock) (.slice A0 l0.length c0) l0) ∧ Aside0 (Kd.V (Kd.int .u8) 5 wc w.heap.size (fun k_ => ((P0_ k_ ∨ P2_ k_) ∨ w.heap.size ≤ k_) ∧ some k_ ≠ (u7 : Value).ownBlock) (.slice A2 l2.length c2) l2) ∧ Aside0 (Kd.R (Kd.int .u32) 22 wc w.heap.size (fun k_ => (w.heap.size ≤ k_)) u7 x7_2) ∧ Aside0 (Below w.heap.size w wc))
              case first =>
                have H := HC25.out
                clear HC25
                by_cases c26 : (l0.length : Int) > 60
                · rw [if_pos c26] at H
                  have c26b0 : decide (60 < (l0.length : Int)) = true := decide_eq_true c26
                  have c26b1 : decide (60 < l0.length) = true := decide_eq_true (by omega)
                  clear c26
                  (first | rw [c26b0] | (simp only [i64_w, i32_w]; rw [c26b0]) | skip)
                  have H' := Aside0.mk H
                  clear H
                  go_wp2
                  go_meet
                  case rel => exact ⟨_, (true), (by first | rfl | (simp; done) | (simp [*]; done)), H', ⟨by have := HJ3.out; have := HK2.out; first | omega | exact Nat.le_refl _⟩, ⟨by (with_reducible repeat (first | apply Kd.V_alloc | apply Kd.V_drewN | apply Kd.V_drew)); exact HO_0.out⟩, ⟨by (with_reducible repeat (first | apply Kd.V_alloc | apply Kd.V_drewN | apply Kd.V_drew)); exact HO_2.out⟩, ⟨by (with_reducible repeat (first | apply Kd.R_alloc | apply Kd.R_drewN | apply Kd.R_drew)); exact HO_7.out⟩, ⟨by repeat (first | (with_reducible first | exact HB.out | apply below_alloc | apply pw_below_drewN | apply below_drew1) | exact HB.out)⟩⟩
                · rw [if_neg c26] at H
                  have c26b0 : decide (60 < (l0.length : Int)) = false := decide_eq_false c26
                  have c26b1 : decide (60 < l0.length) = false := decide_eq_false (by omega)
                  clear c26
                  (first | rw [c26b0] | (simp only [i64_w, i32_w]; rw [c26b0]) | skip)
                  replace H := Option.bind_eq_some_iff.mp H
                  obtain ⟨t182, A270, H⟩ := H
                  replace H : (if t182 = true then ((laws_few.f k2 (([l2] : List (List Int)))).bind fun t186 => (laws_FnFilterKeys.j2 k2 l0 a1 l2 x7_2 (!t186))) else (laws_FnFilterKeys.j2 k2 l0 a1 l2 x7_2 true)) = some r := H
                  have A27 := Aside0.mk A270
                  clear A270
                  by_cases c28 : t182 = true
                  · subst c28
                    have H1 : ((laws_few.f k2 (([l2] : List (List Int)))).bind fun t186 => (laws_FnFilterKeys.j2 k2 l0 a1 l2 x7_2 (!t186))) = some r := by rw [if_pos rfl] at H; exact H
                    clear H
                    have H := H1
                    clear H1
                    obtain ⟨y183, hy183⟩ : ∃ y_ : List (List Int), y_ = (([l2] : List (List Int))) := ⟨_, rfl⟩
                    replace H : ((laws_few.f k2 y183).bind fun t186 => (laws_FnFilterKeys.j2 k2 l0 a1 l2 x7_2 (!t186))) = some r := by first | (rw [hy183]; with_reducible exact H) | (have H2_ := (Option.bind_some _ _).symm.trans H; rw [hy183]; with_reducible exact H2_) | (have H2_ := (Option.bind_some _ _).symm.trans H; with_reducible exact H2_) | with_reducible exact H | (rw [hy183]; exact H) | exact H
                    have Ny183 := Aside0.mk hy183
                    clear hy183
                    replace H := Option.bind_eq_some_iff.mp H
                    obtain ⟨t186, A290, H⟩ := H
                    replace H : (laws_FnFilterKeys.j2 k2 l0 a1 l2 x7_2 (!t186)) = some r := H
                    have A29 := Aside0.mk A290
                    clear A290
                    have H' := Aside0.mk H
                    clear H
                    obtain ⟨Ao30, co30, eo30⟩ := Kd.R_slice HO_7.out
                    subst eo30
                    go_wp2_with (first | (go_at_call 75; (with_reducible refine (laws_bitsOk.calls _ _ x7_2 a1 true _ ?side1 ?side2 A27.out).mono ?_); (case side1 => repeat (first | exact (Kd.R_reads' HO_7.out).2.2 | (with_reducible refine Kd.C_alloc ?_ _) | (with_reducible refine Kd.C_drewN ?_ _) | (with_reducible refine Kd.C_drew ?_))); (case side2 => exact (Kd.R_reads' HO_7.out).2.1); rintro e w' ⟨rfl, ⟨nd, rfl⟩⟩) | ((with_reducible refine gate_dst (N := 49) rfl ?_); (try (refine gate_guard (by rfl) ?_; dsimp only)); refine Kd.N_lit (Kd.slice 5 (Kd.int .u8)) _ 26 ?hg (N' := 49) ?hd (xs := ([l2] : List (List Int))) (inner := [.slice A2 l2.length c2]) (ok := (fun k_ => ((P0_ k_ ∨ P2_ k_) ∨ w.heap.size ≤ k_) ∧ some k_ ≠ (.slice Ao30 x7_2.length co30 : Value).ownBlock)) (okp := (fun k_ => ((P0_ k_ ∨ P2_ k_) ∨ w.heap.size ≤ k_) ∧ some k_ ≠ (.slice Ao30 x7_2.length co30 : Value).ownBlock)) ?hr ?hp (fun _ hk => hk) ((show ∀ k_, wr.heap.size ≤ k_ → (fun k_ => ((P0_ k_ ∨ P2_ k_) ∨ w.heap.size ≤ k_) ∧ some k_ ≠ (.slice Ao30 x7_2.length co30 : Value).ownBlock) k_ from fun k_ hk => ⟨(.inr (Nat.le_trans (below_size (by repeat (first | (with_reducible first | exact HB.out | apply below_alloc | apply pw_below_drewN | apply below_drew1) | exact HB.out))) hk)), Kd.fresh' (Kd.R_lt (by (with_reducible repeat (first | apply Kd.R_alloc | apply Kd.R_drewN | apply Kd.R_drew)); exact HO_7.out)) k_ hk⟩) _ (Nat.le_refl _)) (Below.refl _ _) (Nat.le_refl _) (by simp) ?_; (case hd => rfl); (case hg => rfl); (case hr => first | (go_simp; done) | (go_simp; rfl)); (case hp => first | exact (Reps.one (show Kd.FK (Kd.slice 5 (Kd.int .u8)) _ _ l2 [.slice A2 l2.length c2] from (Kd.FK_slice_mk (Kd.V_reads' (Kd.V_mono (ok' := (fun k_ => ((P0_ k_ ∨ P2_ k_) ∨ w.heap.size ≤ k_) ∧ some k_ ≠ (.slice Ao30 x7_2.length co30 : Value).ownBlock)) (HO_2.out) (fun k_ hk => ⟨hk.1, hk.2⟩))).2.1 (Kd.V_F (Kd.V_mono (ok' := (fun k_ => ((P0_ k_ ∨ P2_ k_) ∨ w.heap.size ≤ k_) ∧ some k_ ≠ (.slice Ao30 x7_2.length co30 : Value).ownBlock)) (HO_2.out) (fun k_ hk => ⟨hk.1, hk.2⟩))))) (Reps.none _ _)) | exact (Reps.one (show Kd.FK (Kd.slice 5 (Kd.int .u8)) _ _ l2 [.slice A2 l2.length c2] from (Kd.FK_slice_mk (Kd.V_reads' (Kd.V_mono (ok' := (fun k_ => ((P0_ k_ ∨ P2_ k_) ∨ w.heap.size ≤ k_) ∧ some k_ ≠ (.slice Ao30 x7_2.length co30 : Value).ownBlock)) (HO_2.out) (fun k_ hk => ⟨hk.1, hk.2⟩))).2.1 (Kd.V_F (Kd.V_mono (ok' := (fun k_ => ((P0_ k_ ∨ P2_ k_) ∨ w.heap.size ≤ k_) ∧ some k_ ≠ (.slice Ao30 x7_2.length co30 : Value).ownBlock)) (Kd.V_drewN HO_2.out _) (fun k_ hk => ⟨hk.1, hk.2⟩))))) (Reps.none _ _))); intro v184 w31 ho32 hb hg_ hnew_; clear hg_ hnew_; (first | rw [← Ny183.out] at ho32 | (simp only [Int.reduceToNat] at ho32; rw [← Ny183.out] at ho32)); have n0_ := Aside0.mk (Kd.V_elder' (by (with_reducible repeat (first | apply Kd.V_alloc | apply Kd.V_drewN | apply Kd.V_drew)); exact HO_0.out) (Kd.N_base ho32) hb); have n1_ := Aside0.mk (Kd.V_elder' (by (with_reducible repeat (first | apply Kd.V_alloc | apply Kd.V_drewN | apply Kd.V_drew)); exact HO_2.out) (Kd.N_base ho32) hb); have n2_ := Aside0.mk (Kd.R_below (by (with_reducible repeat (first | apply Kd.R_alloc | apply Kd.R_drewN | apply Kd.R_drew)); exact HO_7.out) hb); have n3_ := Aside0.mk (Kd.V_elder' (by (with_reducible repeat (first | apply Kd.V_alloc | apply Kd.V_drewN | apply Kd.V_drew)); exact HO_22.out) (Kd.N_base ho32) hb); have n4_ := Aside0.mk (Kd.N_lower ho32 (below_size (by repeat (first | (with_reducible first | exact HB.out | apply below_alloc | apply pw_below_drewN | apply below_drew1) | exact HB.out)))); have n5_ := Aside0.mk (below_step (by repeat (first | (with_reducible first | exact HB.out | apply below_alloc | apply pw_below_drewN | apply below_drew1) | exact HB.out)) hb); clear HO_0; clear HO_2; clear HO_7; clear HO_22; clear HB; have HO_0 := n0_; have HO_2 := n1_; have HO_7 := n2_; have HO_22 := n3_; have HO185 := n4_; have HB := n5_; clear n0_ n1_ n2_ n3_ n4_ n5_; clear hb ho32; obtain ⟨Ao33, co33, eo33⟩ := Kd.N_slice HO185.out; subst eo33) | (go_at_call 29; (with_reducible refine (laws_few.calls k2 _ _ y183 t186 _ ?side1 ?side2 A29.out).mono ?_); (case side1 => repeat (first | exact (Kd.N_reads' HO185.out).2.2 | (with_reducible refine Kd.C_alloc ?_ _) | (with_reducible refine Kd.C_drewN ?_ _) | (with_reducible refine Kd.C_drew ?_))); (case side2 => exact (Kd.N_reads' HO185.out).2.1); rintro e w' ⟨rfl, ⟨nd, rfl⟩⟩))
                    go_meet
                    case rel => exact ⟨_, (!t186), (by first | rfl | (simp; done) | (simp [*]; done)), H', ⟨by have := HJ3.out; have := HK2.out; first | omega | exact Nat.le_refl _⟩, ⟨by (with_reducible repeat (first | apply Kd.V_alloc | apply Kd.V_drewN | apply Kd.V_drew)); exact Kd.V_mono HO_0.out (fun _ hk => ⟨hk.1.1, hk.1.2⟩)⟩, ⟨by (with_reducible repeat (first | apply Kd.V_alloc | apply Kd.V_drewN | apply Kd.V_drew)); exact Kd.V_mono HO_2.out (fun _ hk => ⟨hk.1.1, hk.1.2⟩)⟩, ⟨by (with_reducible repeat (first | apply Kd.R_alloc | apply Kd.R_drewN | apply Kd.R_drew)); exact HO_7.out⟩, ⟨by repeat (first | (with_reducible first | exact HB.out | apply below_alloc | apply pw_below_drewN | apply below_drew1) | exact HB.out)⟩⟩
                  · replace c28 := Bool.eq_false_iff.mpr c28
                    subst c28
                    have H1 : (laws_FnFilterKeys.j2 k2 l0 a1 l2 x7_2 true) = some r := by rw [if_neg (show ¬ (false = true) by decide)] at H; exact H
                    clear H
                    have H := H1
                    clear H1
                    have H' := Aside0.mk H
                    clear H
                    obtain ⟨Ao34, co34, eo34⟩ := Kd.R_slice HO_7.out
                    subst eo34
                    go_wp2_with (first | (go_at_call 75; (with_reducible refine (laws_bitsOk.calls _ _ x7_2 a1 false _ ?side1 ?side2 A27.out).mono ?_); (case side1 => repeat (first | exact (Kd.R_reads' HO_7.out).2.2 | (with_reducible refine Kd.C_alloc ?_ _) | (with_reducible refine Kd.C_drewN ?_ _) | (with_reducible refine Kd.C_drew ?_))); (case side2 => exact (Kd.R_reads' HO_7.out).2.1); rintro e w' ⟨rfl, ⟨nd, rfl⟩⟩))
                    go_meet
                    case rel => exact ⟨_, (true), (by first | rfl | (simp; done) | (simp [*]; done)), H', ⟨by have := HJ3.out; have := HK2.out; first | omega | exact Nat.le_refl _⟩, ⟨by (with_reducible repeat (first | apply Kd.V_alloc | apply Kd.V_drewN | apply Kd.V_drew)); exact HO_0.out⟩, ⟨by (with_reducible repeat (first | apply Kd.V_alloc | apply Kd.V_drewN | apply Kd.V_drew)); exact HO_2.out⟩, ⟨by (with_reducible repeat (first | apply Kd.R_alloc | apply Kd.R_drewN | apply Kd.R_drew)); exact HO_7.out⟩, ⟨by repeat (first | (with_reducible first | exact HB.out | apply below_alloc | apply pw_below_drewN | apply below_drew1) | exact HB.out)⟩⟩
              case rest =>
                clear HC25
                try clear c1
                try clear p1
                try clear q1
                try clear hx1
                try clear c2
                try clear p2
                try clear c6
                try clear p6
                try clear c7
                try clear c8
                try clear c10
                try clear c10b0
                try clear c11
                try clear c11b0
                try clear c12
                try clear c12b0
                try clear c14
                try clear c16
                try clear c17
                try clear p17
                try clear q17
                try clear hx17
                try clear c26
                try clear c26b0
                try clear c26b1
                try clear c28
                try clear c29
                try clear hx173_0
                try clear p173
                try clear p2
                try clear q173
                obtain ⟨kq, x52_24, rfl, HA, HJ24, HO_0, HO_2, HO_7, HB⟩ := hcut
                cases kq with
                | zero => exact absurd HA.out (by simp [laws_FnFilterKeys.j2])
                | succ kj24 =>
                  have H := HA.out
                  clear HA
                  simp only [laws_FnFilterKeys.j2] at H
                  by_cases c35 : x52_24 = true
                  · subst c35
                    have H1 : (some true) = some r := by rw [if_pos rfl] at H; exact H
                    clear H
                    have H := H1
                    clear H1
                    obtain rfl := Option.some.inj H
                    go_wp2
                    go_ret
                    exact ⟨by first | rfl | (simp [errW_none, errW_some] <;> rfl) | (simp [*, errW_none, errW_some] <;> rfl), by repeat (first | (with_reducible first | exact HB.out | apply below_alloc | apply pw_below_drewN | apply below_drew1) | exact HB.out)⟩
                  · replace c35 := Bool.eq_false_iff.mpr c35
                    subst c35
                    have H1 : ((impl_FilterOf.f x7_2 a1).bind fun t187 => (laws_FnFilterKeys.l1 kj24 l2 t187 l0 (l0.length : Int) 0)) = some r := by rw [if_neg (show ¬ (false = true) by decide)] at H; exact H
                    clear H
                    have H := H1
                    clear H1
                    replace H := Option.bind_eq_some_iff.mp H
                    obtain ⟨t187, A360, H⟩ := H
                    replace H : (laws_FnFilterKeys.l1 kj24 l2 t187 l0 (l0.length : Int) 0) = some r := H
                    have A36 := Aside0.mk A360
                    clear A360
                    have H' := Aside0.mk H
                    clear H
                    obtain ⟨Ao37, co37, eo37⟩ := Kd.R_slice HO_7.out
                    subst eo37
                    go_wp2_with (first | ((with_reducible refine gate_callee (f := 76) rfl ?_); refine goesL_ (some 55) rfl rfl Try.func76 (by kernel_rfl) rfl #[.slice Ao37 x7_2.length co37, .int .i64 a1] rfl (by (try simp only [List.map_toArray, List.map_cons, List.map_nil]); first | done | rfl | (simp only [List.length_drop, List.length_take]; rfl)) ?_; (with_reducible refine (impl_FilterOf.calls _ _ x7_2 a1 t187 _ ?side1 ?side2 A36.out).mono ?_); (case side1 => repeat (first | exact (Kd.R_reads' HO_7.out).2.2 | (with_reducible refine Kd.C_alloc ?_ _) | (with_reducible refine Kd.C_drewN ?_ _) | (with_reducible refine Kd.C_drew ?_))); (case side2 => exact (Kd.R_reads' HO_7.out).2.1); rintro e w38 ⟨v188, rfl, ho0, hb⟩; refine ⟨_, rfl, ?_⟩; have n0_ := Aside0.mk (Kd.V_elder' (by (with_reducible repeat (first | apply Kd.V_alloc | apply Kd.V_drewN | apply Kd.V_drew)); exact HO_0.out) (Kd.R_base ho0) hb); have n1_ := Aside0.mk (Kd.V_elder' (by (with_reducible repeat (first | apply Kd.V_alloc | apply Kd.V_drewN | apply Kd.V_drew)); exact HO_2.out) (Kd.R_base ho0) hb); have n2_ := Aside0.mk (Kd.R_below (by (with_reducible repeat (first | apply Kd.R_alloc | apply Kd.R_drewN | apply Kd.R_drew)); exact HO_7.out) hb); have n3_ := Aside0.mk (Kd.R_lower (Kd.R_newM (M := fun k_ => (w.heap.size ≤ k_)) ho0 (below_size (by repeat (first | (with_reducible first | exact HB.out | apply below_alloc | apply pw_below_drewN | apply below_drew1) | exact HB.out))) (fun k_ h_ => h_)) (below_size (by repeat (first | (with_reducible first | exact HB.out | apply below_alloc | apply pw_below_drewN | apply below_drew1) | exact HB.out)))); have n4_ := Aside0.mk (below_step (by repeat (first | (with_reducible first | exact HB.out | apply below_alloc | apply pw_below_drewN | apply below_drew1) | exact HB.out)) hb); clear HO_0; clear HO_2; clear HO_7; clear HB; have HO_0 := n0_; have HO_2 := n1_; have HO_7 := n2_; have HO189 := n3_; have HB := n4_; clear n0_ n1_ n2_ n3_ n4_; (try clear hb); (try clear hb2); (try clear hk); (try clear hi); (try clear ho0)))
                    go_loopg [58] kj24 (fun kq v58 w' => ∃ (x58_4 : Int), v58 = .int .i64 x58_4 ∧ Aside0 (laws_FnFilterKeys.l1 kq l2 t187 l0 (l0.length : Int) x58_4 = some r) ∧ Aside0 (kq ≤ kj24) ∧ Aside0 (Kd.V (Kd.int .u8) 5 w' w.heap.size (fun k_ => ((P0_ k_ ∨ P2_ k_) ∨ w.heap.size ≤ k_) ∧ some k_ ≠ (v188 : Value).ownBlock) (.slice A2 l2.length c2) l2) ∧ Aside0 (Kd.R (Kd.int .u8) 5 w' w.heap.size (fun k_ => (w.heap.size ≤ k_)) v188 t187) ∧ Aside0 (Kd.V (Kd.slice 5 (Kd.int .u8)) 26 w' w.heap.size (fun k_ => ((P0_ k_ ∨ P2_ k_) ∨ w.heap.size ≤ k_) ∧ some k_ ≠ (v188 : Value).ownBlock) (.slice A0 l0.length c0) l0) ∧ Aside0 (Below w.heap.size w w'))
                    case atStart => exact ⟨(0), (by first | rfl | (simp; done) | (simp [*]; done)), H', ⟨Nat.le_refl _⟩, ⟨by (with_reducible repeat (first | apply Kd.V_alloc | apply Kd.V_drewN | apply Kd.V_drew)); exact Kd.V_mono HO_2.out (fun _ hk => ⟨hk.1.1, hk.2⟩)⟩, ⟨by (with_reducible repeat (first | apply Kd.R_alloc | apply Kd.R_drewN | apply Kd.R_drew)); exact Kd.R_mono HO189.out (fun _ hk => hk.1)⟩, ⟨by (with_reducible repeat (first | apply Kd.V_alloc | apply Kd.V_drewN | apply Kd.V_drew)); exact Kd.V_mono HO_0.out (fun _ hk => ⟨hk.1.1, hk.2⟩)⟩, ⟨by repeat (first | (with_reducible first | exact HB.out | apply below_alloc | apply pw_below_drewN | apply below_drew1) | exact HB.out)⟩⟩
                    case round =>
                      clear H'
                      try clear c1
                      try clear p1
                      try clear q1
                      try clear hx1
                      try clear c2
                      try clear p2
                      try clear c3
                      try clear c6
                      try clear p6
                      try clear c7
                      try clear c8
                      try clear c10
                      try clear c10b0
                      try clear c11
                      try clear c11b0
                      try clear c12
                      try clear c12b0
                      try clear c14
                      try clear c16
                      try clear c17
                      try clear p17
                      try clear q17
                      try clear hx17
                      try clear c26
                      try clear c26b0
                      try clear c26b1
                      try clear c28
                      try clear c29
                      try clear c35
                      try clear hx173_0
                      try clear p1
                      try clear p17
                      try clear p173
                      try clear p2
                      try clear p6
                      try clear q1
                      try clear q17
                      try clear q173
                      obtain ⟨x58_4, rfl, HA, HK4, HO_2, HO_10, HO_56, HB⟩ := hrel
                      cases gk with
                      | zero => exact absurd HA.out (by simp [laws_FnFilterKeys.l1])
                      | succ k4 =>
                        have H := HA.out
                        clear HA
                        simp only [laws_FnFilterKeys.l1] at H
                        by_cases c39 : x58_4 < (l0.length : Int)
                        · rw [if_pos c39] at H
                          have c39b0 : decide (x58_4 < (l0.length : Int)) = true := decide_eq_true c39
                          clear c39
                          by_cases c40 : 0 ≤ x58_4
                          · rw [if_pos c40] at H
                            have c40b0 : decide (0 ≤ x58_4) = true := decide_eq_true c40
                            clear c40
                            by_cases c41 : x58_4 < (l0.length : Int)
                            · rw [if_pos c41] at H
                              have c41b0 : decide (x58_4 < (l0.length : Int)) = true := decide_eq_true c41
                              clear c41
                              replace H := Option.bind_eq_some_iff.mp H
                              obtain ⟨t191, A420, H⟩ := H
                              replace H : (if t191 = true then (laws_FnFilterKeys.l1 k4 l2 t187 l0 (l0.length : Int) (wrap64 (x58_4 + 1))) else (some false)) = some r := H
                              have A42 := Aside0.mk A420
                              clear A420
                              by_cases c43 : t191 = true
                              · subst c43
                                have H1 : (laws_FnFilterKeys.l1 k4 l2 t187 l0 (l0.length : Int) (wrap64 (x58_4 + 1))) = some r := by rw [if_pos rfl] at H; exact H
                                clear H
                                have H := H1
                                clear H1
                                have H' := Aside0.mk H
                                clear H
                                have p190 : 0 ≤ (x58_4 : Int) := of_decide_eq_true (by first | (with_reducible assumption) | assumption)
                                have q190 : x58_4 < (l0.length : Int) := of_decide_eq_true (by first | (with_reducible assumption) | assumption)
                                obtain ⟨ad190, A190_0, c190_0, e190, hx190_0, hl190_0, hi190_0⟩ := at_L2 (Kd.V_reads' HO_56.out).2.2 x58_4 p190 q190
                                cases e190
                                obtain ⟨ce190, hce190, hMe190, hcc190⟩ := Kd.V_get HO_56.out [] x58_4 p190 (by first | exact q190 | exact of_decide_eq_true (by first | (with_reducible assumption) | assumption) | (have e_ := (Kd.V_reads' HO_56.out).1; omega))
                                obtain ⟨ua190_0, uc190_0, rfl, ul190_0, ge190_0⟩ := Kd.FK_slice_open hMe190
                                have hv190_0 := hcc190 0 _ rfl
                                rw [Nat.add_zero, show ((Kd.slice 5 (Kd.int .u8))).sz = 1 from rfl, Nat.mul_one] at hv190_0
                                replace hv190_0 := Option.some.inj (hv190_0.symm.trans hx190_0)
                                injection hv190_0 with hva_ hvn_ hvc_
                                rw [hva_] at ge190_0
                                rw [hvc_] at ul190_0
                                have HL190_0 := Aside0.mk (show Kd.V (Kd.int .u8) 5 _ w.heap.size _ _ (rd_L2 l0 x58_4) from Kd.V_mk ul190_0 ge190_0)
                                clear hva_ hvn_ hvc_ ge190_0 ul190_0
                                clear hcc190 hce190
                                have HR190_0 := Aside0.mk hi190_0
                                have HC190_0 := Aside0.mk hl190_0
                                clear hi190_0 hl190_0
                                replace p190 := eq_true p190
                                replace q190 := eq_true q190
                                obtain ⟨Ao44, co44, eo44⟩ := Kd.R_slice HO_10.out
                                subst eo44
                                go_wp2_with (first | ((with_reducible refine gate_callee (f := 82) rfl ?_); refine goesL_ (some 64) rfl rfl Try.func82 (by kernel_rfl) rfl #[.slice Ao44 t187.length co44, .slice A190_0 (rd_L2 l0 x58_4).length c190_0] rfl (by (try simp only [List.map_toArray, List.map_cons, List.map_nil]); first | done | rfl | (simp only [List.length_drop, List.length_take]; rfl)) ?_; (with_reducible refine (impl_MayHaveKey.calls k4 _ _ t187 _ _ (rd_L2 l0 x58_4) true _ ?side1 ?side2 ?side3 ?side4 A42.out).mono ?_); (case side1 => repeat (first | exact (Kd.R_reads' HO_10.out).2.2 | (with_reducible refine Kd.C_alloc ?_ _) | (with_reducible refine Kd.C_drewN ?_ _) | (with_reducible refine Kd.C_drew ?_))); (case side2 => exact (Kd.R_reads' HO_10.out).2.1); (case side3 => repeat (first | exact (by repeat (first | (with_reducible exact HR190_0.out) | (with_reducible refine Kd.C_alloc ?_ _) | (with_reducible refine Kd.C_drewN ?_ _) | (with_reducible refine Kd.C_drew ?_) | exact HR190_0.out)) | (with_reducible refine Kd.C_alloc ?_ _) | (with_reducible refine Kd.C_drewN ?_ _) | (with_reducible refine Kd.C_drew ?_))); (case side4 => exact HC190_0.out); rintro e w45 ⟨rfl, hb⟩; refine ⟨_, rfl, ?_⟩; have n0_ := Aside0.mk (Kd.V_below (by (with_reducible repeat (first | apply Kd.V_alloc | apply Kd.V_drewN | apply Kd.V_drew)); exact HO_2.out) hb); have n1_ := Aside0.mk (Kd.R_below (by (with_reducible repeat (first | apply Kd.R_alloc | apply Kd.R_drewN | apply Kd.R_drew)); exact HO_10.out) hb); have n2_ := Aside0.mk (Kd.V_below (by (with_reducible repeat (first | apply Kd.V_alloc | apply Kd.V_drewN | apply Kd.V_drew)); exact HO_56.out) hb); have n3_ := Aside0.mk (Kd.V_below (by (with_reducible repeat (first | apply Kd.V_alloc | apply Kd.V_drewN | apply Kd.V_drew)); exact HL190_0.out) hb); have n4_ := Aside0.mk (Kd.C_below (by repeat (first | (with_reducible exact HR190_0.out) | (with_reducible refine Kd.C_alloc ?_ _) | (with_reducible refine Kd.C_drewN ?_ _) | (with_reducible refine Kd.C_drew ?_) | exact HR190_0.out)) hb); have n5_ := Aside0.mk (below_step (by repeat (first | (with_reducible first | exact HB.out | apply below_alloc | apply pw_below_drewN | apply below_drew1) | exact HB.out)) hb); clear HO_2; clear HO_10; clear HO_56; clear HL190_0; clear HR190_0; clear HB; have HO_2 := n0_; have HO_10 := n1_; have HO_56 := n2_; have HL190_0 := n3_; have HR190_0 := n4_; have HB := n5_; clear n0_ n1_ n2_ n3_ n4_ n5_; (try clear hb); (try clear hb2); (try clear hk); (try clear hi)))
                                go_roundg k4
                                case measure => have := HJ3.out; have := HK2.out; have := HJ24.out; have := HK4.out; omega
                                case rel => exact ⟨(wrap64 (x58_4 + 1)), (by first | rfl | (simp; done) | (simp [*]; done)), H', ⟨by have := HJ3.out; have := HK2.out; have := HJ24.out; have := HK4.out; omega⟩, ⟨by (with_reducible repeat (first | apply Kd.V_alloc | apply Kd.V_drewN | apply Kd.V_drew)); exact HO_2.out⟩, ⟨by (with_reducible repeat (first | apply Kd.R_alloc | apply Kd.R_drewN | apply Kd.R_drew)); exact HO_10.out⟩, ⟨by (with_reducible repeat (first | apply Kd.V_alloc | apply Kd.V_drewN | apply Kd.V_drew)); exact HO_56.out⟩, ⟨by repeat (first | (with_reducible first | exact HB.out | apply below_alloc | apply pw_below_drewN | apply below_drew1) | exact HB.out)⟩⟩
                              · replace c43 := Bool.eq_false_iff.mpr c43
                                subst c43
                                have H1 : (some false) = some r := by rw [if_neg (show ¬ (false = true) by decide)] at H; exact H
                                clear H
                                have H := H1
                                clear H1
                                obtain rfl := Option.some.inj H
                                have p190 : 0 ≤ (x58_4 : Int) := of_decide_eq_true (by first | (with_reducible assumption) | assumption)
                                have q190 : x58_4 < (l0.length : Int) := of_decide_eq_true (by first | (with_reducible assumption) | assumption)
                                obtain ⟨ad190, A190_0, c190_0, e190, hx190_0, hl190_0, hi190_0⟩ := at_L2 (Kd.V_reads' HO_56.out).2.2 x58_4 p190 q190
                                cases e190
                                obtain ⟨ce190, hce190, hMe190, hcc190⟩ := Kd.V_get HO_56.out [] x58_4 p190 (by first | exact q190 | exact of_decide_eq_true (by first | (with_reducible assumption) | assumption) | (have e_ := (Kd.V_reads' HO_56.out).1; omega))
                                obtain ⟨ua190_0, uc190_0, rfl, ul190_0, ge190_0⟩ := Kd.FK_slice_open hMe190
                                have hv190_0 := hcc190 0 _ rfl
                                rw [Nat.add_zero, show ((Kd.slice 5 (Kd.int .u8))).sz = 1 from rfl, Nat.mul_one] at hv190_0
                                replace hv190_0 := Option.some.inj (hv190_0.symm.trans hx190_0)
                                injection hv190_0 with hva_ hvn_ hvc_
                                rw [hva_] at ge190_0
                                rw [hvc_] at ul190_0
                                have HL190_0 := Aside0.mk (show Kd.V (Kd.int .u8) 5 _ w.heap.size _ _ (rd_L2 l0 x58_4) from Kd.V_mk ul190_0 ge190_0)
                                clear hva_ hvn_ hvc_ ge190_0 ul190_0
                                clear hcc190 hce190
                                have HR190_0 := Aside0.mk hi190_0
                                have HC190_0 := Aside0.mk hl190_0
                                clear hi190_0 hl190_0
                                replace p190 := eq_true p190
                                replace q190 := eq_true q190
                                obtain ⟨Ao46, co46, eo46⟩ := Kd.R_slice HO_10.out
                                subst eo46
                                go_wp2_with (first | ((with_reducible refine gate_callee (f := 82) rfl ?_); refine goesL_ (some 64) rfl rfl Try.func82 (by kernel_rfl) rfl #[.slice Ao46 t187.length co46, .slice A190_0 (rd_L2 l0 x58_4).length c190_0] rfl (by (try simp only [List.map_toArray, List.map_cons, List.map_nil]); first | done | rfl | (simp only [List.length_drop, List.length_take]; rfl)) ?_; (with_reducible refine (impl_MayHaveKey.calls k4 _ _ t187 _ _ (rd_L2 l0 x58_4) false _ ?side1 ?side2 ?side3 ?side4 A42.out).mono ?_); (case side1 => repeat (first | exact (Kd.R_reads' HO_10.out).2.2 | (with_reducible refine Kd.C_alloc ?_ _) | (with_reducible refine Kd.C_drewN ?_ _) | (with_reducible refine Kd.C_drew ?_))); (case side2 => exact (Kd.R_reads' HO_10.out).2.1); (case side3 => repeat (first | exact (by repeat (first | (with_reducible exact HR190_0.out) | (with_reducible refine Kd.C_alloc ?_ _) | (with_reducible refine Kd.C_drewN ?_ _) | (with_reducible refine Kd.C_drew ?_) | exact HR190_0.out)) | (with_reducible refine Kd.C_alloc ?_ _) | (with_reducible refine Kd.C_drewN ?_ _) | (with_reducible refine Kd.C_drew ?_))); (case side4 => exact HC190_0.out); rintro e w47 ⟨rfl, hb⟩; refine ⟨_, rfl, ?_⟩; have n0_ := Aside0.mk (Kd.V_below (by (with_reducible repeat (first | apply Kd.V_alloc | apply Kd.V_drewN | apply Kd.V_drew)); exact HO_2.out) hb); have n1_ := Aside0.mk (Kd.R_below (by (with_reducible repeat (first | apply Kd.R_alloc | apply Kd.R_drewN | apply Kd.R_drew)); exact HO_10.out) hb); have n2_ := Aside0.mk (Kd.V_below (by (with_reducible repeat (first | apply Kd.V_alloc | apply Kd.V_drewN | apply Kd.V_drew)); exact HO_56.out) hb); have n3_ := Aside0.mk (Kd.V_below (by (with_reducible repeat (first | apply Kd.V_alloc | apply Kd.V_drewN | apply Kd.V_drew)); exact HL190_0.out) hb); have n4_ := Aside0.mk (Kd.C_below (by repeat (first | (with_reducible exact HR190_0.out) | (with_reducible refine Kd.C_alloc ?_ _) | (with_reducible refine Kd.C_drewN ?_ _) | (with_reducible refine Kd.C_drew ?_) | exact HR190_0.out)) hb); have n5_ := Aside0.mk (below_step (by repeat (first | (with_reducible first | exact HB.out | apply below_alloc | apply pw_below_drewN | apply below_drew1) | exact HB.out)) hb); clear HO_2; clear HO_10; clear HO_56; clear HL190_0; clear HR190_0; clear HB; have HO_2 := n0_; have HO_10 := n1_; have HO_56 := n2_; have HL190_0 := n3_; have HR190_0 := n4_; have HB := n5_; clear n0_ n1_ n2_ n3_ n4_ n5_; (try clear hb); (try clear hb2); (try clear hk); (try clear hi)))
                                go_ret
                                exact ⟨by first | rfl | (simp [errW_none, errW_some] <;> rfl) | (simp [*, errW_none, errW_some] <;> rfl), by repeat (first | (with_reducible first | exact HB.out | apply below_alloc | apply pw_below_drewN | apply below_drew1) | exact HB.out)⟩
                            · rw [if_neg c41] at H
                              exact absurd H (by simp)
                          · rw [if_neg c40] at H
                            exact absurd H (by simp)
                        · rw [if_neg c39] at H
                          have c39b0 : decide (x58_4 < (l0.length : Int)) = false := decide_eq_false c39
                          clear c39
                          by_cases c48 : (t187.length : Int) > 0
                          · rw [if_pos c48] at H
                            have c48b0 : decide (0 < (t187.length : Int)) = true := decide_eq_true c48
                            have c48b1 : decide (0 < t187.length) = true := decide_eq_true (by omega)
                            clear c48
                            replace H := Option.bind_eq_some_iff.mp H
                            obtain ⟨t192, A490, H⟩ := H
                            replace H : ((impl_HashOf.f k4 l2).bind fun t193 => ((impl_MayHave.f k4 t187 t193).bind fun t194 => (some (t192 == t194)))) = some r := H
                            have A49 := Aside0.mk A490
                            clear A490
                            replace H := Option.bind_eq_some_iff.mp H
                            obtain ⟨t193, A500, H⟩ := H
                            replace H : ((impl_MayHave.f k4 t187 t193).bind fun t194 => (some (t192 == t194))) = some r := H
                            have A50 := Aside0.mk A500
                            clear A500
                            replace H := Option.bind_eq_some_iff.mp H
                            obtain ⟨t194, A510, H⟩ := H
                            replace H : (some (t192 == t194)) = some r := H
                            have A51 := Aside0.mk A510
                            clear A510
                            obtain rfl := Option.some.inj H
                            obtain ⟨Ao52, co52, eo52⟩ := Kd.R_slice HO_10.out
                            subst eo52
                            go_wp2_with (first | (go_at_call 82; (with_reducible refine (impl_MayHaveKey.calls k4 _ _ t187 _ _ l2 t192 _ ?side1 ?side2 ?side3 ?side4 A49.out).mono ?_); (case side1 => repeat (first | exact (Kd.R_reads' HO_10.out).2.2 | (with_reducible refine Kd.C_alloc ?_ _) | (with_reducible refine Kd.C_drewN ?_ _) | (with_reducible refine Kd.C_drew ?_))); (case side2 => exact (Kd.R_reads' HO_10.out).2.1); (case side3 => repeat (first | exact (Kd.V_reads' HO_2.out).2.2 | (with_reducible refine Kd.C_alloc ?_ _) | (with_reducible refine Kd.C_drewN ?_ _) | (with_reducible refine Kd.C_drew ?_))); (case side4 => exact (Kd.V_reads' HO_2.out).2.1); rintro e w53 ⟨rfl, hb⟩; have n0_ := Aside0.mk (Kd.V_below (by (with_reducible repeat (first | apply Kd.V_alloc | apply Kd.V_drewN | apply Kd.V_drew)); exact HO_2.out) hb); have n1_ := Aside0.mk (Kd.R_below (by (with_reducible repeat (first | apply Kd.R_alloc | apply Kd.R_drewN | apply Kd.R_drew)); exact HO_10.out) hb); have n2_ := Aside0.mk (Kd.V_below (by (with_reducible repeat (first | apply Kd.V_alloc | apply Kd.V_drewN | apply Kd.V_drew)); exact HO_56.out) hb); have n3_ := Aside0.mk (below_step (by repeat (first | (with_reducible first | exact HB.out | apply below_alloc | apply pw_below_drewN | apply below_drew1) | exact HB.out)) hb); clear HO_2; clear HO_10; clear HO_56; clear HB; have HO_2 := n0_; have HO_10 := n1_; have HO_56 := n2_; have HB := n3_; clear n0_ n1_ n2_ n3_; (try clear hb); (try clear hb2); (try clear hk); (try clear hi)) | (go_at_call 81; (with_reducible refine (impl_HashOf.calls k4 _ _ l2 t193 _ ?side1 ?side2 A50.out).mono ?_); (case side1 => repeat (first | exact (Kd.V_reads' HO_2.out).2.2 | (with_reducible refine Kd.C_alloc ?_ _) | (with_reducible refine Kd.C_drewN ?_ _) | (with_reducible refine Kd.C_drew ?_))); (case side2 => exact (Kd.V_reads' HO_2.out).2.1); rintro e w54 ⟨rfl, hb⟩; have n0_ := Aside0.mk (Kd.V_below (by (with_reducible repeat (first | apply Kd.V_alloc | apply Kd.V_drewN | apply Kd.V_drew)); exact HO_2.out) hb); have n1_ := Aside0.mk (Kd.R_below (by (with_reducible repeat (first | apply Kd.R_alloc | apply Kd.R_drewN | apply Kd.R_drew)); exact HO_10.out) hb); have n2_ := Aside0.mk (Kd.V_below (by (with_reducible repeat (first | apply Kd.V_alloc | apply Kd.V_drewN | apply Kd.V_drew)); exact HO_56.out) hb); have n3_ := Aside0.mk (below_step (by repeat (first | (with_reducible first | exact HB.out | apply below_alloc | apply pw_below_drewN | apply below_drew1) | exact HB.out)) hb); clear HO_2; clear HO_10; clear HO_56; clear HB; have HO_2 := n0_; have HO_10 := n1_; have HO_56 := n2_; have HB := n3_; clear n0_ n1_ n2_ n3_; (try clear hb); (try clear hb2); (try clear hk); (try clear hi)) | (go_at_call 77; (with_reducible refine (impl_MayHave.calls k4 _ _ t187 t193 t194 _ ?side1 ?side2 A51.out).mono ?_); (case side1 => repeat (first | exact (Kd.R_reads' HO_10.out).2.2 | (with_reducible refine Kd.C_alloc ?_ _) | (with_reducible refine Kd.C_drewN ?_ _) | (with_reducible refine Kd.C_drew ?_))); (case side2 => exact (Kd.R_reads' HO_10.out).2.1); rintro e w55 ⟨rfl, hb⟩; have n0_ := Aside0.mk (Kd.V_below (by (with_reducible repeat (first | apply Kd.V_alloc | apply Kd.V_drewN | apply Kd.V_drew)); exact HO_2.out) hb); have n1_ := Aside0.mk (Kd.R_below (by (with_reducible repeat (first | apply Kd.R_alloc | apply Kd.R_drewN | apply Kd.R_drew)); exact HO_10.out) hb); have n2_ := Aside0.mk (Kd.V_below (by (with_reducible repeat (first | apply Kd.V_alloc | apply Kd.V_drewN | apply Kd.V_drew)); exact HO_56.out) hb); have n3_ := Aside0.mk (below_step (by repeat (first | (with_reducible first | exact HB.out | apply below_alloc | apply pw_below_drewN | apply below_drew1) | exact HB.out)) hb); clear HO_2; clear HO_10; clear HO_56; clear HB; have HO_2 := n0_; have HO_10 := n1_; have HO_56 := n2_; have HB := n3_; clear n0_ n1_ n2_ n3_; (try clear hb); (try clear hb2); (try clear hk); (try clear hi)))
                            go_ret
                            exact ⟨by first | rfl | (simp [errW_none, errW_some] <;> rfl) | (simp [*, errW_none, errW_some] <;> rfl), by repeat (first | (with_reducible first | exact HB.out | apply below_alloc | apply pw_below_drewN | apply below_drew1) | exact HB.out)⟩
                          · rw [if_neg c48] at H
                            have c48b0 : decide (0 < (t187.length : Int)) = false := decide_eq_false c48
                            have c48b1 : decide (0 < t187.length) = false := decide_eq_false (by omega)
                            clear c48
                            obtain rfl := Option.some.inj H
                            obtain ⟨Ao56, co56, eo56⟩ := Kd.R_slice HO_10.out
                            subst eo56
                            go_wp2
                            go_ret
                            exact ⟨by first | rfl | (simp [errW_none, errW_some] <;> rfl) | (simp [*, errW_none, errW_some] <;> rfl), by repeat (first | (with_reducible first | exact HB.out | apply below_alloc | apply pw_below_drewN | apply below_drew1) | exact HB.out)⟩

end Go.Proofs.YtadhdimleabljaaQ.QB
