-- Lines that a program has printed for this claim: functions as plain Lean functions, and their walks.
import Derived.Test.YtbbncbjdpopkiaaDoorQL0
import Derived.Test.YtbbncbjdpopkiaaDoorMK
namespace Go.Proofs.YtbbncbjdpopkiaaDoorQ.QL
open Go.RowKit Go.Proofs.YtbbncbjdpopkiaaDoorQ.Ext Go.Proofs.YtbbncbjdpopkiaaDoorW.PrintWords Go.Proofs.YtbbncbjdpopkiaaDoorW.PrintLast Go.Proofs.YtbbncbjdpopkiaaDoorW.PrintMore
attribute [local go_sem] max2_int min2_int max_two min_two max_three min_three max_four min_four   -- for this text's walks alone
set_option linter.unusedVariables false
set_option linter.unusedSimpArgs false

/-! ### spec_decimal: function 58 -/
def spec_decimal.f : Nat → Int → Option (List Int)
  | 0, _ => none
  | k + 1, a0 => if a0 < 10 then (some (([(IntKind.u64.wrap (48 + a0)) % 256] : List Int))) else ((spec_decimal.f k (IntKind.u64.wrap (Int.tdiv a0 10))).bind fun t146 => (if t146.length < 140737488355328 then (some (t146 ++ [(IntKind.u64.wrap (48 + (Int.tmod a0 10))) % 256])) else (none)))
theorem spec_decimal.mono_l : ∀ k, (∀ y0, LeO (spec_decimal.f k y0) (spec_decimal.f (k + 1) y0))
  | 0 => fun _ r h => by simp [spec_decimal.f] at h
  | k + 1 => by
    have ih0 := spec_decimal.mono_l k
    · intro y0
      unfold spec_decimal.f
      repeat' first
      | (with_reducible exact ih0 _)
      | (with_reducible exact LeO.refl _)
      | (with_reducible exact LeO.none _)
      | (with_reducible refine LeO.ite ?_ ?_)
      | (with_reducible refine LeO.bind ?_ (fun _ => ?_))
      | exact ih0 _
      | exact LeO.none _
      | refine LeO.ite ?_ ?_
      | refine LeO.bind ?_ (fun _ => ?_)
theorem spec_decimal.mono : ∀ a0 k, LeO (spec_decimal.f k a0) (spec_decimal.f (k + 1) a0) := by
  intro a0 k
  have ih0 := spec_decimal.mono_l k
  exact ih0 a0
set_option maxHeartbeats 8000000 in
set_option maxRecDepth 100000 in
theorem spec_decimal.calls (k : Nat) : ∀ (a0 : Int) (r : List Int) (w : World) (h : spec_decimal.f k a0 = some r),
    Calls Tryd.prog 58 #[.int .u64 a0] w fun e w' => ∃ v0_ : Value, e = .returned (v0_) ∧ Kd.R (Kd.int .u8) 5 w' w.heap.size (fun _ => True) v0_ r ∧ Below w.heap.size w w' := by
  induction k using Nat.strongRecOn with
  | _ k ih =>
  intro a0 r w h
  cases k with
  | zero => exact absurd h (by simp [spec_decimal.f])
  | succ k =>
  simp only [spec_decimal.f] at h
  have HB := Aside0.mk (Below.refl w.heap.size w)
  have H : (if a0 < 10 then (some (([(IntKind.u64.wrap (48 + a0)) % 256] : List Int))) else ((spec_decimal.f k (IntKind.u64.wrap (Int.tdiv a0 10))).bind fun t146 => (if t146.length < 140737488355328 then (some (t146 ++ [(IntKind.u64.wrap (48 + (Int.tmod a0 10))) % 256])) else (none)))) = some r := h
  clear h
  by_cases c2 : a0 < 10
  · rw [if_pos c2] at H
    have c2b0 : decide (a0 < 10) = true := decide_eq_true c2
    clear c2
    obtain ⟨y143, hy143⟩ : ∃ y_ : List Int, y_ = (([(IntKind.u64.wrap (48 + a0)) % 256] : List Int)) := ⟨_, rfl⟩
    replace H : (some y143) = some r := by first | (rw [hy143]; with_reducible exact H) | (have H2_ := (Option.bind_some _ _).symm.trans H; rw [hy143]; with_reducible exact H2_) | (have H2_ := (Option.bind_some _ _).symm.trans H; with_reducible exact H2_) | with_reducible exact H | (rw [hy143]; exact H) | exact H
    have Ny143 := Aside0.mk hy143
    clear hy143
    obtain rfl := Option.some.inj H
    go_enter Tryd.func58, Tryd.ntmps58
    go_wp2_with (first | ((with_reducible refine gate_dst (N := 8) rfl ?_); refine Kd.R_lit (Kd.int .u8) _ 5 ?hg (N := 8) ?hd (xs := ([(IntKind.u64.wrap (48 + a0)) % 256] : List Int)) (inner := [.int .u8 ((IntKind.u64.wrap (48 + a0)) % 256)]) (ok := fun _ => True) (okp := fun _ => True) ?hr ?hp (fun _ hk => hk) trivial (Below.refl _ _) (Nat.le_refl _) (by simp) ?_; (case hd => rfl); (case hg => rfl); (case hr => first | (go_simp; done) | (go_simp; rfl)); (case hp => exact (Reps.one (show Kd.M (Kd.int .u8) _ _ _ ((IntKind.u64.wrap (48 + a0)) % 256) [.int .u8 ((IntKind.u64.wrap (48 + a0)) % 256)] from rfl) (Reps.none _ _))); intro v144 w3 ho4 hb hg_ hnew_; clear hg_ hnew_; (first | rw [← Ny143.out] at ho4 | (simp only [Int.reduceToNat] at ho4; rw [← Ny143.out] at ho4)); have n0_ := Aside0.mk (Kd.R_lower ho4 (below_size (by repeat (first | (with_reducible first | exact HB.out | apply below_alloc | apply pw_below_drewN | apply below_drew1) | exact HB.out)))); have n1_ := Aside0.mk (below_step (by repeat (first | (with_reducible first | exact HB.out | apply below_alloc | apply pw_below_drewN | apply below_drew1) | exact HB.out)) hb); clear HB; have HO145 := n0_; have HB := n1_; clear n0_ n1_; clear hb ho4))
    go_ret
    exact ⟨_, by first | rfl | (simp [errW_none, errW_some] <;> rfl) | (simp [*, errW_none, errW_some] <;> rfl), by (with_reducible repeat (first | apply Kd.R_alloc | apply Kd.R_drewN | apply Kd.R_drew)); exact HO145.out, by repeat (first | (with_reducible first | exact HB.out | apply below_alloc | apply pw_below_drewN | apply below_drew1) | exact HB.out)⟩
  · rw [if_neg c2] at H
    have c2b0 : decide (a0 < 10) = false := decide_eq_false c2
    clear c2
    replace H := Option.bind_eq_some_iff.mp H
    obtain ⟨t146, A50, H⟩ := H
    replace H : (if t146.length < 140737488355328 then (some (t146 ++ [(IntKind.u64.wrap (48 + (Int.tmod a0 10))) % 256])) else (none)) = some r := H
    have A5 := Aside0.mk A50
    clear A50
    by_cases c6 : t146.length < 140737488355328
    · rw [if_pos c6] at H
      have LMc6 := Aside0.mk c6
      clear c6
      obtain ⟨y149, hy149⟩ : ∃ y_ : List Int, y_ = (t146 ++ [(IntKind.u64.wrap (48 + (Int.tmod a0 10))) % 256]) := ⟨_, rfl⟩
      replace H : (some y149) = some r := by first | (rw [hy149]; with_reducible exact H) | (have H2_ := (Option.bind_some _ _).symm.trans H; rw [hy149]; with_reducible exact H2_) | (have H2_ := (Option.bind_some _ _).symm.trans H; with_reducible exact H2_) | with_reducible exact H | (rw [hy149]; exact H) | exact H
      have Ny149 := Aside0.mk hy149
      clear hy149
      obtain rfl := Option.some.inj H
      go_enter Tryd.func58, Tryd.ntmps58
      go_wp2_with (first | ((with_reducible refine gate_callee (f := 58) rfl ?_); refine goesL_ (some 11) rfl rfl Tryd.func58 (by kernel_rfl) rfl #[.int .u64 (IntKind.u64.wrap (Int.tdiv a0 10))] rfl (by (try simp only [List.map_toArray, List.map_cons, List.map_nil]); first | done | rfl | (simp only [List.length_drop, List.length_take]; rfl)) ?_; (with_reducible refine (ih k (by omega) (IntKind.u64.wrap (Int.tdiv a0 10)) t146 _ A5.out).mono ?_); rintro e w7 ⟨v147, rfl, ho0, hb⟩; refine ⟨_, rfl, ?_⟩; have n0_ := Aside0.mk (Kd.R_lower ho0 (below_size (by repeat (first | (with_reducible first | exact HB.out | apply below_alloc | apply pw_below_drewN | apply below_drew1) | exact HB.out)))); have n1_ := Aside0.mk (below_step (by repeat (first | (with_reducible first | exact HB.out | apply below_alloc | apply pw_below_drewN | apply below_drew1) | exact HB.out)) hb); clear HB; have HO148 := n0_; have HB := n1_; clear n0_ n1_; (try clear hb); (try clear hb2); (try clear hk); (try clear hi); (try clear ho0)) | ((with_reducible refine gate_builtin (b := .append) (xs := #[.tmp 11, .tmp 16]) rfl ?_); at_builtin; refine Kd.R_append (Kd.int .u8) (w0 := w) w.heap.size rfl (.tmp 11) (.tmp 16) 22 5 (.int .u8 0) 1 rfl Tryd.underlying22 info5 rfl (by decide) (by omega) v147 t146 ((IntKind.u64.wrap (48 + (Int.tmod a0 10))) % 256) [.int .u8 ((IntKind.u64.wrap (48 + (Int.tmod a0 10))) % 256)] (fun _ => True) (fun _ => False) rfl rfl ?aP (fun _ hk => hk.elim) ?aF ?aO ?aB ?aS ?aL ?_; (case aP => exact rfl); (case aB => exact (by repeat (first | (with_reducible first | exact HB.out | apply below_alloc | apply pw_below_drewN | apply below_drew1) | exact HB.out))); (case aF => exact (fun _ _ => trivial)); (case aO => exact (by (with_reducible repeat (first | apply Kd.R_alloc | apply Kd.R_drewN | apply Kd.R_drew)); exact HO148.out)); (case aS => exact (below_size (by repeat (first | (with_reducible first | exact HB.out | apply below_alloc | apply pw_below_drewN | apply below_drew1) | exact HB.out)))); (case aL => have := LMc6.out; omega); intro v150 w8 ho hb hg hat; rw [← Ny149.out] at ho; have n0_ := Aside0.mk (hb); have n1_ := Aside0.mk (ho); clear HB; clear HO148; have HB := n0_; have HO151 := n1_; clear n0_ n1_; clear ho hb hg hat))
      go_ret
      exact ⟨_, by first | rfl | (simp [errW_none, errW_some] <;> rfl) | (simp [*, errW_none, errW_some] <;> rfl), by (with_reducible repeat (first | apply Kd.R_alloc | apply Kd.R_drewN | apply Kd.R_drew)); exact HO151.out, by repeat (first | (with_reducible first | exact HB.out | apply below_alloc | apply pw_below_drewN | apply below_drew1) | exact HB.out)⟩
    · rw [if_neg c6] at H
      exact absurd H (by simp)

/-! ### spec_Unit_written: function 44 -/
mutual
def spec_Unit_written.l0 : Nat → List (S40) → List (S40) → Int → Int → List (S40) → Bool → Int → Bool → Option ((List (S40)))
  | 0, _, _, _, _, _, _, _, _ => none
  | k + 1, x3, x8, x9, x10, x153000, x153001, x153002, x153003 => if x10 < x9 then (if 0 ≤ x10 then (if x10 < (x8.length : Int) then (if x153001 = true then ((spec_KeyBytes.f ((rd_T40 x8 x10).f0) x153002).bind fun t158 => (if x3.length < 2199023255552 then (spec_Unit_written.l0 k (x3 ++ [(⟨t158, (rd_T40 x8 x10).f1, (rd_T40 x8 x10).f2, Go.bits .or .u8 (Go.bits .andNot .u8 ((rd_T40 x8 x10).f3) 192) 64, (rd_T40 x8 x10).f4⟩ : S40)]) x8 x9 (wrap64 (x10 + 1)) x153000 x153001 x153002 x153003) else (none))) else (if x3.length < 2199023255552 then (spec_Unit_written.l0 k (x3 ++ [(⟨(rd_T40 x8 x10).f0, (rd_T40 x8 x10).f1, (rd_T40 x8 x10).f2, Go.bits .andNot .u8 ((rd_T40 x8 x10).f3) 192, (rd_T40 x8 x10).f4⟩ : S40)]) x8 x9 (wrap64 (x10 + 1)) x153000 x153001 x153002 x153003) else (none))) else (none)) else (none)) else (if x153001 = true then (spec_Unit_written.j1 k x3 (!x153003) x153000 x153001 x153002 x153003) else (spec_Unit_written.j1 k x3 false x153000 x153001 x153002 x153003))
def spec_Unit_written.j1 : Nat → List (S40) → Bool → List (S40) → Bool → Int → Bool → Option ((List (S40)))
  | 0, _, _, _, _, _, _ => none
  | k + 1, x3, x41, x153000, x153001, x153002, x153003 => if x41 = true then ((spec_KeyBytes.f (([33, 98, 97, 100, 103, 101, 114, 33, 116, 120, 110] : List Int)) x153002).bind fun t170 => ((spec_decimal.f k x153002).bind fun t173 => (if x3.length < 2199023255552 then (some (x3 ++ [(⟨t170, t173, 0, 128, 0⟩ : S40)])) else (none)))) else (some x3)
end
def spec_Unit_written.f (k : Nat) (l0_0 : List (S40)) (a0_1 : Bool) (a0_2 : Int) (a0_3 : Bool) : Option ((List (S40))) := spec_Unit_written.l0 k (([] : List (S40))) l0_0 (l0_0.length : Int) 0 l0_0 a0_1 a0_2 a0_3
theorem spec_Unit_written.mono_l : ∀ k, (∀ y0 y1 y2 y3 y4 y5 y6 y7, LeO (spec_Unit_written.l0 k y0 y1 y2 y3 y4 y5 y6 y7) (spec_Unit_written.l0 (k + 1) y0 y1 y2 y3 y4 y5 y6 y7)) ∧ (∀ y0 y1 y2 y3 y4 y5, LeO (spec_Unit_written.j1 k y0 y1 y2 y3 y4 y5) (spec_Unit_written.j1 (k + 1) y0 y1 y2 y3 y4 y5))
  | 0 => ⟨fun _ _ _ _ _ _ _ _ r h => by simp [spec_Unit_written.l0] at h, fun _ _ _ _ _ _ r h => by simp [spec_Unit_written.j1] at h⟩
  | k + 1 => by
    obtain ⟨ih0, ih1⟩ := spec_Unit_written.mono_l k
    refine ⟨?_, ?_⟩
    · intro y0 y1 y2 y3 y4 y5 y6 y7
      unfold spec_Unit_written.l0
      repeat' first
      | (with_reducible exact ih0 _ _ _ _ _ _ _ _)
      | (with_reducible exact ih1 _ _ _ _ _ _)
      | (with_reducible exact spec_decimal.mono _ _)
      | (with_reducible exact LeO.refl _)
      | (with_reducible exact LeO.none _)
      | (with_reducible refine LeO.ite ?_ ?_)
      | (with_reducible refine LeO.bind ?_ (fun _ => ?_))
      | exact ih0 _ _ _ _ _ _ _ _
      | exact ih1 _ _ _ _ _ _
      | exact spec_decimal.mono _ _
      | exact LeO.none _
      | refine LeO.ite ?_ ?_
      | refine LeO.bind ?_ (fun _ => ?_)
    · intro y0 y1 y2 y3 y4 y5
      unfold spec_Unit_written.j1
      repeat' first
      | (with_reducible exact ih0 _ _ _ _ _ _ _ _)
      | (with_reducible exact ih1 _ _ _ _ _ _)
      | (with_reducible exact spec_decimal.mono _ _)
      | (with_reducible exact LeO.refl _)
      | (with_reducible exact LeO.none _)
      | (with_reducible refine LeO.ite ?_ ?_)
      | (with_reducible refine LeO.bind ?_ (fun _ => ?_))
      | exact ih0 _ _ _ _ _ _ _ _
      | exact ih1 _ _ _ _ _ _
      | exact spec_decimal.mono _ _
      | exact LeO.none _
      | refine LeO.ite ?_ ?_
      | refine LeO.bind ?_ (fun _ => ?_)
theorem spec_Unit_written.mono : ∀ a0 a1 a2 a3 k, LeO (spec_Unit_written.f k a0 a1 a2 a3) (spec_Unit_written.f (k + 1) a0 a1 a2 a3) := by
  intro a0 a1 a2 a3 k
  obtain ⟨ih0, ih1⟩ := spec_Unit_written.mono_l k
  unfold spec_Unit_written.f
  repeat' first
      | (with_reducible exact ih0 _ _ _ _ _ _ _ _)
      | (with_reducible exact ih1 _ _ _ _ _ _)
      | (with_reducible exact spec_decimal.mono _ _)
      | (with_reducible exact LeO.refl _)
      | (with_reducible exact LeO.none _)
      | (with_reducible refine LeO.ite ?_ ?_)
      | (with_reducible refine LeO.bind ?_ (fun _ => ?_))
      | exact ih0 _ _ _ _ _ _ _ _
      | exact ih1 _ _ _ _ _ _
      | exact spec_decimal.mono _ _
      | exact LeO.none _
      | refine LeO.ite ?_ ?_
      | refine LeO.bind ?_ (fun _ => ?_)
def spec_Unit_written.T12 : Bool × List (List Nat × List Nat) := (true, [([], []), ([], []), ([1], [1]), ([], []), ([3], [3]), ([2, 4], [2, 4]), ([], []), ([6], [6]), ([7, 5], [7]), ([5, 8], [5, 8]), ([9], [9]), ([0, 10, 8], [0, 10]), ([11, 11, 0, 1, 2, 3, 4, 5, 6, 7, 8, 9, 10, 11], [0, 11])])
def spec_Unit_written.B12 : List Nat := [0, 0, 2, 0, 8, 30, 0, 64, 254, 510, 1022, 2047, 4095]
theorem spec_Unit_written.tab12 : rtab .any (opsOf Tryd.f44 12) = spec_Unit_written.T12 := by kernel_rfl
theorem spec_Unit_written.bits12 : waitsOk spec_Unit_written.T12.2 spec_Unit_written.B12 = true := by kernel_rfl
set_option maxHeartbeats 8000000 in
set_option maxRecDepth 100000 in
theorem spec_Unit_written.calls (k : Nat) (P0_0_ : Nat → Prop) (A0_0 : Option Addr) (c0_0 : Nat) (l0_0 : List (S40)) (a0_1 : Bool) (a0_2 : Int) (a0_3 : Bool) (r : List (S40)) (w : World) (hs0_0 : Kd.V k40 40 w w.heap.size (fun k_ => P0_0_ k_) (.slice A0_0 l0_0.length c0_0) l0_0) (h : spec_Unit_written.f k l0_0 a0_1 a0_2 a0_3 = some r) :
    Calls Tryd.prog 44 #[.agg #[.slice A0_0 l0_0.length c0_0, .bool a0_1, .int .u64 a0_2, .bool a0_3]] w fun e w' => ∃ v0_ : Value, e = .returned (v0_) ∧ Kd.N k40 40 w' w.heap.size (fun k_ => (P0_0_ k_ ∨ w.heap.size ≤ k_)) v0_ r ∧ Below w.heap.size w w' := by
  have hu80 := Tryd.underlying80
  have hu40 := Tryd.underlying40
  have HO0_0 := Aside0.mk (show Kd.V k40 40 w w.heap.size (fun k_ => (P0_0_ k_ ∨ w.heap.size ≤ k_)) (.slice A0_0 l0_0.length c0_0) l0_0 from Kd.V_mono hs0_0 (fun k_ hk => .inl hk))
  have HB := Aside0.mk (Below.refl w.heap.size w)
  have H : (spec_Unit_written.l0 k (([] : List (S40))) l0_0 (l0_0.length : Int) 0 l0_0 a0_1 a0_2 a0_3) = some r := h
  clear h
  obtain ⟨y153, hy153⟩ : ∃ y_ : List (S40), y_ = (([] : List (S40))) := ⟨_, rfl⟩
  replace H : (spec_Unit_written.l0 k y153 l0_0 (l0_0.length : Int) 0 l0_0 a0_1 a0_2 a0_3) = some r := by first | (rw [hy153]; with_reducible exact H) | (have H2_ := (Option.bind_some _ _).symm.trans H; rw [hy153]; with_reducible exact H2_) | (have H2_ := (Option.bind_some _ _).symm.trans H; with_reducible exact H2_) | with_reducible exact H | (rw [hy153]; exact H) | exact H
  have Ny153 := Aside0.mk hy153
  clear hy153
  have H' := Aside0.mk H
  clear H
  go_enter Tryd.func44, Tryd.ntmps44
  go_wp2_with (first | ((with_reducible refine gate_dst (N := 1) rfl ?_); refine box_event ?hg (N := 1) ?hd (cs := #[.slice A0_0 l0_0.length c0_0, .bool a0_1, .int .u64 a0_2, .bool a0_3]) (t := 80) ?hr ?_; (case hd => rfl); (case hg => rfl); (case hr => first | (go_simp; done) | (go_simp; rfl)); intro gb152 hg w2 hbox hb; have n0_ := Aside0.mk (Kd.V_below (Kd.V_elderB (by (with_reducible repeat (first | apply Kd.V_alloc | apply Kd.V_drewN | apply Kd.V_drew)); exact HO0_0.out) gb152 (Nat.le_of_eq hg.symm)) hb); have n1_ := Aside0.mk (below_step (by repeat (first | (with_reducible first | exact HB.out | apply below_alloc | apply pw_below_drewN | apply below_drew1) | exact HB.out)) hb); have n2_ := Aside0.mk (hbox); have n3_ := Aside0.mk ((by rw [hg]; exact (below_size (by repeat (first | (with_reducible first | exact HB.out | apply below_alloc | apply pw_below_drewN | apply below_drew1) | exact HB.out))) : w.heap.size ≤ gb152)); have n4_ := Aside0.mk ((by rw [hg]; exact (below_size (by repeat (first | (with_reducible first | exact HB.out | apply below_alloc | apply pw_below_drewN | apply below_drew1) | exact HB.out))) : w.heap.size ≤ gb152)); clear HO0_0; clear HB; have HO0_0 := n0_; have HB := n1_; have BK152 := n2_; have GW152 := n3_; have GE152 := n4_; clear n0_ n1_ n2_ n3_ n4_; clear hb hbox hg) | ((with_reducible refine gate_dst (N := 6) rfl ?_); refine Kd.N_lit k40 _ 40 ?hg (N' := 6) ?hd (xs := ([] : List (S40))) (inner := []) (ok := (fun k_ => (P0_0_ k_ ∨ w.heap.size ≤ k_) ∧ k_ ≠ gb152)) (okp := (fun k_ => (P0_0_ k_ ∨ w.heap.size ≤ k_) ∧ k_ ≠ gb152)) ?hr ?hp (fun _ hk => hk) ((show ∀ k_, w2.heap.size ≤ k_ → (fun k_ => (P0_0_ k_ ∨ w.heap.size ≤ k_) ∧ k_ ≠ gb152) k_ from fun k_ hk => ⟨(.inr (Nat.le_trans (below_size (by repeat (first | (with_reducible first | exact HB.out | apply below_alloc | apply pw_below_drewN | apply below_drew1 | refine below_set ?_ GE152.out) | exact HB.out))) hk)), Kd.freshB (g := gb152) (o := .cells #[.slice A0_0 l0_0.length c0_0, .bool a0_1, .int .u64 a0_2, .bool a0_3] 80 (0, 0)) (by (with_reducible repeat (first | refine blk_drewN ?_ _ | refine blk_drew ?_ | refine blk_alloc ?_ _)); exact BK152.out) k_ hk⟩) _ (Nat.le_refl _)) (Below.refl _ _) (Nat.le_refl _) (by simp) ?_; (case hd => rfl); (case hg => rfl); (case hr => first | (go_simp; done) | (go_simp; rfl)); (case hp => exact (Reps.none _ _)); intro v154 w3 ho4 hb hg_ hnew_; clear hg_ hnew_; (first | rw [← Ny153.out] at ho4 | (simp only [Int.reduceToNat] at ho4; rw [← Ny153.out] at ho4)); have n0_ := Aside0.mk (Kd.V_elder' (by (with_reducible repeat (first | apply Kd.V_alloc | apply Kd.V_drewN | apply Kd.V_drew)); exact HO0_0.out) (Kd.N_base ho4) hb); have n1_ := Aside0.mk (Kd.N_lower ho4 (below_size (by repeat (first | (with_reducible first | exact HB.out | apply below_alloc | apply pw_below_drewN | apply below_drew1 | refine below_set ?_ GE152.out) | exact HB.out)))); have n2_ := Aside0.mk (blk_below (g := gb152) (o := .cells #[.slice A0_0 l0_0.length c0_0, .bool a0_1, .int .u64 a0_2, .bool a0_3] 80 (0, 0)) (by (with_reducible repeat (first | refine blk_drewN ?_ _ | refine blk_drew ?_ | refine blk_alloc ?_ _)); exact BK152.out) hb); have n3_ := Aside0.mk (below_step (by repeat (first | (with_reducible first | exact HB.out | apply below_alloc | apply pw_below_drewN | apply below_drew1 | refine below_set ?_ GE152.out) | exact HB.out)) hb); clear HO0_0; clear BK152; clear HB; have HO0_0 := n0_; have HO155 := n1_; have BK152 := n2_; have HB := n3_; clear n0_ n1_ n2_ n3_; clear hb ho4; have hcz5_0 : w3.cell? ⟨gb152, 0, none⟩ = some (.slice A0_0 l0_0.length c0_0) := (blk_cell BK152.out 0).trans rfl; have hcz5_1 : w3.cell? ⟨gb152, 1, none⟩ = some (.bool a0_1) := (blk_cell BK152.out 1).trans rfl; have hcz5_2 : w3.cell? ⟨gb152, 2, none⟩ = some (.int .u64 a0_2) := (blk_cell BK152.out 2).trans rfl; have hcz5_3 : w3.cell? ⟨gb152, 3, none⟩ = some (.bool a0_3) := (blk_cell BK152.out 3).trans rfl; have hfz5_0 := blk_frozen BK152.out 0; have hfz5_1 := blk_frozen BK152.out 1; have hfz5_2 := blk_frozen BK152.out 2; have hfz5_3 := blk_frozen BK152.out 3))
  go_loopg [3, 10] k (fun kq v3 v10 w' => ∃ (x3_1 : List (S40)) (x10_1 : Int), v10 = .int .i64 x10_1 ∧ Aside0 (spec_Unit_written.l0 kq x3_1 l0_0 (l0_0.length : Int) x10_1 l0_0 a0_1 a0_2 a0_3 = some r) ∧ Aside0 (kq ≤ k) ∧ Aside0 (Kd.N k40 40 w' w.heap.size (fun k_ => (P0_0_ k_ ∨ w.heap.size ≤ k_) ∧ k_ ≠ gb152) v3 x3_1) ∧ Aside0 (Kd.V k40 40 w' w.heap.size (fun k_ => (P0_0_ k_ ∨ w.heap.size ≤ k_) ∧ some k_ ≠ (v3 : Value).ownBlock ∧ k_ ≠ gb152) (.slice A0_0 l0_0.length c0_0) l0_0) ∧ Aside0 (Kd.V k40 40 w' w.heap.size (fun k_ => (P0_0_ k_ ∨ w.heap.size ≤ k_) ∧ some k_ ≠ (v3 : Value).ownBlock ∧ k_ ≠ gb152) (.slice A0_0 l0_0.length c0_0) l0_0) ∧ Aside0 (w'.heap[gb152]? = some (.cells #[(.slice A0_0 l0_0.length c0_0), .bool a0_1, .int .u64 a0_2, .bool a0_3] 80 (0, 0))) ∧ Aside0 (Below w.heap.size w w'))
  case atStart => exact ⟨(y153), (0), (by first | rfl | (simp; done) | (simp [*]; done)), H', ⟨Nat.le_refl _⟩, ⟨by (with_reducible repeat (first | apply Kd.N_alloc | apply Kd.N_drewN | apply Kd.N_drew)); exact HO155.out⟩, ⟨by (with_reducible repeat (first | apply Kd.V_alloc | apply Kd.V_drewN | apply Kd.V_drew)); exact Kd.V_mono HO0_0.out (fun _ hk => ⟨hk.1.1, ⟨hk.2, hk.1.2⟩⟩)⟩, ⟨by (with_reducible repeat (first | apply Kd.V_alloc | apply Kd.V_drewN | apply Kd.V_drew)); exact Kd.V_mono HO0_0.out (fun _ hk => ⟨hk.1.1, ⟨hk.2, hk.1.2⟩⟩)⟩, ⟨by (with_reducible repeat (first | refine blk_drewN ?_ _ | refine blk_drew ?_ | refine blk_alloc ?_ _)); exact BK152.out⟩, ⟨by repeat (first | (with_reducible first | exact HB.out | apply below_alloc | apply pw_below_drewN | apply below_drew1 | refine below_set ?_ GE152.out) | exact HB.out)⟩⟩
  case round =>
    clear H'
    try clear p2
    try clear c4
    try clear hcz5_0
    try clear hcz5_1
    try clear hcz5_2
    try clear hcz5_3
    try clear hfz5_0
    try clear hfz5_1
    try clear hfz5_2
    try clear hfz5_3
    obtain ⟨x3_1, x10_1, rfl, HA, HK1, HO_3, HO_8, HO_153000, BK152, HB⟩ := hrel
    cases gk with
    | zero => exact absurd HA.out (by simp [spec_Unit_written.l0])
    | succ k1 =>
      have H := HA.out
      clear HA
      simp only [spec_Unit_written.l0] at H
      by_cases c6 : x10_1 < (l0_0.length : Int)
      · rw [if_pos c6] at H
        have c6b0 : decide (x10_1 < (l0_0.length : Int)) = true := decide_eq_true c6
        clear c6
        by_cases c7 : 0 ≤ x10_1
        · rw [if_pos c7] at H
          have c7b0 : decide (0 ≤ x10_1) = true := decide_eq_true c7
          clear c7
          by_cases c8 : x10_1 < (l0_0.length : Int)
          · rw [if_pos c8] at H
            have c8b0 : decide (x10_1 < (l0_0.length : Int)) = true := decide_eq_true c8
            clear c8
            by_cases c9 : a0_1 = true
            · subst c9
              have H1 : ((spec_KeyBytes.f ((rd_T40 l0_0 x10_1).f0) a0_2).bind fun t158 => (if x3_1.length < 2199023255552 then (spec_Unit_written.l0 k1 (x3_1 ++ [(⟨t158, (rd_T40 l0_0 x10_1).f1, (rd_T40 l0_0 x10_1).f2, Go.bits .or .u8 (Go.bits .andNot .u8 ((rd_T40 l0_0 x10_1).f3) 192) 64, (rd_T40 l0_0 x10_1).f4⟩ : S40)]) l0_0 (l0_0.length : Int) (wrap64 (x10_1 + 1)) l0_0 true a0_2 a0_3) else (none))) = some r := by rw [if_pos rfl] at H; exact H
              clear H
              have H := H1
              clear H1
              replace H := Option.bind_eq_some_iff.mp H
              obtain ⟨t158, A100, H⟩ := H
              replace H : (if x3_1.length < 2199023255552 then (spec_Unit_written.l0 k1 (x3_1 ++ [(⟨t158, (rd_T40 l0_0 x10_1).f1, (rd_T40 l0_0 x10_1).f2, Go.bits .or .u8 (Go.bits .andNot .u8 ((rd_T40 l0_0 x10_1).f3) 192) 64, (rd_T40 l0_0 x10_1).f4⟩ : S40)]) l0_0 (l0_0.length : Int) (wrap64 (x10_1 + 1)) l0_0 true a0_2 a0_3) else (none)) = some r := H
              have A10 := Aside0.mk A100
              clear A100
              by_cases c11 : x3_1.length < 2199023255552
              · rw [if_pos c11] at H
                have LMc11 := Aside0.mk c11
                clear c11
                obtain ⟨y161, hy161⟩ : ∃ y_ : List (S40), y_ = (x3_1 ++ [(⟨t158, (rd_T40 l0_0 x10_1).f1, (rd_T40 l0_0 x10_1).f2, Go.bits .or .u8 (Go.bits .andNot .u8 ((rd_T40 l0_0 x10_1).f3) 192) 64, (rd_T40 l0_0 x10_1).f4⟩ : S40)]) := ⟨_, rfl⟩
                replace H : (spec_Unit_written.l0 k1 y161 l0_0 (l0_0.length : Int) (wrap64 (x10_1 + 1)) l0_0 true a0_2 a0_3) = some r := by first | (rw [hy161]; with_reducible exact H) | (have H2_ := (Option.bind_some _ _).symm.trans H; rw [hy161]; with_reducible exact H2_) | (have H2_ := (Option.bind_some _ _).symm.trans H; with_reducible exact H2_) | with_reducible exact H | (rw [hy161]; exact H) | exact H
                have Ny161 := Aside0.mk hy161
                clear hy161
                have H' := Aside0.mk H
                clear H
                have p156 : 0 ≤ (x10_1 : Int) := of_decide_eq_true (by first | (with_reducible assumption) | assumption)
                have q156 : x10_1 < (l0_0.length : Int) := of_decide_eq_true (by first | (with_reducible assumption) | assumption)
                obtain ⟨ad156, A156_0, c156_0, A156_1, c156_1, e156, hx156_0, hx156_1, hx156_2, hx156_3, hx156_4, hl156_0, hi156_0, hl156_1, hi156_1⟩ := at_T40 (Kd.V_reads' HO_8.out).2.2 x10_1 p156 q156
                cases e156
                obtain ⟨ce156, hce156, hMe156, hcc156⟩ := Kd.V_get HO_8.out z40 x10_1 p156 (by first | exact q156 | exact of_decide_eq_true (by first | (with_reducible assumption) | assumption) | (have e_ := (Kd.V_reads' HO_8.out).1; omega))
                obtain ⟨ua156_0, uc156_0, ua156_1, uc156_1, rfl, ul156_0, ge156_0, ul156_1, ge156_1⟩ := k40_openF hMe156
                have hv156_0 := hcc156 0 _ rfl
                rw [Nat.add_zero] at hv156_0
                replace hv156_0 := Option.some.inj (hv156_0.symm.trans hx156_0)
                injection hv156_0 with hva_ hvn_ hvc_
                rw [hva_] at ge156_0
                rw [hvc_] at ul156_0
                have HL156_0 := Aside0.mk (show Kd.V (Kd.int .u8) 5 _ w.heap.size _ _ ((rd_T40 l0_0 x10_1).f0) from Kd.V_mk ul156_0 ge156_0)
                clear hva_ hvn_ hvc_ ge156_0 ul156_0
                have hv156_1 := hcc156 1 _ rfl
                rw [add_field _ _ 1 (by omega)] at hv156_1
                replace hv156_1 := Option.some.inj (hv156_1.symm.trans hx156_1)
                injection hv156_1 with hva_ hvn_ hvc_
                rw [hva_] at ge156_1
                rw [hvc_] at ul156_1
                have HL156_1 := Aside0.mk (show Kd.V (Kd.int .u8) 5 _ w.heap.size _ _ ((rd_T40 l0_0 x10_1).f1) from Kd.V_mk ul156_1 ge156_1)
                clear hva_ hvn_ hvc_ ge156_1 ul156_1
                clear hcc156 hce156
                have HR156_0 := Aside0.mk hi156_0
                have HC156_0 := Aside0.mk hl156_0
                clear hi156_0 hl156_0
                have HR156_1 := Aside0.mk hi156_1
                have HC156_1 := Aside0.mk hl156_1
                clear hi156_1 hl156_1
                replace p156 := eq_true p156
                replace q156 := eq_true q156
                go_wp2_with (first | ((with_reducible refine gate_dst (N := 5) rfl ?_); refine box_event ?hg (N := 5) ?hd (cs := #[.slice none 0 0, .slice none 0 0, .int .u64 0, .int .u8 0, .int .u8 0]) (t := 40) ?hr ?_; (case hd => rfl); (case hg => rfl); (case hr => first | (go_simp; done) | (go_simp; rfl)); intro gb157 hg w12 hbox hb; have n0_ := Aside0.mk (Kd.N_below (Kd.N_elderB (by (with_reducible repeat (first | apply Kd.N_alloc | apply Kd.N_drewN | apply Kd.N_drew)); exact HO_3.out) gb157 (Nat.le_of_eq hg.symm)) hb); have n1_ := Aside0.mk (Kd.V_below (Kd.V_elderB (by (with_reducible repeat (first | apply Kd.V_alloc | apply Kd.V_drewN | apply Kd.V_drew)); exact HO_8.out) gb157 (Nat.le_of_eq hg.symm)) hb); have n2_ := Aside0.mk (Kd.V_below (Kd.V_elderB (by (with_reducible repeat (first | apply Kd.V_alloc | apply Kd.V_drewN | apply Kd.V_drew)); exact HO_153000.out) gb157 (Nat.le_of_eq hg.symm)) hb); have n3_ := Aside0.mk (Kd.V_below (Kd.V_elderB (by (with_reducible repeat (first | apply Kd.V_alloc | apply Kd.V_drewN | apply Kd.V_drew)); exact HL156_0.out) gb157 (Nat.le_of_eq hg.symm)) hb); have n4_ := Aside0.mk (Kd.V_below (Kd.V_elderB (by (with_reducible repeat (first | apply Kd.V_alloc | apply Kd.V_drewN | apply Kd.V_drew)); exact HL156_1.out) gb157 (Nat.le_of_eq hg.symm)) hb); have n5_ := Aside0.mk (blk_below (g := gb152) (o := .cells #[.slice (some ad156) l0_0.length c0_0, .bool true, .int .u64 a0_2, .bool a0_3] 80 (0, 0)) (by (with_reducible repeat (first | refine blk_drewN ?_ _ | refine blk_drew ?_ | refine blk_alloc ?_ _)); exact BK152.out) hb); have n6_ := Aside0.mk (Kd.C_below (by repeat (first | (with_reducible exact HR156_0.out) | (with_reducible refine Kd.C_alloc ?_ _) | (with_reducible refine Kd.C_drewN ?_ _) | (with_reducible refine Kd.C_drew ?_) | exact HR156_0.out)) hb); have n7_ := Aside0.mk (Kd.C_below (by repeat (first | (with_reducible exact HR156_1.out) | (with_reducible refine Kd.C_alloc ?_ _) | (with_reducible refine Kd.C_drewN ?_ _) | (with_reducible refine Kd.C_drew ?_) | exact HR156_1.out)) hb); have n8_ := Aside0.mk (below_step (by repeat (first | (with_reducible first | exact HB.out | apply below_alloc | apply pw_below_drewN | apply below_drew1 | refine below_set ?_ GE152.out) | exact HB.out)) hb); have n9_ := Aside0.mk (hbox); have n10_ := Aside0.mk ((by rw [hg]; exact (below_size (by repeat (first | (with_reducible first | exact HB.out | apply below_alloc | apply pw_below_drewN | apply below_drew1 | refine below_set ?_ GE152.out) | exact HB.out))) : w.heap.size ≤ gb157)); have n11_ := Aside0.mk ((by rw [hg]; exact (below_size (by repeat (first | (with_reducible first | exact HB.out | apply below_alloc | apply pw_below_drewN | apply below_drew1 | refine below_set ?_ GE152.out) | exact HB.out))) : w.heap.size ≤ gb157)); have n12_ := Aside0.mk ((by rw [hg]; exact Nat.ne_of_lt (blk_lt (g := gb152) (o := .cells #[.slice (some ad156) l0_0.length c0_0, .bool true, .int .u64 a0_2, .bool a0_3] 80 (0, 0)) (by (with_reducible repeat (first | refine blk_drewN ?_ _ | refine blk_drew ?_ | refine blk_alloc ?_ _)); exact BK152.out)) : gb152 ≠ gb157)); have n13_ := Aside0.mk ((by rw [hg]; exact Nat.ne_of_gt (blk_lt (g := gb152) (o := .cells #[.slice (some ad156) l0_0.length c0_0, .bool true, .int .u64 a0_2, .bool a0_3] 80 (0, 0)) (by (with_reducible repeat (first | refine blk_drewN ?_ _ | refine blk_drew ?_ | refine blk_alloc ?_ _)); exact BK152.out)) : gb157 ≠ gb152)); clear HO_3; clear HO_8; clear HO_153000; clear HL156_0; clear HL156_1; clear BK152; clear HR156_0; clear HR156_1; clear HB; have HO_3 := n0_; have HO_8 := n1_; have HO_153000 := n2_; have HL156_0 := n3_; have HL156_1 := n4_; have BK152 := n5_; have HR156_0 := n6_; have HR156_1 := n7_; have HB := n8_; have BK157 := n9_; have GW157 := n10_; have GE157 := n11_; have NB152_157 := n12_; have NB157_152 := n13_; clear n0_ n1_ n2_ n3_ n4_ n5_ n6_ n7_ n8_ n9_ n10_ n11_ n12_ n13_; clear hb hbox hg; have hnb13 := NB157_152.out; have hnc13 := NB152_157.out; have hcz14_0 : w12.cell? ⟨gb157, 0, none⟩ = some (.slice none 0 0) := (blk_cell BK157.out 0).trans rfl; have hcz14_1 : w12.cell? ⟨gb157, 1, none⟩ = some (.slice none 0 0) := (blk_cell BK157.out 1).trans rfl; have hcz14_2 : w12.cell? ⟨gb157, 2, none⟩ = some (.int .u64 0) := (blk_cell BK157.out 2).trans rfl; have hcz14_3 : w12.cell? ⟨gb157, 3, none⟩ = some (.int .u8 0) := (blk_cell BK157.out 3).trans rfl; have hcz14_4 : w12.cell? ⟨gb157, 4, none⟩ = some (.int .u8 0) := (blk_cell BK157.out 4).trans rfl; have hfz14_0 := blk_frozen BK157.out 0; have hfz14_1 := blk_frozen BK157.out 1; have hfz14_2 := blk_frozen BK157.out 2; have hfz14_3 := blk_frozen BK157.out 3; have hfz14_4 := blk_frozen BK157.out 4; have hcz15_0 : w12.cell? ⟨gb152, 0, none⟩ = some (.slice (some ad156) l0_0.length c0_0) := (blk_cell BK152.out 0).trans rfl; have hcz15_1 : w12.cell? ⟨gb152, 1, none⟩ = some (.bool true) := (blk_cell BK152.out 1).trans rfl; have hcz15_2 : w12.cell? ⟨gb152, 2, none⟩ = some (.int .u64 a0_2) := (blk_cell BK152.out 2).trans rfl; have hcz15_3 : w12.cell? ⟨gb152, 3, none⟩ = some (.bool a0_3) := (blk_cell BK152.out 3).trans rfl; have hfz15_0 := blk_frozen BK152.out 0; have hfz15_1 := blk_frozen BK152.out 1; have hfz15_2 := blk_frozen BK152.out 2; have hfz15_3 := blk_frozen BK152.out 3) | ((with_reducible refine gate_callee (f := 57) rfl ?_); refine goesL_ (some 24) rfl rfl Tryd.func57 (by kernel_rfl) rfl #[.slice A156_0 ((rd_T40 l0_0 x10_1).f0).length c156_0, .int .u64 a0_2] rfl (by (try simp only [List.map_toArray, List.map_cons, List.map_nil]); first | done | rfl | (simp only [List.length_drop, List.length_take]; rfl)) ?_; (with_reducible refine (spec_KeyBytes.calls _ _ ((rd_T40 l0_0 x10_1).f0) a0_2 t158 _ ?side1 ?side2 A10.out).mono ?_); (case side1 => repeat (first | exact ((Kd.V_reads' (by (with_reducible repeat (first | apply Kd.V_alloc | apply Kd.V_drewN | apply Kd.V_drew)); exact (Kd.V_mono (Kd.V_far (p := ⟨gb157, 3, none⟩) (Kd.V_far (p := ⟨gb157, 4, none⟩) (Kd.V_far (p := ⟨gb157, 3, none⟩) (Kd.V_far (p := ⟨gb157, 2, none⟩) (Kd.V_far (p := ⟨gb157, 1, none⟩) (Kd.V_far (p := ⟨gb157, 0, none⟩) (Kd.V_mono HL156_0.out (fun k_ hk => (⟨hk, hk.2⟩ : _ ∧ k_ ≠ gb157))) (fun _ hk => hk.2) (.slice A156_0 ((rd_T40 l0_0 x10_1).f0).length c156_0)) (fun _ hk => hk.2) (.slice A156_1 ((rd_T40 l0_0 x10_1).f1).length c156_1)) (fun _ hk => hk.2) (.int .u64 ((rd_T40 l0_0 x10_1).f2))) (fun _ hk => hk.2) (.int .u8 ((rd_T40 l0_0 x10_1).f3))) (fun _ hk => hk.2) (.int .u8 ((rd_T40 l0_0 x10_1).f4))) (fun _ hk => hk.2) (.int .u8 (Go.bits .andNot .u8 ((rd_T40 l0_0 x10_1).f3) 192))) (fun _ h_ => h_.1)))).2.2) | (with_reducible refine Kd.C_alloc ?_ _) | (with_reducible refine Kd.C_drewN ?_ _) | (with_reducible refine Kd.C_drew ?_))); (case side2 => exact HC156_0.out); rintro e w16 ⟨v159, rfl, ho0, hb⟩; refine ⟨_, rfl, ?_⟩; have n0_ := Aside0.mk (Kd.N_elder' (by (with_reducible repeat (first | apply Kd.N_alloc | apply Kd.N_drewN | apply Kd.N_drew)); exact (Kd.N_mono (Kd.N_far (p := ⟨gb157, 3, none⟩) (Kd.N_far (p := ⟨gb157, 4, none⟩) (Kd.N_far (p := ⟨gb157, 3, none⟩) (Kd.N_far (p := ⟨gb157, 2, none⟩) (Kd.N_far (p := ⟨gb157, 1, none⟩) (Kd.N_far (p := ⟨gb157, 0, none⟩) (Kd.N_mono HO_3.out (fun k_ hk => (⟨hk, hk.2⟩ : _ ∧ k_ ≠ gb157))) (fun _ hk => hk.2) (.slice A156_0 ((rd_T40 l0_0 x10_1).f0).length c156_0)) (fun _ hk => hk.2) (.slice A156_1 ((rd_T40 l0_0 x10_1).f1).length c156_1)) (fun _ hk => hk.2) (.int .u64 ((rd_T40 l0_0 x10_1).f2))) (fun _ hk => hk.2) (.int .u8 ((rd_T40 l0_0 x10_1).f3))) (fun _ hk => hk.2) (.int .u8 ((rd_T40 l0_0 x10_1).f4))) (fun _ hk => hk.2) (.int .u8 (Go.bits .andNot .u8 ((rd_T40 l0_0 x10_1).f3) 192))) (fun _ h_ => h_.1))) (Kd.R_base ho0) hb); have n1_ := Aside0.mk (Kd.V_elder' (by (with_reducible repeat (first | apply Kd.V_alloc | apply Kd.V_drewN | apply Kd.V_drew)); exact (Kd.V_mono (Kd.V_far (p := ⟨gb157, 3, none⟩) (Kd.V_far (p := ⟨gb157, 4, none⟩) (Kd.V_far (p := ⟨gb157, 3, none⟩) (Kd.V_far (p := ⟨gb157, 2, none⟩) (Kd.V_far (p := ⟨gb157, 1, none⟩) (Kd.V_far (p := ⟨gb157, 0, none⟩) (Kd.V_mono HO_8.out (fun k_ hk => (⟨hk, hk.2⟩ : _ ∧ k_ ≠ gb157))) (fun _ hk => hk.2) (.slice A156_0 ((rd_T40 l0_0 x10_1).f0).length c156_0)) (fun _ hk => hk.2) (.slice A156_1 ((rd_T40 l0_0 x10_1).f1).length c156_1)) (fun _ hk => hk.2) (.int .u64 ((rd_T40 l0_0 x10_1).f2))) (fun _ hk => hk.2) (.int .u8 ((rd_T40 l0_0 x10_1).f3))) (fun _ hk => hk.2) (.int .u8 ((rd_T40 l0_0 x10_1).f4))) (fun _ hk => hk.2) (.int .u8 (Go.bits .andNot .u8 ((rd_T40 l0_0 x10_1).f3) 192))) (fun _ h_ => h_.1))) (Kd.R_base ho0) hb); have n2_ := Aside0.mk (Kd.V_elder' (by (with_reducible repeat (first | apply Kd.V_alloc | apply Kd.V_drewN | apply Kd.V_drew)); exact (Kd.V_mono (Kd.V_far (p := ⟨gb157, 3, none⟩) (Kd.V_far (p := ⟨gb157, 4, none⟩) (Kd.V_far (p := ⟨gb157, 3, none⟩) (Kd.V_far (p := ⟨gb157, 2, none⟩) (Kd.V_far (p := ⟨gb157, 1, none⟩) (Kd.V_far (p := ⟨gb157, 0, none⟩) (Kd.V_mono HO_153000.out (fun k_ hk => (⟨hk, hk.2⟩ : _ ∧ k_ ≠ gb157))) (fun _ hk => hk.2) (.slice A156_0 ((rd_T40 l0_0 x10_1).f0).length c156_0)) (fun _ hk => hk.2) (.slice A156_1 ((rd_T40 l0_0 x10_1).f1).length c156_1)) (fun _ hk => hk.2) (.int .u64 ((rd_T40 l0_0 x10_1).f2))) (fun _ hk => hk.2) (.int .u8 ((rd_T40 l0_0 x10_1).f3))) (fun _ hk => hk.2) (.int .u8 ((rd_T40 l0_0 x10_1).f4))) (fun _ hk => hk.2) (.int .u8 (Go.bits .andNot .u8 ((rd_T40 l0_0 x10_1).f3) 192))) (fun _ h_ => h_.1))) (Kd.R_base ho0) hb); have n3_ := Aside0.mk (Kd.V_elder' (by (with_reducible repeat (first | apply Kd.V_alloc | apply Kd.V_drewN | apply Kd.V_drew)); exact (Kd.V_mono (Kd.V_far (p := ⟨gb157, 3, none⟩) (Kd.V_far (p := ⟨gb157, 4, none⟩) (Kd.V_far (p := ⟨gb157, 3, none⟩) (Kd.V_far (p := ⟨gb157, 2, none⟩) (Kd.V_far (p := ⟨gb157, 1, none⟩) (Kd.V_far (p := ⟨gb157, 0, none⟩) (Kd.V_mono HL156_0.out (fun k_ hk => (⟨hk, hk.2⟩ : _ ∧ k_ ≠ gb157))) (fun _ hk => hk.2) (.slice A156_0 ((rd_T40 l0_0 x10_1).f0).length c156_0)) (fun _ hk => hk.2) (.slice A156_1 ((rd_T40 l0_0 x10_1).f1).length c156_1)) (fun _ hk => hk.2) (.int .u64 ((rd_T40 l0_0 x10_1).f2))) (fun _ hk => hk.2) (.int .u8 ((rd_T40 l0_0 x10_1).f3))) (fun _ hk => hk.2) (.int .u8 ((rd_T40 l0_0 x10_1).f4))) (fun _ hk => hk.2) (.int .u8 (Go.bits .andNot .u8 ((rd_T40 l0_0 x10_1).f3) 192))) (fun _ h_ => h_.1))) (Kd.R_base ho0) hb); have n4_ := Aside0.mk (Kd.V_elder' (by (with_reducible repeat (first | apply Kd.V_alloc | apply Kd.V_drewN | apply Kd.V_drew)); exact (Kd.V_mono (Kd.V_far (p := ⟨gb157, 3, none⟩) (Kd.V_far (p := ⟨gb157, 4, none⟩) (Kd.V_far (p := ⟨gb157, 3, none⟩) (Kd.V_far (p := ⟨gb157, 2, none⟩) (Kd.V_far (p := ⟨gb157, 1, none⟩) (Kd.V_far (p := ⟨gb157, 0, none⟩) (Kd.V_mono HL156_1.out (fun k_ hk => (⟨hk, hk.2⟩ : _ ∧ k_ ≠ gb157))) (fun _ hk => hk.2) (.slice A156_0 ((rd_T40 l0_0 x10_1).f0).length c156_0)) (fun _ hk => hk.2) (.slice A156_1 ((rd_T40 l0_0 x10_1).f1).length c156_1)) (fun _ hk => hk.2) (.int .u64 ((rd_T40 l0_0 x10_1).f2))) (fun _ hk => hk.2) (.int .u8 ((rd_T40 l0_0 x10_1).f3))) (fun _ hk => hk.2) (.int .u8 ((rd_T40 l0_0 x10_1).f4))) (fun _ hk => hk.2) (.int .u8 (Go.bits .andNot .u8 ((rd_T40 l0_0 x10_1).f3) 192))) (fun _ h_ => h_.1))) (Kd.R_base ho0) hb); have n5_ := Aside0.mk (Kd.R_lower (Kd.R_newM (M := fun k_ => (w.heap.size ≤ k_)) ho0 (below_size (by repeat (first | (with_reducible first | exact HB.out | apply below_alloc | apply pw_below_drewN | apply below_drew1 | refine below_set ?_ GE152.out | refine below_set ?_ GE157.out) | exact HB.out))) (fun k_ h_ => h_)) (below_size (by repeat (first | (with_reducible first | exact HB.out | apply below_alloc | apply pw_below_drewN | apply below_drew1 | refine below_set ?_ GE152.out | refine below_set ?_ GE157.out) | exact HB.out)))); have n6_ := Aside0.mk (blk_below (g := gb152) (o := .cells #[.slice (some ad156) l0_0.length c0_0, .bool true, .int .u64 a0_2, .bool a0_3] 80 (0, 0)) (by (with_reducible repeat (first | refine blk_drewN ?_ _ | refine blk_drew ?_ | refine blk_alloc ?_ _)); refine blk_far ?_ NB152_157.out _; (with_reducible repeat (first | refine blk_drewN ?_ _ | refine blk_drew ?_ | refine blk_alloc ?_ _)); refine blk_far ?_ NB152_157.out _; (with_reducible repeat (first | refine blk_drewN ?_ _ | refine blk_drew ?_ | refine blk_alloc ?_ _)); refine blk_far ?_ NB152_157.out _; (with_reducible repeat (first | refine blk_drewN ?_ _ | refine blk_drew ?_ | refine blk_alloc ?_ _)); refine blk_far ?_ NB152_157.out _; (with_reducible repeat (first | refine blk_drewN ?_ _ | refine blk_drew ?_ | refine blk_alloc ?_ _)); refine blk_far ?_ NB152_157.out _; (with_reducible repeat (first | refine blk_drewN ?_ _ | refine blk_drew ?_ | refine blk_alloc ?_ _)); refine blk_far ?_ NB152_157.out _; (with_reducible repeat (first | refine blk_drewN ?_ _ | refine blk_drew ?_ | refine blk_alloc ?_ _)); exact BK152.out) hb); have n7_ := Aside0.mk (Kd.C_below ((Kd.V_reads' (by (with_reducible repeat (first | apply Kd.V_alloc | apply Kd.V_drewN | apply Kd.V_drew)); exact (Kd.V_mono (Kd.V_far (p := ⟨gb157, 3, none⟩) (Kd.V_far (p := ⟨gb157, 4, none⟩) (Kd.V_far (p := ⟨gb157, 3, none⟩) (Kd.V_far (p := ⟨gb157, 2, none⟩) (Kd.V_far (p := ⟨gb157, 1, none⟩) (Kd.V_far (p := ⟨gb157, 0, none⟩) (Kd.V_mono HL156_0.out (fun k_ hk => (⟨hk, hk.2⟩ : _ ∧ k_ ≠ gb157))) (fun _ hk => hk.2) (.slice A156_0 ((rd_T40 l0_0 x10_1).f0).length c156_0)) (fun _ hk => hk.2) (.slice A156_1 ((rd_T40 l0_0 x10_1).f1).length c156_1)) (fun _ hk => hk.2) (.int .u64 ((rd_T40 l0_0 x10_1).f2))) (fun _ hk => hk.2) (.int .u8 ((rd_T40 l0_0 x10_1).f3))) (fun _ hk => hk.2) (.int .u8 ((rd_T40 l0_0 x10_1).f4))) (fun _ hk => hk.2) (.int .u8 (Go.bits .andNot .u8 ((rd_T40 l0_0 x10_1).f3) 192))) (fun _ h_ => h_.1)))).2.2) hb); have n8_ := Aside0.mk (Kd.C_below ((Kd.V_reads' (by (with_reducible repeat (first | apply Kd.V_alloc | apply Kd.V_drewN | apply Kd.V_drew)); exact (Kd.V_mono (Kd.V_far (p := ⟨gb157, 3, none⟩) (Kd.V_far (p := ⟨gb157, 4, none⟩) (Kd.V_far (p := ⟨gb157, 3, none⟩) (Kd.V_far (p := ⟨gb157, 2, none⟩) (Kd.V_far (p := ⟨gb157, 1, none⟩) (Kd.V_far (p := ⟨gb157, 0, none⟩) (Kd.V_mono HL156_1.out (fun k_ hk => (⟨hk, hk.2⟩ : _ ∧ k_ ≠ gb157))) (fun _ hk => hk.2) (.slice A156_0 ((rd_T40 l0_0 x10_1).f0).length c156_0)) (fun _ hk => hk.2) (.slice A156_1 ((rd_T40 l0_0 x10_1).f1).length c156_1)) (fun _ hk => hk.2) (.int .u64 ((rd_T40 l0_0 x10_1).f2))) (fun _ hk => hk.2) (.int .u8 ((rd_T40 l0_0 x10_1).f3))) (fun _ hk => hk.2) (.int .u8 ((rd_T40 l0_0 x10_1).f4))) (fun _ hk => hk.2) (.int .u8 (Go.bits .andNot .u8 ((rd_T40 l0_0 x10_1).f3) 192))) (fun _ h_ => h_.1)))).2.2) hb); have n9_ := Aside0.mk (blk_below (g := gb157) (o := .cells #[.slice A156_0 ((rd_T40 l0_0 x10_1).f0).length c156_0, .slice A156_1 ((rd_T40 l0_0 x10_1).f1).length c156_1, .int .u64 ((rd_T40 l0_0 x10_1).f2), .int .u8 (Go.bits .andNot .u8 ((rd_T40 l0_0 x10_1).f3) 192), .int .u8 ((rd_T40 l0_0 x10_1).f4)] 40 (0, 0)) (by (with_reducible repeat (first | refine blk_drewN ?_ _ | refine blk_drew ?_ | refine blk_alloc ?_ _)); refine blk_put (cs := #[.slice A156_0 ((rd_T40 l0_0 x10_1).f0).length c156_0, .slice A156_1 ((rd_T40 l0_0 x10_1).f1).length c156_1, .int .u64 ((rd_T40 l0_0 x10_1).f2), .int .u8 ((rd_T40 l0_0 x10_1).f3), .int .u8 ((rd_T40 l0_0 x10_1).f4)]) ?_ 3 _ rfl; (with_reducible repeat (first | refine blk_drewN ?_ _ | refine blk_drew ?_ | refine blk_alloc ?_ _)); refine blk_put (cs := #[.slice A156_0 ((rd_T40 l0_0 x10_1).f0).length c156_0, .slice A156_1 ((rd_T40 l0_0 x10_1).f1).length c156_1, .int .u64 ((rd_T40 l0_0 x10_1).f2), .int .u8 ((rd_T40 l0_0 x10_1).f3), .int .u8 0]) ?_ 4 _ rfl; (with_reducible repeat (first | refine blk_drewN ?_ _ | refine blk_drew ?_ | refine blk_alloc ?_ _)); refine blk_put (cs := #[.slice A156_0 ((rd_T40 l0_0 x10_1).f0).length c156_0, .slice A156_1 ((rd_T40 l0_0 x10_1).f1).length c156_1, .int .u64 ((rd_T40 l0_0 x10_1).f2), .int .u8 0, .int .u8 0]) ?_ 3 _ rfl; (with_reducible repeat (first | refine blk_drewN ?_ _ | refine blk_drew ?_ | refine blk_alloc ?_ _)); refine blk_put (cs := #[.slice A156_0 ((rd_T40 l0_0 x10_1).f0).length c156_0, .slice A156_1 ((rd_T40 l0_0 x10_1).f1).length c156_1, .int .u64 0, .int .u8 0, .int .u8 0]) ?_ 2 _ rfl; (with_reducible repeat (first | refine blk_drewN ?_ _ | refine blk_drew ?_ | refine blk_alloc ?_ _)); refine blk_put (cs := #[.slice A156_0 ((rd_T40 l0_0 x10_1).f0).length c156_0, .slice none 0 0, .int .u64 0, .int .u8 0, .int .u8 0]) ?_ 1 _ rfl; (with_reducible repeat (first | refine blk_drewN ?_ _ | refine blk_drew ?_ | refine blk_alloc ?_ _)); refine blk_put (cs := #[.slice none 0 0, .slice none 0 0, .int .u64 0, .int .u8 0, .int .u8 0]) ?_ 0 _ rfl; (with_reducible repeat (first | refine blk_drewN ?_ _ | refine blk_drew ?_ | refine blk_alloc ?_ _)); exact BK157.out) hb); have n10_ := Aside0.mk (below_step (by repeat (first | (with_reducible first | exact HB.out | apply below_alloc | apply pw_below_drewN | apply below_drew1 | refine below_set ?_ GE152.out | refine below_set ?_ GE157.out) | exact HB.out)) hb); clear HO_3; clear HO_8; clear HO_153000; clear HL156_0; clear HL156_1; clear BK152; clear HR156_0; clear HR156_1; clear BK157; clear HB; have HO_3 := n0_; have HO_8 := n1_; have HO_153000 := n2_; have HL156_0 := n3_; have HL156_1 := n4_; have HO160 := n5_; have BK152 := n6_; have HR156_0 := n7_; have HR156_1 := n8_; have BK157 := n9_; have HB := n10_; clear n0_ n1_ n2_ n3_ n4_ n5_ n6_ n7_ n8_ n9_ n10_; (try clear hb); (try clear hb2); (try clear hk); (try clear hi); (try clear ho0); obtain ⟨Ao17, co17, eo17⟩ := Kd.R_slice HO160.out; subst eo17; have hcz18_0 : w16.cell? ⟨gb157, 0, none⟩ = some (.slice A156_0 ((rd_T40 l0_0 x10_1).f0).length c156_0) := (blk_cell BK157.out 0).trans rfl; have hcz18_1 : w16.cell? ⟨gb157, 1, none⟩ = some (.slice A156_1 ((rd_T40 l0_0 x10_1).f1).length c156_1) := (blk_cell BK157.out 1).trans rfl; have hcz18_2 : w16.cell? ⟨gb157, 2, none⟩ = some (.int .u64 ((rd_T40 l0_0 x10_1).f2)) := (blk_cell BK157.out 2).trans rfl; have hcz18_3 : w16.cell? ⟨gb157, 3, none⟩ = some (.int .u8 (Go.bits .andNot .u8 ((rd_T40 l0_0 x10_1).f3) 192)) := (blk_cell BK157.out 3).trans rfl; have hcz18_4 : w16.cell? ⟨gb157, 4, none⟩ = some (.int .u8 ((rd_T40 l0_0 x10_1).f4)) := (blk_cell BK157.out 4).trans rfl; have hfz18_0 := blk_frozen BK157.out 0; have hfz18_1 := blk_frozen BK157.out 1; have hfz18_2 := blk_frozen BK157.out 2; have hfz18_3 := blk_frozen BK157.out 3; have hfz18_4 := blk_frozen BK157.out 4) | ((with_reducible refine gate_store (t := 22) (p := 25) rfl ?_); refine store_event (t := 22) (p := 25) (v := ?vo_w19) (w1 := (w16.setCell ⟨gb157, 0, none⟩ (.slice Ao17 t158.length co17))) ?hg ?ho ?hn ?hr ?_; (case ho => rfl); (case hg => rfl); (case hn => rfl); (case hr => first | (go_simp; done) | (go_simp; rfl)); intro w19 hw; have n0_ : Aside0 (Kd.N k40 40 w19 w.heap.size (fun k_ => (P0_0_ k_ ∨ w.heap.size ≤ k_) ∧ some k_ ≠ (.slice Ao17 t158.length co17 : Value).ownBlock ∧ k_ ≠ gb152 ∧ k_ ≠ gb157) u3 x3_1) := ⟨(by rw [hw]; exact (by (with_reducible repeat (first | apply Kd.N_alloc | apply Kd.N_drewN | apply Kd.N_drew)); exact Kd.N_mono (Kd.N_far (p := ⟨gb157, 0, none⟩) (Kd.N_mono HO_3.out (fun k_ hk => (⟨hk, hk.1.2⟩ : _ ∧ k_ ≠ gb157))) (fun _ hk => hk.2) (.slice Ao17 t158.length co17)) (fun _ hk => ⟨hk.1.1.1.1, ⟨hk.1.2, ⟨hk.1.1.1.2, hk.1.1.2⟩⟩⟩)))⟩; have n1_ : Aside0 (Kd.V k40 40 w19 w.heap.size (fun k_ => (P0_0_ k_ ∨ w.heap.size ≤ k_) ∧ some k_ ≠ (u3 : Value).ownBlock ∧ some k_ ≠ (.slice Ao17 t158.length co17 : Value).ownBlock ∧ k_ ≠ gb152 ∧ k_ ≠ gb157) (.slice (some ad156) l0_0.length c0_0) l0_0) := ⟨(by rw [hw]; exact (by (with_reducible repeat (first | apply Kd.V_alloc | apply Kd.V_drewN | apply Kd.V_drew)); exact Kd.V_mono (Kd.V_far (p := ⟨gb157, 0, none⟩) (Kd.V_mono HO_8.out (fun k_ hk => (⟨hk, hk.1.2⟩ : _ ∧ k_ ≠ gb157))) (fun _ hk => hk.2) (.slice Ao17 t158.length co17)) (fun _ hk => ⟨hk.1.1.1.1, ⟨hk.1.1.1.2.1, ⟨hk.1.2, ⟨hk.1.1.1.2.2, hk.1.1.2⟩⟩⟩⟩)))⟩; have n2_ : Aside0 (Kd.V k40 40 w19 w.heap.size (fun k_ => (P0_0_ k_ ∨ w.heap.size ≤ k_) ∧ some k_ ≠ (u3 : Value).ownBlock ∧ some k_ ≠ (.slice Ao17 t158.length co17 : Value).ownBlock ∧ k_ ≠ gb152 ∧ k_ ≠ gb157) (.slice (some ad156) l0_0.length c0_0) l0_0) := ⟨(by rw [hw]; exact (by (with_reducible repeat (first | apply Kd.V_alloc | apply Kd.V_drewN | apply Kd.V_drew)); exact Kd.V_mono (Kd.V_far (p := ⟨gb157, 0, none⟩) (Kd.V_mono HO_153000.out (fun k_ hk => (⟨hk, hk.1.2⟩ : _ ∧ k_ ≠ gb157))) (fun _ hk => hk.2) (.slice Ao17 t158.length co17)) (fun _ hk => ⟨hk.1.1.1.1, ⟨hk.1.1.1.2.1, ⟨hk.1.2, ⟨hk.1.1.1.2.2, hk.1.1.2⟩⟩⟩⟩)))⟩; have n3_ : Aside0 (Kd.V (Kd.int .u8) 5 w19 w.heap.size (fun k_ => (P0_0_ k_ ∨ w.heap.size ≤ k_) ∧ some k_ ≠ (u3 : Value).ownBlock ∧ some k_ ≠ (.slice Ao17 t158.length co17 : Value).ownBlock ∧ k_ ≠ gb152 ∧ k_ ≠ gb157) (.slice A156_0 ((rd_T40 l0_0 x10_1).f0).length c156_0) ((rd_T40 l0_0 x10_1).f0)) := ⟨(by rw [hw]; exact (by (with_reducible repeat (first | apply Kd.V_alloc | apply Kd.V_drewN | apply Kd.V_drew)); exact Kd.V_mono (Kd.V_far (p := ⟨gb157, 0, none⟩) (Kd.V_mono HL156_0.out (fun k_ hk => (⟨hk, hk.1.2⟩ : _ ∧ k_ ≠ gb157))) (fun _ hk => hk.2) (.slice Ao17 t158.length co17)) (fun _ hk => ⟨hk.1.1.1.1, ⟨hk.1.1.1.2.1, ⟨hk.1.2, ⟨hk.1.1.1.2.2, hk.1.1.2⟩⟩⟩⟩)))⟩; have n4_ : Aside0 (Kd.V (Kd.int .u8) 5 w19 w.heap.size (fun k_ => (P0_0_ k_ ∨ w.heap.size ≤ k_) ∧ some k_ ≠ (u3 : Value).ownBlock ∧ some k_ ≠ (.slice Ao17 t158.length co17 : Value).ownBlock ∧ k_ ≠ gb152 ∧ k_ ≠ gb157) (.slice A156_1 ((rd_T40 l0_0 x10_1).f1).length c156_1) ((rd_T40 l0_0 x10_1).f1)) := ⟨(by rw [hw]; exact (by (with_reducible repeat (first | apply Kd.V_alloc | apply Kd.V_drewN | apply Kd.V_drew)); exact Kd.V_mono (Kd.V_far (p := ⟨gb157, 0, none⟩) (Kd.V_mono HL156_1.out (fun k_ hk => (⟨hk, hk.1.2⟩ : _ ∧ k_ ≠ gb157))) (fun _ hk => hk.2) (.slice Ao17 t158.length co17)) (fun _ hk => ⟨hk.1.1.1.1, ⟨hk.1.1.1.2.1, ⟨hk.1.2, ⟨hk.1.1.1.2.2, hk.1.1.2⟩⟩⟩⟩)))⟩; have n5_ : Aside0 (Kd.R (Kd.int .u8) 5 w19 w.heap.size (fun k_ => (w.heap.size ≤ k_)) (.slice Ao17 t158.length co17) t158) := ⟨(by rw [hw]; exact (by (with_reducible repeat (first | apply Kd.R_alloc | apply Kd.R_drewN | apply Kd.R_drew)); exact Kd.R_mono (Kd.R_far (p := ⟨gb157, 0, none⟩) (Kd.R_types HO160.out BK157.out (by decide)) (fun _ hk => hk.2) (.slice Ao17 t158.length co17)) (fun _ hk => hk.1.1)))⟩; have n6_ : Aside0 (w19.heap[gb152]? = some (.cells #[.slice (some ad156) l0_0.length c0_0, .bool true, .int .u64 a0_2, .bool a0_3] 80 (0, 0))) := ⟨(by rw [hw]; exact (by (with_reducible repeat (first | refine blk_drewN ?_ _ | refine blk_drew ?_ | refine blk_alloc ?_ _)); refine blk_far ?_ NB152_157.out _; (with_reducible repeat (first | refine blk_drewN ?_ _ | refine blk_drew ?_ | refine blk_alloc ?_ _)); exact BK152.out))⟩; have n7_ : Aside0 (w19.heap[gb157]? = some (.cells #[.slice Ao17 t158.length co17, .slice A156_1 ((rd_T40 l0_0 x10_1).f1).length c156_1, .int .u64 ((rd_T40 l0_0 x10_1).f2), .int .u8 (Go.bits .andNot .u8 ((rd_T40 l0_0 x10_1).f3) 192), .int .u8 ((rd_T40 l0_0 x10_1).f4)] 40 (0, 0))) := ⟨(by rw [hw]; exact (by (with_reducible repeat (first | refine blk_drewN ?_ _ | refine blk_drew ?_ | refine blk_alloc ?_ _)); refine blk_put (cs := #[.slice A156_0 ((rd_T40 l0_0 x10_1).f0).length c156_0, .slice A156_1 ((rd_T40 l0_0 x10_1).f1).length c156_1, .int .u64 ((rd_T40 l0_0 x10_1).f2), .int .u8 (Go.bits .andNot .u8 ((rd_T40 l0_0 x10_1).f3) 192), .int .u8 ((rd_T40 l0_0 x10_1).f4)]) ?_ 0 _ rfl; (with_reducible repeat (first | refine blk_drewN ?_ _ | refine blk_drew ?_ | refine blk_alloc ?_ _)); exact BK157.out))⟩; have n8_ : Aside0 (Below w.heap.size w w19) := ⟨(by rw [hw]; exact (by repeat (first | (with_reducible first | exact HB.out | apply below_alloc | apply pw_below_drewN | apply below_drew1 | refine below_set ?_ GE152.out | refine below_set ?_ GE157.out) | exact HB.out)))⟩; clear hw; clear HO_3; clear HO_8; clear HO_153000; clear HL156_0; clear HL156_1; clear HO160; clear BK152; clear BK157; clear HB; have HO_3 := n0_; have HO_8 := n1_; have HO_153000 := n2_; have HL156_0 := n3_; have HL156_1 := n4_; have HO160 := n5_; have BK152 := n6_; have BK157 := n7_; have HB := n8_; clear n0_ n1_ n2_ n3_ n4_ n5_ n6_ n7_ n8_; have hcz20_0 : w19.cell? ⟨gb157, 0, none⟩ = some (.slice Ao17 t158.length co17) := (blk_cell BK157.out 0).trans rfl; have hcz20_1 : w19.cell? ⟨gb157, 1, none⟩ = some (.slice A156_1 ((rd_T40 l0_0 x10_1).f1).length c156_1) := (blk_cell BK157.out 1).trans rfl; have hcz20_2 : w19.cell? ⟨gb157, 2, none⟩ = some (.int .u64 ((rd_T40 l0_0 x10_1).f2)) := (blk_cell BK157.out 2).trans rfl; have hcz20_3 : w19.cell? ⟨gb157, 3, none⟩ = some (.int .u8 (Go.bits .andNot .u8 ((rd_T40 l0_0 x10_1).f3) 192)) := (blk_cell BK157.out 3).trans rfl; have hcz20_4 : w19.cell? ⟨gb157, 4, none⟩ = some (.int .u8 ((rd_T40 l0_0 x10_1).f4)) := (blk_cell BK157.out 4).trans rfl; have hfz20_0 := blk_frozen BK157.out 0; have hfz20_1 := blk_frozen BK157.out 1; have hfz20_2 := blk_frozen BK157.out 2; have hfz20_3 := blk_frozen BK157.out 3; have hfz20_4 := blk_frozen BK157.out 4) | ((with_reducible refine gate_store (t := 5) (p := 29) rfl ?_); refine store_event (t := 5) (p := 29) (v := ?vo_w21) (w1 := (w19.setCell ⟨gb157, 3, none⟩ (.int .u8 (Go.bits .or .u8 (Go.bits .andNot .u8 ((rd_T40 l0_0 x10_1).f3) 192) 64)))) ?hg ?ho ?hn ?hr ?_; (case ho => rfl); (case hg => rfl); (case hn => rfl); (case hr => first | (go_simp; done) | (go_simp; rfl)); intro w21 hw; have n0_ : Aside0 (Kd.N k40 40 w21 w.heap.size (fun k_ => (P0_0_ k_ ∨ w.heap.size ≤ k_) ∧ some k_ ≠ (.slice Ao17 t158.length co17 : Value).ownBlock ∧ k_ ≠ gb152 ∧ k_ ≠ gb157) u3 x3_1) := ⟨(by rw [hw]; exact (by (with_reducible repeat (first | apply Kd.N_alloc | apply Kd.N_drewN | apply Kd.N_drew)); exact Kd.N_mono (Kd.N_far (p := ⟨gb157, 3, none⟩) (Kd.N_mono HO_3.out (fun k_ hk => (⟨hk, hk.2.2.2⟩ : _ ∧ k_ ≠ gb157))) (fun _ hk => hk.2) (.int .u8 (Go.bits .or .u8 (Go.bits .andNot .u8 ((rd_T40 l0_0 x10_1).f3) 192) 64))) (fun _ hk => ⟨hk.1.1, ⟨hk.1.2.1, ⟨hk.1.2.2.1, hk.1.2.2.2⟩⟩⟩)))⟩; have n1_ : Aside0 (Kd.V k40 40 w21 w.heap.size (fun k_ => (P0_0_ k_ ∨ w.heap.size ≤ k_) ∧ some k_ ≠ (u3 : Value).ownBlock ∧ some k_ ≠ (.slice Ao17 t158.length co17 : Value).ownBlock ∧ k_ ≠ gb152 ∧ k_ ≠ gb157) (.slice (some ad156) l0_0.length c0_0) l0_0) := ⟨(by rw [hw]; exact (by (with_reducible repeat (first | apply Kd.V_alloc | apply Kd.V_drewN | apply Kd.V_drew)); exact Kd.V_mono (Kd.V_far (p := ⟨gb157, 3, none⟩) (Kd.V_mono HO_8.out (fun k_ hk => (⟨hk, hk.2.2.2.2⟩ : _ ∧ k_ ≠ gb157))) (fun _ hk => hk.2) (.int .u8 (Go.bits .or .u8 (Go.bits .andNot .u8 ((rd_T40 l0_0 x10_1).f3) 192) 64))) (fun _ hk => ⟨hk.1.1, ⟨hk.1.2.1, ⟨hk.1.2.2.1, ⟨hk.1.2.2.2.1, hk.1.2.2.2.2⟩⟩⟩⟩)))⟩; have n2_ : Aside0 (Kd.V k40 40 w21 w.heap.size (fun k_ => (P0_0_ k_ ∨ w.heap.size ≤ k_) ∧ some k_ ≠ (u3 : Value).ownBlock ∧ some k_ ≠ (.slice Ao17 t158.length co17 : Value).ownBlock ∧ k_ ≠ gb152 ∧ k_ ≠ gb157) (.slice (some ad156) l0_0.length c0_0) l0_0) := ⟨(by rw [hw]; exact (by (with_reducible repeat (first | apply Kd.V_alloc | apply Kd.V_drewN | apply Kd.V_drew)); exact Kd.V_mono (Kd.V_far (p := ⟨gb157, 3, none⟩) (Kd.V_mono HO_153000.out (fun k_ hk => (⟨hk, hk.2.2.2.2⟩ : _ ∧ k_ ≠ gb157))) (fun _ hk => hk.2) (.int .u8 (Go.bits .or .u8 (Go.bits .andNot .u8 ((rd_T40 l0_0 x10_1).f3) 192) 64))) (fun _ hk => ⟨hk.1.1, ⟨hk.1.2.1, ⟨hk.1.2.2.1, ⟨hk.1.2.2.2.1, hk.1.2.2.2.2⟩⟩⟩⟩)))⟩; have n3_ : Aside0 (Kd.V (Kd.int .u8) 5 w21 w.heap.size (fun k_ => (P0_0_ k_ ∨ w.heap.size ≤ k_) ∧ some k_ ≠ (u3 : Value).ownBlock ∧ some k_ ≠ (.slice Ao17 t158.length co17 : Value).ownBlock ∧ k_ ≠ gb152 ∧ k_ ≠ gb157) (.slice A156_0 ((rd_T40 l0_0 x10_1).f0).length c156_0) ((rd_T40 l0_0 x10_1).f0)) := ⟨(by rw [hw]; exact (by (with_reducible repeat (first | apply Kd.V_alloc | apply Kd.V_drewN | apply Kd.V_drew)); exact Kd.V_mono (Kd.V_far (p := ⟨gb157, 3, none⟩) (Kd.V_mono HL156_0.out (fun k_ hk => (⟨hk, hk.2.2.2.2⟩ : _ ∧ k_ ≠ gb157))) (fun _ hk => hk.2) (.int .u8 (Go.bits .or .u8 (Go.bits .andNot .u8 ((rd_T40 l0_0 x10_1).f3) 192) 64))) (fun _ hk => ⟨hk.1.1, ⟨hk.1.2.1, ⟨hk.1.2.2.1, ⟨hk.1.2.2.2.1, hk.1.2.2.2.2⟩⟩⟩⟩)))⟩; have n4_ : Aside0 (Kd.V (Kd.int .u8) 5 w21 w.heap.size (fun k_ => (P0_0_ k_ ∨ w.heap.size ≤ k_) ∧ some k_ ≠ (u3 : Value).ownBlock ∧ some k_ ≠ (.slice Ao17 t158.length co17 : Value).ownBlock ∧ k_ ≠ gb152 ∧ k_ ≠ gb157) (.slice A156_1 ((rd_T40 l0_0 x10_1).f1).length c156_1) ((rd_T40 l0_0 x10_1).f1)) := ⟨(by rw [hw]; exact (by (with_reducible repeat (first | apply Kd.V_alloc | apply Kd.V_drewN | apply Kd.V_drew)); exact Kd.V_mono (Kd.V_far (p := ⟨gb157, 3, none⟩) (Kd.V_mono HL156_1.out (fun k_ hk => (⟨hk, hk.2.2.2.2⟩ : _ ∧ k_ ≠ gb157))) (fun _ hk => hk.2) (.int .u8 (Go.bits .or .u8 (Go.bits .andNot .u8 ((rd_T40 l0_0 x10_1).f3) 192) 64))) (fun _ hk => ⟨hk.1.1, ⟨hk.1.2.1, ⟨hk.1.2.2.1, ⟨hk.1.2.2.2.1, hk.1.2.2.2.2⟩⟩⟩⟩)))⟩; have n5_ : Aside0 (Kd.R (Kd.int .u8) 5 w21 w.heap.size (fun k_ => (w.heap.size ≤ k_)) (.slice Ao17 t158.length co17) t158) := ⟨(by rw [hw]; exact (by (with_reducible repeat (first | apply Kd.R_alloc | apply Kd.R_drewN | apply Kd.R_drew)); exact Kd.R_mono (Kd.R_far (p := ⟨gb157, 3, none⟩) (Kd.R_types HO160.out BK157.out (by decide)) (fun _ hk => hk.2) (.int .u8 (Go.bits .or .u8 (Go.bits .andNot .u8 ((rd_T40 l0_0 x10_1).f3) 192) 64))) (fun _ hk => hk.1)))⟩; have n6_ : Aside0 (w21.heap[gb152]? = some (.cells #[.slice (some ad156) l0_0.length c0_0, .bool true, .int .u64 a0_2, .bool a0_3] 80 (0, 0))) := ⟨(by rw [hw]; exact (by (with_reducible repeat (first | refine blk_drewN ?_ _ | refine blk_drew ?_ | refine blk_alloc ?_ _)); refine blk_far ?_ NB152_157.out _; (with_reducible repeat (first | refine blk_drewN ?_ _ | refine blk_drew ?_ | refine blk_alloc ?_ _)); exact BK152.out))⟩; have n7_ : Aside0 (w21.heap[gb157]? = some (.cells #[.slice Ao17 t158.length co17, .slice A156_1 ((rd_T40 l0_0 x10_1).f1).length c156_1, .int .u64 ((rd_T40 l0_0 x10_1).f2), .int .u8 (Go.bits .or .u8 (Go.bits .andNot .u8 ((rd_T40 l0_0 x10_1).f3) 192) 64), .int .u8 ((rd_T40 l0_0 x10_1).f4)] 40 (0, 0))) := ⟨(by rw [hw]; exact (by (with_reducible repeat (first | refine blk_drewN ?_ _ | refine blk_drew ?_ | refine blk_alloc ?_ _)); refine blk_put (cs := #[.slice Ao17 t158.length co17, .slice A156_1 ((rd_T40 l0_0 x10_1).f1).length c156_1, .int .u64 ((rd_T40 l0_0 x10_1).f2), .int .u8 (Go.bits .andNot .u8 ((rd_T40 l0_0 x10_1).f3) 192), .int .u8 ((rd_T40 l0_0 x10_1).f4)]) ?_ 3 _ rfl; (with_reducible repeat (first | refine blk_drewN ?_ _ | refine blk_drew ?_ | refine blk_alloc ?_ _)); exact BK157.out))⟩; have n8_ : Aside0 (Below w.heap.size w w21) := ⟨(by rw [hw]; exact (by repeat (first | (with_reducible first | exact HB.out | apply below_alloc | apply pw_below_drewN | apply below_drew1 | refine below_set ?_ GE152.out | refine below_set ?_ GE157.out) | exact HB.out)))⟩; clear hw; clear HO_3; clear HO_8; clear HO_153000; clear HL156_0; clear HL156_1; clear HO160; clear BK152; clear BK157; clear HB; have HO_3 := n0_; have HO_8 := n1_; have HO_153000 := n2_; have HL156_0 := n3_; have HL156_1 := n4_; have HO160 := n5_; have BK152 := n6_; have BK157 := n7_; have HB := n8_; clear n0_ n1_ n2_ n3_ n4_ n5_ n6_ n7_ n8_; have hcz22_0 : w21.cell? ⟨gb157, 0, none⟩ = some (.slice Ao17 t158.length co17) := (blk_cell BK157.out 0).trans rfl; have hcz22_1 : w21.cell? ⟨gb157, 1, none⟩ = some (.slice A156_1 ((rd_T40 l0_0 x10_1).f1).length c156_1) := (blk_cell BK157.out 1).trans rfl; have hcz22_2 : w21.cell? ⟨gb157, 2, none⟩ = some (.int .u64 ((rd_T40 l0_0 x10_1).f2)) := (blk_cell BK157.out 2).trans rfl; have hcz22_3 : w21.cell? ⟨gb157, 3, none⟩ = some (.int .u8 (Go.bits .or .u8 (Go.bits .andNot .u8 ((rd_T40 l0_0 x10_1).f3) 192) 64)) := (blk_cell BK157.out 3).trans rfl; have hcz22_4 : w21.cell? ⟨gb157, 4, none⟩ = some (.int .u8 ((rd_T40 l0_0 x10_1).f4)) := (blk_cell BK157.out 4).trans rfl; have hfz22_0 := blk_frozen BK157.out 0; have hfz22_1 := blk_frozen BK157.out 1; have hfz22_2 := blk_frozen BK157.out 2; have hfz22_3 := blk_frozen BK157.out 3; have hfz22_4 := blk_frozen BK157.out 4) | ((with_reducible refine gate_builtin (b := .append) (xs := #[.tmp 30, .tmp 32]) rfl ?_); at_builtin; refine Kd.N_append k40 (w0 := w) w.heap.size rfl (.tmp 30) (.tmp 32) 45 40 (.agg #[(.slice none 0 0), (.slice none 0 0), (.int .u64 0), (.int .u8 0), (.int .u8 0)]) 64 rfl Tryd.underlying45 info40 rfl (by decide) (by omega) u3 x3_1 (⟨t158, (rd_T40 l0_0 x10_1).f1, (rd_T40 l0_0 x10_1).f2, Go.bits .or .u8 (Go.bits .andNot .u8 ((rd_T40 l0_0 x10_1).f3) 192) 64, (rd_T40 l0_0 x10_1).f4⟩ : S40) [.slice Ao17 t158.length co17, .slice A156_1 ((rd_T40 l0_0 x10_1).f1).length c156_1, .int .u64 ((rd_T40 l0_0 x10_1).f2), .int .u8 (Go.bits .or .u8 (Go.bits .andNot .u8 ((rd_T40 l0_0 x10_1).f3) 192) 64), .int .u8 ((rd_T40 l0_0 x10_1).f4)] (fun k_ => (P0_0_ k_ ∨ w.heap.size ≤ k_) ∧ k_ ≠ gb152 ∧ k_ ≠ gb157) (fun k_ => ((fun k_ => (P0_0_ k_ ∨ w.heap.size ≤ k_) ∧ k_ ≠ gb152 ∧ k_ ≠ gb157)) k_ ∧ some k_ ≠ (u3 : Value).ownBlock) rfl rfl ?aP (fun _ hk => hk) ?aF ?aO ?aB ?aS ?aL ?_; (case aP => exact (k40_mkF _ _ (⟨t158, (rd_T40 l0_0 x10_1).f1, (rd_T40 l0_0 x10_1).f2, Go.bits .or .u8 (Go.bits .andNot .u8 ((rd_T40 l0_0 x10_1).f3) 192) 64, (rd_T40 l0_0 x10_1).f4⟩ : S40) (Kd.R_reads' (Kd.R_mono (ok' := (fun k_ => ((fun k_ => (P0_0_ k_ ∨ w.heap.size ≤ k_) ∧ k_ ≠ gb152 ∧ k_ ≠ gb157)) k_ ∧ some k_ ≠ (u3 : Value).ownBlock)) (Kd.R_types (Kd.R_types (Kd.R_apart' (HO160.out) (Kd.N_typed HO_3.out) (by decide)) BK152.out (by decide)) BK157.out (by decide)) (fun k_ hk => ⟨⟨(.inr (hk.1.1.1)), ⟨hk.1.2, hk.2⟩⟩, hk.1.1.2⟩))).2.1 (Kd.R_F (Kd.R_mono (ok' := (fun k_ => ((fun k_ => (P0_0_ k_ ∨ w.heap.size ≤ k_) ∧ k_ ≠ gb152 ∧ k_ ≠ gb157)) k_ ∧ some k_ ≠ (u3 : Value).ownBlock)) (Kd.R_types (Kd.R_types (Kd.R_apart' (HO160.out) (Kd.N_typed HO_3.out) (by decide)) BK152.out (by decide)) BK157.out (by decide)) (fun k_ hk => ⟨⟨(.inr (hk.1.1.1)), ⟨hk.1.2, hk.2⟩⟩, hk.1.1.2⟩))) (Kd.V_reads' (Kd.V_mono (ok' := (fun k_ => ((fun k_ => (P0_0_ k_ ∨ w.heap.size ≤ k_) ∧ k_ ≠ gb152 ∧ k_ ≠ gb157)) k_ ∧ some k_ ≠ (u3 : Value).ownBlock)) (HL156_1.out) (fun k_ hk => ⟨⟨hk.1, ⟨hk.2.2.2.1, hk.2.2.2.2⟩⟩, hk.2.1⟩))).2.1 (Kd.V_F (Kd.V_mono (ok' := (fun k_ => ((fun k_ => (P0_0_ k_ ∨ w.heap.size ≤ k_) ∧ k_ ≠ gb152 ∧ k_ ≠ gb157)) k_ ∧ some k_ ≠ (u3 : Value).ownBlock)) (HL156_1.out) (fun k_ hk => ⟨⟨hk.1, ⟨hk.2.2.2.1, hk.2.2.2.2⟩⟩, hk.2.1⟩))))); (case aB => exact (by repeat (first | (with_reducible first | exact HB.out | apply below_alloc | apply pw_below_drewN | apply below_drew1 | refine below_set ?_ GE152.out | refine below_set ?_ GE157.out) | exact HB.out))); (case aF => exact (fun k_ hk => ⟨(.inr (Nat.le_trans (below_size (by repeat (first | (with_reducible first | exact HB.out | apply below_alloc | apply pw_below_drewN | apply below_drew1 | refine below_set ?_ GE152.out | refine below_set ?_ GE157.out) | exact HB.out))) hk)), Kd.freshB (g := gb152) (o := .cells #[.slice (some ad156) l0_0.length c0_0, .bool true, .int .u64 a0_2, .bool a0_3] 80 (0, 0)) (by (with_reducible repeat (first | refine blk_drewN ?_ _ | refine blk_drew ?_ | refine blk_alloc ?_ _)); exact BK152.out) k_ hk, Kd.freshB (g := gb157) (o := .cells #[.slice Ao17 t158.length co17, .slice A156_1 ((rd_T40 l0_0 x10_1).f1).length c156_1, .int .u64 ((rd_T40 l0_0 x10_1).f2), .int .u8 (Go.bits .or .u8 (Go.bits .andNot .u8 ((rd_T40 l0_0 x10_1).f3) 192) 64), .int .u8 ((rd_T40 l0_0 x10_1).f4)] 40 (0, 0)) (by (with_reducible repeat (first | refine blk_drewN ?_ _ | refine blk_drew ?_ | refine blk_alloc ?_ _)); exact BK157.out) k_ hk⟩)); (case aO => exact (by (with_reducible repeat (first | apply Kd.N_alloc | apply Kd.N_drewN | apply Kd.N_drew)); exact Kd.N_mono HO_3.out (fun _ hk => ⟨hk.1, ⟨hk.2.2.1, hk.2.2.2⟩⟩))); (case aS => exact (below_size (by repeat (first | (with_reducible first | exact HB.out | apply below_alloc | apply pw_below_drewN | apply below_drew1 | refine below_set ?_ GE152.out | refine below_set ?_ GE157.out) | exact HB.out)))); (case aL => have := LMc11.out; omega); intro v162 w23 ho hb hg hat; rw [← Ny161.out] at ho; have n0_ := Aside0.mk (Kd.V_afterv (ok := (fun k_ => (P0_0_ k_ ∨ w.heap.size ≤ k_) ∧ some k_ ≠ (.slice Ao17 t158.length co17 : Value).ownBlock ∧ k_ ≠ gb152 ∧ k_ ≠ gb157)) (by (with_reducible repeat (first | apply Kd.V_alloc | apply Kd.V_drewN | apply Kd.V_drew)); exact Kd.V_mono HO_8.out (fun _ hk => ⟨⟨hk.1, ⟨hk.2.2.1, ⟨hk.2.2.2.1, hk.2.2.2.2⟩⟩⟩, hk.2.1⟩)) hg hat); have n1_ := Aside0.mk (Kd.V_afterv (ok := (fun k_ => (P0_0_ k_ ∨ w.heap.size ≤ k_) ∧ some k_ ≠ (.slice Ao17 t158.length co17 : Value).ownBlock ∧ k_ ≠ gb152 ∧ k_ ≠ gb157)) (by (with_reducible repeat (first | apply Kd.V_alloc | apply Kd.V_drewN | apply Kd.V_drew)); exact Kd.V_mono HO_153000.out (fun _ hk => ⟨⟨hk.1, ⟨hk.2.2.1, ⟨hk.2.2.2.1, hk.2.2.2.2⟩⟩⟩, hk.2.1⟩)) hg hat); have n2_ := Aside0.mk (blk_grown (g := gb152) (o := .cells #[.slice (some ad156) l0_0.length c0_0, .bool true, .int .u64 a0_2, .bool a0_3] 80 (0, 0)) (by (with_reducible repeat (first | refine blk_drewN ?_ _ | refine blk_drew ?_ | refine blk_alloc ?_ _)); exact BK152.out) hg (Kd.N_ne HO_3.out BK152.out (by decide))); have n3_ := Aside0.mk (Kd.V_afterv (ok := (fun k_ => (P0_0_ k_ ∨ w.heap.size ≤ k_) ∧ some k_ ≠ (.slice Ao17 t158.length co17 : Value).ownBlock ∧ k_ ≠ gb152 ∧ k_ ≠ gb157)) (by (with_reducible repeat (first | apply Kd.V_alloc | apply Kd.V_drewN | apply Kd.V_drew)); exact Kd.V_mono HL156_0.out (fun _ hk => ⟨⟨hk.1, ⟨hk.2.2.1, ⟨hk.2.2.2.1, hk.2.2.2.2⟩⟩⟩, hk.2.1⟩)) hg hat); have n4_ := Aside0.mk (Kd.V_afterv (ok := (fun k_ => (P0_0_ k_ ∨ w.heap.size ≤ k_) ∧ some k_ ≠ (.slice Ao17 t158.length co17 : Value).ownBlock ∧ k_ ≠ gb152 ∧ k_ ≠ gb157)) (by (with_reducible repeat (first | apply Kd.V_alloc | apply Kd.V_drewN | apply Kd.V_drew)); exact Kd.V_mono HL156_1.out (fun _ hk => ⟨⟨hk.1, ⟨hk.2.2.1, ⟨hk.2.2.2.1, hk.2.2.2.2⟩⟩⟩, hk.2.1⟩)) hg hat); have n5_ := Aside0.mk (blk_grown (g := gb157) (o := .cells #[.slice Ao17 t158.length co17, .slice A156_1 ((rd_T40 l0_0 x10_1).f1).length c156_1, .int .u64 ((rd_T40 l0_0 x10_1).f2), .int .u8 (Go.bits .or .u8 (Go.bits .andNot .u8 ((rd_T40 l0_0 x10_1).f3) 192) 64), .int .u8 ((rd_T40 l0_0 x10_1).f4)] 40 (0, 0)) (by (with_reducible repeat (first | refine blk_drewN ?_ _ | refine blk_drew ?_ | refine blk_alloc ?_ _)); exact BK157.out) hg (Kd.N_away HO_3.out (fun _ hk => hk.2.2.2))); have n6_ := Aside0.mk (hb); have n7_ := Aside0.mk (ho); clear HO_8; clear HO_153000; clear BK152; clear HL156_0; clear HL156_1; clear BK157; clear HB; clear HO_3; clear HO160; have HO_8 := n0_; have HO_153000 := n1_; have BK152 := n2_; have HL156_0 := n3_; have HL156_1 := n4_; have BK157 := n5_; have HB := n6_; have HO163 := n7_; clear n0_ n1_ n2_ n3_ n4_ n5_ n6_ n7_; clear ho hb hg hat))
                go_roundg k1
                case measure => have := HK1.out; omega
                case rel => exact ⟨(y161), (wrap64 (x10_1 + 1)), (by first | rfl | (simp; done) | (simp [*]; done)), H', ⟨by have := HK1.out; omega⟩, ⟨by (with_reducible repeat (first | apply Kd.N_alloc | apply Kd.N_drewN | apply Kd.N_drew)); exact Kd.N_mono HO163.out (fun _ hk => ⟨hk.1, hk.2.1⟩)⟩, ⟨by (with_reducible repeat (first | apply Kd.V_alloc | apply Kd.V_drewN | apply Kd.V_drew)); exact Kd.V_mono HO_8.out (fun _ hk => ⟨hk.1.1, ⟨hk.2, hk.1.2.2.1⟩⟩)⟩, ⟨by (with_reducible repeat (first | apply Kd.V_alloc | apply Kd.V_drewN | apply Kd.V_drew)); exact Kd.V_mono HO_153000.out (fun _ hk => ⟨hk.1.1, ⟨hk.2, hk.1.2.2.1⟩⟩)⟩, ⟨by (with_reducible repeat (first | refine blk_drewN ?_ _ | refine blk_drew ?_ | refine blk_alloc ?_ _)); exact BK152.out⟩, ⟨by repeat (first | (with_reducible first | exact HB.out | apply below_alloc | apply pw_below_drewN | apply below_drew1 | refine below_set ?_ GE152.out | refine below_set ?_ GE157.out) | exact HB.out)⟩⟩
              · rw [if_neg c11] at H
                exact absurd H (by simp)
            · replace c9 := Bool.eq_false_iff.mpr c9
              subst c9
              have H1 : (if x3_1.length < 2199023255552 then (spec_Unit_written.l0 k1 (x3_1 ++ [(⟨(rd_T40 l0_0 x10_1).f0, (rd_T40 l0_0 x10_1).f1, (rd_T40 l0_0 x10_1).f2, Go.bits .andNot .u8 ((rd_T40 l0_0 x10_1).f3) 192, (rd_T40 l0_0 x10_1).f4⟩ : S40)]) l0_0 (l0_0.length : Int) (wrap64 (x10_1 + 1)) l0_0 false a0_2 a0_3) else (none)) = some r := by rw [if_neg (show ¬ (false = true) by decide)] at H; exact H
              clear H
              have H := H1
              clear H1
              by_cases c24 : x3_1.length < 2199023255552
              · rw [if_pos c24] at H
                have LMc24 := Aside0.mk c24
                clear c24
                obtain ⟨y164, hy164⟩ : ∃ y_ : List (S40), y_ = (x3_1 ++ [(⟨(rd_T40 l0_0 x10_1).f0, (rd_T40 l0_0 x10_1).f1, (rd_T40 l0_0 x10_1).f2, Go.bits .andNot .u8 ((rd_T40 l0_0 x10_1).f3) 192, (rd_T40 l0_0 x10_1).f4⟩ : S40)]) := ⟨_, rfl⟩
                replace H : (spec_Unit_written.l0 k1 y164 l0_0 (l0_0.length : Int) (wrap64 (x10_1 + 1)) l0_0 false a0_2 a0_3) = some r := by first | (rw [hy164]; with_reducible exact H) | (have H2_ := (Option.bind_some _ _).symm.trans H; rw [hy164]; with_reducible exact H2_) | (have H2_ := (Option.bind_some _ _).symm.trans H; with_reducible exact H2_) | with_reducible exact H | (rw [hy164]; exact H) | exact H
                have Ny164 := Aside0.mk hy164
                clear hy164
                have H' := Aside0.mk H
                clear H
                have p156 : 0 ≤ (x10_1 : Int) := of_decide_eq_true (by first | (with_reducible assumption) | assumption)
                have q156 : x10_1 < (l0_0.length : Int) := of_decide_eq_true (by first | (with_reducible assumption) | assumption)
                obtain ⟨ad156, A156_0, c156_0, A156_1, c156_1, e156, hx156_0, hx156_1, hx156_2, hx156_3, hx156_4, hl156_0, hi156_0, hl156_1, hi156_1⟩ := at_T40 (Kd.V_reads' HO_8.out).2.2 x10_1 p156 q156
                cases e156
                obtain ⟨ce156, hce156, hMe156, hcc156⟩ := Kd.V_get HO_8.out z40 x10_1 p156 (by first | exact q156 | exact of_decide_eq_true (by first | (with_reducible assumption) | assumption) | (have e_ := (Kd.V_reads' HO_8.out).1; omega))
                obtain ⟨ua156_0, uc156_0, ua156_1, uc156_1, rfl, ul156_0, ge156_0, ul156_1, ge156_1⟩ := k40_openF hMe156
                have hv156_0 := hcc156 0 _ rfl
                rw [Nat.add_zero] at hv156_0
                replace hv156_0 := Option.some.inj (hv156_0.symm.trans hx156_0)
                injection hv156_0 with hva_ hvn_ hvc_
                rw [hva_] at ge156_0
                rw [hvc_] at ul156_0
                have HL156_0 := Aside0.mk (show Kd.V (Kd.int .u8) 5 _ w.heap.size _ _ ((rd_T40 l0_0 x10_1).f0) from Kd.V_mk ul156_0 ge156_0)
                clear hva_ hvn_ hvc_ ge156_0 ul156_0
                have hv156_1 := hcc156 1 _ rfl
                rw [add_field _ _ 1 (by omega)] at hv156_1
                replace hv156_1 := Option.some.inj (hv156_1.symm.trans hx156_1)
                injection hv156_1 with hva_ hvn_ hvc_
                rw [hva_] at ge156_1
                rw [hvc_] at ul156_1
                have HL156_1 := Aside0.mk (show Kd.V (Kd.int .u8) 5 _ w.heap.size _ _ ((rd_T40 l0_0 x10_1).f1) from Kd.V_mk ul156_1 ge156_1)
                clear hva_ hvn_ hvc_ ge156_1 ul156_1
                clear hcc156 hce156
                have HR156_0 := Aside0.mk hi156_0
                have HC156_0 := Aside0.mk hl156_0
                clear hi156_0 hl156_0
                have HR156_1 := Aside0.mk hi156_1
                have HC156_1 := Aside0.mk hl156_1
                clear hi156_1 hl156_1
                replace p156 := eq_true p156
                replace q156 := eq_true q156
                go_wp2_with (first | ((with_reducible refine gate_dst (N := 5) rfl ?_); refine box_event ?hg (N := 5) ?hd (cs := #[.slice none 0 0, .slice none 0 0, .int .u64 0, .int .u8 0, .int .u8 0]) (t := 40) ?hr ?_; (case hd => rfl); (case hg => rfl); (case hr => first | (go_simp; done) | (go_simp; rfl)); intro gb157 hg w25 hbox hb; have n0_ := Aside0.mk (Kd.N_below (Kd.N_elderB (by (with_reducible repeat (first | apply Kd.N_alloc | apply Kd.N_drewN | apply Kd.N_drew)); exact HO_3.out) gb157 (Nat.le_of_eq hg.symm)) hb); have n1_ := Aside0.mk (Kd.V_below (Kd.V_elderB (by (with_reducible repeat (first | apply Kd.V_alloc | apply Kd.V_drewN | apply Kd.V_drew)); exact HO_8.out) gb157 (Nat.le_of_eq hg.symm)) hb); have n2_ := Aside0.mk (Kd.V_below (Kd.V_elderB (by (with_reducible repeat (first | apply Kd.V_alloc | apply Kd.V_drewN | apply Kd.V_drew)); exact HO_153000.out) gb157 (Nat.le_of_eq hg.symm)) hb); have n3_ := Aside0.mk (Kd.V_below (Kd.V_elderB (by (with_reducible repeat (first | apply Kd.V_alloc | apply Kd.V_drewN | apply Kd.V_drew)); exact HL156_0.out) gb157 (Nat.le_of_eq hg.symm)) hb); have n4_ := Aside0.mk (Kd.V_below (Kd.V_elderB (by (with_reducible repeat (first | apply Kd.V_alloc | apply Kd.V_drewN | apply Kd.V_drew)); exact HL156_1.out) gb157 (Nat.le_of_eq hg.symm)) hb); have n5_ := Aside0.mk (blk_below (g := gb152) (o := .cells #[.slice (some ad156) l0_0.length c0_0, .bool false, .int .u64 a0_2, .bool a0_3] 80 (0, 0)) (by (with_reducible repeat (first | refine blk_drewN ?_ _ | refine blk_drew ?_ | refine blk_alloc ?_ _)); exact BK152.out) hb); have n6_ := Aside0.mk (Kd.C_below (by repeat (first | (with_reducible exact HR156_0.out) | (with_reducible refine Kd.C_alloc ?_ _) | (with_reducible refine Kd.C_drewN ?_ _) | (with_reducible refine Kd.C_drew ?_) | exact HR156_0.out)) hb); have n7_ := Aside0.mk (Kd.C_below (by repeat (first | (with_reducible exact HR156_1.out) | (with_reducible refine Kd.C_alloc ?_ _) | (with_reducible refine Kd.C_drewN ?_ _) | (with_reducible refine Kd.C_drew ?_) | exact HR156_1.out)) hb); have n8_ := Aside0.mk (below_step (by repeat (first | (with_reducible first | exact HB.out | apply below_alloc | apply pw_below_drewN | apply below_drew1 | refine below_set ?_ GE152.out) | exact HB.out)) hb); have n9_ := Aside0.mk (hbox); have n10_ := Aside0.mk ((by rw [hg]; exact (below_size (by repeat (first | (with_reducible first | exact HB.out | apply below_alloc | apply pw_below_drewN | apply below_drew1 | refine below_set ?_ GE152.out) | exact HB.out))) : w.heap.size ≤ gb157)); have n11_ := Aside0.mk ((by rw [hg]; exact (below_size (by repeat (first | (with_reducible first | exact HB.out | apply below_alloc | apply pw_below_drewN | apply below_drew1 | refine below_set ?_ GE152.out) | exact HB.out))) : w.heap.size ≤ gb157)); have n12_ := Aside0.mk ((by rw [hg]; exact Nat.ne_of_lt (blk_lt (g := gb152) (o := .cells #[.slice (some ad156) l0_0.length c0_0, .bool false, .int .u64 a0_2, .bool a0_3] 80 (0, 0)) (by (with_reducible repeat (first | refine blk_drewN ?_ _ | refine blk_drew ?_ | refine blk_alloc ?_ _)); exact BK152.out)) : gb152 ≠ gb157)); have n13_ := Aside0.mk ((by rw [hg]; exact Nat.ne_of_gt (blk_lt (g := gb152) (o := .cells #[.slice (some ad156) l0_0.length c0_0, .bool false, .int .u64 a0_2, .bool a0_3] 80 (0, 0)) (by (with_reducible repeat (first | refine blk_drewN ?_ _ | refine blk_drew ?_ | refine blk_alloc ?_ _)); exact BK152.out)) : gb157 ≠ gb152)); clear HO_3; clear HO_8; clear HO_153000; clear HL156_0; clear HL156_1; clear BK152; clear HR156_0; clear HR156_1; clear HB; have HO_3 := n0_; have HO_8 := n1_; have HO_153000 := n2_; have HL156_0 := n3_; have HL156_1 := n4_; have BK152 := n5_; have HR156_0 := n6_; have HR156_1 := n7_; have HB := n8_; have BK157 := n9_; have GW157 := n10_; have GE157 := n11_; have NB152_157 := n12_; have NB157_152 := n13_; clear n0_ n1_ n2_ n3_ n4_ n5_ n6_ n7_ n8_ n9_ n10_ n11_ n12_ n13_; clear hb hbox hg; have hnb26 := NB157_152.out; have hnc26 := NB152_157.out; have hcz27_0 : w25.cell? ⟨gb157, 0, none⟩ = some (.slice none 0 0) := (blk_cell BK157.out 0).trans rfl; have hcz27_1 : w25.cell? ⟨gb157, 1, none⟩ = some (.slice none 0 0) := (blk_cell BK157.out 1).trans rfl; have hcz27_2 : w25.cell? ⟨gb157, 2, none⟩ = some (.int .u64 0) := (blk_cell BK157.out 2).trans rfl; have hcz27_3 : w25.cell? ⟨gb157, 3, none⟩ = some (.int .u8 0) := (blk_cell BK157.out 3).trans rfl; have hcz27_4 : w25.cell? ⟨gb157, 4, none⟩ = some (.int .u8 0) := (blk_cell BK157.out 4).trans rfl; have hfz27_0 := blk_frozen BK157.out 0; have hfz27_1 := blk_frozen BK157.out 1; have hfz27_2 := blk_frozen BK157.out 2; have hfz27_3 := blk_frozen BK157.out 3; have hfz27_4 := blk_frozen BK157.out 4) | ((with_reducible refine gate_store (t := 40) (p := 5) rfl ?_); refine store_event (t := 40) (p := 5) (v := ?vo_w28) (w1 := (((((w25.setCell ⟨gb157, 0, none⟩ (.slice A156_0 ((rd_T40 l0_0 x10_1).f0).length c156_0)).setCell ⟨gb157, 1, none⟩ (.slice A156_1 ((rd_T40 l0_0 x10_1).f1).length c156_1)).setCell ⟨gb157, 2, none⟩ (.int .u64 ((rd_T40 l0_0 x10_1).f2))).setCell ⟨gb157, 3, none⟩ (.int .u8 ((rd_T40 l0_0 x10_1).f3))).setCell ⟨gb157, 4, none⟩ (.int .u8 ((rd_T40 l0_0 x10_1).f4)))) ?hg ?ho ?hn ?hr ?_; (case ho => rfl); (case hg => rfl); (case hn => rfl); (case hr => first | (go_simp; done) | (go_simp; rfl)); intro w28 hw; have n0_ : Aside0 (Kd.N k40 40 w28 w.heap.size (fun k_ => (P0_0_ k_ ∨ w.heap.size ≤ k_) ∧ k_ ≠ gb152 ∧ k_ ≠ gb157) u3 x3_1) := ⟨(by rw [hw]; exact (by (with_reducible repeat (first | apply Kd.N_alloc | apply Kd.N_drewN | apply Kd.N_drew)); exact Kd.N_mono (Kd.N_far (p := ⟨gb157, 4, none⟩) (Kd.N_far (p := ⟨gb157, 3, none⟩) (Kd.N_far (p := ⟨gb157, 2, none⟩) (Kd.N_far (p := ⟨gb157, 1, none⟩) (Kd.N_far (p := ⟨gb157, 0, none⟩) (Kd.N_mono HO_3.out (fun k_ hk => (⟨hk, hk.2⟩ : _ ∧ k_ ≠ gb157))) (fun _ hk => hk.2) (.slice A156_0 ((rd_T40 l0_0 x10_1).f0).length c156_0)) (fun _ hk => hk.2) (.slice A156_1 ((rd_T40 l0_0 x10_1).f1).length c156_1)) (fun _ hk => hk.2) (.int .u64 ((rd_T40 l0_0 x10_1).f2))) (fun _ hk => hk.2) (.int .u8 ((rd_T40 l0_0 x10_1).f3))) (fun _ hk => hk.2) (.int .u8 ((rd_T40 l0_0 x10_1).f4))) (fun _ hk => ⟨hk.1.1.1, ⟨hk.1.1.2, hk.1.2⟩⟩)))⟩; have n1_ : Aside0 (Kd.V k40 40 w28 w.heap.size (fun k_ => (P0_0_ k_ ∨ w.heap.size ≤ k_) ∧ some k_ ≠ (u3 : Value).ownBlock ∧ k_ ≠ gb152 ∧ k_ ≠ gb157) (.slice (some ad156) l0_0.length c0_0) l0_0) := ⟨(by rw [hw]; exact (by (with_reducible repeat (first | apply Kd.V_alloc | apply Kd.V_drewN | apply Kd.V_drew)); exact Kd.V_mono (Kd.V_far (p := ⟨gb157, 4, none⟩) (Kd.V_far (p := ⟨gb157, 3, none⟩) (Kd.V_far (p := ⟨gb157, 2, none⟩) (Kd.V_far (p := ⟨gb157, 1, none⟩) (Kd.V_far (p := ⟨gb157, 0, none⟩) (Kd.V_mono HO_8.out (fun k_ hk => (⟨hk, hk.2⟩ : _ ∧ k_ ≠ gb157))) (fun _ hk => hk.2) (.slice A156_0 ((rd_T40 l0_0 x10_1).f0).length c156_0)) (fun _ hk => hk.2) (.slice A156_1 ((rd_T40 l0_0 x10_1).f1).length c156_1)) (fun _ hk => hk.2) (.int .u64 ((rd_T40 l0_0 x10_1).f2))) (fun _ hk => hk.2) (.int .u8 ((rd_T40 l0_0 x10_1).f3))) (fun _ hk => hk.2) (.int .u8 ((rd_T40 l0_0 x10_1).f4))) (fun _ hk => ⟨hk.1.1.1, ⟨hk.1.1.2.1, ⟨hk.1.1.2.2, hk.1.2⟩⟩⟩)))⟩; have n2_ : Aside0 (Kd.V k40 40 w28 w.heap.size (fun k_ => (P0_0_ k_ ∨ w.heap.size ≤ k_) ∧ some k_ ≠ (u3 : Value).ownBlock ∧ k_ ≠ gb152 ∧ k_ ≠ gb157) (.slice (some ad156) l0_0.length c0_0) l0_0) := ⟨(by rw [hw]; exact (by (with_reducible repeat (first | apply Kd.V_alloc | apply Kd.V_drewN | apply Kd.V_drew)); exact Kd.V_mono (Kd.V_far (p := ⟨gb157, 4, none⟩) (Kd.V_far (p := ⟨gb157, 3, none⟩) (Kd.V_far (p := ⟨gb157, 2, none⟩) (Kd.V_far (p := ⟨gb157, 1, none⟩) (Kd.V_far (p := ⟨gb157, 0, none⟩) (Kd.V_mono HO_153000.out (fun k_ hk => (⟨hk, hk.2⟩ : _ ∧ k_ ≠ gb157))) (fun _ hk => hk.2) (.slice A156_0 ((rd_T40 l0_0 x10_1).f0).length c156_0)) (fun _ hk => hk.2) (.slice A156_1 ((rd_T40 l0_0 x10_1).f1).length c156_1)) (fun _ hk => hk.2) (.int .u64 ((rd_T40 l0_0 x10_1).f2))) (fun _ hk => hk.2) (.int .u8 ((rd_T40 l0_0 x10_1).f3))) (fun _ hk => hk.2) (.int .u8 ((rd_T40 l0_0 x10_1).f4))) (fun _ hk => ⟨hk.1.1.1, ⟨hk.1.1.2.1, ⟨hk.1.1.2.2, hk.1.2⟩⟩⟩)))⟩; have n3_ : Aside0 (Kd.V (Kd.int .u8) 5 w28 w.heap.size (fun k_ => (P0_0_ k_ ∨ w.heap.size ≤ k_) ∧ some k_ ≠ (u3 : Value).ownBlock ∧ k_ ≠ gb152 ∧ k_ ≠ gb157) (.slice A156_0 ((rd_T40 l0_0 x10_1).f0).length c156_0) ((rd_T40 l0_0 x10_1).f0)) := ⟨(by rw [hw]; exact (by (with_reducible repeat (first | apply Kd.V_alloc | apply Kd.V_drewN | apply Kd.V_drew)); exact Kd.V_mono (Kd.V_far (p := ⟨gb157, 4, none⟩) (Kd.V_far (p := ⟨gb157, 3, none⟩) (Kd.V_far (p := ⟨gb157, 2, none⟩) (Kd.V_far (p := ⟨gb157, 1, none⟩) (Kd.V_far (p := ⟨gb157, 0, none⟩) (Kd.V_mono HL156_0.out (fun k_ hk => (⟨hk, hk.2⟩ : _ ∧ k_ ≠ gb157))) (fun _ hk => hk.2) (.slice A156_0 ((rd_T40 l0_0 x10_1).f0).length c156_0)) (fun _ hk => hk.2) (.slice A156_1 ((rd_T40 l0_0 x10_1).f1).length c156_1)) (fun _ hk => hk.2) (.int .u64 ((rd_T40 l0_0 x10_1).f2))) (fun _ hk => hk.2) (.int .u8 ((rd_T40 l0_0 x10_1).f3))) (fun _ hk => hk.2) (.int .u8 ((rd_T40 l0_0 x10_1).f4))) (fun _ hk => ⟨hk.1.1.1, ⟨hk.1.1.2.1, ⟨hk.1.1.2.2, hk.1.2⟩⟩⟩)))⟩; have n4_ : Aside0 (Kd.V (Kd.int .u8) 5 w28 w.heap.size (fun k_ => (P0_0_ k_ ∨ w.heap.size ≤ k_) ∧ some k_ ≠ (u3 : Value).ownBlock ∧ k_ ≠ gb152 ∧ k_ ≠ gb157) (.slice A156_1 ((rd_T40 l0_0 x10_1).f1).length c156_1) ((rd_T40 l0_0 x10_1).f1)) := ⟨(by rw [hw]; exact (by (with_reducible repeat (first | apply Kd.V_alloc | apply Kd.V_drewN | apply Kd.V_drew)); exact Kd.V_mono (Kd.V_far (p := ⟨gb157, 4, none⟩) (Kd.V_far (p := ⟨gb157, 3, none⟩) (Kd.V_far (p := ⟨gb157, 2, none⟩) (Kd.V_far (p := ⟨gb157, 1, none⟩) (Kd.V_far (p := ⟨gb157, 0, none⟩) (Kd.V_mono HL156_1.out (fun k_ hk => (⟨hk, hk.2⟩ : _ ∧ k_ ≠ gb157))) (fun _ hk => hk.2) (.slice A156_0 ((rd_T40 l0_0 x10_1).f0).length c156_0)) (fun _ hk => hk.2) (.slice A156_1 ((rd_T40 l0_0 x10_1).f1).length c156_1)) (fun _ hk => hk.2) (.int .u64 ((rd_T40 l0_0 x10_1).f2))) (fun _ hk => hk.2) (.int .u8 ((rd_T40 l0_0 x10_1).f3))) (fun _ hk => hk.2) (.int .u8 ((rd_T40 l0_0 x10_1).f4))) (fun _ hk => ⟨hk.1.1.1, ⟨hk.1.1.2.1, ⟨hk.1.1.2.2, hk.1.2⟩⟩⟩)))⟩; have n5_ : Aside0 (w28.heap[gb152]? = some (.cells #[.slice (some ad156) l0_0.length c0_0, .bool false, .int .u64 a0_2, .bool a0_3] 80 (0, 0))) := ⟨(by rw [hw]; exact (by (with_reducible repeat (first | refine blk_drewN ?_ _ | refine blk_drew ?_ | refine blk_alloc ?_ _)); refine blk_far ?_ NB152_157.out _; (with_reducible repeat (first | refine blk_drewN ?_ _ | refine blk_drew ?_ | refine blk_alloc ?_ _)); refine blk_far ?_ NB152_157.out _; (with_reducible repeat (first | refine blk_drewN ?_ _ | refine blk_drew ?_ | refine blk_alloc ?_ _)); refine blk_far ?_ NB152_157.out _; (with_reducible repeat (first | refine blk_drewN ?_ _ | refine blk_drew ?_ | refine blk_alloc ?_ _)); refine blk_far ?_ NB152_157.out _; (with_reducible repeat (first | refine blk_drewN ?_ _ | refine blk_drew ?_ | refine blk_alloc ?_ _)); refine blk_far ?_ NB152_157.out _; (with_reducible repeat (first | refine blk_drewN ?_ _ | refine blk_drew ?_ | refine blk_alloc ?_ _)); exact BK152.out))⟩; have n6_ : Aside0 (w28.heap[gb157]? = some (.cells #[.slice A156_0 ((rd_T40 l0_0 x10_1).f0).length c156_0, .slice A156_1 ((rd_T40 l0_0 x10_1).f1).length c156_1, .int .u64 ((rd_T40 l0_0 x10_1).f2), .int .u8 ((rd_T40 l0_0 x10_1).f3), .int .u8 ((rd_T40 l0_0 x10_1).f4)] 40 (0, 0))) := ⟨(by rw [hw]; exact (by (with_reducible repeat (first | refine blk_drewN ?_ _ | refine blk_drew ?_ | refine blk_alloc ?_ _)); refine blk_put (cs := #[.slice A156_0 ((rd_T40 l0_0 x10_1).f0).length c156_0, .slice A156_1 ((rd_T40 l0_0 x10_1).f1).length c156_1, .int .u64 ((rd_T40 l0_0 x10_1).f2), .int .u8 ((rd_T40 l0_0 x10_1).f3), .int .u8 0]) ?_ 4 _ rfl; (with_reducible repeat (first | refine blk_drewN ?_ _ | refine blk_drew ?_ | refine blk_alloc ?_ _)); refine blk_put (cs := #[.slice A156_0 ((rd_T40 l0_0 x10_1).f0).length c156_0, .slice A156_1 ((rd_T40 l0_0 x10_1).f1).length c156_1, .int .u64 ((rd_T40 l0_0 x10_1).f2), .int .u8 0, .int .u8 0]) ?_ 3 _ rfl; (with_reducible repeat (first | refine blk_drewN ?_ _ | refine blk_drew ?_ | refine blk_alloc ?_ _)); refine blk_put (cs := #[.slice A156_0 ((rd_T40 l0_0 x10_1).f0).length c156_0, .slice A156_1 ((rd_T40 l0_0 x10_1).f1).length c156_1, .int .u64 0, .int .u8 0, .int .u8 0]) ?_ 2 _ rfl; (with_reducible repeat (first | refine blk_drewN ?_ _ | refine blk_drew ?_ | refine blk_alloc ?_ _)); refine blk_put (cs := #[.slice A156_0 ((rd_T40 l0_0 x10_1).f0).length c156_0, .slice none 0 0, .int .u64 0, .int .u8 0, .int .u8 0]) ?_ 1 _ rfl; (with_reducible repeat (first | refine blk_drewN ?_ _ | refine blk_drew ?_ | refine blk_alloc ?_ _)); refine blk_put (cs := #[.slice none 0 0, .slice none 0 0, .int .u64 0, .int .u8 0, .int .u8 0]) ?_ 0 _ rfl; (with_reducible repeat (first | refine blk_drewN ?_ _ | refine blk_drew ?_ | refine blk_alloc ?_ _)); exact BK157.out))⟩; have n7_ : Aside0 (Below w.heap.size w w28) := ⟨(by rw [hw]; exact (by repeat (first | (with_reducible first | exact HB.out | apply below_alloc | apply pw_below_drewN | apply below_drew1 | refine below_set ?_ GE152.out | refine below_set ?_ GE157.out) | exact HB.out)))⟩; clear hw; clear HO_3; clear HO_8; clear HO_153000; clear HL156_0; clear HL156_1; clear BK152; clear BK157; clear HB; have HO_3 := n0_; have HO_8 := n1_; have HO_153000 := n2_; have HL156_0 := n3_; have HL156_1 := n4_; have BK152 := n5_; have BK157 := n6_; have HB := n7_; clear n0_ n1_ n2_ n3_ n4_ n5_ n6_ n7_; have hcz29_0 : w28.cell? ⟨gb157, 0, none⟩ = some (.slice A156_0 ((rd_T40 l0_0 x10_1).f0).length c156_0) := (blk_cell BK157.out 0).trans rfl; have hcz29_1 : w28.cell? ⟨gb157, 1, none⟩ = some (.slice A156_1 ((rd_T40 l0_0 x10_1).f1).length c156_1) := (blk_cell BK157.out 1).trans rfl; have hcz29_2 : w28.cell? ⟨gb157, 2, none⟩ = some (.int .u64 ((rd_T40 l0_0 x10_1).f2)) := (blk_cell BK157.out 2).trans rfl; have hcz29_3 : w28.cell? ⟨gb157, 3, none⟩ = some (.int .u8 ((rd_T40 l0_0 x10_1).f3)) := (blk_cell BK157.out 3).trans rfl; have hcz29_4 : w28.cell? ⟨gb157, 4, none⟩ = some (.int .u8 ((rd_T40 l0_0 x10_1).f4)) := (blk_cell BK157.out 4).trans rfl; have hfz29_0 := blk_frozen BK157.out 0; have hfz29_1 := blk_frozen BK157.out 1; have hfz29_2 := blk_frozen BK157.out 2; have hfz29_3 := blk_frozen BK157.out 3; have hfz29_4 := blk_frozen BK157.out 4) | ((with_reducible refine gate_store (t := 5) (p := 17) rfl ?_); refine store_event (t := 5) (p := 17) (v := ?vo_w30) (w1 := (w28.setCell ⟨gb157, 3, none⟩ (.int .u8 (Go.bits .andNot .u8 ((rd_T40 l0_0 x10_1).f3) 192)))) ?hg ?ho ?hn ?hr ?_; (case ho => rfl); (case hg => rfl); (case hn => rfl); (case hr => first | (go_simp; done) | (go_simp; rfl)); intro w30 hw; have n0_ : Aside0 (Kd.N k40 40 w30 w.heap.size (fun k_ => (P0_0_ k_ ∨ w.heap.size ≤ k_) ∧ k_ ≠ gb152 ∧ k_ ≠ gb157) u3 x3_1) := ⟨(by rw [hw]; exact (by (with_reducible repeat (first | apply Kd.N_alloc | apply Kd.N_drewN | apply Kd.N_drew)); exact Kd.N_mono (Kd.N_far (p := ⟨gb157, 3, none⟩) (Kd.N_mono HO_3.out (fun k_ hk => (⟨hk, hk.2.2⟩ : _ ∧ k_ ≠ gb157))) (fun _ hk => hk.2) (.int .u8 (Go.bits .andNot .u8 ((rd_T40 l0_0 x10_1).f3) 192))) (fun _ hk => ⟨hk.1.1, ⟨hk.1.2.1, hk.1.2.2⟩⟩)))⟩; have n1_ : Aside0 (Kd.V k40 40 w30 w.heap.size (fun k_ => (P0_0_ k_ ∨ w.heap.size ≤ k_) ∧ some k_ ≠ (u3 : Value).ownBlock ∧ k_ ≠ gb152 ∧ k_ ≠ gb157) (.slice (some ad156) l0_0.length c0_0) l0_0) := ⟨(by rw [hw]; exact (by (with_reducible repeat (first | apply Kd.V_alloc | apply Kd.V_drewN | apply Kd.V_drew)); exact Kd.V_mono (Kd.V_far (p := ⟨gb157, 3, none⟩) (Kd.V_mono HO_8.out (fun k_ hk => (⟨hk, hk.2.2.2⟩ : _ ∧ k_ ≠ gb157))) (fun _ hk => hk.2) (.int .u8 (Go.bits .andNot .u8 ((rd_T40 l0_0 x10_1).f3) 192))) (fun _ hk => ⟨hk.1.1, ⟨hk.1.2.1, ⟨hk.1.2.2.1, hk.1.2.2.2⟩⟩⟩)))⟩; have n2_ : Aside0 (Kd.V k40 40 w30 w.heap.size (fun k_ => (P0_0_ k_ ∨ w.heap.size ≤ k_) ∧ some k_ ≠ (u3 : Value).ownBlock ∧ k_ ≠ gb152 ∧ k_ ≠ gb157) (.slice (some ad156) l0_0.length c0_0) l0_0) := ⟨(by rw [hw]; exact (by (with_reducible repeat (first | apply Kd.V_alloc | apply Kd.V_drewN | apply Kd.V_drew)); exact Kd.V_mono (Kd.V_far (p := ⟨gb157, 3, none⟩) (Kd.V_mono HO_153000.out (fun k_ hk => (⟨hk, hk.2.2.2⟩ : _ ∧ k_ ≠ gb157))) (fun _ hk => hk.2) (.int .u8 (Go.bits .andNot .u8 ((rd_T40 l0_0 x10_1).f3) 192))) (fun _ hk => ⟨hk.1.1, ⟨hk.1.2.1, ⟨hk.1.2.2.1, hk.1.2.2.2⟩⟩⟩)))⟩; have n3_ : Aside0 (Kd.V (Kd.int .u8) 5 w30 w.heap.size (fun k_ => (P0_0_ k_ ∨ w.heap.size ≤ k_) ∧ some k_ ≠ (u3 : Value).ownBlock ∧ k_ ≠ gb152 ∧ k_ ≠ gb157) (.slice A156_0 ((rd_T40 l0_0 x10_1).f0).length c156_0) ((rd_T40 l0_0 x10_1).f0)) := ⟨(by rw [hw]; exact (by (with_reducible repeat (first | apply Kd.V_alloc | apply Kd.V_drewN | apply Kd.V_drew)); exact Kd.V_mono (Kd.V_far (p := ⟨gb157, 3, none⟩) (Kd.V_mono HL156_0.out (fun k_ hk => (⟨hk, hk.2.2.2⟩ : _ ∧ k_ ≠ gb157))) (fun _ hk => hk.2) (.int .u8 (Go.bits .andNot .u8 ((rd_T40 l0_0 x10_1).f3) 192))) (fun _ hk => ⟨hk.1.1, ⟨hk.1.2.1, ⟨hk.1.2.2.1, hk.1.2.2.2⟩⟩⟩)))⟩; have n4_ : Aside0 (Kd.V (Kd.int .u8) 5 w30 w.heap.size (fun k_ => (P0_0_ k_ ∨ w.heap.size ≤ k_) ∧ some k_ ≠ (u3 : Value).ownBlock ∧ k_ ≠ gb152 ∧ k_ ≠ gb157) (.slice A156_1 ((rd_T40 l0_0 x10_1).f1).length c156_1) ((rd_T40 l0_0 x10_1).f1)) := ⟨(by rw [hw]; exact (by (with_reducible repeat (first | apply Kd.V_alloc | apply Kd.V_drewN | apply Kd.V_drew)); exact Kd.V_mono (Kd.V_far (p := ⟨gb157, 3, none⟩) (Kd.V_mono HL156_1.out (fun k_ hk => (⟨hk, hk.2.2.2⟩ : _ ∧ k_ ≠ gb157))) (fun _ hk => hk.2) (.int .u8 (Go.bits .andNot .u8 ((rd_T40 l0_0 x10_1).f3) 192))) (fun _ hk => ⟨hk.1.1, ⟨hk.1.2.1, ⟨hk.1.2.2.1, hk.1.2.2.2⟩⟩⟩)))⟩; have n5_ : Aside0 (w30.heap[gb152]? = some (.cells #[.slice (some ad156) l0_0.length c0_0, .bool false, .int .u64 a0_2, .bool a0_3] 80 (0, 0))) := ⟨(by rw [hw]; exact (by (with_reducible repeat (first | refine blk_drewN ?_ _ | refine blk_drew ?_ | refine blk_alloc ?_ _)); refine blk_far ?_ NB152_157.out _; (with_reducible repeat (first | refine blk_drewN ?_ _ | refine blk_drew ?_ | refine blk_alloc ?_ _)); exact BK152.out))⟩; have n6_ : Aside0 (w30.heap[gb157]? = some (.cells #[.slice A156_0 ((rd_T40 l0_0 x10_1).f0).length c156_0, .slice A156_1 ((rd_T40 l0_0 x10_1).f1).length c156_1, .int .u64 ((rd_T40 l0_0 x10_1).f2), .int .u8 (Go.bits .andNot .u8 ((rd_T40 l0_0 x10_1).f3) 192), .int .u8 ((rd_T40 l0_0 x10_1).f4)] 40 (0, 0))) := ⟨(by rw [hw]; exact (by (with_reducible repeat (first | refine blk_drewN ?_ _ | refine blk_drew ?_ | refine blk_alloc ?_ _)); refine blk_put (cs := #[.slice A156_0 ((rd_T40 l0_0 x10_1).f0).length c156_0, .slice A156_1 ((rd_T40 l0_0 x10_1).f1).length c156_1, .int .u64 ((rd_T40 l0_0 x10_1).f2), .int .u8 ((rd_T40 l0_0 x10_1).f3), .int .u8 ((rd_T40 l0_0 x10_1).f4)]) ?_ 3 _ rfl; (with_reducible repeat (first | refine blk_drewN ?_ _ | refine blk_drew ?_ | refine blk_alloc ?_ _)); exact BK157.out))⟩; have n7_ : Aside0 (Below w.heap.size w w30) := ⟨(by rw [hw]; exact (by repeat (first | (with_reducible first | exact HB.out | apply below_alloc | apply pw_below_drewN | apply below_drew1 | refine below_set ?_ GE152.out | refine below_set ?_ GE157.out) | exact HB.out)))⟩; clear hw; clear HO_3; clear HO_8; clear HO_153000; clear HL156_0; clear HL156_1; clear BK152; clear BK157; clear HB; have HO_3 := n0_; have HO_8 := n1_; have HO_153000 := n2_; have HL156_0 := n3_; have HL156_1 := n4_; have BK152 := n5_; have BK157 := n6_; have HB := n7_; clear n0_ n1_ n2_ n3_ n4_ n5_ n6_ n7_; have hcz31_0 : w30.cell? ⟨gb152, 0, none⟩ = some (.slice (some ad156) l0_0.length c0_0) := (blk_cell BK152.out 0).trans rfl; have hcz31_1 : w30.cell? ⟨gb152, 1, none⟩ = some (.bool false) := (blk_cell BK152.out 1).trans rfl; have hcz31_2 : w30.cell? ⟨gb152, 2, none⟩ = some (.int .u64 a0_2) := (blk_cell BK152.out 2).trans rfl; have hcz31_3 : w30.cell? ⟨gb152, 3, none⟩ = some (.bool a0_3) := (blk_cell BK152.out 3).trans rfl; have hfz31_0 := blk_frozen BK152.out 0; have hfz31_1 := blk_frozen BK152.out 1; have hfz31_2 := blk_frozen BK152.out 2; have hfz31_3 := blk_frozen BK152.out 3; have hcz32_0 : w30.cell? ⟨gb157, 0, none⟩ = some (.slice A156_0 ((rd_T40 l0_0 x10_1).f0).length c156_0) := (blk_cell BK157.out 0).trans rfl; have hcz32_1 : w30.cell? ⟨gb157, 1, none⟩ = some (.slice A156_1 ((rd_T40 l0_0 x10_1).f1).length c156_1) := (blk_cell BK157.out 1).trans rfl; have hcz32_2 : w30.cell? ⟨gb157, 2, none⟩ = some (.int .u64 ((rd_T40 l0_0 x10_1).f2)) := (blk_cell BK157.out 2).trans rfl; have hcz32_3 : w30.cell? ⟨gb157, 3, none⟩ = some (.int .u8 (Go.bits .andNot .u8 ((rd_T40 l0_0 x10_1).f3) 192)) := (blk_cell BK157.out 3).trans rfl; have hcz32_4 : w30.cell? ⟨gb157, 4, none⟩ = some (.int .u8 ((rd_T40 l0_0 x10_1).f4)) := (blk_cell BK157.out 4).trans rfl; have hfz32_0 := blk_frozen BK157.out 0; have hfz32_1 := blk_frozen BK157.out 1; have hfz32_2 := blk_frozen BK157.out 2; have hfz32_3 := blk_frozen BK157.out 3; have hfz32_4 := blk_frozen BK157.out 4) | ((with_reducible refine gate_builtin (b := .append) (xs := #[.tmp 30, .tmp 32]) rfl ?_); at_builtin; refine Kd.N_append k40 (w0 := w) w.heap.size rfl (.tmp 30) (.tmp 32) 45 40 (.agg #[(.slice none 0 0), (.slice none 0 0), (.int .u64 0), (.int .u8 0), (.int .u8 0)]) 64 rfl Tryd.underlying45 info40 rfl (by decide) (by omega) u3 x3_1 (⟨(rd_T40 l0_0 x10_1).f0, (rd_T40 l0_0 x10_1).f1, (rd_T40 l0_0 x10_1).f2, Go.bits .andNot .u8 ((rd_T40 l0_0 x10_1).f3) 192, (rd_T40 l0_0 x10_1).f4⟩ : S40) [.slice A156_0 ((rd_T40 l0_0 x10_1).f0).length c156_0, .slice A156_1 ((rd_T40 l0_0 x10_1).f1).length c156_1, .int .u64 ((rd_T40 l0_0 x10_1).f2), .int .u8 (Go.bits .andNot .u8 ((rd_T40 l0_0 x10_1).f3) 192), .int .u8 ((rd_T40 l0_0 x10_1).f4)] (fun k_ => (P0_0_ k_ ∨ w.heap.size ≤ k_) ∧ k_ ≠ gb152 ∧ k_ ≠ gb157) (fun k_ => ((fun k_ => (P0_0_ k_ ∨ w.heap.size ≤ k_) ∧ k_ ≠ gb152 ∧ k_ ≠ gb157)) k_ ∧ some k_ ≠ (u3 : Value).ownBlock) rfl rfl ?aP (fun _ hk => hk) ?aF ?aO ?aB ?aS ?aL ?_; (case aP => exact (k40_mkF _ _ (⟨(rd_T40 l0_0 x10_1).f0, (rd_T40 l0_0 x10_1).f1, (rd_T40 l0_0 x10_1).f2, Go.bits .andNot .u8 ((rd_T40 l0_0 x10_1).f3) 192, (rd_T40 l0_0 x10_1).f4⟩ : S40) (Kd.V_reads' (Kd.V_mono (ok' := (fun k_ => ((fun k_ => (P0_0_ k_ ∨ w.heap.size ≤ k_) ∧ k_ ≠ gb152 ∧ k_ ≠ gb157)) k_ ∧ some k_ ≠ (u3 : Value).ownBlock)) (HL156_0.out) (fun k_ hk => ⟨⟨hk.1, ⟨hk.2.2.1, hk.2.2.2⟩⟩, hk.2.1⟩))).2.1 (Kd.V_F (Kd.V_mono (ok' := (fun k_ => ((fun k_ => (P0_0_ k_ ∨ w.heap.size ≤ k_) ∧ k_ ≠ gb152 ∧ k_ ≠ gb157)) k_ ∧ some k_ ≠ (u3 : Value).ownBlock)) (HL156_0.out) (fun k_ hk => ⟨⟨hk.1, ⟨hk.2.2.1, hk.2.2.2⟩⟩, hk.2.1⟩))) (Kd.V_reads' (Kd.V_mono (ok' := (fun k_ => ((fun k_ => (P0_0_ k_ ∨ w.heap.size ≤ k_) ∧ k_ ≠ gb152 ∧ k_ ≠ gb157)) k_ ∧ some k_ ≠ (u3 : Value).ownBlock)) (HL156_1.out) (fun k_ hk => ⟨⟨hk.1, ⟨hk.2.2.1, hk.2.2.2⟩⟩, hk.2.1⟩))).2.1 (Kd.V_F (Kd.V_mono (ok' := (fun k_ => ((fun k_ => (P0_0_ k_ ∨ w.heap.size ≤ k_) ∧ k_ ≠ gb152 ∧ k_ ≠ gb157)) k_ ∧ some k_ ≠ (u3 : Value).ownBlock)) (HL156_1.out) (fun k_ hk => ⟨⟨hk.1, ⟨hk.2.2.1, hk.2.2.2⟩⟩, hk.2.1⟩))))); (case aB => exact (by repeat (first | (with_reducible first | exact HB.out | apply below_alloc | apply pw_below_drewN | apply below_drew1 | refine below_set ?_ GE152.out | refine below_set ?_ GE157.out) | exact HB.out))); (case aF => exact (fun k_ hk => ⟨(.inr (Nat.le_trans (below_size (by repeat (first | (with_reducible first | exact HB.out | apply below_alloc | apply pw_below_drewN | apply below_drew1 | refine below_set ?_ GE152.out | refine below_set ?_ GE157.out) | exact HB.out))) hk)), Kd.freshB (g := gb152) (o := .cells #[.slice (some ad156) l0_0.length c0_0, .bool false, .int .u64 a0_2, .bool a0_3] 80 (0, 0)) (by (with_reducible repeat (first | refine blk_drewN ?_ _ | refine blk_drew ?_ | refine blk_alloc ?_ _)); exact BK152.out) k_ hk, Kd.freshB (g := gb157) (o := .cells #[.slice A156_0 ((rd_T40 l0_0 x10_1).f0).length c156_0, .slice A156_1 ((rd_T40 l0_0 x10_1).f1).length c156_1, .int .u64 ((rd_T40 l0_0 x10_1).f2), .int .u8 (Go.bits .andNot .u8 ((rd_T40 l0_0 x10_1).f3) 192), .int .u8 ((rd_T40 l0_0 x10_1).f4)] 40 (0, 0)) (by (with_reducible repeat (first | refine blk_drewN ?_ _ | refine blk_drew ?_ | refine blk_alloc ?_ _)); exact BK157.out) k_ hk⟩)); (case aO => exact (by (with_reducible repeat (first | apply Kd.N_alloc | apply Kd.N_drewN | apply Kd.N_drew)); exact HO_3.out)); (case aS => exact (below_size (by repeat (first | (with_reducible first | exact HB.out | apply below_alloc | apply pw_below_drewN | apply below_drew1 | refine below_set ?_ GE152.out | refine below_set ?_ GE157.out) | exact HB.out)))); (case aL => have := LMc24.out; omega); intro v165 w33 ho hb hg hat; rw [← Ny164.out] at ho; have n0_ := Aside0.mk (Kd.V_afterv (ok := (fun k_ => (P0_0_ k_ ∨ w.heap.size ≤ k_) ∧ k_ ≠ gb152 ∧ k_ ≠ gb157)) (by (with_reducible repeat (first | apply Kd.V_alloc | apply Kd.V_drewN | apply Kd.V_drew)); exact Kd.V_mono HO_8.out (fun _ hk => ⟨⟨hk.1, ⟨hk.2.2.1, hk.2.2.2⟩⟩, hk.2.1⟩)) hg hat); have n1_ := Aside0.mk (Kd.V_afterv (ok := (fun k_ => (P0_0_ k_ ∨ w.heap.size ≤ k_) ∧ k_ ≠ gb152 ∧ k_ ≠ gb157)) (by (with_reducible repeat (first | apply Kd.V_alloc | apply Kd.V_drewN | apply Kd.V_drew)); exact Kd.V_mono HO_153000.out (fun _ hk => ⟨⟨hk.1, ⟨hk.2.2.1, hk.2.2.2⟩⟩, hk.2.1⟩)) hg hat); have n2_ := Aside0.mk (blk_grown (g := gb152) (o := .cells #[.slice (some ad156) l0_0.length c0_0, .bool false, .int .u64 a0_2, .bool a0_3] 80 (0, 0)) (by (with_reducible repeat (first | refine blk_drewN ?_ _ | refine blk_drew ?_ | refine blk_alloc ?_ _)); exact BK152.out) hg (Kd.N_ne HO_3.out BK152.out (by decide))); have n3_ := Aside0.mk (Kd.V_afterv (ok := (fun k_ => (P0_0_ k_ ∨ w.heap.size ≤ k_) ∧ k_ ≠ gb152 ∧ k_ ≠ gb157)) (by (with_reducible repeat (first | apply Kd.V_alloc | apply Kd.V_drewN | apply Kd.V_drew)); exact Kd.V_mono HL156_0.out (fun _ hk => ⟨⟨hk.1, ⟨hk.2.2.1, hk.2.2.2⟩⟩, hk.2.1⟩)) hg hat); have n4_ := Aside0.mk (Kd.V_afterv (ok := (fun k_ => (P0_0_ k_ ∨ w.heap.size ≤ k_) ∧ k_ ≠ gb152 ∧ k_ ≠ gb157)) (by (with_reducible repeat (first | apply Kd.V_alloc | apply Kd.V_drewN | apply Kd.V_drew)); exact Kd.V_mono HL156_1.out (fun _ hk => ⟨⟨hk.1, ⟨hk.2.2.1, hk.2.2.2⟩⟩, hk.2.1⟩)) hg hat); have n5_ := Aside0.mk (blk_grown (g := gb157) (o := .cells #[.slice A156_0 ((rd_T40 l0_0 x10_1).f0).length c156_0, .slice A156_1 ((rd_T40 l0_0 x10_1).f1).length c156_1, .int .u64 ((rd_T40 l0_0 x10_1).f2), .int .u8 (Go.bits .andNot .u8 ((rd_T40 l0_0 x10_1).f3) 192), .int .u8 ((rd_T40 l0_0 x10_1).f4)] 40 (0, 0)) (by (with_reducible repeat (first | refine blk_drewN ?_ _ | refine blk_drew ?_ | refine blk_alloc ?_ _)); exact BK157.out) hg (Kd.N_away HO_3.out (fun _ hk => hk.2.2))); have n6_ := Aside0.mk (hb); have n7_ := Aside0.mk (ho); clear HO_8; clear HO_153000; clear BK152; clear HL156_0; clear HL156_1; clear BK157; clear HB; clear HO_3; have HO_8 := n0_; have HO_153000 := n1_; have BK152 := n2_; have HL156_0 := n3_; have HL156_1 := n4_; have BK157 := n5_; have HB := n6_; have HO166 := n7_; clear n0_ n1_ n2_ n3_ n4_ n5_ n6_ n7_; clear ho hb hg hat))
                go_roundg k1
                case measure => have := HK1.out; omega
                case rel => exact ⟨(y164), (wrap64 (x10_1 + 1)), (by first | rfl | (simp; done) | (simp [*]; done)), H', ⟨by have := HK1.out; omega⟩, ⟨by (with_reducible repeat (first | apply Kd.N_alloc | apply Kd.N_drewN | apply Kd.N_drew)); exact Kd.N_mono HO166.out (fun _ hk => ⟨hk.1, hk.2.1⟩)⟩, ⟨by (with_reducible repeat (first | apply Kd.V_alloc | apply Kd.V_drewN | apply Kd.V_drew)); exact Kd.V_mono HO_8.out (fun _ hk => ⟨hk.1.1, ⟨hk.2, hk.1.2.1⟩⟩)⟩, ⟨by (with_reducible repeat (first | apply Kd.V_alloc | apply Kd.V_drewN | apply Kd.V_drew)); exact Kd.V_mono HO_153000.out (fun _ hk => ⟨hk.1.1, ⟨hk.2, hk.1.2.1⟩⟩)⟩, ⟨by (with_reducible repeat (first | refine blk_drewN ?_ _ | refine blk_drew ?_ | refine blk_alloc ?_ _)); exact BK152.out⟩, ⟨by repeat (first | (with_reducible first | exact HB.out | apply below_alloc | apply pw_below_drewN | apply below_drew1 | refine below_set ?_ GE152.out | refine below_set ?_ GE157.out) | exact HB.out)⟩⟩
              · rw [if_neg c24] at H
                exact absurd H (by simp)
          · rw [if_neg c8] at H
            exact absurd H (by simp)
        · rw [if_neg c7] at H
          exact absurd H (by simp)
      · rw [if_neg c6] at H
        have c6b0 : decide (x10_1 < (l0_0.length : Int)) = false := decide_eq_false c6
        clear c6
        have HC34 := Aside0.mk H
        clear H
        go_upto_region 11 with (fail)
        go_cut [41] (fun v41 wc => ∃ (kq : Nat) (x41_33 : Bool), v41 = .bool x41_33 ∧ Aside0 (spec_Unit_written.j1 kq x3_1 x41_33 l0_0 a0_1 a0_2 a0_3 = some r) ∧ Aside0 (kq ≤ k1) ∧ Aside0 (Kd.N k40 40 wc w.heap.size (fun k_ => (P0_0_ k_ ∨ w.heap.size ≤ k_) ∧ k_ ≠ gb152) u3 x3_1) ∧ Aside0 (Kd.V k40 40 wc w.heap.size (fun k_ => (P0_0_ k_ ∨ w.heap.size ≤ k_) ∧ some k_ ≠ (u3 : Value).ownBlock ∧ k_ ≠ gb152) (.slice A0_0 l0_0.length c0_0) l0_0) ∧ Aside0 (wc.heap[gb152]? = some (.cells #[(.slice A0_0 l0_0.length c0_0), .bool a0_1, .int .u64 a0_2, .bool a0_3] 80 (0, 0))) ∧ Aside0 (Below w.heap.size w wc))
        case first =>
          have H := HC34.out
          clear HC34
          by_cases c35 : a0_1 = true
          · subst c35
            have H1 : (spec_Unit_written.j1 k1 x3_1 (!a0_3) l0_0 true a0_2 a0_3) = some r := by rw [if_pos rfl] at H; exact H
            clear H
            have H := H1
            clear H1
            have H' := Aside0.mk H
            clear H
            have hcz36_0 : wr.cell? ⟨gb152, 0, none⟩ = some (.slice A0_0 l0_0.length c0_0) := (blk_cell BK152.out 0).trans rfl
            have hcz36_1 : wr.cell? ⟨gb152, 1, none⟩ = some (.bool true) := (blk_cell BK152.out 1).trans rfl
            have hcz36_2 : wr.cell? ⟨gb152, 2, none⟩ = some (.int .u64 a0_2) := (blk_cell BK152.out 2).trans rfl
            have hcz36_3 : wr.cell? ⟨gb152, 3, none⟩ = some (.bool a0_3) := (blk_cell BK152.out 3).trans rfl
            have hfz36_0 := blk_frozen BK152.out 0
            have hfz36_1 := blk_frozen BK152.out 1
            have hfz36_2 := blk_frozen BK152.out 2
            have hfz36_3 := blk_frozen BK152.out 3
            go_wp2
            go_meet
            case rel => exact ⟨_, (!a0_3), (by first | rfl | (simp; done) | (simp [*]; done)), H', ⟨by have := HK1.out; first | omega | exact Nat.le_refl _⟩, ⟨by (with_reducible repeat (first | apply Kd.N_alloc | apply Kd.N_drewN | apply Kd.N_drew)); exact HO_3.out⟩, ⟨by (with_reducible repeat (first | apply Kd.V_alloc | apply Kd.V_drewN | apply Kd.V_drew)); exact HO_153000.out⟩, ⟨by (with_reducible repeat (first | refine blk_drewN ?_ _ | refine blk_drew ?_ | refine blk_alloc ?_ _)); exact BK152.out⟩, ⟨by repeat (first | (with_reducible first | exact HB.out | apply below_alloc | apply pw_below_drewN | apply below_drew1 | refine below_set ?_ GE152.out) | exact HB.out)⟩⟩
          · replace c35 := Bool.eq_false_iff.mpr c35
            subst c35
            have H1 : (spec_Unit_written.j1 k1 x3_1 false l0_0 false a0_2 a0_3) = some r := by rw [if_neg (show ¬ (false = true) by decide)] at H; exact H
            clear H
            have H := H1
            clear H1
            have H' := Aside0.mk H
            clear H
            have hcz37_0 : wr.cell? ⟨gb152, 0, none⟩ = some (.slice A0_0 l0_0.length c0_0) := (blk_cell BK152.out 0).trans rfl
            have hcz37_1 : wr.cell? ⟨gb152, 1, none⟩ = some (.bool false) := (blk_cell BK152.out 1).trans rfl
            have hcz37_2 : wr.cell? ⟨gb152, 2, none⟩ = some (.int .u64 a0_2) := (blk_cell BK152.out 2).trans rfl
            have hcz37_3 : wr.cell? ⟨gb152, 3, none⟩ = some (.bool a0_3) := (blk_cell BK152.out 3).trans rfl
            have hfz37_0 := blk_frozen BK152.out 0
            have hfz37_1 := blk_frozen BK152.out 1
            have hfz37_2 := blk_frozen BK152.out 2
            have hfz37_3 := blk_frozen BK152.out 3
            go_wp2
            go_meet
            case rel => exact ⟨_, (false), (by first | rfl | (simp; done) | (simp [*]; done)), H', ⟨by have := HK1.out; first | omega | exact Nat.le_refl _⟩, ⟨by (with_reducible repeat (first | apply Kd.N_alloc | apply Kd.N_drewN | apply Kd.N_drew)); exact HO_3.out⟩, ⟨by (with_reducible repeat (first | apply Kd.V_alloc | apply Kd.V_drewN | apply Kd.V_drew)); exact HO_153000.out⟩, ⟨by (with_reducible repeat (first | refine blk_drewN ?_ _ | refine blk_drew ?_ | refine blk_alloc ?_ _)); exact BK152.out⟩, ⟨by repeat (first | (with_reducible first | exact HB.out | apply below_alloc | apply pw_below_drewN | apply below_drew1 | refine below_set ?_ GE152.out) | exact HB.out)⟩⟩
        case rest =>
          clear HC34
          try clear c1
          try clear p1
          try clear q1
          try clear hx1
          try clear c2
          try clear p2
          try clear c3
          try clear c4
          try clear c5
          try clear c6
          try clear c6b0
          try clear p6
          try clear c7
          try clear c7b0
          try clear c8
          try clear c8b0
          try clear c9
          try clear c11
          try clear c13
          try clear c15
          try clear p15
          try clear q15
          try clear hx15
          try clear c24
          try clear c26
          try clear c35
          try clear hcz14_0
          try clear hcz14_1
          try clear hcz14_2
          try clear hcz14_3
          try clear hcz14_4
          try clear hcz15_0
          try clear hcz15_1
          try clear hcz15_2
          try clear hcz15_3
          try clear hcz18_0
          try clear hcz18_1
          try clear hcz18_2
          try clear hcz18_3
          try clear hcz18_4
          try clear hcz20_0
          try clear hcz20_1
          try clear hcz20_2
          try clear hcz20_3
          try clear hcz20_4
          try clear hcz22_0
          try clear hcz22_1
          try clear hcz22_2
          try clear hcz22_3
          try clear hcz22_4
          try clear hcz27_0
          try clear hcz27_1
          try clear hcz27_2
          try clear hcz27_3
          try clear hcz27_4
          try clear hcz29_0
          try clear hcz29_1
          try clear hcz29_2
          try clear hcz29_3
          try clear hcz29_4
          try clear hcz31_0
          try clear hcz31_1
          try clear hcz31_2
          try clear hcz31_3
          try clear hcz32_0
          try clear hcz32_1
          try clear hcz32_2
          try clear hcz32_3
          try clear hcz32_4
          try clear hcz36_0
          try clear hcz36_1
          try clear hcz36_2
          try clear hcz36_3
          try clear hcz37_0
          try clear hcz37_1
          try clear hcz37_2
          try clear hcz37_3
          try clear hcz5_0
          try clear hcz5_1
          try clear hcz5_2
          try clear hcz5_3
          try clear hfz14_0
          try clear hfz14_1
          try clear hfz14_2
          try clear hfz14_3
          try clear hfz14_4
          try clear hfz15_0
          try clear hfz15_1
          try clear hfz15_2
          try clear hfz15_3
          try clear hfz18_0
          try clear hfz18_1
          try clear hfz18_2
          try clear hfz18_3
          try clear hfz18_4
          try clear hfz20_0
          try clear hfz20_1
          try clear hfz20_2
          try clear hfz20_3
          try clear hfz20_4
          try clear hfz22_0
          try clear hfz22_1
          try clear hfz22_2
          try clear hfz22_3
          try clear hfz22_4
          try clear hfz27_0
          try clear hfz27_1
          try clear hfz27_2
          try clear hfz27_3
          try clear hfz27_4
          try clear hfz29_0
          try clear hfz29_1
          try clear hfz29_2
          try clear hfz29_3
          try clear hfz29_4
          try clear hfz31_0
          try clear hfz31_1
          try clear hfz31_2
          try clear hfz31_3
          try clear hfz32_0
          try clear hfz32_1
          try clear hfz32_2
          try clear hfz32_3
          try clear hfz32_4
          try clear hfz36_0
          try clear hfz36_1
          try clear hfz36_2
          try clear hfz36_3
          try clear hfz37_0
          try clear hfz37_1
          try clear hfz37_2
          try clear hfz37_3
          try clear hfz5_0
          try clear hfz5_1
          try clear hfz5_2
          try clear hfz5_3
          try clear hx156_0
          try clear hx156_1
          try clear hx156_2
          try clear hx156_3
          try clear hx156_4
          try clear p156
          try clear p2
          try clear q156
          obtain ⟨kq, x41_33, rfl, HA, HJ33, HO_3, HO_153000, BK152, HB⟩ := hcut
          cases kq with
          | zero => exact absurd HA.out (by simp [spec_Unit_written.j1])
          | succ kj33 =>
            have H := HA.out
            clear HA
            simp only [spec_Unit_written.j1] at H
            by_cases c38 : x41_33 = true
            · subst c38
              have H1 : ((spec_KeyBytes.f (([33, 98, 97, 100, 103, 101, 114, 33, 116, 120, 110] : List Int)) a0_2).bind fun t170 => ((spec_decimal.f kj33 a0_2).bind fun t173 => (if x3_1.length < 2199023255552 then (some (x3_1 ++ [(⟨t170, t173, 0, 128, 0⟩ : S40)])) else (none)))) = some r := by rw [if_pos rfl] at H; exact H
              clear H
              have H := H1
              clear H1
              obtain ⟨y167, hy167⟩ : ∃ y_ : List Int, y_ = (([33, 98, 97, 100, 103, 101, 114, 33, 116, 120, 110] : List Int)) := ⟨_, rfl⟩
              replace H : ((spec_KeyBytes.f y167 a0_2).bind fun t170 => ((spec_decimal.f kj33 a0_2).bind fun t173 => (if x3_1.length < 2199023255552 then (some (x3_1 ++ [(⟨t170, t173, 0, 128, 0⟩ : S40)])) else (none)))) = some r := by first | (rw [hy167]; with_reducible exact H) | (have H2_ := (Option.bind_some _ _).symm.trans H; rw [hy167]; with_reducible exact H2_) | (have H2_ := (Option.bind_some _ _).symm.trans H; with_reducible exact H2_) | with_reducible exact H | (rw [hy167]; exact H) | exact H
              have Ny167 := Aside0.mk hy167
              clear hy167
              replace H := Option.bind_eq_some_iff.mp H
              obtain ⟨t170, A390, H⟩ := H
              replace H : ((spec_decimal.f kj33 a0_2).bind fun t173 => (if x3_1.length < 2199023255552 then (some (x3_1 ++ [(⟨t170, t173, 0, 128, 0⟩ : S40)])) else (none))) = some r := H
              have A39 := Aside0.mk A390
              clear A390
              replace H := Option.bind_eq_some_iff.mp H
              obtain ⟨t173, A400, H⟩ := H
              replace H : (if x3_1.length < 2199023255552 then (some (x3_1 ++ [(⟨t170, t173, 0, 128, 0⟩ : S40)])) else (none)) = some r := H
              have A40 := Aside0.mk A400
              clear A400
              by_cases c41 : x3_1.length < 2199023255552
              · rw [if_pos c41] at H
                have LMc41 := Aside0.mk c41
                clear c41
                obtain ⟨y176, hy176⟩ : ∃ y_ : List (S40), y_ = (x3_1 ++ [(⟨t170, t173, 0, 128, 0⟩ : S40)]) := ⟨_, rfl⟩
                replace H : (some y176) = some r := by first | (rw [hy176]; with_reducible exact H) | (have H2_ := (Option.bind_some _ _).symm.trans H; rw [hy176]; with_reducible exact H2_) | (have H2_ := (Option.bind_some _ _).symm.trans H; with_reducible exact H2_) | with_reducible exact H | (rw [hy176]; exact H) | exact H
                have Ny176 := Aside0.mk hy176
                clear hy176
                obtain rfl := Option.some.inj H
                try go_wp2
                have n0_ := Aside0.mk (Kd.N_drew HO_3.out)
                have n1_ := Aside0.mk (Kd.V_drew HO_153000.out)
                have n2_ := Aside0.mk (blk_drew BK152.out)
                have n3_ := Aside0.mk (below_drew1 HB.out)
                clear HO_3
                clear HO_153000
                clear BK152
                clear HB
                have HO_3 := n0_
                have HO_153000 := n1_
                have BK152 := n2_
                have HB := n3_
                clear n0_ n1_ n2_ n3_
                refine start_ (n := 13) (S := fun w' => w'.cell? ⟨gb152, 0, none⟩ = some (.slice A0_0 l0_0.length c0_0) ∧ w'.cell? ⟨gb152, 1, none⟩ = some (.bool a0_1) ∧ w'.cell? ⟨gb152, 2, none⟩ = some (.int .u64 a0_2) ∧ w'.cell? ⟨gb152, 3, none⟩ = some (.bool a0_3)) (ds := []) #[false, false, false, false, false, false, false, false, false, false, false, false, false] (by kernel_rfl) rfl rfl ⟨(blk_cell BK152.out 0).trans rfl, (blk_cell BK152.out 1).trans rfl, (blk_cell BK152.out 2).trans rfl, (blk_cell BK152.out 3).trans rfl⟩ (fun hHeld => ?_); refine with_tabW spec_Unit_written.tab12 spec_Unit_written.bits12 (fun HT_ HW_ => ?_)
                generalize wc.drew = w42 at HO_3 HO_153000 BK152 HB hHeld ⊢
                refine pure_ (i := 0) (N := some 42) (v := ?_) (a' := ?_) #[true, false, false, false, false, false, false, false, false, false, false, false, false] rfl rfl (any_of HT_.out (by kernel_rfl)) (fun _ _ _ h => h) (Or.inl ⟨by rfl, ?_⟩) ?_ ?_
                rotate_left
                · intro w'
                  go_simp
                  with_reducible rfl
                rotate_left
                · simp only [Act.put, List.setIfInBounds_toArray, List.set_cons_zero, List.set_cons_succ, i64_w, i32_w]
                  rfl
                refine pure_ (i := 3) (N := some 45) (v := ?_) (a' := ?_) #[true, false, false, true, false, false, false, false, false, false, false, false, false] rfl rfl (any_of HT_.out (by kernel_rfl)) (fun _ _ _ h => h) (Or.inl ⟨by rfl, ?_⟩) ?_ ?_
                rotate_left
                · intro w'
                  go_simp
                  with_reducible rfl
                rotate_left
                · simp only [Act.put, List.setIfInBounds_toArray, List.set_cons_zero, List.set_cons_succ, i64_w, i32_w]
                  rfl
                refine pure_ (i := 6) (N := some 48) (v := ?_) (a' := ?_) #[true, false, false, true, false, false, true, false, false, false, false, false, false] rfl rfl (any_of HT_.out (by kernel_rfl)) (fun _ _ _ h => h) (Or.inl ⟨by rfl, ?_⟩) ?_ ?_
                rotate_left
                · intro w'
                  go_simp
                  with_reducible rfl
                rotate_left
                · simp only [Act.put, List.setIfInBounds_toArray, List.set_cons_zero, List.set_cons_succ, i64_w, i32_w]
                  rfl
                refine take_ (i := 4) (N := some 46) (v := ?_) (a' := ?_) #[true, false, false, true, true, false, true, false, false, false, false, false, false] rfl rfl (take_ofW HT_.out HW_.out (by kernel_rfl)) (fun _ _ _ h => h) (Or.inl ⟨by rfl, ?_⟩) hHeld ?_ ?_
                rotate_left
                · rintro w' ⟨s0, s1, s2, s3⟩
                  go_simp
                  with_reducible rfl
                rotate_left
                · simp only [Act.put, List.setIfInBounds_toArray, List.set_cons_zero, List.set_cons_succ, i64_w, i32_w]
                  rfl
                refine take_ (i := 7) (N := some 49) (v := ?_) (a' := ?_) #[true, false, false, true, true, false, true, true, false, false, false, false, false] rfl rfl (take_ofW HT_.out HW_.out (by kernel_rfl)) (fun _ _ _ h => h) (Or.inl ⟨by rfl, ?_⟩) hHeld ?_ ?_
                rotate_left
                · rintro w' ⟨s0, s1, s2, s3⟩
                  go_simp
                  with_reducible rfl
                rotate_left
                · simp only [Act.put, List.setIfInBounds_toArray, List.set_cons_zero, List.set_cons_succ, i64_w, i32_w]
                  rfl
                refine one_ (i := 1) (N := some 43) #[true, true, false, true, true, false, true, true, false, false, false, false, false] rfl rfl (one_of HT_.out (by kernel_rfl)) (by decide) (fun K hK => ?_)
                refine Kd.R_lit_step (Kd.int .u8) _ 5 ?hg (N := 43) ?hd (xs := ([33, 98, 97, 100, 103, 101, 114, 33, 116, 120, 110] : List Int)) (inner := [.int .u8 33, .int .u8 98, .int .u8 97, .int .u8 100, .int .u8 103, .int .u8 101, .int .u8 114, .int .u8 33, .int .u8 116, .int .u8 120, .int .u8 110]) (ok := fun _ => True) (okp := fun _ => True) ?hr ?hp (fun _ hk => hk) trivial (Below.refl _ _) (Nat.le_refl _) (by simp) ?_; (case hd => rfl); (case hg => rfl); (case hr => first | (go_simp; done) | (go_simp; rfl)); (case hp => exact (Reps.one (show Kd.M (Kd.int .u8) _ _ _ 33 [.int .u8 33] from rfl) (Reps.one (show Kd.M (Kd.int .u8) _ _ _ 98 [.int .u8 98] from rfl) (Reps.one (show Kd.M (Kd.int .u8) _ _ _ 97 [.int .u8 97] from rfl) (Reps.one (show Kd.M (Kd.int .u8) _ _ _ 100 [.int .u8 100] from rfl) (Reps.one (show Kd.M (Kd.int .u8) _ _ _ 103 [.int .u8 103] from rfl) (Reps.one (show Kd.M (Kd.int .u8) _ _ _ 101 [.int .u8 101] from rfl) (Reps.one (show Kd.M (Kd.int .u8) _ _ _ 114 [.int .u8 114] from rfl) (Reps.one (show Kd.M (Kd.int .u8) _ _ _ 33 [.int .u8 33] from rfl) (Reps.one (show Kd.M (Kd.int .u8) _ _ _ 116 [.int .u8 116] from rfl) (Reps.one (show Kd.M (Kd.int .u8) _ _ _ 120 [.int .u8 120] from rfl) (Reps.one (show Kd.M (Kd.int .u8) _ _ _ 110 [.int .u8 110] from rfl) (Reps.none _ _)))))))))))))
                intro v168 w43 ho44 hb hg_ hnew_
                clear hg_ hnew_
                (first | rw [← Ny167.out] at ho44 | (simp only [Int.reduceToNat] at ho44; rw [← Ny167.out] at ho44))
                obtain ⟨Ao45, co45, eo_⟩ := Kd.R_slice ho44
                (first | subst eo_ | (injection eo_ with f1_ f2_ f3_; have f4_ := f1_.symm; have f5_ := f3_.symm; clear f1_ f2_ f3_; subst f4_; subst f5_))
                have BK152_t := Aside0.mk (blk_below (g := gb152) (o := .cells #[.slice A0_0 l0_0.length c0_0, .bool a0_1, .int .u64 a0_2, .bool a0_3] 80 (0, 0)) (by (with_reducible repeat (first | refine blk_drewN ?_ _ | refine blk_drew ?_ | refine blk_alloc ?_ _)); exact BK152.out) hb)
                refine hK.out _ _ ⟨(blk_cell BK152_t.out 0).trans rfl, (blk_cell BK152_t.out 1).trans rfl, (blk_cell BK152_t.out 2).trans rfl, (blk_cell BK152_t.out 3).trans rfl⟩ (fun hHeld => ?_)
                clear hK K
                refine norm_ (a' := ?_) ?_ ?_
                rotate_left
                · show Act.put _ (some 43) _ = _
                  simp only [Act.put, List.setIfInBounds_toArray, List.set_cons_zero, List.set_cons_succ, i64_w, i32_w]
                  rfl
                obtain ⟨w_mk, hrun_mk, hb_mk, hc_mk, hC_mk, hlt_mk⟩ := mark_bytes ho44 hb (by rw [Ny167.out]; decide)
                refine one_ (i := 2) (N := some 44) #[true, true, true, true, true, false, true, true, false, false, false, false, false] rfl rfl (one_of HT_.out (by kernel_rfl)) (by decide) (fun K hK => ?_)
                refine value_ (w1 := w_mk) (v := .slice Ao45 y167.length co45) (by rfl) rfl ?_ ?_
                · go_simp
                  all_goals rw [hrun_mk]
                  all_goals rfl
                clear BK152_t
                have n0_ := Aside0.mk (Kd.N_elder' (by (with_reducible repeat (first | apply Kd.N_alloc | apply Kd.N_drewN | apply Kd.N_drew)); exact HO_3.out) (Kd.R_base ho44) hb_mk)
                have n1_ := Aside0.mk (Kd.V_elder' (by (with_reducible repeat (first | apply Kd.V_alloc | apply Kd.V_drewN | apply Kd.V_drew)); exact HO_153000.out) (Kd.R_base ho44) hb_mk)
                have n2_ := Aside0.mk hlt_mk
                have n3_ := Aside0.mk (blk_below (g := gb152) (o := .cells #[.slice A0_0 l0_0.length c0_0, .bool a0_1, .int .u64 a0_2, .bool a0_3] 80 (0, 0)) (by (with_reducible repeat (first | refine blk_drewN ?_ _ | refine blk_drew ?_ | refine blk_alloc ?_ _)); exact BK152.out) hb_mk)
                have n4_ := Aside0.mk (below_step (by repeat (first | (with_reducible first | exact HB.out | apply below_alloc | apply pw_below_drewN | apply below_drew1 | refine below_set ?_ GE152.out) | exact HB.out)) hb_mk)
                clear HO_3
                clear HO_153000
                clear BK152
                clear HB
                have HO_3 := n0_
                have HO_153000 := n1_
                have HO169 := n2_
                have BK152 := n3_
                have HB := n4_
                clear n0_ n1_ n2_ n3_ n4_
                clear hb ho44 hb_mk hlt_mk
                have HC_mk := Aside0.mk hC_mk
                clear hC_mk
                refine hK.out _ _ ⟨(blk_cell BK152.out 0).trans rfl, (blk_cell BK152.out 1).trans rfl, (blk_cell BK152.out 2).trans rfl, (blk_cell BK152.out 3).trans rfl⟩ (fun hHeld => ?_)
                clear hK K
                refine norm_ (a' := ?_) ?_ ?_
                rotate_left
                · show Act.put _ (some 44) _ = _
                  simp only [Act.put, List.setIfInBounds_toArray, List.set_cons_zero, List.set_cons_succ, i64_w, i32_w]
                  rfl
                refine one_ (i := 5) (N := some 47) #[true, true, true, true, true, true, true, true, false, false, false, false, false] rfl rfl (one_of HT_.out (by kernel_rfl)) (by decide) (fun K hK => ?_)
                refine goes_ Tryd.func57 (by kernel_rfl) rfl #[.slice Ao45 y167.length co45, .int .u64 a0_2] (by rfl) rfl rfl (by (try simp only [List.map_toArray, List.map_cons, List.map_nil]); first | done | rfl | (simp only [List.length_drop, List.length_take]; rfl)) ?_
                with_reducible refine (spec_KeyBytes.calls _ _ y167 a0_2 t170 _ ?side1 ?side2 A39.out).mono ?_
                (case side1 => repeat (first | exact HC_mk.out | (with_reducible refine Kd.C_alloc ?_ _) | (with_reducible refine Kd.C_drewN ?_ _) | (with_reducible refine Kd.C_drew ?_)))
                (case side2 => exact hc_mk)
                rintro e w46 ⟨v171, rfl, ho0, hb⟩
                refine ⟨_, rfl, ?_⟩
                have n0_ := Aside0.mk (Kd.N_elder' (by (with_reducible repeat (first | apply Kd.N_alloc | apply Kd.N_drewN | apply Kd.N_drew)); exact HO_3.out) (Kd.R_base ho0) hb)
                have n1_ := Aside0.mk (Kd.V_elder' (by (with_reducible repeat (first | apply Kd.V_alloc | apply Kd.V_drewN | apply Kd.V_drew)); exact HO_153000.out) (Kd.R_base ho0) hb)
                have n2_ := Aside0.mk (fun k_ (hk_ : Value.ownBlock (.slice Ao45 _ co45) = some k_) => Nat.lt_of_lt_of_le (HO169.out k_ hk_) hb.size)
                have n3_ := Aside0.mk (Kd.R_lower (Kd.R_new' (Kd.R_newM (M := fun k_ => (w.heap.size ≤ k_)) ho0 (below_size (by repeat (first | (with_reducible first | exact HB.out | apply below_alloc | apply pw_below_drewN | apply below_drew1 | refine below_set ?_ GE152.out) | exact HB.out))) (fun k_ h_ => h_)) (HO169.out)) (below_size (by repeat (first | (with_reducible first | exact HB.out | apply below_alloc | apply pw_below_drewN | apply below_drew1 | refine below_set ?_ GE152.out) | exact HB.out))))
                have n4_ := Aside0.mk (blk_below (g := gb152) (o := .cells #[.slice A0_0 l0_0.length c0_0, .bool a0_1, .int .u64 a0_2, .bool a0_3] 80 (0, 0)) (by (with_reducible repeat (first | refine blk_drewN ?_ _ | refine blk_drew ?_ | refine blk_alloc ?_ _)); exact BK152.out) hb)
                have n5_ := Aside0.mk (below_step (by repeat (first | (with_reducible first | exact HB.out | apply below_alloc | apply pw_below_drewN | apply below_drew1 | refine below_set ?_ GE152.out) | exact HB.out)) hb)
                clear HO_3
                clear HO_153000
                clear HO169
                clear BK152
                clear HB
                have HO_3 := n0_
                have HO_153000 := n1_
                have HO169 := n2_
                have HO172 := n3_
                have BK152 := n4_
                have HB := n5_
                clear n0_ n1_ n2_ n3_ n4_ n5_
                (try clear hb)
                (try clear hb2)
                (try clear hk)
                (try clear hi)
                (try clear ho0)
                refine hK.out _ _ ⟨(blk_cell BK152.out 0).trans rfl, (blk_cell BK152.out 1).trans rfl, (blk_cell BK152.out 2).trans rfl, (blk_cell BK152.out 3).trans rfl⟩ (fun hHeld => ?_)
                clear hK K
                refine norm_ (a' := ?_) ?_ ?_
                rotate_left
                · show Act.put _ (some 47) _ = _
                  simp only [Act.put, List.setIfInBounds_toArray, List.set_cons_zero, List.set_cons_succ, i64_w, i32_w]
                  rfl
                refine one_ (i := 8) (N := some 50) #[true, true, true, true, true, true, true, true, true, false, false, false, false] rfl rfl (one_of HT_.out (by kernel_rfl)) (by decide) (fun K hK => ?_)
                refine goes_ Tryd.func58 (by kernel_rfl) rfl #[.int .u64 a0_2] (by rfl) rfl rfl (by (try simp only [List.map_toArray, List.map_cons, List.map_nil]); first | done | rfl | (simp only [List.length_drop, List.length_take]; rfl)) ?_
                with_reducible refine (spec_decimal.calls kj33 a0_2 t173 _ A40.out).mono ?_
                rintro e w47 ⟨v174, rfl, ho0, hb⟩
                refine ⟨_, rfl, ?_⟩
                have n0_ := Aside0.mk (Kd.N_elder' (by (with_reducible repeat (first | apply Kd.N_alloc | apply Kd.N_drewN | apply Kd.N_drew)); exact HO_3.out) (Kd.R_base ho0) hb)
                have n1_ := Aside0.mk (Kd.V_elder' (by (with_reducible repeat (first | apply Kd.V_alloc | apply Kd.V_drewN | apply Kd.V_drew)); exact HO_153000.out) (Kd.R_base ho0) hb)
                have n2_ := Aside0.mk (fun k_ (hk_ : Value.ownBlock (.slice Ao45 _ co45) = some k_) => Nat.lt_of_lt_of_le (HO169.out k_ hk_) hb.size)
                have n3_ := Aside0.mk (Kd.R_elder' (by (with_reducible repeat (first | apply Kd.R_alloc | apply Kd.R_drewN | apply Kd.R_drew)); exact HO172.out) (Kd.R_base ho0) hb)
                have n4_ := Aside0.mk (Kd.R_lower (Kd.R_new' (Kd.R_new' (Kd.R_newM (M := fun k_ => (w.heap.size ≤ k_)) ho0 (below_size (by repeat (first | (with_reducible first | exact HB.out | apply below_alloc | apply pw_below_drewN | apply below_drew1 | refine below_set ?_ GE152.out) | exact HB.out))) (fun k_ h_ => h_)) (HO169.out)) (Kd.R_lt (by (with_reducible repeat (first | apply Kd.R_alloc | apply Kd.R_drewN | apply Kd.R_drew)); exact HO172.out))) (below_size (by repeat (first | (with_reducible first | exact HB.out | apply below_alloc | apply pw_below_drewN | apply below_drew1 | refine below_set ?_ GE152.out) | exact HB.out))))
                have n5_ := Aside0.mk (blk_below (g := gb152) (o := .cells #[.slice A0_0 l0_0.length c0_0, .bool a0_1, .int .u64 a0_2, .bool a0_3] 80 (0, 0)) (by (with_reducible repeat (first | refine blk_drewN ?_ _ | refine blk_drew ?_ | refine blk_alloc ?_ _)); exact BK152.out) hb)
                have n6_ := Aside0.mk (below_step (by repeat (first | (with_reducible first | exact HB.out | apply below_alloc | apply pw_below_drewN | apply below_drew1 | refine below_set ?_ GE152.out) | exact HB.out)) hb)
                clear HO_3
                clear HO_153000
                clear HO169
                clear HO172
                clear BK152
                clear HB
                have HO_3 := n0_
                have HO_153000 := n1_
                have HO169 := n2_
                have HO172 := n3_
                have HO175 := n4_
                have BK152 := n5_
                have HB := n6_
                clear n0_ n1_ n2_ n3_ n4_ n5_ n6_
                (try clear hb)
                (try clear hb2)
                (try clear hk)
                (try clear hi)
                (try clear ho0)
                obtain ⟨Ao48, co48, eo48⟩ := Kd.R_slice HO175.out
                (first | subst eo48 | (injection eo48 with f1_ f2_ f3_; have f4_ := f1_.symm; have f5_ := f3_.symm; clear f1_ f2_ f3_; subst f4_; subst f5_))
                obtain ⟨Ao49, co49, eo49⟩ := Kd.R_slice HO172.out
                (first | subst eo49 | (injection eo49 with f1_ f2_ f3_; have f4_ := f1_.symm; have f5_ := f3_.symm; clear f1_ f2_ f3_; subst f4_; subst f5_))
                refine hK.out _ _ ⟨(blk_cell BK152.out 0).trans rfl, (blk_cell BK152.out 1).trans rfl, (blk_cell BK152.out 2).trans rfl, (blk_cell BK152.out 3).trans rfl⟩ (fun hHeld => ?_)
                clear hK K
                refine norm_ (a' := ?_) ?_ ?_
                rotate_left
                · show Act.put _ (some 50) _ = _
                  simp only [Act.put, List.setIfInBounds_toArray, List.set_cons_zero, List.set_cons_succ, i64_w, i32_w]
                  rfl
                refine pure_ (i := 9) (N := some 51) (v := ?_) (a' := ?_) #[true, true, true, true, true, true, true, true, true, true, false, false, false] rfl rfl (any_of HT_.out (by kernel_rfl)) (fun _ _ _ h => h) (Or.inl ⟨by rfl, ?_⟩) ?_ ?_
                rotate_left
                · intro w'
                  go_simp
                  with_reducible rfl
                rotate_left
                · simp only [Act.put, List.setIfInBounds_toArray, List.set_cons_zero, List.set_cons_succ, i64_w, i32_w]
                  rfl
                refine one_ (i := 10) (N := some 52) #[true, true, true, true, true, true, true, true, true, true, true, false, false] rfl rfl (one_of HT_.out (by kernel_rfl)) (by decide) (fun K hK => ?_)
                refine value_ (w1 := ?_) (v := ?_) (by rfl) rfl ?_ ?_
                rotate_left 2
                · go_simp
                  constructor
                  · rfl
                  · rfl
                refine hK.out _ _ ⟨(blk_cell (blk_alloc BK152.out _) 0).trans rfl, (blk_cell (blk_alloc BK152.out _) 1).trans rfl, (blk_cell (blk_alloc BK152.out _) 2).trans rfl, (blk_cell (blk_alloc BK152.out _) 3).trans rfl⟩ (fun hHeld => ?_)
                clear hK K
                refine norm_ (a' := ?_) ?_ ?_
                rotate_left
                · show Act.put _ (some 52) _ = _
                  simp only [Act.put, List.setIfInBounds_toArray, List.set_cons_zero, List.set_cons_succ, i64_w, i32_w]
                  rfl
                refine one_ (i := 11) (N := some 53) #[true, true, true, true, true, true, true, true, true, true, true, true, false] rfl rfl (one_of HT_.out (by kernel_rfl)) (by decide) (fun K hK => ?_)
                refine Kd.N_append_step k40 (w0 := w) w.heap.size (by rfl) (.tmp 42) (.tmp 52) 45 40 (.agg #[(.slice none 0 0), (.slice none 0 0), (.int .u64 0), (.int .u8 0), (.int .u8 0)]) 64 rfl Tryd.underlying45 info40 rfl (by decide) (by omega) u3 x3_1 (⟨t170, t173, 0, 128, 0⟩ : S40) [.slice Ao49 t170.length co49, .slice Ao48 t173.length co48, .int .u64 0, .int .u8 128, .int .u8 0] (fun k_ => (P0_0_ k_ ∨ w.heap.size ≤ k_) ∧ some k_ ≠ (.slice Ao45 y167.length co45 : Value).ownBlock ∧ k_ ≠ gb152) (fun k_ => ((fun k_ => (P0_0_ k_ ∨ w.heap.size ≤ k_) ∧ some k_ ≠ (.slice Ao45 y167.length co45 : Value).ownBlock ∧ k_ ≠ gb152)) k_ ∧ some k_ ≠ (u3 : Value).ownBlock) rfl rfl ?aP (fun _ hk => hk) ?aF ?aO ?aB ?aS ?aL ?_
                (case aP => exact (k40_mkF _ _ (⟨t170, t173, 0, 128, 0⟩ : S40) (Kd.R_reads' (Kd.R_mono (ok' := (fun k_ => ((fun k_ => (P0_0_ k_ ∨ w.heap.size ≤ k_) ∧ some k_ ≠ (.slice Ao45 y167.length co45 : Value).ownBlock ∧ k_ ≠ gb152)) k_ ∧ some k_ ≠ (u3 : Value).ownBlock)) (Kd.R_types (Kd.R_apart' (HO172.out) (Kd.N_typed HO_3.out) (by decide)) BK152.out (by decide)) (fun k_ hk => ⟨⟨(.inr (hk.1.1.1.1.1)), ⟨hk.1.1.1.2, hk.2⟩⟩, hk.1.2⟩))).2.1 (Kd.R_F (Kd.R_mono (ok' := (fun k_ => ((fun k_ => (P0_0_ k_ ∨ w.heap.size ≤ k_) ∧ some k_ ≠ (.slice Ao45 y167.length co45 : Value).ownBlock ∧ k_ ≠ gb152)) k_ ∧ some k_ ≠ (u3 : Value).ownBlock)) (Kd.R_types (Kd.R_apart' (HO172.out) (Kd.N_typed HO_3.out) (by decide)) BK152.out (by decide)) (fun k_ hk => ⟨⟨(.inr (hk.1.1.1.1.1)), ⟨hk.1.1.1.2, hk.2⟩⟩, hk.1.2⟩))) (Kd.R_reads' (Kd.R_mono (ok' := (fun k_ => ((fun k_ => (P0_0_ k_ ∨ w.heap.size ≤ k_) ∧ some k_ ≠ (.slice Ao45 y167.length co45 : Value).ownBlock ∧ k_ ≠ gb152)) k_ ∧ some k_ ≠ (u3 : Value).ownBlock)) (Kd.R_types (Kd.R_apart' (HO175.out) (Kd.N_typed HO_3.out) (by decide)) BK152.out (by decide)) (fun k_ hk => ⟨⟨(.inr (hk.1.1.1.1.1)), ⟨hk.1.1.1.2, hk.2⟩⟩, hk.1.2⟩))).2.1 (Kd.R_F (Kd.R_mono (ok' := (fun k_ => ((fun k_ => (P0_0_ k_ ∨ w.heap.size ≤ k_) ∧ some k_ ≠ (.slice Ao45 y167.length co45 : Value).ownBlock ∧ k_ ≠ gb152)) k_ ∧ some k_ ≠ (u3 : Value).ownBlock)) (Kd.R_types (Kd.R_apart' (HO175.out) (Kd.N_typed HO_3.out) (by decide)) BK152.out (by decide)) (fun k_ hk => ⟨⟨(.inr (hk.1.1.1.1.1)), ⟨hk.1.1.1.2, hk.2⟩⟩, hk.1.2⟩)))))
                (case aB => exact (by repeat (first | (with_reducible first | exact HB.out | apply below_alloc | apply pw_below_drewN | apply below_drew1 | refine below_set ?_ GE152.out) | exact HB.out)))
                (case aF => exact (fun k_ hk => ⟨(.inr (Nat.le_trans (below_size (by repeat (first | (with_reducible first | exact HB.out | apply below_alloc | apply pw_below_drewN | apply below_drew1 | refine below_set ?_ GE152.out) | exact HB.out))) hk)), Kd.fresh' (HO169.out) k_ hk, Kd.freshB (g := gb152) (o := .cells #[.slice A0_0 l0_0.length c0_0, .bool a0_1, .int .u64 a0_2, .bool a0_3] 80 (0, 0)) (by (with_reducible repeat (first | refine blk_drewN ?_ _ | refine blk_drew ?_ | refine blk_alloc ?_ _)); exact BK152.out) k_ hk⟩))
                (case aO => exact (by (with_reducible repeat (first | apply Kd.N_alloc | apply Kd.N_drewN | apply Kd.N_drew)); exact Kd.N_mono HO_3.out (fun _ hk => ⟨hk.1.1.1.1, ⟨hk.1.1.2, hk.1.1.1.2⟩⟩)))
                (case aS => exact (below_size (by repeat (first | (with_reducible first | exact HB.out | apply below_alloc | apply pw_below_drewN | apply below_drew1 | refine below_set ?_ GE152.out) | exact HB.out))))
                (case aL => have := LMc41.out; omega)
                intro v177 w50 ho hb hg hat
                rw [← Ny176.out] at ho
                have n0_ := Aside0.mk (Kd.V_afterv (ok := (fun k_ => (P0_0_ k_ ∨ w.heap.size ≤ k_) ∧ some k_ ≠ (.slice Ao45 y167.length co45 : Value).ownBlock ∧ some k_ ≠ (.slice Ao49 t170.length co49 : Value).ownBlock ∧ some k_ ≠ (.slice Ao48 t173.length co48 : Value).ownBlock ∧ k_ ≠ gb152)) (by (with_reducible repeat (first | apply Kd.V_alloc | apply Kd.V_drewN | apply Kd.V_drew)); exact Kd.V_mono HO_153000.out (fun _ hk => ⟨⟨hk.1.1.1.1, ⟨hk.1.1.2, ⟨hk.1.2, ⟨hk.2, hk.1.1.1.2.2⟩⟩⟩⟩, hk.1.1.1.2.1⟩)) hg hat)
                have n1_ := Aside0.mk (blk_grown (g := gb152) (o := .cells #[.slice A0_0 l0_0.length c0_0, .bool a0_1, .int .u64 a0_2, .bool a0_3] 80 (0, 0)) (by (with_reducible repeat (first | refine blk_drewN ?_ _ | refine blk_drew ?_ | refine blk_alloc ?_ _)); exact BK152.out) hg (Kd.N_ne HO_3.out BK152.out (by decide)))
                have n2_ := Aside0.mk (fun k_ (hk_ : Value.ownBlock (.slice Ao45 _ co45) = some k_) => Nat.lt_of_lt_of_le (HO169.out k_ hk_) hg.size)
                have n3_ := Aside0.mk (hb)
                have n4_ := Aside0.mk (ho)
                clear HO_153000
                clear BK152
                clear HO169
                clear HB
                clear HO_3
                clear HO172
                clear HO175
                have HO_153000 := n0_
                have BK152 := n1_
                have HO169 := n2_
                have HB := n3_
                have HO178 := n4_
                clear n0_ n1_ n2_ n3_ n4_
                clear ho hb hg hat
                refine hK.out _ _ ⟨(blk_cell BK152.out 0).trans rfl, (blk_cell BK152.out 1).trans rfl, (blk_cell BK152.out 2).trans rfl, (blk_cell BK152.out 3).trans rfl⟩ (fun hHeld => ?_)
                clear hK K
                refine norm_ (a' := ?_) ?_ ?_
                rotate_left
                · show Act.put _ (some 53) _ = _
                  simp only [Act.put, List.setIfInBounds_toArray, List.set_cons_zero, List.set_cons_succ, i64_w, i32_w]
                  rfl
                refine pure_ (i := 12) (N := some 3) (v := ?_) (a' := ?_) #[true, true, true, true, true, true, true, true, true, true, true, true, true] rfl rfl (any_of HT_.out (by kernel_rfl)) (fun _ _ _ h => h) (Or.inl ⟨by rfl, ?_⟩) ?_ ?_
                rotate_left
                · intro w'
                  go_simp
                  with_reducible rfl
                rotate_left
                · simp only [Act.put, List.setIfInBounds_toArray, List.set_cons_zero, List.set_cons_succ, i64_w, i32_w]
                  rfl
                refine done_ (done_of HT_.out (by kernel_rfl)) ?_
                try go_wp2
                go_ret
                exact ⟨_, by first | rfl | (simp [errW_none, errW_some] <;> rfl) | (simp [*, errW_none, errW_some] <;> rfl), by (with_reducible repeat (first | apply Kd.N_alloc | apply Kd.N_drewN | apply Kd.N_drew)); exact Kd.N_mono HO178.out (fun _ hk => hk.1), by repeat (first | (with_reducible first | exact HB.out | apply below_alloc | apply pw_below_drewN | apply below_drew1 | refine below_set ?_ GE152.out) | exact HB.out)⟩
              · rw [if_neg c41] at H
                exact absurd H (by simp)
            · replace c38 := Bool.eq_false_iff.mpr c38
              subst c38
              have H1 : (some x3_1) = some r := by rw [if_neg (show ¬ (false = true) by decide)] at H; exact H
              clear H
              have H := H1
              clear H1
              obtain rfl := Option.some.inj H
              go_wp2
              go_ret
              exact ⟨_, by first | rfl | (simp [errW_none, errW_some] <;> rfl) | (simp [*, errW_none, errW_some] <;> rfl), by (with_reducible repeat (first | apply Kd.N_alloc | apply Kd.N_drewN | apply Kd.N_drew)); exact Kd.N_mono HO_3.out (fun _ hk => hk.1), by repeat (first | (with_reducible first | exact HB.out | apply below_alloc | apply pw_below_drewN | apply below_drew1 | refine below_set ?_ GE152.out) | exact HB.out)⟩

end Go.Proofs.YtbbncbjdpopkiaaDoorQ.QL
