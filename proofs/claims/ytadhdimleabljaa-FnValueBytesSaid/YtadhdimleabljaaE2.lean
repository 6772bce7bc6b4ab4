/- Values by the specification. -/
import Derived.Test.YtadhdimleabljaaE1
import Derived.Test.YtadhdimleabljaaH3
namespace Go.Proofs.Ytadhdimleabljaa
open Go.RowKit
set_option linter.unusedVariables false
set_option linter.unusedSimpArgs false
theorem sls_three (w : World) (g t : Nat) (v1 v2 v3 : Value) (l1 l2 l3 : List Int) (hg : g = w.heap.size) (h1 : SV w v1 l1) (h2 : SV w v2 l2) (h3 : SV w v3 l3) :
    Sls (w.alloc (.cells #[v1, v2, v3] t)) (some ⟨g, 0, none⟩) 3 [l1, l2, l3] := by
  subst hg
  exact sls_new w t [v1, v2, v3] [l1, l2, l3] rfl (fun j m hj => by
    match j, hj with
    | 0, hj => exact ⟨v1, rfl, by simp at hj; subst hj; exact h1⟩
    | 1, hj => exact ⟨v2, rfl, by simp at hj; subst hj; exact h2⟩
    | 2, hj => exact ⟨v3, rfl, by simp at hj; subst hj; exact h3⟩
    | j + 3, hj => simp at hj)
set_option maxHeartbeats 2000000 in
theorem specValue_any (m u e : Int) (A : Option Addr) (n c : Nat) (l : List Int) (w : World) (h : Sl w A n (nums .u8 l)) (hc : n ≤ c) (hn : n ≤ 1000000)
    (he0 : 0 ≤ e) (he : Hid (e ≤ 18446744073709551615)) :
    Calls Try.prog 58 #[.agg #[.int .u8 m, .int .u8 u, .int .u64 e, .slice A n c]] w (Made w 5 (nums .u8 (valB m u e l))) := by
  have H := Lib.hid h
  have hlen : l.length = n := by have := h.1; rwa [nums_length] at this
  have hL := valB_len m u e l
  have hv := vint_len 9 e
  have HL := Lib.hid (And.intro hlen (And.intro hL hv))
  have HF : Hid ([[m, u], vint 9 e, l].flatten = valB m u e l) := by show _ = _; simp [valB]
  clear h hlen hL hv
  go_enter Try.func58, Try.ntmps58
  go_wp2_with fail
  have h1 := blk_new w (.cells #[.int .u8 m, .int .u8 u, .int .u64 e, .slice A n c] 69)
  have HB : Hid (Below w.heap.size w (w.alloc (.cells #[.int .u8 m, .int .u8 u, .int .u64 e, .slice A n c] 69))) := bl_alloc (Below.refl _ _) _
  generalize w.alloc (.cells #[.int .u8 m, .int .u8 u, .int .u64 e, .slice A n c] 69) = w0 at *
  have q0 := cell_blk h1 0 (.int .u8 m) rfl
  have q1 := cell_blk h1 1 (.int .u8 u) rfl
  have q2 := cell_blk h1 2 (.int .u64 e) rfl
  have q3 := cell_blk h1 3 (.slice A n c) rfl
  clear h1
  go_region_held3 (fun w' => w'.cell? ⟨w.heap.size, 0, none⟩ = some (.int .u8 m) ∧ w'.cell? ⟨w.heap.size, 1, none⟩ = some (.int .u8 u) ∧ w'.cell? ⟨w.heap.size, 2, none⟩ = some (.int .u64 e) ∧ w'.cell? ⟨w.heap.size, 3, none⟩ = some (.slice A n c) ∧ Hid (Below w.heap.size w w')) (first | ((try go_split_ands); (repeat' with_reducible apply And.intro); all_goals first | exact cell_keep (by assumption) (by assumption) | exact bl_keep (by assumption) (by assumption) | exact cell_drew (by assumption) | exact bl_keepD (by assumption) | exact cell_alloc _ (by assumption) | exact bl_keepA _ (by assumption) | exact bl_keepN _ (by assumption))) (first | (go_at_call 33; refine (specVarint_any _ _ he0 he).mono ?_; intro E w1 h1; obtain ⟨A1, c1, rfl, hc1, hs1, hb1, ho1⟩ := h1.sv; clear h1 ho1) | (go_at_call 37; refine Calls.mono (join_any _ 3 3 [[m, u], vint 9 e, l] _ (sls_three _ _ _ _ _ _ _ _ _ (by simp) (SV.mk' (Sl.up (Lib.hid (sv_two _ _ 5 m u rfl)) (by (repeat first | with_reducible exact Below.refl _ _ | with_reducible apply bl_drewN | with_reducible apply bl_drew | with_reducible apply bl_alloc | (with_reducible refine bl_trans ?_ (Hid.out (by assumption)))))) (by omega)) (SV.mk' (Sl.up (by assumption) (by (repeat first | with_reducible exact Below.refl _ _ | with_reducible apply bl_drewN | with_reducible apply bl_drew | with_reducible apply bl_alloc | (with_reducible refine bl_trans ?_ (Hid.out (by assumption)))))) (by first | assumption | omega)) (SV.mk' (Sl.up (by assumption) (by (repeat first | with_reducible exact Below.refl _ _ | with_reducible apply bl_drewN | with_reducible apply bl_drew | with_reducible apply bl_alloc | (with_reducible refine bl_trans ?_ (Hid.out (by assumption)))))) (by first | assumption | omega))) (by omega) (by show _ ≤ _; rw [HF.out]; have := HL.out; omega)) ?_; intro E w2 h2; rw [HF.out] at h2; obtain ⟨A2, c2, rfl, hc2, hs2, hb2, ho2⟩ := h2.sv; clear h2))
  all_goals go_split_ands
  all_goals (go_wp2; go_ret; exact Made.mk' (by (repeat first | with_reducible exact Below.refl _ _ | with_reducible apply bl_drewN | with_reducible apply bl_drew | with_reducible apply bl_alloc | (with_reducible refine bl_trans ?_ (Hid.out (by assumption))))) hb2.out ho2.out)
end Go.Proofs.Ytadhdimleabljaa
