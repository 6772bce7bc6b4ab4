/- The head of a record by the specification. -/
import Derived.Test.YtadhdimleabljaaH2
namespace Go.Proofs.Ytadhdimleabljaa
open Go.RowKit
set_option linter.unusedVariables false
set_option linter.unusedSimpArgs false
theorem Sl.up {w w' : World} {A : Option Addr} {n : Nat} {xs : List Value} (h : Hid (Sl w A n xs)) (hb : Below w.heap.size w w') : Sl w' A n xs := h.out.below hb
theorem bl_keepN {w w1 : World} (n : Nat) (h : Hid (Below w.heap.size w w1)) : Hid (Below w.heap.size w (w1.drewN n)) := bl_drewN h.out n
theorem sv_two (w : World) (g t : Nat) (a b : Int) (hg : g = w.heap.size) : Sl (w.alloc (.cells #[.int .u8 a, .int .u8 b] t)) (some ⟨g, 0, none⟩) 2 (nums .u8 [a, b]) := by
  subst hg
  have := (Blk.new w t [.int .u8 a, .int .u8 b]).sl (off := 0) (n := 2) (by simp)
  simpa [nums] using this
theorem sls_four (w : World) (g t : Nat) (v1 v2 v3 v4 : Value) (l1 l2 l3 l4 : List Int) (hg : g = w.heap.size) (h1 : SV w v1 l1) (h2 : SV w v2 l2) (h3 : SV w v3 l3) (h4 : SV w v4 l4) :
    Sls (w.alloc (.cells #[v1, v2, v3, v4] t)) (some ⟨g, 0, none⟩) 4 [l1, l2, l3, l4] := by
  subst hg
  exact sls_new w t [v1, v2, v3, v4] [l1, l2, l3, l4] rfl (fun j m hj => by
    match j, hj with
    | 0, hj => exact ⟨v1, rfl, by simp at hj; subst hj; exact h1⟩
    | 1, hj => exact ⟨v2, rfl, by simp at hj; subst hj; exact h2⟩
    | 2, hj => exact ⟨v3, rfl, by simp at hj; subst hj; exact h3⟩
    | 3, hj => exact ⟨v4, rfl, by simp at hj; subst hj; exact h4⟩
    | j + 4, hj => simp at hj)
set_option maxHeartbeats 2000000 in
theorem specHead_any (k d e m u : Int) (w : World)
    (hk0 : 0 ≤ k) (hk : k ≤ 4294967295) (hd0 : 0 ≤ d) (hd : d ≤ 4294967295) (he0 : 0 ≤ e) (he : Hid (e ≤ 18446744073709551615)) :
    Calls Try.prog 36 #[.agg #[.int .u32 k, .int .u32 d, .int .u64 e, .int .u8 m, .int .u8 u]] w (Made w 5 (nums .u8 (headB k d e m u))) := by
  have hL := headB_len k d e m u hk hd
  obtain ⟨hL1, hL2⟩ := hL
  have HF : Hid ([[m, u], vint 9 k, vint 9 d, vint 9 e].flatten = headB k d e m u) := by show _ = _; simp [headB]
  have K64 := u32_64 hk
  have D64 := u32_64 hd
  have wk : IntKind.u64.wrap k = k := wrapU64 k hk0 K64.out
  have wd : IntKind.u64.wrap d = d := wrapU64 d hd0 D64.out
  go_enter Try.func36, Try.ntmps36
  go_wp2_with fail
  have h1 := blk_new w (.cells #[.int .u32 k, .int .u32 d, .int .u64 e, .int .u8 m, .int .u8 u] 37)
  have HB : Hid (Below w.heap.size w (w.alloc (.cells #[.int .u32 k, .int .u32 d, .int .u64 e, .int .u8 m, .int .u8 u] 37))) := bl_alloc (Below.refl _ _) _
  generalize w.alloc (.cells #[.int .u32 k, .int .u32 d, .int .u64 e, .int .u8 m, .int .u8 u] 37) = w0 at *
  have q0 := cell_blk h1 0 (.int .u32 k) rfl
  have q1 := cell_blk h1 1 (.int .u32 d) rfl
  have q2 := cell_blk h1 2 (.int .u64 e) rfl
  have q3 := cell_blk h1 3 (.int .u8 m) rfl
  have q4 := cell_blk h1 4 (.int .u8 u) rfl
  clear h1
  go_region_held3 (fun w' => w'.cell? ⟨w.heap.size, 0, none⟩ = some (.int .u32 k) ∧ w'.cell? ⟨w.heap.size, 1, none⟩ = some (.int .u32 d) ∧ w'.cell? ⟨w.heap.size, 2, none⟩ = some (.int .u64 e) ∧ w'.cell? ⟨w.heap.size, 3, none⟩ = some (.int .u8 m) ∧ w'.cell? ⟨w.heap.size, 4, none⟩ = some (.int .u8 u) ∧ Hid (Below w.heap.size w w')) (first | ((try go_split_ands); (repeat' with_reducible apply And.intro); all_goals first | exact cell_keep (by assumption) (by assumption) | exact bl_keep (by assumption) (by assumption) | exact cell_drew (by assumption) | exact bl_keepD (by assumption) | exact cell_alloc _ (by assumption) | exact bl_keepA _ (by assumption) | exact bl_keepN _ (by assumption))) (first | (go_at_call 33; refine (specVarint_any _ _ (by first | exact hk0 | exact hd0 | exact he0) (by first | exact K64 | exact D64 | exact he)).mono ?_; intro E w1 h1; obtain ⟨A1, c1, rfl, hc1, hs1, hb1, ho1⟩ := h1.sv; clear h1 ho1) | (go_at_call 37; refine Calls.mono (join_any _ 4 4 [[m, u], vint 9 k, vint 9 d, vint 9 e] _ (sls_four _ _ _ _ _ _ _ _ _ _ _ (by simp) (SV.mk' (Sl.up (Lib.hid (sv_two _ _ 5 m u rfl)) (by (repeat first | with_reducible exact Below.refl _ _ | with_reducible apply bl_drewN | with_reducible apply bl_drew | with_reducible apply bl_alloc | (with_reducible refine bl_trans ?_ (Hid.out (by assumption)))))) (by omega)) (SV.mk' (Sl.up (by assumption) (by (repeat first | with_reducible exact Below.refl _ _ | with_reducible apply bl_drewN | with_reducible apply bl_drew | with_reducible apply bl_alloc | (with_reducible refine bl_trans ?_ (Hid.out (by assumption)))))) (by first | assumption | omega)) (SV.mk' (Sl.up (by assumption) (by (repeat first | with_reducible exact Below.refl _ _ | with_reducible apply bl_drewN | with_reducible apply bl_drew | with_reducible apply bl_alloc | (with_reducible refine bl_trans ?_ (Hid.out (by assumption)))))) (by first | assumption | omega)) (SV.mk' (Sl.up (by assumption) (by (repeat first | with_reducible exact Below.refl _ _ | with_reducible apply bl_drewN | with_reducible apply bl_drew | with_reducible apply bl_alloc | (with_reducible refine bl_trans ?_ (Hid.out (by assumption)))))) (by first | assumption | omega))) (by omega) (by show _ ≤ _; rw [HF.out]; omega)) ?_; intro E w2 h2; rw [HF.out] at h2; obtain ⟨A2, c2, rfl, hc2, hs2, hb2, ho2⟩ := h2.sv; clear h2))
  all_goals go_split_ands
  all_goals (go_wp2; go_ret; exact Made.mk' (by (repeat first | with_reducible exact Below.refl _ _ | with_reducible apply bl_drewN | with_reducible apply bl_drew | with_reducible apply bl_alloc | (with_reducible refine bl_trans ?_ (Hid.out (by assumption))))) hb2.out ho2.out)
def HeadIn (k d e : Int) : Prop := 0 ≤ k ∧ k ≤ 4294967295 ∧ 0 ≤ d ∧ d ≤ 4294967295 ∧ 0 ≤ e ∧ Hid (e ≤ 18446744073709551615)
theorem headBytes_walk0 (k d e m u : Int) (w : World) (hin : HeadIn k d e) : Calls Try.prog 6 #[.agg #[.int .u32 k, .int .u32 d, .int .u64 e, .int .u8 m, .int .u8 u]] w (Holds w) := by
  obtain ⟨hk0, hk, hd0, hd, he0, he⟩ := hin
  have hL := headB_len k d e m u hk hd
  obtain ⟨hL1, hL2⟩ := hL
  go_enter Try.func6, Try.ntmps6
  go_wp2_with fail
  have h1 := blk_new w (.cells #[.int .u32 k, .int .u32 d, .int .u64 e, .int .u8 m, .int .u8 u] 37)
  have HB : Hid (Below w.heap.size w (w.alloc (.cells #[.int .u32 k, .int .u32 d, .int .u64 e, .int .u8 m, .int .u8 u] 37))) := bl_alloc (Below.refl _ _) _
  generalize w.alloc (.cells #[.int .u32 k, .int .u32 d, .int .u64 e, .int .u8 m, .int .u8 u] 37) = w0 at *
  have q0 := cell_blk h1 0 (.int .u32 k) rfl
  have q1 := cell_blk h1 1 (.int .u32 d) rfl
  have q2 := cell_blk h1 2 (.int .u64 e) rfl
  have q3 := cell_blk h1 3 (.int .u8 m) rfl
  have q4 := cell_blk h1 4 (.int .u8 u) rfl
  clear h1
  go_region_held3 (fun w' => w'.cell? ⟨w.heap.size, 0, none⟩ = some (.int .u32 k) ∧ w'.cell? ⟨w.heap.size, 1, none⟩ = some (.int .u32 d) ∧ w'.cell? ⟨w.heap.size, 2, none⟩ = some (.int .u64 e) ∧ w'.cell? ⟨w.heap.size, 3, none⟩ = some (.int .u8 m) ∧ w'.cell? ⟨w.heap.size, 4, none⟩ = some (.int .u8 u) ∧ Hid (Below w.heap.size w w')) (first | ((try go_split_ands); (repeat' with_reducible apply And.intro); all_goals first | exact cell_keep (by assumption) (by assumption) | exact bl_keep (by assumption) (by assumption) | exact cell_drew (by assumption) | exact bl_keepD (by assumption) | exact cell_alloc _ (by assumption) | exact bl_keepA _ (by assumption) | exact bl_keepN _ (by assumption))) (first | (go_at_call 35; refine Calls.mono (encodeHead_any k d e m u _ hk0 hk hd0 hd he0 he) ?_; intro E w1 h1; obtain ⟨A1, c1, rfl, hc1, hs1, hb1, ho1⟩ := h1.sv; clear h1 ho1) | (go_at_call 36; refine Calls.mono (specHead_any k d e m u _ hk0 hk hd0 hd he0 he) ?_; intro E w2 h2; obtain ⟨A2, c2, rfl, hc2, hs2, hb2, ho2⟩ := h2.sv; clear h2 ho2) | (go_at_call 30; refine Calls.mono (sameBytes_any _ _ _ _ _ _ (headB k d e m u) (headB k d e m u) _ (Sl.up (by assumption) (by (repeat first | with_reducible exact Below.refl _ _ | with_reducible apply bl_drewN | with_reducible apply bl_drew | with_reducible apply bl_alloc | (with_reducible refine bl_trans ?_ (Hid.out (by assumption)))))) (Sl.up (by assumption) (by (repeat first | with_reducible exact Below.refl _ _ | with_reducible apply bl_drewN | with_reducible apply bl_drew | with_reducible apply bl_alloc | (with_reducible refine bl_trans ?_ (Hid.out (by assumption)))))) (by omega) (by omega)) ?_; rintro E w3 ⟨rfl, ⟨j, rfl⟩⟩))
  all_goals go_split_ands
  all_goals (go_wp2; go_ret; exact ⟨by simp, by (repeat first | with_reducible exact Below.refl _ _ | with_reducible apply bl_drewN | with_reducible apply bl_drew | with_reducible apply bl_alloc | (with_reducible refine bl_trans ?_ (Hid.out (by assumption))))⟩)
theorem wf32 {x : Int} (h : (Lit.int .u32 x).wf = true) : 0 ≤ x ∧ x ≤ 4294967295 := by
  simp [Lit.wf, IntKind.min, IntKind.max, IntKind.bits, IntKind.signed] at h; omega
theorem headIn_of {s : HeadD} (h : s.ok) : HeadIn s.k s.d s.e := by
  obtain ⟨h1, h2, h3, _, _⟩ := h
  exact ⟨(wf32 h1).1, (wf32 h1).2, (wf32 h2).1, (wf32 h2).2, (wf64 h3).1, (wf64 h3).2⟩
theorem headBytes_walk (s : HeadD) (w : World) (hs : s.ok) : Calls Try.prog 6 #[s.val] w (Holds w) := by
  have := headIn_of hs
  obtain ⟨k, d, e, m, u⟩ := s
  exact headBytes_walk0 k d e m u w this
end Go.Proofs.Ytadhdimleabljaa
