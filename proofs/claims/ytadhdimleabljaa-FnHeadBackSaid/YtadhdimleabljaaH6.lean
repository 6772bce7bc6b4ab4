/- Heads of records are read again: the law. -/
import Derived.Test.YtadhdimleabljaaH5
namespace Go.Proofs.Ytadhdimleabljaa
open Go.RowKit
set_option linter.unusedVariables false
set_option linter.unusedSimpArgs false
theorem headBack_walk0 (k d e m u : Int) (A : Option Addr) (n c : Nat) (l : List Int) (w : World) (hin : HeadIn k d e) (h : Sl w A n (nums .u8 l)) (hc : n ≤ c) (hw : ∀ x ∈ l, (Lit.int .u8 x).wf = true) :
    Calls Try.prog 19 #[.agg #[.int .u32 k, .int .u32 d, .int .u64 e, .int .u8 m, .int .u8 u], .slice A n c] w (Holds w) := by
  obtain ⟨hk0, hk, hd0, hd, he0, he⟩ := hin
  have hL := headB_len k d e m u hk hd
  obtain ⟨hL1, hL2⟩ := hL
  have HP : Hid (Byt l) := Byt.of_wf hw
  clear hw
  have hlen : l.length = n := by have := h.1; rwa [nums_length] at this
  have Hl := Lib.hid hlen
  clear hlen
  have H : Hid (Sl w A n (nums .u8 l)) := h
  clear h
  by_cases h1 : 2147483647 < n
  · go_enter Try.func19, Try.ntmps19
    go_wp2
    go_ret
    exact ⟨rfl, by (repeat first | with_reducible exact Below.refl _ _ | with_reducible apply bl_drewN | with_reducible apply bl_drew | with_reducible apply bl_alloc | (with_reducible refine bl_trans ?_ (Hid.out (by assumption))))⟩
  have hb0 := blk_new w (.cells #[.int .u32 k, .int .u32 d, .int .u64 e, .int .u8 m, .int .u8 u] 37)
  have HQ := Lib.hid hb0
  clear hb0
  have hj : Hid (Sls ((w.alloc (.cells #[.int .u32 k, .int .u32 d, .int .u64 e, .int .u8 m, .int .u8 u] 37)).alloc (.cells #[.slice A n c] 26)) (some ⟨w.heap.size + 1, 0, none⟩) 1 [l]) := by
    have := sls_one (w.alloc (.cells #[.int .u32 k, .int .u32 d, .int .u64 e, .int .u8 m, .int .u8 u] 37)) 26 _ _ (SV.mk' (H.out.alloc _) hc)
    rwa [show (w.alloc (.cells #[.int .u32 k, .int .u32 d, .int .u64 e, .int .u8 m, .int .u8 u] 37)).heap.size = w.heap.size + 1 from by simp] at this
  by_cases h2 : n ≤ 300
  · go_enter Try.func19, Try.ntmps19
    go_wp2_with fail
    refine (few_any _ 1 1 [l] _ hj.out (by omega)).mono ?_
    rintro e w1 ⟨rfl, rfl⟩
    have hf : ([l].all fun l => decide (l.length ≤ 300)) = true := by simp [Hl.out, h2]
    rw [hf]
    clear hf
    go_wp2_with fail
    have HB1 : Hid (Below w.heap.size w ((w.alloc (.cells #[.int .u32 k, .int .u32 d, .int .u64 e, .int .u8 m, .int .u8 u] 37)).alloc (.cells #[.slice A n c] 26))) := bl_alloc (bl_alloc (Below.refl _ _) _) _
    have hq1 := blk_old HQ.out (.cells #[.slice A n c] 26)
    generalize (w.alloc (.cells #[.int .u32 k, .int .u32 d, .int .u64 e, .int .u8 m, .int .u8 u] 37)).alloc (.cells #[.slice A n c] 26) = w1 at *
    clear HQ
    refine (encodeHead_any k d e m u w1 hk0 hk hd0 hd he0 he).mono ?_
    intro E w2 h2
    obtain ⟨A2, c2, rfl, hc2, hs2, hb2, ho2⟩ := h2.sv
    clear h2 ho2
    have hb02 : Hid (Below w.heap.size w w2) := by show Below _ _ _; (repeat first | with_reducible exact Below.refl _ _ | with_reducible apply bl_drewN | with_reducible apply bl_drew | with_reducible apply bl_alloc | (with_reducible refine bl_trans ?_ (Hid.out (by assumption))))
    have hq2 := blk_below hq1 hb2.out
    clear hq1
    go_wp2_with fail
    have hsj : Hid (Sls (w2.alloc (.cells #[.slice A2 (headB k d e m u).length c2, .slice A n c] 26)) (some ⟨w2.heap.size, 0, none⟩) 2 [headB k d e m u, l]) := sls_two _ _ _ _ _ _ (SV.mk' hs2.out hc2) (SV.mk' (H.out.below hb02.out) hc)
    refine (join_any _ 2 2 [headB k d e m u, l] _ hsj.out (by omega) ?d1).mono ?_
    case d1 => show _ ≤ _; simp; have := Hl.out; omega
    intro E w3 h3
    have e1 : [headB k d e m u, l].flatten = headB k d e m u ++ l := by simp
    rw [e1] at h3
    clear e1
    obtain ⟨A3, c3, rfl, hc3, hs3, hb3, ho3⟩ := h3.sv
    clear h3 ho3
    have hq3 := blk_below (blk_old hq2 (.cells #[.slice A2 (headB k d e m u).length c2, .slice A n c] 26)) hb3.out
    clear hq2
    go_wp2_with fail
    refine (implDecode_any A3 ((headB k d e m u).length + l.length) c3 k d e m u l w3 (by rw [← List.length_append]; exact hs3.out) (by rw [Hl.out]; omega) HP.out hk0 hk hd0 hd he0 he).mono ?_
    rintro E w4 ⟨rfl, hb4⟩
    have HB4 := Lib.hid hb4
    have hq4 := blk_below hq3 hb4
    have p0 := cell_blk hq4 0 (.int .u32 k) rfl
    have p1 := cell_blk hq4 1 (.int .u32 d) rfl
    have p2 := cell_blk hq4 2 (.int .u64 e) rfl
    have p3 := cell_blk hq4 3 (.int .u8 m) rfl
    have p4 := cell_blk hq4 4 (.int .u8 u) rfl
    have hlt : w.heap.size < w4.heap.size := World.block_lt_of_cell? w4 _ p0
    clear hq3 hb4 hq4
    go_wp2
    go_ret
    refine ⟨?_, by (repeat first | with_reducible exact Below.refl _ _ | with_reducible apply bl_drewN | with_reducible apply bl_drew | with_reducible apply bl_alloc | (with_reducible refine bl_trans ?_ (Hid.out (by assumption))))⟩
    have e0 : decide (0 < (headB k d e m u).length) = true := decide_eq_true (by omega)
    simp [e0]
  · go_enter Try.func19, Try.ntmps19
    go_wp2_with fail
    refine (few_any _ 1 1 [l] _ hj.out (by omega)).mono ?_
    rintro e w1 ⟨rfl, rfl⟩
    have hf : ([l].all fun l => decide (l.length ≤ 300)) = false := by simp [Hl.out]; omega
    rw [hf]
    clear hf
    go_wp2
    go_ret
    exact ⟨rfl, by (repeat first | with_reducible exact Below.refl _ _ | with_reducible apply bl_drewN | with_reducible apply bl_drew | with_reducible apply bl_alloc | (with_reducible refine bl_trans ?_ (Hid.out (by assumption))))⟩
theorem headBack_walk (s : HeadD) (A : Option Addr) (n c : Nat) (l : List Int) (w : World) (hs : s.ok) (h : Sl w A n (nums .u8 l)) (hc : n ≤ c) (hw : ∀ x ∈ l, (Lit.int .u8 x).wf = true) :
    Calls Try.prog 19 #[s.val, .slice A n c] w (Holds w) := by
  have := headIn_of hs
  obtain ⟨k, d, e, m, u⟩ := s
  exact headBack_walk0 k d e m u A n c l w this h hc hw
end Go.Proofs.Ytadhdimleabljaa
