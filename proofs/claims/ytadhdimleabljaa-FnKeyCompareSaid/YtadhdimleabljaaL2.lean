/- Walks of more laws on keys. -/
import Derived.Test.YtadhdimleabljaaL1
import Derived.Test.YtadhdimleabljaaC7
namespace Go.Proofs.Ytadhdimleabljaa
open Go.RowKit
set_option linter.unusedVariables false
set_option linter.unusedSimpArgs false

theorem keyBack_walk (A : Option Addr) (n c : Nat) (l : List Int) (ts : Int) (w : World) (h : Sl w A n (nums .u8 l)) (hc : n ≤ c) (hw : ∀ x ∈ l, (Lit.int .u8 x).wf = true) (hwf : (Lit.int .u64 ts).wf = true) :
    Calls Try.prog 17 #[.slice A n c, .int .u64 ts] w (Holds w) := by
  obtain ⟨hv, hv2⟩ := wf64 hwf
  clear hwf hw
  have hlen : l.length = n := by have := h.1; rwa [nums_length] at this
  have Hl := Lib.hid hlen
  clear hlen
  have H : Hid (Sl w A n (nums .u8 l)) := h
  clear h
  by_cases h1 : 2147483647 < n
  · go_enter Try.func17, Try.ntmps17
    go_wp2
    go_ret
    exact ⟨rfl, Below.refl _ _⟩
  · have hj : Hid (Sls (w.alloc (.cells #[.slice A n c] 26)) (some ⟨w.heap.size, 0, none⟩) 1 [l]) := sls_one _ _ _ _ (SV.mk' H.out hc)
    by_cases h2 : n ≤ 300
    · by_cases h0 : n = 0
      · have hz : ((n : Int) == 0) = true := by simp; omega
        clear h0
        go_enter Try.func17, Try.ntmps17
        go_wp2_with fail
        refine (few_any _ 1 1 [l] _ hj.out (by omega)).mono ?_
        rintro e w1 ⟨rfl, rfl⟩
        have hf : ([l].all fun l => decide (l.length ≤ 300)) = true := by simp [Hl.out, h2]
        rw [hf]
        clear hf
        go_wp2
        go_ret
        exact ⟨rfl, by (repeat first | with_reducible exact Below.refl _ _ | with_reducible apply bl_drewN | with_reducible apply bl_drew | with_reducible apply bl_alloc | (with_reducible refine bl_trans ?_ (Hid.out (by assumption))))⟩
      · have hz : ((n : Int) == 0) = false := by simp; omega
        have hpos : 0 < n := by omega
        clear h0
        go_enter Try.func17, Try.ntmps17
        go_wp2_with fail
        refine (few_any _ 1 1 [l] _ hj.out (by omega)).mono ?_
        rintro e w1 ⟨rfl, rfl⟩
        have hf : ([l].all fun l => decide (l.length ≤ 300)) = true := by simp [Hl.out, h2]
        rw [hf]
        clear hf
        go_wp2_with fail
        refine (withVersion_any A n c l ts _ (H.out.alloc _) (by omega) hv hv2).mono ?_
        intro e w2 h2
        obtain ⟨A2, c2, rfl, hc2, hs2, hb2, ho2⟩ := h2.sv
        clear h2 ho2
        go_wp2_with fail
        refine (keyOf_any A2 _ c2 l ts w2 hs2.out (by rw [keyB_len, Hl.out]; omega)).mono ?_
        intro e w3 h3
        obtain ⟨A3, c3, rfl, hc3, hs3, hb3, ho3⟩ := h3.sv
        clear h3 ho3
        go_wp2_with fail
        have hbb : Hid (Below w.heap.size w w3) := by show Below _ _ _; (repeat first | with_reducible exact Below.refl _ _ | with_reducible apply bl_drewN | with_reducible apply bl_drew | with_reducible apply bl_alloc | (with_reducible refine bl_trans ?_ (Hid.out (by assumption))))
        refine (sameBytes_any A3 A _ n c3 c l l w3 hs3.out (H.out.below hbb.out) (by rw [Hl.out]; omega) (by omega)).mono ?_
        rintro e w4 ⟨rfl, ⟨j, rfl⟩⟩
        rw [decide_eq_true (rfl : l = l)]
        go_wp2_with fail
        refine (versionOf_any A2 _ c2 l ts _ ((hs2.out.below hb3.out).drewN j) (by rw [Hl.out]; omega) (by rw [keyB_len, Hl.out]; omega) hv hv2).mono ?_
        rintro e w5 ⟨rfl, hb5⟩
        have HB5 := Lib.hid hb5
        clear hb5
        go_wp2
        go_ret
        exact ⟨by simp, by (repeat first | with_reducible exact Below.refl _ _ | with_reducible apply bl_drewN | with_reducible apply bl_drew | with_reducible apply bl_alloc | (with_reducible refine bl_trans ?_ (Hid.out (by assumption))))⟩
    · go_enter Try.func17, Try.ntmps17
      go_wp2_with fail
      refine (few_any _ 1 1 [l] _ hj.out (by omega)).mono ?_
      rintro e w1 ⟨rfl, rfl⟩
      have hf : ([l].all fun l => decide (l.length ≤ 300)) = false := by simp [Hl.out]; omega
      rw [hf]
      clear hf
      go_wp2
      go_ret
      exact ⟨rfl, by (repeat first | with_reducible exact Below.refl _ _ | with_reducible apply bl_drewN | with_reducible apply bl_drew | with_reducible apply bl_alloc | (with_reducible refine bl_trans ?_ (Hid.out (by assumption))))⟩

theorem keyCompare_walk (A : Option Addr) (n c : Nat) (l : List Int) (v : Int) (B : Option Addr) (m d : Nat) (k : List Int) (u : Int) (w : World)
    (h : Sl w A n (nums .u8 l)) (hc : n ≤ c) (hw : ∀ x ∈ l, (Lit.int .u8 x).wf = true) (hwf : (Lit.int .u64 v).wf = true)
    (h2 : Sl w B m (nums .u8 k)) (hd : m ≤ d) (hw2 : ∀ x ∈ k, (Lit.int .u8 x).wf = true) (hwf2 : (Lit.int .u64 u).wf = true) :
    Calls Try.prog 9 #[.slice A n c, .int .u64 v, .slice B m d, .int .u64 u] w (Holds w) := by
  obtain ⟨hv, hv2⟩ := wf64 hwf
  obtain ⟨hu, hu2⟩ := wf64 hwf2
  have HP : Hid (Byt (keyB l v)) := bytKey (Byt.of_wf hw) hv hv2
  have HQ : Hid (Byt (keyB k u)) := bytKey (Byt.of_wf hw2) hu hu2
  clear hwf hw hwf2 hw2
  have hlen : l.length = n := by have := h.1; rwa [nums_length] at this
  have hlen2 : k.length = m := by have := h2.1; rwa [nums_length] at this
  have HL : Hid (l.length = n ∧ k.length = m) := ⟨hlen, hlen2⟩
  clear hlen hlen2
  have H : Hid (Sl w A n (nums .u8 l)) := h
  have H2 : Hid (Sl w B m (nums .u8 k)) := h2
  clear h h2
  by_cases h1 : 2147483647 < n
  · go_enter Try.func9, Try.ntmps9
    go_wp2
    go_ret
    exact ⟨rfl, Below.refl _ _⟩
  by_cases h2 : 2147483647 < m
  · go_enter Try.func9, Try.ntmps9
    go_wp2
    go_ret
    exact ⟨rfl, Below.refl _ _⟩
  have hj : Hid (Sls (w.alloc (.cells #[.slice A n c, .slice B m d] 26)) (some ⟨w.heap.size, 0, none⟩) 2 [l, k]) := sls_two _ _ _ _ _ _ (SV.mk' H.out hc) (SV.mk' H2.out hd)
  by_cases h3 : n ≤ 300 ∧ m ≤ 300
  · obtain ⟨h3, h4⟩ := h3
    go_enter Try.func9, Try.ntmps9
    go_wp2_with fail
    refine (few_any _ 2 2 [l, k] _ hj.out (by omega)).mono ?_
    rintro e w1 ⟨rfl, rfl⟩
    have hf : ([l, k].all fun l => decide (l.length ≤ 300)) = true := by simp [HL.out.1, HL.out.2, h3, h4]
    rw [hf]
    clear hf
    go_wp2_with fail
    refine (withVersion_any A n c l v _ (H.out.alloc _) (by omega) hv hv2).mono ?_
    intro e w2 h2
    obtain ⟨A2, c2, rfl, hc2, hs2, hb2, ho2⟩ := h2.sv
    clear h2 ho2
    go_wp2_with fail
    refine (withVersion_any B m d k u _ ((H2.out.alloc _).below hb2.out) (by omega) hu hu2).mono ?_
    intro e w3 h3
    obtain ⟨A3, c3, rfl, hc3, hs3, hb3, ho3⟩ := h3.sv
    clear h3 ho3
    go_wp2_with fail
    refine (implCompare_any A2 A3 _ _ c2 c3 l k v u _ (hs2.out.below hb3.out) hs3.out HP.out HQ.out (by rw [keyB_len, HL.out.1]; omega) (by rw [keyB_len, HL.out.2]; omega)).mono ?_
    rintro e w4 ⟨rfl, hb4⟩
    have HB4 := Lib.hid hb4
    clear hb4
    go_wp2_with fail
    have hbb : Hid (Below w.heap.size w w4) := by show Below _ _ _; (repeat first | with_reducible exact Below.refl _ _ | with_reducible apply bl_drewN | with_reducible apply bl_drew | with_reducible apply bl_alloc | (with_reducible refine bl_trans ?_ (Hid.out (by assumption))))
    refine (order_any A B n m c d l k v u _ (H.out.below hbb.out) (H2.out.below hbb.out) (by omega) (by omega)).mono ?_
    rintro e w5 ⟨rfl, ⟨j, rfl⟩⟩
    rcases orderL_range l k v u with ho | ho | ho
    · rw [ho]
      clear ho
      go_wp2
      go_ret
      exact ⟨rfl, by (repeat first | with_reducible exact Below.refl _ _ | with_reducible apply bl_drewN | with_reducible apply bl_drew | with_reducible apply bl_alloc | (with_reducible refine bl_trans ?_ (Hid.out (by assumption))))⟩
    · rw [ho]
      clear ho
      go_wp2
      go_ret
      exact ⟨rfl, by (repeat first | with_reducible exact Below.refl _ _ | with_reducible apply bl_drewN | with_reducible apply bl_drew | with_reducible apply bl_alloc | (with_reducible refine bl_trans ?_ (Hid.out (by assumption))))⟩
    · rw [ho]
      clear ho
      go_wp2
      go_ret
      exact ⟨rfl, by (repeat first | with_reducible exact Below.refl _ _ | with_reducible apply bl_drewN | with_reducible apply bl_drew | with_reducible apply bl_alloc | (with_reducible refine bl_trans ?_ (Hid.out (by assumption))))⟩
  · go_enter Try.func9, Try.ntmps9
    go_wp2_with fail
    refine (few_any _ 2 2 [l, k] _ hj.out (by omega)).mono ?_
    rintro e w1 ⟨rfl, rfl⟩
    have hf : ([l, k].all fun l => decide (l.length ≤ 300)) = false := by
      simp only [List.all_cons, List.all_nil, HL.out.1, HL.out.2]
      simp only [Bool.and_true, Bool.and_eq_false_iff, decide_eq_false_iff_not]
      omega
    rw [hf]
    clear hf
    go_wp2
    go_ret
    exact ⟨rfl, by (repeat first | with_reducible exact Below.refl _ _ | with_reducible apply bl_drewN | with_reducible apply bl_drew | with_reducible apply bl_alloc | (with_reducible refine bl_trans ?_ (Hid.out (by assumption))))⟩

theorem keySame_walk (A : Option Addr) (n c : Nat) (l : List Int) (v : Int) (B : Option Addr) (m d : Nat) (k : List Int) (u : Int) (w : World)
    (h : Sl w A n (nums .u8 l)) (hc : n ≤ c) (hw : ∀ x ∈ l, (Lit.int .u8 x).wf = true) (hwf : (Lit.int .u64 v).wf = true)
    (h2 : Sl w B m (nums .u8 k)) (hd : m ≤ d) (hw2 : ∀ x ∈ k, (Lit.int .u8 x).wf = true) (hwf2 : (Lit.int .u64 u).wf = true) :
    Calls Try.prog 13 #[.slice A n c, .int .u64 v, .slice B m d, .int .u64 u] w (Holds w) := by
  obtain ⟨hv, hv2⟩ := wf64 hwf
  obtain ⟨hu, hu2⟩ := wf64 hwf2
  have HP : Hid (Byt (keyB l v)) := bytKey (Byt.of_wf hw) hv hv2
  have HQ : Hid (Byt (keyB k u)) := bytKey (Byt.of_wf hw2) hu hu2
  clear hwf hw hwf2 hw2
  have hlen : l.length = n := by have := h.1; rwa [nums_length] at this
  have hlen2 : k.length = m := by have := h2.1; rwa [nums_length] at this
  have HL : Hid (l.length = n ∧ k.length = m) := ⟨hlen, hlen2⟩
  clear hlen hlen2
  have H : Hid (Sl w A n (nums .u8 l)) := h
  have H2 : Hid (Sl w B m (nums .u8 k)) := h2
  clear h h2
  by_cases h1 : 2147483647 < n
  · go_enter Try.func13, Try.ntmps13
    go_wp2
    go_ret
    exact ⟨rfl, Below.refl _ _⟩
  by_cases h2 : 2147483647 < m
  · go_enter Try.func13, Try.ntmps13
    go_wp2
    go_ret
    exact ⟨rfl, Below.refl _ _⟩
  have hj : Hid (Sls (w.alloc (.cells #[.slice A n c, .slice B m d] 26)) (some ⟨w.heap.size, 0, none⟩) 2 [l, k]) := sls_two _ _ _ _ _ _ (SV.mk' H.out hc) (SV.mk' H2.out hd)
  by_cases h3 : n ≤ 300 ∧ m ≤ 300
  · obtain ⟨h3, h4⟩ := h3
    go_enter Try.func13, Try.ntmps13
    go_wp2_with fail
    refine (few_any _ 2 2 [l, k] _ hj.out (by omega)).mono ?_
    rintro e w1 ⟨rfl, rfl⟩
    have hf : ([l, k].all fun l => decide (l.length ≤ 300)) = true := by simp [HL.out.1, HL.out.2, h3, h4]
    rw [hf]
    clear hf
    go_wp2_with fail
    refine (withVersion_any A n c l v _ (H.out.alloc _) (by omega) hv hv2).mono ?_
    intro e w2 h2
    obtain ⟨A2, c2, rfl, hc2, hs2, hb2, ho2⟩ := h2.sv
    clear h2 ho2
    go_wp2_with fail
    refine (withVersion_any B m d k u _ ((H2.out.alloc _).below hb2.out) (by omega) hu hu2).mono ?_
    intro e w3 h3
    obtain ⟨A3, c3, rfl, hc3, hs3, hb3, ho3⟩ := h3.sv
    clear h3 ho3
    go_wp2_with fail
    refine (implSame_any A2 A3 _ _ c2 c3 l k v u _ (hs2.out.below hb3.out) hs3.out HP.out HQ.out (by rw [keyB_len, HL.out.1]; omega) (by rw [keyB_len, HL.out.2]; omega)).mono ?_
    rintro e w4 ⟨rfl, hb4⟩
    have HB4 := Lib.hid hb4
    clear hb4
    generalize hq : decide (l = k) = b
    have HQ2 := Lib.hid hq
    clear hq
    go_wp2_with fail
    have hbb : Hid (Below w.heap.size w w4) := by show Below _ _ _; (repeat first | with_reducible exact Below.refl _ _ | with_reducible apply bl_drewN | with_reducible apply bl_drew | with_reducible apply bl_alloc | (with_reducible refine bl_trans ?_ (Hid.out (by assumption))))
    refine (sameBytes_any A B n m c d l k _ (H.out.below hbb.out) (H2.out.below hbb.out) (by omega) (by omega)).mono ?_
    rintro e w5 ⟨rfl, ⟨j, rfl⟩⟩
    rw [HQ2.out]
    go_wp2
    go_ret
    exact ⟨by simp, by (repeat first | with_reducible exact Below.refl _ _ | with_reducible apply bl_drewN | with_reducible apply bl_drew | with_reducible apply bl_alloc | (with_reducible refine bl_trans ?_ (Hid.out (by assumption))))⟩
  · go_enter Try.func13, Try.ntmps13
    go_wp2_with fail
    refine (few_any _ 2 2 [l, k] _ hj.out (by omega)).mono ?_
    rintro e w1 ⟨rfl, rfl⟩
    have hf : ([l, k].all fun l => decide (l.length ≤ 300)) = false := by
      simp only [List.all_cons, List.all_nil, HL.out.1, HL.out.2]
      simp only [Bool.and_true, Bool.and_eq_false_iff, decide_eq_false_iff_not]
      omega
    rw [hf]
    clear hf
    go_wp2
    go_ret
    exact ⟨rfl, by (repeat first | with_reducible exact Below.refl _ _ | with_reducible apply bl_drewN | with_reducible apply bl_drew | with_reducible apply bl_alloc | (with_reducible refine bl_trans ?_ (Hid.out (by assumption))))⟩
end Go.Proofs.Ytadhdimleabljaa
