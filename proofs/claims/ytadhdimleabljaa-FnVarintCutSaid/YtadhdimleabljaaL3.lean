/- Walks of laws on numbers in as few bytes as they need. -/
import Derived.Test.YtadhdimleabljaaL1
import Derived.Test.YtadhdimleabljaaC9
namespace Go.Proofs.Ytadhdimleabljaa
open Go.RowKit
set_option linter.unusedVariables false
set_option linter.unusedSimpArgs false

theorem varintCut_walk (x cut : Int) (w : World) (hwf : (Lit.int .u64 x).wf = true) (hwf2 : (Lit.int .i64 cut).wf = true) :
    Calls Try.prog 5 #[.int .u64 x, .int .i64 cut] w (Holds w) := by
  obtain ⟨hv, hv2⟩ := wf64 hwf
  clear hwf hwf2
  have hl := vint_len 9 x
  obtain ⟨hl1, hl2⟩ := hl
  by_cases h1 : cut < 1
  · go_enter Try.func5, Try.ntmps5
    go_wp2_with fail
    refine (specVarint_any x w hv hv2).mono ?_
    intro e w1 h1
    obtain ⟨A1, c1, rfl, hc1, hs1, hb1, ho1⟩ := h1.sv
    clear h1 ho1
    go_wp2
    go_ret
    exact ⟨rfl, by (repeat first | with_reducible exact Below.refl _ _ | with_reducible apply bl_drewN | with_reducible apply bl_drew | with_reducible apply bl_alloc | (with_reducible refine bl_trans ?_ (Hid.out (by assumption))))⟩
  by_cases h2 : ((vint 9 x).length : Int) < cut
  · go_enter Try.func5, Try.ntmps5
    go_wp2_with fail
    refine (specVarint_any x w hv hv2).mono ?_
    intro e w1 h1
    obtain ⟨A1, c1, rfl, hc1, hs1, hb1, ho1⟩ := h1.sv
    clear h1 ho1
    go_wp2
    go_ret
    exact ⟨rfl, by (repeat first | with_reducible exact Below.refl _ _ | with_reducible apply bl_drewN | with_reducible apply bl_drew | with_reducible apply bl_alloc | (with_reducible refine bl_trans ?_ (Hid.out (by assumption))))⟩
  obtain ⟨k, rfl⟩ : ∃ k : Nat, cut = (k : Int) := ⟨cut.toNat, by omega⟩
  have hk1 : 1 ≤ k := by omega
  have hk2 : k ≤ (vint 9 x).length := by omega
  clear h1 h2
  go_enter Try.func5, Try.ntmps5
  go_wp2_with fail
  refine (specVarint_any x w hv hv2).mono ?_
  intro e w1 h1
  obtain ⟨A1, c1, rfl, hc1, hs1, hb1, ho1⟩ := h1.sv
  clear h1 ho1
  go_wp2_with fail
  refine (readVarint_any A1 ((vint 9 x).length - k) c1 ((vint 9 x).take ((vint 9 x).length - k)) _ (by rw [nums_take]; exact hs1.out.take (by omega)) ((vint_byt' x hv hv2).take _) (by omega)).mono ?_
  rintro e w2 ⟨rfl, hb2⟩
  rw [uvar_short x _ hv hv2.out (by omega)]
  have HB2 := Lib.hid hb2
  clear hb2
  go_wp2_with fail
  refine (readVarint_any A1 _ c1 (vint 9 x) _ (hs1.out.below HB2.out) (vint_byt' x hv hv2) (by omega)).mono ?_
  rintro e w3 ⟨rfl, hb3⟩
  have hu := uvar_back x [] hv hv2.out
  rw [List.append_nil] at hu
  rw [hu]
  clear hu
  have HB3 := Lib.hid hb3
  clear hb3
  go_wp2
  go_ret
  exact ⟨by simp, by (repeat first | with_reducible exact Below.refl _ _ | with_reducible apply bl_drewN | with_reducible apply bl_drew | with_reducible apply bl_alloc | (with_reducible refine bl_trans ?_ (Hid.out (by assumption))))⟩

set_option maxRecDepth 10000 in
theorem varint_walk (x : Int) (A : Option Addr) (n c : Nat) (l : List Int) (w : World) (hwf : (Lit.int .u64 x).wf = true) (h : Sl w A n (nums .u8 l)) (hc : n ≤ c) (hw : ∀ x ∈ l, (Lit.int .u8 x).wf = true) :
    Calls Try.prog 12 #[.int .u64 x, .slice A n c] w (Holds w) := by
  obtain ⟨hv, hv2⟩ := wf64 hwf
  have HP : Hid (Byt l) := Byt.of_wf hw
  clear hwf hw
  have hlen : l.length = n := by have := h.1; rwa [nums_length] at this
  have Hl := Lib.hid hlen
  clear hlen
  have H : Hid (Sl w A n (nums .u8 l)) := h
  clear h
  have hl := vint_len 9 x
  have HV := Lib.hid hl
  clear hl
  by_cases h1 : 2147483647 < n
  · go_enter Try.func12, Try.ntmps12
    go_wp2
    go_ret
    exact ⟨rfl, Below.refl _ _⟩
  have hj : Hid (Sls (w.alloc (.cells #[.slice A n c] 26)) (some ⟨w.heap.size, 0, none⟩) 1 [l]) := sls_one _ _ _ _ (SV.mk' H.out hc)
  by_cases h2 : n ≤ 300
  · go_enter Try.func12, Try.ntmps12
    go_wp2_with fail
    refine (few_any _ 1 1 [l] _ hj.out (by omega)).mono ?_
    rintro e w1 ⟨rfl, rfl⟩
    have hf : ([l].all fun l => decide (l.length ≤ 300)) = true := by simp [Hl.out, h2]
    rw [hf]
    clear hf
    go_wp2_with fail
    refine (putVarint_any x _ hv hv2).mono ?_
    intro e w2 h2
    obtain ⟨A2, c2, rfl, hc2, hs2, hb2, ho2⟩ := h2.sv
    clear h2 ho2
    go_wp2_with fail
    have hsj : Hid (Sls (w2.alloc (.cells #[.slice A2 (vint 9 x).length c2, .slice A n c] 26)) (some ⟨w2.heap.size, 0, none⟩) 2 [vint 9 x, l]) := sls_two _ _ _ _ _ _ (SV.mk' hs2.out hc2) (SV.mk' ((H.out.alloc _).below hb2.out) hc)
    refine (join_any _ 2 2 [vint 9 x, l] _ hsj.out (by omega) ?d1).mono ?_
    case d1 => show _ ≤ _; simp; have := Hl.out; have := HV.out; omega
    intro e w3 h3
    have e1 : [vint 9 x, l].flatten = vint 9 x ++ l := by simp
    rw [e1] at h3
    clear e1
    obtain ⟨A3, c3, rfl, hc3, hs3, hb3, ho3⟩ := h3.sv
    clear h3 ho3
    go_wp2_with fail
    refine (readVarint_any A3 ((vint 9 x).length + l.length) c3 (vint 9 x ++ l) _ (by rw [← List.length_append]; exact hs3.out) ((vint_byt' x hv hv2).append HP.out) (by rw [Hl.out]; have := HV.out; omega)).mono ?_
    rintro e w4 ⟨rfl, hb4⟩
    rw [uvar_back x l hv hv2.out]
    have HB4 := Lib.hid hb4
    clear hb4
    go_wp2_with fail
    refine (specVarint_any x w4 hv hv2).mono ?_
    intro e w5 h5
    obtain ⟨A5, c5, rfl, hc5, hs5, hb5, ho5⟩ := h5.sv
    clear h5 ho5
    go_wp2_with fail
    have hbb : Hid (Below w2.heap.size w2 w5) := by show Below _ _ _; (repeat first | with_reducible exact Below.refl _ _ | with_reducible apply bl_drewN | with_reducible apply bl_drew | with_reducible apply bl_alloc | (with_reducible refine bl_trans ?_ (Hid.out (by assumption))))
    refine (sameBytes_any A2 A5 _ _ c2 c5 _ _ _ (hs2.out.below hbb.out) hs5.out (by have := HV.out; omega) (by have := HV.out; omega)).mono ?_
    rintro e w6 ⟨rfl, ⟨j, rfl⟩⟩
    rw [decide_eq_true (rfl : vint 9 x = vint 9 x)]
    go_wp2
    go_ret
    exact ⟨by simp, by (repeat first | with_reducible exact Below.refl _ _ | with_reducible apply bl_drewN | with_reducible apply bl_drew | with_reducible apply bl_alloc | (with_reducible refine bl_trans ?_ (Hid.out (by assumption))))⟩
  · go_enter Try.func12, Try.ntmps12
    go_wp2_with fail
    refine (few_any _ 1 1 [l] _ hj.out (by omega)).mono ?_
    rintro e w1 ⟨rfl, rfl⟩
    have hf : ([l].all fun l => decide (l.length ≤ 300)) = false := by simp [Hl.out]; omega
    rw [hf]
    clear hf
    go_wp2
    go_ret
    exact ⟨rfl, by (repeat first | with_reducible exact Below.refl _ _ | with_reducible apply bl_drewN | with_reducible apply bl_drew | with_reducible apply bl_alloc | (with_reducible refine bl_trans ?_ (Hid.out (by assumption))))⟩
end Go.Proofs.Ytadhdimleabljaa
