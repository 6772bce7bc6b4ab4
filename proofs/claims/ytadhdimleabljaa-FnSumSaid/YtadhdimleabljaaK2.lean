/- The checksum: the law. -/
import Derived.Test.YtadhdimleabljaaK1
namespace Go.Proofs.Ytadhdimleabljaa
open Go.RowKit
set_option linter.unusedVariables false
set_option linter.unusedSimpArgs false
theorem sum_walk (A : Option Addr) (n c : Nat) (l : List Int) (w : World) (h : Sl w A n (nums .u8 l)) (hc : n ≤ c) (hw : ∀ x ∈ l, (Lit.int .u8 x).wf = true) :
    Calls Try.prog 8 #[.slice A n c] w (Holds w) := by
  have HP : Hid (Byt l) := Byt.of_wf hw
  have hr := crcOut_in l HP.out
  obtain ⟨r0, r1⟩ := hr
  have hwr : IntKind.u64.wrap (crcOut l) = crcOut l := wrapU64 _ r0 (u32_64' r1).out
  clear hw
  have hlen : l.length = n := by have := h.1; rwa [nums_length] at this
  have Hl := Lib.hid hlen
  clear hlen
  have H : Hid (Sl w A n (nums .u8 l)) := h
  clear h
  by_cases h1 : 2147483647 < n
  · go_enter Try.func8, Try.ntmps8
    go_wp2
    go_ret
    exact ⟨rfl, Below.refl _ _⟩
  have hj : Hid (Sls (w.alloc (.cells #[.slice A n c] 26)) (some ⟨w.heap.size, 0, none⟩) 1 [l]) := sls_one _ _ _ _ (SV.mk' H.out hc)
  by_cases h2 : n ≤ 300
  · go_enter Try.func8, Try.ntmps8
    go_wp2_with fail
    refine (few_any _ 1 1 [l] _ hj.out (by omega)).mono ?_
    rintro e w1 ⟨rfl, rfl⟩
    have hf : ([l].all fun l => decide (l.length ≤ 300)) = true := by simp [Hl.out, h2]
    rw [hf]
    clear hf
    go_wp2_with fail
    refine (sum_any A n c l _ (H.out.alloc _) HP.out (by omega)).mono ?_
    rintro e w2 ⟨rfl, hb2⟩
    have HB2 := Lib.hid hb2
    clear hb2
    have H2 := Lib.hid ((H.out.alloc (.cells #[.slice A n c] 26)).below HB2.out)
    go_wp2_with fail
    refine (specCastagnoli_any A n c l w2 H2.out HP.out (by omega)).mono ?_
    rintro e w3 ⟨rfl, rfl⟩
    go_wp2_with fail
    refine (sumPlain_any A n c l w2 H2.out HP.out (by omega)).mono ?_
    rintro e w4 ⟨rfl, hb4⟩
    have HB4 := Lib.hid hb4
    clear hb4
    go_wp2_with fail
    refine (specCastagnoli_any A n c l w4 (H2.out.below HB4.out) HP.out (by omega)).mono ?_
    rintro e w5 ⟨rfl, rfl⟩
    go_wp2
    go_ret
    exact ⟨by simp, by (repeat first | with_reducible exact Below.refl _ _ | with_reducible apply bl_drewN | with_reducible apply bl_drew | with_reducible apply bl_alloc | (with_reducible refine bl_trans ?_ (Hid.out (by assumption))))⟩
  · go_enter Try.func8, Try.ntmps8
    go_wp2_with fail
    refine (few_any _ 1 1 [l] _ hj.out (by omega)).mono ?_
    rintro e w1 ⟨rfl, rfl⟩
    have hf : ([l].all fun l => decide (l.length ≤ 300)) = false := by simp [Hl.out]; omega
    rw [hf]
    clear hf
    go_wp2
    go_ret
    exact ⟨rfl, by (repeat first | with_reducible exact Below.refl _ _ | with_reducible apply bl_drewN | with_reducible apply bl_drew | with_reducible apply bl_alloc | (with_reducible refine bl_trans ?_ (Hid.out (by assumption))))⟩
end Go.Proofs.Ytadhdimleabljaa
