/- Walks of laws on keys. -/
import Derived.Test.YtadhdimleabljaaC5
namespace Go.Proofs.Ytadhdimleabljaa
open Go.RowKit
set_option linter.unusedVariables false
set_option linter.unusedSimpArgs false

/-- What a law's call comes to. -/
def Holds (w : World) (e : Ending) (w' : World) : Prop := e = .returned (.bool true) ∧ Below w.heap.size w w'

theorem keyBytes_walk (A : Option Addr) (n c : Nat) (l : List Int) (ts : Int) (w : World) (h : Sl w A n (nums .u8 l)) (hc : n ≤ c) (hw : ∀ x ∈ l, (Lit.int .u8 x).wf = true) (hwf : (Lit.int .u64 ts).wf = true) :
    Calls Try.prog 4 #[.slice A n c, .int .u64 ts] w (Holds w) := by
  obtain ⟨hv, hv2⟩ := wf64 hwf
  clear hwf hw
  have hlen : l.length = n := by have := h.1; rwa [nums_length] at this
  have Hl := Lib.hid hlen
  clear hlen
  have H : Hid (Sl w A n (nums .u8 l)) := h
  clear h
  by_cases h1 : 2147483647 < n
  · go_enter Try.func4, Try.ntmps4
    go_wp2
    go_ret
    exact ⟨rfl, Below.refl _ _⟩
  · have hj : Hid (Sls (w.alloc (.cells #[.slice A n c] 26)) (some ⟨w.heap.size, 0, none⟩) 1 [l]) := sls_one _ _ _ _ (SV.mk' H.out hc)
    by_cases h2 : n ≤ 300
    · go_enter Try.func4, Try.ntmps4
      go_wp2_with fail
      refine (few_any _ 1 1 [l] _ hj.out (by omega)).mono ?_
      rintro e w1 ⟨rfl, rfl⟩
      have hf : ([l].all fun l => decide (l.length ≤ 300)) = true := by simp [Hl.out, h2]
      rw [hf]
      clear hf
      go_wp2_with fail
      refine (withVersion_any A n c l ts _ (H.out.alloc _) (by omega) hv hv2).mono ?_
      intro e w2 h2
      obtain ⟨A2, c2, rfl, hc2, hs2, hb2, ho2⟩ := h2.sv
      clear h2 ho2
      go_wp2_with fail
      refine (specKeyBytes_any A n c l ts _ ((H.out.alloc _).below hb2.out) hc (by omega) hv hv2).mono ?_
      intro e w3 h3
      obtain ⟨A3, c3, rfl, hc3, hs3, hb3, ho3⟩ := h3.sv
      clear h3 ho3
      go_wp2_with fail
      refine (sameBytes_any A2 A3 _ _ c2 c3 _ _ _ (hs2.out.below hb3.out) hs3.out (by rw [keyB_len, Hl.out]; omega) (by rw [keyB_len, Hl.out]; omega)).mono ?_
      rintro e w4 ⟨rfl, ⟨j, rfl⟩⟩
      rw [decide_eq_true (rfl : keyB l ts = keyB l ts)]
      go_wp2
      go_ret
      exact ⟨rfl, by (repeat first | with_reducible exact Below.refl _ _ | with_reducible apply bl_drewN | with_reducible apply bl_drew | with_reducible apply bl_alloc | (with_reducible refine bl_trans ?_ (Hid.out (by assumption))))⟩
    · go_enter Try.func4, Try.ntmps4
      go_wp2_with fail
      refine (few_any _ 1 1 [l] _ hj.out (by omega)).mono ?_
      rintro e w1 ⟨rfl, rfl⟩
      have hf : ([l].all fun l => decide (l.length ≤ 300)) = false := by simp [Hl.out]; omega
      rw [hf]
      clear hf
      go_wp2
      go_ret
      exact ⟨rfl, by (repeat first | with_reducible exact Below.refl _ _ | with_reducible apply bl_drewN | with_reducible apply bl_drew | with_reducible apply bl_alloc | (with_reducible refine bl_trans ?_ (Hid.out (by assumption))))⟩
end Go.Proofs.Ytadhdimleabljaa
