/- Changes in bytes are read again: the law's walk. -/
import Derived.Test.YtbbncbjdpopkiaaF8
namespace Go.Proofs.Ytbbncbjdpopkiaa
open Go.RowKit
set_option linter.unusedVariables false
set_option linter.unusedSimpArgs false
set_option maxRecDepth 100000 in
theorem changesBack_walk (A : Option Addr) (n c : Nat) (l : List Chg) (w : World) (h : Slc w A n l) (hc : n ≤ c) (hok : ∀ x ∈ l, Chg.ok x) :
    Calls Try.prog 4 #[.slice A n c] w (Holds w) := by
  have hl : l.length = n := h.1
  have H : Hid (Slc w A n l) := h
  have HK : Hid (∀ x ∈ l, Chg.ok x) := hok
  clear h hok
  by_cases h1 : 2147483647 < n
  · go_enter Try.func4, Try.ntmps4
    go_wp2
    go_ret
    exact ⟨rfl, Below.refl _ _⟩
  by_cases h2 : n ≤ 20
  · go_enter Try.func4, Try.ntmps4
    go_wp2_with fail
    refine (encodeChanges_any A n c l w H.out HK.out (by omega)).mono ?_
    intro E w1 h1'
    obtain ⟨A1, c1, rfl, hc1, hs1, hb1, ho1⟩ := h1'.sv
    clear h1' ho1
    go_wp2_with fail
    refine (decodeChanges_any A1 _ c1 l w1 hs1.out HK.out (by omega)).mono ?_
    rintro E w2 ⟨B, d, rfl, hs2, hb2⟩
    have HS2 := Lib.hid hs2
    have HB2 := Lib.hid hb2
    have H2 : Hid (Slc w2 A n l) := (H.out.below hb1.out).below hb2
    clear hs2 hb2
    rw [hl] at HS2
    rw [hl]
    go_wp2_with fail
    refine (sameChanges_any B A n d c l w2 HS2.out H2.out (by omega)).mono ?_
    rintro E w3 ⟨rfl, hb3⟩
    have HB3 := Lib.hid hb3
    clear hb3
    go_wp2
    go_ret
    exact ⟨rfl, by (repeat first | with_reducible exact Below.refl _ _ | with_reducible apply bl_drewN | with_reducible apply bl_drew | with_reducible apply bl_alloc | (with_reducible refine bl_trans ?_ (Hid.out (by assumption))))⟩
  · go_enter Try.func4, Try.ntmps4
    go_wp2
    go_ret
    exact ⟨rfl, Below.refl _ _⟩
end Go.Proofs.Ytbbncbjdpopkiaa
