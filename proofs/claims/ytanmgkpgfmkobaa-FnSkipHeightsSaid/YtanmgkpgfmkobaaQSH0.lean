/- The law that a skip list's heights do not matter, in the print's form. -/
import Derived.Test.YtanmgkpgfmkobaaK7
import Derived.Test.YtanmgkpgfmkobaaQT0
namespace Go.Proofs.YtanmgkpgfmkobaaQ.QSH
open Go.RowKit Go.Proofs.YtanmgkpgfmkobaaQ.Ext Go.Proofs.YtanmgkpgfmkobaaW.PrintWords Go.Proofs.YtanmgkpgfmkobaaQ.QT
set_option linter.unusedVariables false
open Classical in
/-- The law says true wherever its arguments are of their types. -/
noncomputable def laws_FnSkipHeights.f (k : Nat) (l0 l1 : List Int) (l2 : List S32) (b3 : Bool) (l4 : List S78) : Option Bool := if (∀ x ∈ l2, entWf x) ∧ (∀ x ∈ l4, stepWf x) then some true else none
theorem laws_FnSkipHeights.calls (k : Nat) (A0 : Option Addr) (c0 : Nat) (l0 : List Int) (A1 : Option Addr) (c1 : Nat) (l1 : List Int) (A2 : Option Addr) (c2 : Nat) (l2 : List (S32)) (a3 : Bool) (A4 : Option Addr) (c4 : Nat) (l4 : List (S78)) (r : Bool) (w : World) (hr0 : Kd.C (Kd.int .u32) w A0 l0.length l0) (hc0 : l0.length ≤ c0) (hr1 : Kd.C (Kd.int .u32) w A1 l1.length l1) (hc1 : l1.length ≤ c1) (hr2 : Kd.C k32 w A2 l2.length l2) (hc2 : l2.length ≤ c2) (hr4 : Kd.C k78 w A4 l4.length l4) (hc4 : l4.length ≤ c4) (h : laws_FnSkipHeights.f k l0 l1 l2 a3 l4 = some r) :
    Calls Try.prog 9 #[.slice A0 l0.length c0, .slice A1 l1.length c1, .slice A2 l2.length c2, .bool a3, .slice A4 l4.length c4] w fun e w' => e = .returned (.bool r) ∧ Below w.heap.size w w' := by
  unfold laws_FnSkipHeights.f at h
  split at h
  · rename_i hw
    injection h with h
    subst h
    exact Go.Proofs.Ytanmgkpgfmkobaa.skipHeights_walk A0 A1 A2 A4 c0 c1 c2 c4 l0 l1 l2 a3 l4 w hr0 hc0 hr1 hc1 hr2 hc2 hr4 hc4 hw.1 hw.2
  · cases h
theorem skipHeights_row (x0 x1 : List Int) (x2 : List S32) (x3 : Bool) (x4 : List S78) (wf0 : ∀ x ∈ x0, (Lit.int .u32 x).wf = true) (wf1 : ∀ x ∈ x1, (Lit.int .u32 x).wf = true) (wf2 : ∀ x ∈ x2, entWf x) (wf3 : True) (wf4 : ∀ x ∈ x4, stepWf x) : ∃ k, laws_FnSkipHeights.f k x0 x1 x2 x3 x4 = some true :=
  ⟨0, by unfold laws_FnSkipHeights.f; exact if_pos ⟨wf2, wf4⟩⟩
end Go.Proofs.YtanmgkpgfmkobaaQ.QSH
