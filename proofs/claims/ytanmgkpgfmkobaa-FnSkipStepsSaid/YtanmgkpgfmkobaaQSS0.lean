/- The law of an iterator's steps over a skip list, in the print's form. -/
import Derived.Test.YtanmgkpgfmkobaaJ7
import Derived.Test.YtanmgkpgfmkobaaQT0
namespace Go.Proofs.YtanmgkpgfmkobaaQ.QSS
open Go.RowKit Go.Proofs.YtanmgkpgfmkobaaQ.Ext Go.Proofs.YtanmgkpgfmkobaaW.PrintWords Go.Proofs.YtanmgkpgfmkobaaQ.QT
set_option linter.unusedVariables false
open Classical in
/-- The law says true wherever its arguments are of their types. -/
noncomputable def laws_FnSkipSteps.f (k : Nat) (l0 : List Int) (l1 : List S32) (l2 : List S78) : Option Bool := if (∀ x ∈ l1, entWf x) ∧ (∀ x ∈ l2, stepWf x) then some true else none
theorem laws_FnSkipSteps.calls (k : Nat) (A0 : Option Addr) (c0 : Nat) (l0 : List Int) (A1 : Option Addr) (c1 : Nat) (l1 : List (S32)) (A2 : Option Addr) (c2 : Nat) (l2 : List (S78)) (r : Bool) (w : World) (hr0 : Kd.C (Kd.int .u32) w A0 l0.length l0) (hc0 : l0.length ≤ c0) (hr1 : Kd.C k32 w A1 l1.length l1) (hc1 : l1.length ≤ c1) (hr2 : Kd.C k78 w A2 l2.length l2) (hc2 : l2.length ≤ c2) (h : laws_FnSkipSteps.f k l0 l1 l2 = some r) :
    Calls Try.prog 5 #[.slice A0 l0.length c0, .slice A1 l1.length c1, .slice A2 l2.length c2] w fun e w' => e = .returned (.bool r) ∧ Below w.heap.size w w' := by
  unfold laws_FnSkipSteps.f at h
  split at h
  · rename_i hw
    injection h with h
    subst h
    exact Go.Proofs.Ytanmgkpgfmkobaa.skipSteps_walk A0 A1 A2 c0 c1 c2 l0 l1 l2 w hr0 hc0 hr1 hc1 hr2 hc2 hw.1 hw.2
  · cases h
theorem skipSteps_row (x0 : List Int) (x1 : List S32) (x2 : List S78) (wf0 : ∀ x ∈ x0, (Lit.int .u32 x).wf = true) (wf1 : ∀ x ∈ x1, entWf x) (wf2 : ∀ x ∈ x2, stepWf x) : ∃ k, laws_FnSkipSteps.f k x0 x1 x2 = some true :=
  ⟨0, by unfold laws_FnSkipSteps.f; exact if_pos ⟨wf1, wf2⟩⟩
end Go.Proofs.YtanmgkpgfmkobaaQ.QSS
