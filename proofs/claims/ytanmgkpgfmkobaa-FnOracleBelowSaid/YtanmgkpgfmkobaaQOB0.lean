/- The law of what may go, in the print's form. -/
import Derived.Test.YtanmgkpgfmkobaaD8
import Derived.Test.YtanmgkpgfmkobaaQT0
namespace Go.Proofs.YtanmgkpgfmkobaaQ.QOB
open Go.RowKit Go.Proofs.YtanmgkpgfmkobaaQ.Ext Go.Proofs.YtanmgkpgfmkobaaW.PrintWords Go.Proofs.YtanmgkpgfmkobaaQ.QT
set_option linter.unusedVariables false
open Classical in
/-- The law says true wherever its arguments are of their types. -/
noncomputable def laws_FnOracleBelow.f (k : Nat) (b0 : Bool) (l1 : List S55) : Option Bool := if (∀ x ∈ l1, actWf x) then some true else none
theorem laws_FnOracleBelow.calls (k : Nat) (a0 : Bool) (A1 : Option Addr) (c1 : Nat) (l1 : List (S55)) (r : Bool) (w : World) (hr1 : Kd.C k55 w A1 l1.length l1) (hc1 : l1.length ≤ c1) (h : laws_FnOracleBelow.f k a0 l1 = some r) :
    Calls Try.prog 7 #[.bool a0, .slice A1 l1.length c1] w fun e w' => e = .returned (.bool r) ∧ Below w.heap.size w w' := by
  unfold laws_FnOracleBelow.f at h
  split at h
  · rename_i hw
    injection h with h
    subst h
    exact Go.Proofs.Ytanmgkpgfmkobaa.below_walk a0 A1 c1 l1 w hr1 hc1 hw
  · cases h
theorem below_row (x0 : Bool) (x1 : List S55) (wf0 : True) (wf1 : ∀ x ∈ x1, actWf x) : ∃ k, laws_FnOracleBelow.f k x0 x1 = some true :=
  ⟨0, by unfold laws_FnOracleBelow.f; exact if_pos wf1⟩
end Go.Proofs.YtanmgkpgfmkobaaQ.QOB
