/- The law of steps of one direction over a skip list, in the print's form. -/
import Derived.Test.YtanmgkpgfmkobaaK6
import Derived.Test.YtanmgkpgfmkobaaQT0
namespace Go.Proofs.YtanmgkpgfmkobaaQ.QSO
open Go.RowKit Go.Proofs.YtanmgkpgfmkobaaQ.Ext Go.Proofs.YtanmgkpgfmkobaaW.PrintWords Go.Proofs.YtanmgkpgfmkobaaQ.QT
set_option linter.unusedVariables false
open Classical in
/-- The law says true wherever its arguments are of their types. -/
noncomputable def laws_FnSkipOne.f (k : Nat) (l0 : List Int) (l1 : List S32) (b2 : Bool) (l2 : List S78) : Option Bool := if (∀ x ∈ l1, entWf x) ∧ (∀ x ∈ l2, stepWf x) then some true else none
theorem laws_FnSkipOne.calls (k : Nat) (A0 : Option Addr) (c0 : Nat) (l0 : List Int) (A1 : Option Addr) (c1 : Nat) (l1 : List (S32)) (a2 : Bool) (A3 : Option Addr) (c3 : Nat) (l3 : List (S78)) (r : Bool) (w : World) (hr0 : Kd.C (Kd.int .u32) w A0 l0.length l0) (hc0 : l0.length ≤ c0) (hr1 : Kd.C k32 w A1 l1.length l1) (hc1 : l1.length ≤ c1) (hr3 : Kd.C k78 w A3 l3.length l3) (hc3 : l3.length ≤ c3) (h : laws_FnSkipOne.f k l0 l1 a2 l3 = some r) :
    Calls Try.prog 10 #[.slice A0 l0.length c0, .slice A1 l1.length c1, .bool a2, .slice A3 l3.length c3] w fun e w' => e = .returned (.bool r) ∧ Below w.heap.size w w' := by
  unfold laws_FnSkipOne.f at h
  split at h
  · rename_i hw
    injection h with h
    subst h
    exact Go.Proofs.Ytanmgkpgfmkobaa.skipOne_walk A0 A1 A3 c0 c1 c3 l0 l1 a2 l3 w hr0 hc0 hr1 hc1 hr3 hc3 hw.1 hw.2
  · cases h
theorem skipOne_row (x0 : List Int) (x1 : List S32) (x2 : Bool) (x3 : List S78) (wf0 : ∀ x ∈ x0, (Lit.int .u32 x).wf = true) (wf1 : ∀ x ∈ x1, entWf x) (wf2 : True) (wf3 : ∀ x ∈ x3, stepWf x) : ∃ k, laws_FnSkipOne.f k x0 x1 x2 x3 = some true :=
  ⟨0, by unfold laws_FnSkipOne.f; exact if_pos ⟨wf1, wf3⟩⟩
end Go.Proofs.YtanmgkpgfmkobaaQ.QSO
