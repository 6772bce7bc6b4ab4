/- The law of an iterator that merges lists, in the print's form. -/
import Derived.Test.YtegaigpolhdicaaGreatAL
import Derived.Test.YtegaigpolhdicaaGreatQT0
namespace Go.Proofs.YtegaigpolhdicaaGreatQ.QMG
open Go.RowKit Go.Proofs.YtegaigpolhdicaaGreatQ.Ext Go.Proofs.YtegaigpolhdicaaGreatW.PrintWords Go.Proofs.YtegaigpolhdicaaGreatQ.QT
set_option linter.unusedVariables false
open Classical in
/-- The law says true wherever its arguments are of their types. -/
noncomputable def laws_FnMerge.f (k : Nat) (l0 : List (List S44)) (b1 : Bool) (l2 : List S39) : Option Bool := if (∀ x ∈ l0, ∀ y ∈ x, entWf y) ∧ (∀ x ∈ l2, stepWf x) then some true else none
theorem laws_FnMerge.calls (k : Nat) (A0 : Option Addr) (c0 : Nat) (l0 : List (List (S44))) (a1 : Bool) (A2 : Option Addr) (c2 : Nat) (l2 : List (S39)) (r : Bool) (w : World) (hr0 : Kd.C (Kd.slice 44 k44) w A0 l0.length l0) (hc0 : l0.length ≤ c0) (hr2 : Kd.C k39 w A2 l2.length l2) (hc2 : l2.length ≤ c2) (h : laws_FnMerge.f k l0 a1 l2 = some r) :
    Calls Tryz.prog 3 #[.slice A0 l0.length c0, .bool a1, .slice A2 l2.length c2] w fun e w' => e = .returned (.bool r) ∧ Below w.heap.size w w' := by
  unfold laws_FnMerge.f at h
  split at h
  · rename_i hw
    injection h with h
    subst h
    exact Go.Proofs.YtegaigpolhdicaaGreat.merge_walk A0 A2 c0 c2 l0 a1 l2 w hr0 hc0 hr2 hc2 hw.1 hw.2
  · cases h
theorem merge_row (x0 : List (List S44)) (x1 : Bool) (x2 : List S39) (wf0 : ∀ x ∈ x0, ∀ y ∈ x, entWf y) (wf1 : True) (wf2 : ∀ x ∈ x2, stepWf x) : ∃ k, laws_FnMerge.f k x0 x1 x2 = some true :=
  ⟨0, by unfold laws_FnMerge.f; exact if_pos ⟨wf0, wf2⟩⟩
end Go.Proofs.YtegaigpolhdicaaGreatQ.QMG
