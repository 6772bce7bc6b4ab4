/- The law of the order of commits, in the print's form. -/
import Derived.Test.YtanmgkpgfmkobaaD9
import Derived.Test.YtanmgkpgfmkobaaQT0
namespace Go.Proofs.YtanmgkpgfmkobaaQ.QOX
open Go.RowKit Go.Proofs.YtanmgkpgfmkobaaQ.Ext Go.Proofs.YtanmgkpgfmkobaaW.PrintWords Go.Proofs.YtanmgkpgfmkobaaQ.QT
set_option linter.unusedVariables false
open Classical in
/-- The law says true wherever its arguments are of their types. -/
noncomputable def laws_FnOracleSerial.f (k : Nat) (l0 : List S55) : Option Bool := if (∀ x ∈ l0, actWf x) then some true else none
theorem laws_FnOracleSerial.calls (k : Nat) (A0 : Option Addr) (c0 : Nat) (l0 : List (S55)) (r : Bool) (w : World) (hr0 : Kd.C k55 w A0 l0.length l0) (hc0 : l0.length ≤ c0) (h : laws_FnOracleSerial.f k l0 = some r) :
    Calls Try.prog 8 #[.slice A0 l0.length c0] w fun e w' => e = .returned (.bool r) ∧ Below w.heap.size w w' := by
  unfold laws_FnOracleSerial.f at h
  split at h
  · rename_i hw
    injection h with h
    subst h
    exact Go.Proofs.Ytanmgkpgfmkobaa.serial_walk A0 c0 l0 w hr0 hc0 hw
  · cases h
theorem serial_row (x0 : List S55) (wf0 : ∀ x ∈ x0, actWf x) : ∃ k, laws_FnOracleSerial.f k x0 = some true :=
  ⟨0, by unfold laws_FnOracleSerial.f; exact if_pos wf0⟩
end Go.Proofs.YtanmgkpgfmkobaaQ.QOX
