/- The law that changes, made set by set, leave what a manifest with them tells, in the print's form. -/
import Derived.Test.YtpfmmbhbmdbmeaaYD
import Derived.Test.YtpfmmbhbmdbmeaaQT0
import Derived.Test.YtpfmmbhbmdbmeaaVZ
namespace Go.Proofs.YtpfmmbhbmdbmeaaQ.QMA
open Go.RowKit Go.Proofs.YtpfmmbhbmdbmeaaQ.Ext Go.Proofs.YtpfmmbhbmdbmeaaW.PrintWords Go.Proofs.YtpfmmbhbmdbmeaaQ.QT
set_option linter.unusedVariables false
open Classical in
/-- The law says true wherever its arguments are of their types and not too great. -/
noncomputable def laws_FnManifestAnew.f (k : Nat) (l0 : List (List S36)) : Option Bool := if (∀ x ∈ l0, ∀ y ∈ x, chgWf y) ∧ l0.length ≤ 2000000 ∧ (toSets l0).flatten.length ≤ 2000000 then some true else none
theorem laws_FnManifestAnew.calls (k : Nat) (A0 : Option Addr) (c0 : Nat) (l0 : List (List S36)) (r : Bool) (w : World) (hr0 : Kd.C (Kd.slice 36 k36) w A0 l0.length l0) (hc0 : l0.length ≤ c0) (h : laws_FnManifestAnew.f k l0 = some r) :
    Calls Try.prog 3 #[.slice A0 l0.length c0] w fun e w' => e = .returned (.bool r) ∧ Below w.heap.size w w' := by
  unfold laws_FnManifestAnew.f at h
  split at h
  · rename_i hw
    injection h with h
    subst h
    exact Go.Proofs.Ytpfmmbhbmdbmeaa.manifestAnew_walk A0 c0 l0 w hr0 hc0 hw.1 hw.2.1 hw.2.2
  · cases h
theorem flat_sets (l : List (List S36)) : (toSets l).flatten.length = l.flatten.length := by
  induction l with
  | nil => rfl
  | cons a l ih =>
    have e : toSets (a :: l) = a.map toChg :: toSets l := rfl
    rw [e, List.flatten_cons, List.flatten_cons, List.length_append, List.length_append, ih, List.length_map]
theorem manifestAnew_row (x0 : List (List S36)) (wf0 : ∀ x ∈ x0, ∀ y ∈ x, chgWf y) (hb : (x0.map fun x => (x.map fun _ => 1).sum + 1).sum + 1 ≤ 1048576) : ∃ k, laws_FnManifestAnew.f k x0 = some true := by
  rw [sum_lists] at hb
  exact ⟨0, by unfold laws_FnManifestAnew.f; exact if_pos ⟨wf0, by omega, by rw [flat_sets]; omega⟩⟩
end Go.Proofs.YtpfmmbhbmdbmeaaQ.QMA
