/- Filters of hashes, as the print tells them. -/
import Derived.Test.YtadhdimleabljaaGX
import Derived.Test.YtadhdimleabljaaU7
namespace Go.Proofs.YtadhdimleabljaaQ.Ext
open Go.RowKit Go.Proofs.YtadhdimleabljaaW.PrintWords
set_option linter.unusedVariables false
def all32b (l : List Int) : Bool := l.all fun x => decide (0 ≤ x) && decide (x ≤ 4294967295)
theorem all32_of {l : List Int} (h : all32b l = true) : ∀ x ∈ l, 0 ≤ x ∧ x ≤ 4294967295 := by
  intro x hx
  have := List.all_eq_true.1 h x hx
  simp at this
  omega
theorem all32b_of {l : List Int} (h : ∀ x ∈ l, 0 ≤ x ∧ x ≤ 4294967295) : all32b l = true := by
  refine List.all_eq_true.2 fun x hx => ?_
  have := h x hx
  simp
  omega
def impl_FilterOf.f (l0 : List Int) (a1 : Int) : Option (List Int) := if l0.length ≤ 300 ∧ all32b l0 = true ∧ 1 ≤ a1 ∧ a1 ≤ 30 then some (Ytadhdimleabljaa.filterL (Ytadhdimleabljaa.nbOf l0.length a1.toNat) (Ytadhdimleabljaa.kOf a1.toNat) l0) else none
theorem impl_FilterOf.calls (A0 : Option Addr) (c0 : Nat) (l0 : List Int) (a1 : Int) (r : List Int) (w : World) (hr0 : Kd.C (Kd.int .u32) w A0 l0.length l0) (hc0 : l0.length ≤ c0) (h : impl_FilterOf.f l0 a1 = some r) :
    Calls Try.prog 76 #[.slice A0 l0.length c0, .int .i64 a1] w fun e w' => ∃ v0_ : Value, e = .returned (v0_) ∧ Kd.R (Kd.int .u8) 5 w' w.heap.size (fun _ => True) v0_ r ∧ Below w.heap.size w w' := by
  obtain ⟨⟨h0, h1, h2, h3⟩, rfl⟩ := if_some h
  obtain ⟨b, rfl⟩ : ∃ b : Nat, a1 = (b : Int) := ⟨a1.toNat, by omega⟩
  rw [Int.toNat_natCast]
  exact (Ytadhdimleabljaa.filterOf_any A0 _ c0 l0 b w (sl_of_C hr0) (all32_of h1) h0 (by omega) (by omega)).mono fun e w' hm => made_R hm
end Go.Proofs.YtadhdimleabljaaQ.Ext
