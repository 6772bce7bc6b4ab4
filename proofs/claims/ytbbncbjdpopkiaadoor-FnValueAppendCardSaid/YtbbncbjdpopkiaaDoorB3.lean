/- A value put behind other bytes, as the print tells it. -/
import Derived.Test.YtbbncbjdpopkiaaDoorX4
import Derived.Test.YtbbncbjdpopkiaaDoorB2
namespace Go.Proofs.YtbbncbjdpopkiaaDoorQ.Ext
open Go.RowKit Go.Proofs.YtbbncbjdpopkiaaDoorW.PrintWords
set_option linter.unusedVariables false
def impl_AppendValue.f (l0 : List Int) (a1_0 : Int) (a1_1 : Int) (a1_2 : Int) (l1_3 : List Int) : Option (List Int) := if l0.length ≤ 1000000 ∧ l1_3.length ≤ 1000000 ∧ u64ok a1_2 = true then some (l0 ++ YtbbncbjdpopkiaaDoor.valB a1_0 a1_1 a1_2 l1_3) else none
theorem impl_AppendValue.calls (A0 : Option Addr) (c0 : Nat) (l0 : List Int) (a1_0 : Int) (a1_1 : Int) (a1_2 : Int) (A1_3 : Option Addr) (c1_3 : Nat) (l1_3 : List Int) (r : List Int) (w : World) (hr0 : Kd.C (Kd.int .u8) w A0 l0.length l0) (hc0 : l0.length ≤ c0) (hr1_3 : Kd.C (Kd.int .u8) w A1_3 l1_3.length l1_3) (hc1_3 : l1_3.length ≤ c1_3) (h : impl_AppendValue.f l0 a1_0 a1_1 a1_2 l1_3 = some r) :
    Calls Tryd.prog 17 #[.slice A0 l0.length c0, .agg #[.int .u8 a1_0, .int .u8 a1_1, .int .u64 a1_2, .slice A1_3 l1_3.length c1_3]] w fun e w' => ∃ v0_ : Value, e = .returned (v0_) ∧ Kd.R (Kd.int .u8) 5 w' w.heap.size (fun _ => True) v0_ r ∧ Below w.heap.size w w' := by
  obtain ⟨⟨h0, h1, h2⟩, rfl⟩ := if_some h
  exact (YtbbncbjdpopkiaaDoor.appendValue_any a1_0 a1_1 a1_2 A1_3 A0 _ c1_3 _ c0 l1_3 l0 w (sl_of_C hr1_3) hc1_3 h1 (sl_of_C hr0) h0 (u64ok_of h2).1 (u64ok_of h2).2).mono fun e w' hm => made_R hm
end Go.Proofs.YtbbncbjdpopkiaaDoorQ.Ext
