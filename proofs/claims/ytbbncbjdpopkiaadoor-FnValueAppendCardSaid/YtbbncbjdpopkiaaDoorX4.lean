/- Values in bytes, as the print tells them. -/
import Derived.Test.YtbbncbjdpopkiaaDoorGX
import Derived.Test.YtbbncbjdpopkiaaDoorE4
import Derived.Test.YtbbncbjdpopkiaaDoorGE
namespace Go.Proofs.YtbbncbjdpopkiaaDoorQ.Ext
open Go.RowKit Go.Proofs.YtbbncbjdpopkiaaDoorW.PrintWords
set_option linter.unusedVariables false
def impl_EncodeValue.f (a0_0 : Int) (a0_1 : Int) (a0_2 : Int) (l0_3 : List Int) : Option (List Int × Int) := if l0_3.length ≤ 1000000 ∧ u64ok a0_2 = true then some (YtbbncbjdpopkiaaDoor.valB a0_0 a0_1 a0_2 l0_3, ((YtbbncbjdpopkiaaDoor.valB a0_0 a0_1 a0_2 l0_3).length : Int)) else none
theorem impl_EncodeValue.calls (a0_0 : Int) (a0_1 : Int) (a0_2 : Int) (A0_3 : Option Addr) (c0_3 : Nat) (l0_3 : List Int) (r1 : List Int) (r2 : Int) (w : World) (hr0_3 : Kd.C (Kd.int .u8) w A0_3 l0_3.length l0_3) (hc0_3 : l0_3.length ≤ c0_3) (h : impl_EncodeValue.f a0_0 a0_1 a0_2 l0_3 = some (r1, r2)) :
    Calls Tryd.prog 15 #[.agg #[.int .u8 a0_0, .int .u8 a0_1, .int .u64 a0_2, .slice A0_3 l0_3.length c0_3]] w fun e w' => ∃ v0_ : Value, e = .returned (.tuple #[v0_, .int .u32 r2]) ∧ Kd.R (Kd.int .u8) 5 w' w.heap.size (fun _ => True) v0_ r1 ∧ Below w.heap.size w w' := by
  obtain ⟨⟨h0, h1⟩, h2⟩ := if_some h
  injection h2 with h2 h3
  subst h2 h3
  exact (YtbbncbjdpopkiaaDoor.encodeValue_any a0_0 a0_1 a0_2 A0_3 _ c0_3 l0_3 w (sl_of_C hr0_3) hc0_3 h0 (u64ok_of h1).1 (u64ok_of h1).2).mono fun e w' ⟨v, he, ho, hb⟩ => ⟨v, he, R_of_own ho, hb⟩
def impl_DecodeValue.f (l0 : List Int) : Option (Int × Int × Int × List Int) := match l0 with
  | b0 :: b1 :: rest => if (rest.length ≤ 900000 ∧ bytb rest = true) ∧ 0 < (YtbbncbjdpopkiaaDoor.uvarL rest 0 0).2 ∧ (YtbbncbjdpopkiaaDoor.uvarL rest 0 0).2 ≤ rest.length then some (b0, b1, (YtbbncbjdpopkiaaDoor.uvarL rest 0 0).1, rest.drop (YtbbncbjdpopkiaaDoor.uvarL rest 0 0).2.toNat) else none
  | _ => none
def spec_ValueBytes.f (a0_0 : Int) (a0_1 : Int) (a0_2 : Int) (l0_3 : List Int) : Option (List Int) := if l0_3.length ≤ 1000000 ∧ u64ok a0_2 = true then some (YtbbncbjdpopkiaaDoor.valB a0_0 a0_1 a0_2 l0_3) else none
end Go.Proofs.YtbbncbjdpopkiaaDoorQ.Ext
