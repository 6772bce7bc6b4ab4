/- Values in bytes, as the print tells them. -/
import Derived.Test.YtadhdimleabljaaGX
import Derived.Test.YtadhdimleabljaaE4
import Derived.Test.YtadhdimleabljaaGE
namespace Go.Proofs.YtadhdimleabljaaQ.Ext
open Go.RowKit Go.Proofs.YtadhdimleabljaaW.PrintWords
set_option linter.unusedVariables false
def impl_EncodeValue.f (a0_0 : Int) (a0_1 : Int) (a0_2 : Int) (l0_3 : List Int) : Option (List Int × Int) := if l0_3.length ≤ 1000000 ∧ u64ok a0_2 = true then some (Ytadhdimleabljaa.valB a0_0 a0_1 a0_2 l0_3, ((Ytadhdimleabljaa.valB a0_0 a0_1 a0_2 l0_3).length : Int)) else none
theorem impl_EncodeValue.calls (a0_0 : Int) (a0_1 : Int) (a0_2 : Int) (A0_3 : Option Addr) (c0_3 : Nat) (l0_3 : List Int) (r1 : List Int) (r2 : Int) (w : World) (hr0_3 : Kd.C (Kd.int .u8) w A0_3 l0_3.length l0_3) (hc0_3 : l0_3.length ≤ c0_3) (h : impl_EncodeValue.f a0_0 a0_1 a0_2 l0_3 = some (r1, r2)) :
    Calls Try.prog 57 #[.agg #[.int .u8 a0_0, .int .u8 a0_1, .int .u64 a0_2, .slice A0_3 l0_3.length c0_3]] w fun e w' => ∃ v0_ : Value, e = .returned (.tuple #[v0_, .int .u32 r2]) ∧ Kd.R (Kd.int .u8) 5 w' w.heap.size (fun _ => True) v0_ r1 ∧ Below w.heap.size w w' := by
  obtain ⟨⟨h0, h1⟩, h2⟩ := if_some h
  injection h2 with h2 h3
  subst h2 h3
  exact (Ytadhdimleabljaa.encodeValue_any a0_0 a0_1 a0_2 A0_3 _ c0_3 l0_3 w (sl_of_C hr0_3) hc0_3 h0 (u64ok_of h1).1 (u64ok_of h1).2).mono fun e w' ⟨v, he, ho, hb⟩ => ⟨v, he, R_of_own ho, hb⟩
def impl_DecodeValue.f (l0 : List Int) : Option (Int × Int × Int × List Int) := match l0 with
  | b0 :: b1 :: rest => if (rest.length ≤ 900000 ∧ bytb rest = true) ∧ 0 < (Ytadhdimleabljaa.uvarL rest 0 0).2 ∧ (Ytadhdimleabljaa.uvarL rest 0 0).2 ≤ rest.length then some (b0, b1, (Ytadhdimleabljaa.uvarL rest 0 0).1, rest.drop (Ytadhdimleabljaa.uvarL rest 0 0).2.toNat) else none
  | _ => none
theorem impl_DecodeValue.calls (A0 : Option Addr) (c0 : Nat) (l0 : List Int) (r1 : Int) (r2 : Int) (r3 : Int) (r4 : List Int) (w : World) (hr0 : Kd.C (Kd.int .u8) w A0 l0.length l0) (hc0 : l0.length ≤ c0) (h : impl_DecodeValue.f l0 = some (r1, r2, r3, r4)) :
    Calls Try.prog 74 #[.slice A0 l0.length c0] w fun e w' => ∃ v3_ : Value, e = .returned (.agg #[.int .u8 r1, .int .u8 r2, .int .u64 r3, v3_]) ∧ Kd.R (Kd.int .u8) 5 w' w.heap.size (fun _ => True) v3_ r4 ∧ Below w.heap.size w w' := by
  match l0, hr0, hc0, h with
  | [], _, _, h => exact absurd h (by simp [impl_DecodeValue.f])
  | [_], _, _, h => exact absurd h (by simp [impl_DecodeValue.f])
  | b0 :: b1 :: rest, hr0, hc0, h =>
    obtain ⟨⟨⟨h0, h1⟩, h2, h3⟩, h4⟩ := if_some h
    simp only [Prod.mk.injEq] at h4
    obtain ⟨rfl, rfl, rfl, rfl⟩ := h4
    exact (Ytadhdimleabljaa.decodeValue_any A0 _ c0 b0 b1 rest _ _ w (sl_of_C hr0) (by simp; omega) (byt_of h1) rfl h2 h3).mono fun e w' ⟨v, he, ho, hb⟩ => ⟨v, he, R_of_own ho, hb⟩
def spec_ValueBytes.f (a0_0 : Int) (a0_1 : Int) (a0_2 : Int) (l0_3 : List Int) : Option (List Int) := if l0_3.length ≤ 1000000 ∧ u64ok a0_2 = true then some (Ytadhdimleabljaa.valB a0_0 a0_1 a0_2 l0_3) else none
theorem spec_ValueBytes.calls (a0_0 : Int) (a0_1 : Int) (a0_2 : Int) (A0_3 : Option Addr) (c0_3 : Nat) (l0_3 : List Int) (r : List Int) (w : World) (hr0_3 : Kd.C (Kd.int .u8) w A0_3 l0_3.length l0_3) (hc0_3 : l0_3.length ≤ c0_3) (h : spec_ValueBytes.f a0_0 a0_1 a0_2 l0_3 = some r) :
    Calls Try.prog 58 #[.agg #[.int .u8 a0_0, .int .u8 a0_1, .int .u64 a0_2, .slice A0_3 l0_3.length c0_3]] w fun e w' => ∃ v0_ : Value, e = .returned (v0_) ∧ Kd.R (Kd.int .u8) 5 w' w.heap.size (fun _ => True) v0_ r ∧ Below w.heap.size w w' := by
  obtain ⟨⟨h0, h1⟩, rfl⟩ := if_some h
  exact (Ytadhdimleabljaa.specValue_any a0_0 a0_1 a0_2 A0_3 _ c0_3 l0_3 w (sl_of_C hr0_3) hc0_3 h0 (u64ok_of h1).1 (u64ok_of h1).2).mono fun e w' hm => made_R hm
end Go.Proofs.YtadhdimleabljaaQ.Ext
