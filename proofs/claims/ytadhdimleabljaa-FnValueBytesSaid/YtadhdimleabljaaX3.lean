/- Lists of bytes joined, numbers of few bytes, as the print tells them. -/
import Derived.Test.YtadhdimleabljaaX1
import Derived.Test.YtadhdimleabljaaC9
import Derived.Test.YtadhdimleabljaaC4
namespace Go.Proofs.YtadhdimleabljaaQ.Ext
open Go.RowKit Go.Proofs.YtadhdimleabljaaW.PrintWords
set_option linter.unusedVariables false
theorem sls_of_C {w : World} {A : Option Addr} {n : Nat} {ls : List (List Int)} (h : Kd.C (Kd.slice 5 (Kd.int .u8)) w A n ls) : Ytadhdimleabljaa.Sls w A n ls := by
  obtain ⟨h1, h2, h3⟩ := h
  refine ⟨h1, fun hn => ?_⟩
  obtain ⟨ad, rfl, hc⟩ := h3 hn
  have key : ∀ j p, ls[j]? = some p → ∃ B c, w.cell? (ad.add j) = some (.slice B p.length c) ∧ p.length ≤ c ∧ Ytadhdimleabljaa.Sl w B p.length (Ytadhdimleabljaa.nums .u8 p) := by
    intro j p hj
    obtain ⟨c, hl, hk, hcell⟩ := hc j p hj
    obtain ⟨B, cc, rfl, hle, hC⟩ := hk
    have := hcell 0 _ rfl
    refine ⟨B, cc, by simpa [Kd.slice] using this, hle, sl_of_C hC⟩
  obtain ⟨x, hx⟩ : ∃ x, ls[0]? = some x := ⟨ls[0]'(by omega), List.getElem?_eq_getElem (by omega)⟩
  obtain ⟨B0, c0, h0, _⟩ := key 0 x hx
  have e0 : ad.add 0 = ad := by unfold Addr.add; simp
  rw [e0] at h0
  have ep := plain_at h0
  refine ⟨ad.block, ad.off, by rw [← ep], fun j u hu => ?_⟩
  obtain ⟨B, c, hb1, hb2, hb3⟩ := key j u hu
  rw [ep, Ytadhdimleabljaa.add_none] at hb1
  exact ⟨B, c, hb1, hb2, hb3⟩
def spec_Join.f (l0 : List (List Int)) : Option (List Int) := if l0.length ≤ 1000000 ∧ l0.flatten.length ≤ 100000000 then some l0.flatten else none
theorem spec_Join.calls (A0 : Option Addr) (c0 : Nat) (l0 : List (List Int)) (r : List Int) (w : World) (hr0 : Kd.C (Kd.slice 5 (Kd.int .u8)) w A0 l0.length l0) (hc0 : l0.length ≤ c0) (h : spec_Join.f l0 = some r) :
    Calls Try.prog 37 #[.slice A0 l0.length c0] w fun e w' => ∃ v0_ : Value, e = .returned (v0_) ∧ Kd.R (Kd.int .u8) 5 w' w.heap.size (fun _ => True) v0_ r ∧ Below w.heap.size w w' := by
  obtain ⟨⟨h0, h1⟩, rfl⟩ := if_some h
  exact (Ytadhdimleabljaa.join_any A0 _ c0 l0 w (sls_of_C hr0) h0 h1).mono fun e w' hm => made_R hm
def laws_few.f (l0 : List (List Int)) : Option (Bool) := if l0.length ≤ 1000000 then some (l0.all fun l => decide (l.length ≤ 300)) else none
theorem laws_few.calls (A0 : Option Addr) (c0 : Nat) (l0 : List (List Int)) (r : Bool) (w : World) (hr0 : Kd.C (Kd.slice 5 (Kd.int .u8)) w A0 l0.length l0) (hc0 : l0.length ≤ c0) (h : laws_few.f l0 = some r) :
    Calls Try.prog 29 #[.slice A0 l0.length c0] w fun e w' => e = .returned (.bool r) ∧ Below w.heap.size w w' := by
  obtain ⟨h0, rfl⟩ := if_some h
  exact (Ytadhdimleabljaa.few_any A0 _ c0 l0 w (sls_of_C hr0) h0).mono fun e w' ⟨he, hw⟩ => ⟨he, hw ▸ Below.refl _ _⟩
def spec_Varint.f (a0 : Int) : Option (List Int) := if u64ok a0 = true then some (Ytadhdimleabljaa.vint 9 a0) else none
theorem spec_Varint.calls (a0 : Int) (r : List Int) (w : World) (h : spec_Varint.f a0 = some r) :
    Calls Try.prog 33 #[.int .u64 a0] w fun e w' => ∃ v0_ : Value, e = .returned (v0_) ∧ Kd.R (Kd.int .u8) 5 w' w.heap.size (fun _ => True) v0_ r ∧ Below w.heap.size w w' := by
  obtain ⟨h0, rfl⟩ := if_some h
  exact (Ytadhdimleabljaa.specVarint_any a0 w (u64ok_of h0).1 (u64ok_of h0).2).mono fun e w' hm => made_R hm
end Go.Proofs.YtadhdimleabljaaQ.Ext
