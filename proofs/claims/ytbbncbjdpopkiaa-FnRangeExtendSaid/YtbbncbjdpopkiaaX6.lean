/- A range made wider by another one, as the print tells it (what it hands back are rows of its arguments). -/
import Derived.Test.YtbbncbjdpopkiaaGX
import Derived.Test.YtbbncbjdpopkiaaU8
namespace Go.Proofs.YtbbncbjdpopkiaaQ.Ext
open Go.RowKit Go.Proofs.YtbbncbjdpopkiaaW.PrintWords
set_option linter.unusedVariables false
def bndok (l : List Int) : Bool := bytb l && decide (8 ≤ l.length) && decide (l.length ≤ 1000000)
theorem bndok_of {l : List Int} (h : bndok l = true) : Ytbbncbjdpopkiaa.Byt l ∧ 8 ≤ l.length ∧ l.length ≤ 1000000 := by
  unfold bndok at h
  simp only [Bool.and_eq_true, decide_eq_true_eq] at h
  exact ⟨byt_of h.1.1, h.1.2, h.2⟩
def badgercompact_Extend.f (l0_0 : List Int) (l0_1 : List Int) (a0_2 : Bool) (l1_0 : List Int) (l1_1 : List Int) (a1_2 : Bool) : Option (List Int × List Int × Bool) :=
  if (bndok l0_0 = true ∧ bndok l0_1 = true) ∧ (bndok l1_0 = true ∧ bndok l1_1 = true) ∧ a0_2 = false ∧ a1_2 = false then
    some (if Ytbbncbjdpopkiaa.cmpKeys l1_0 l0_0 < 0 then l1_0 else l0_0, if Ytbbncbjdpopkiaa.cmpKeys l1_1 l0_1 > 0 then l1_1 else l0_1, false) else none
theorem badgercompact_Extend.told (A0_0 : Option Addr) (c0_0 : Nat) (l0_0 : List Int) (A0_1 : Option Addr) (c0_1 : Nat) (l0_1 : List Int) (a0_2 : Bool) (A1_0 : Option Addr) (c1_0 : Nat) (l1_0 : List Int) (A1_1 : Option Addr) (c1_1 : Nat) (l1_1 : List Int) (a1_2 : Bool) (r1 : List Int) (r2 : List Int) (r3 : Bool) (w : World)
    (hr0_0 : Kd.C (Kd.int .u8) w A0_0 l0_0.length l0_0) (hc0_0 : l0_0.length ≤ c0_0) (hr0_1 : Kd.C (Kd.int .u8) w A0_1 l0_1.length l0_1) (hc0_1 : l0_1.length ≤ c0_1)
    (hr1_0 : Kd.C (Kd.int .u8) w A1_0 l1_0.length l1_0) (hc1_0 : l1_0.length ≤ c1_0) (hr1_1 : Kd.C (Kd.int .u8) w A1_1 l1_1.length l1_1) (hc1_1 : l1_1.length ≤ c1_1)
    (h : badgercompact_Extend.f l0_0 l0_1 a0_2 l1_0 l1_1 a1_2 = some (r1, r2, r3)) :
    Calls Try.prog 18 #[.agg #[.slice A0_0 l0_0.length c0_0, .slice A0_1 l0_1.length c0_1, .bool a0_2], .agg #[.slice A1_0 l1_0.length c1_0, .slice A1_1 l1_1.length c1_1, .bool a1_2]] w fun e w' =>
      ∃ B1 d1 B2 d2, e = .returned (.agg #[.slice B1 r1.length d1, .slice B2 r2.length d2, .bool r3]) ∧ r1.length ≤ d1 ∧ r2.length ≤ d2 ∧ Kd.C (Kd.int .u8) w' B1 r1.length r1 ∧ Kd.C (Kd.int .u8) w' B2 r2.length r2 ∧ Below w.heap.size w w' := by
  obtain ⟨⟨⟨h0, h1⟩, ⟨h2, h3⟩, rfl, rfl⟩, h4⟩ := if_some h
  simp only [Prod.mk.injEq] at h4
  obtain ⟨rfl, rfl, rfl⟩ := h4
  obtain ⟨b0, m0, n0⟩ := bndok_of h0
  obtain ⟨b1, m1, n1⟩ := bndok_of h1
  obtain ⟨b2, m2, n2⟩ := bndok_of h2
  obtain ⟨b3, m3, n3⟩ := bndok_of h3
  refine (Ytbbncbjdpopkiaa.extend2_any _ c0_0 _ c0_1 _ c1_0 _ c1_1 A0_0 A0_1 A1_0 A1_1 l0_0 l0_1 l1_0 l1_1 w (sl_of_C hr0_0) (sl_of_C hr0_1) (sl_of_C hr1_0) (sl_of_C hr1_1) b0 b1 b2 b3 ⟨m0, hc0_0, n0⟩ ⟨m1, hc0_1, n1⟩ ⟨m2, hc1_0, n2⟩ ⟨m3, hc1_1, n3⟩).mono fun e w' hp => ?_
  obtain ⟨rfl, hb⟩ := hp
  have t0 := Kd.C_below hr0_0 hb
  have t1 := Kd.C_below hr0_1 hb
  have t2 := Kd.C_below hr1_0 hb
  have t3 := Kd.C_below hr1_1 hb
  unfold Ytbbncbjdpopkiaa.widerV
  by_cases hx : Ytbbncbjdpopkiaa.cmpKeys l1_0 l0_0 < 0
  · rw [if_pos hx, if_pos hx]
    by_cases hy : Ytbbncbjdpopkiaa.cmpKeys l1_1 l0_1 > 0
    · rw [if_pos hy, if_pos hy]; exact ⟨_, _, _, _, rfl, hc1_0, hc1_1, t2, t3, hb⟩
    · rw [if_neg hy, if_neg hy]; exact ⟨_, _, _, _, rfl, hc1_0, hc0_1, t2, t1, hb⟩
  · rw [if_neg hx, if_neg hx]
    by_cases hy : Ytbbncbjdpopkiaa.cmpKeys l1_1 l0_1 > 0
    · rw [if_pos hy, if_pos hy]; exact ⟨_, _, _, _, rfl, hc0_0, hc1_1, t0, t3, hb⟩
    · rw [if_neg hy, if_neg hy]; exact ⟨_, _, _, _, rfl, hc0_0, hc0_1, t0, t1, hb⟩
end Go.Proofs.YtbbncbjdpopkiaaQ.Ext
