/- How a list of changes comes in. -/
import Derived.Test.YtbbncbjdpopkiaaF3
import Derived.Test.YtbbncbjdpopkiaaGB
import Derived.Test.YtbbncbjdpopkiaaWQT
namespace Go.Proofs.Ytbbncbjdpopkiaa
open Go.ChangeShapes Go.WideShapes Go.ChangeAt Go.RowKit
set_option linter.unusedVariables false
section
open Go.Proofs.YtbbncbjdpopkiaaQ.QT Go.Proofs.YtbbncbjdpopkiaaQ.Ext Go.Proofs.YtbbncbjdpopkiaaW.PrintWords
def toChg (x : S61) : Chg := ⟨x.f0, x.f1, x.f2, x.f3, x.f4⟩
theorem slc_of_C {w : World} {A : Option Addr} {n : Nat} {l : List S61} (h : Kd.C k61 w A n l) : Slc w A n (l.map toChg) := by
  obtain ⟨h1, h2, h3⟩ := h
  refine ⟨by rw [List.length_map]; exact h1, fun hn => ?_⟩
  obtain ⟨ad, rfl, hc⟩ := h3 hn
  have key : ∀ (j : Nat) (p : S61) (k : Nat) (u : Value), l[j]? = some p → (toChg p).cells[k]? = some u → w.cell? (ad.add (j * 5 + k)) = some u := by
    intro j p k u hj hk
    obtain ⟨c, hl, hK, hcell⟩ := hc j p hj
    obtain rfl := k61_open hK
    exact hcell k u hk
  obtain ⟨x, hx⟩ : ∃ x, l[0]? = some x := ⟨l[0]'(by omega), List.getElem?_eq_getElem (by omega)⟩
  have h0 := key 0 x 0 _ hx rfl
  have e0 : ad.add (0 * 5 + 0) = ad := by unfold Addr.add; simp
  rw [e0] at h0
  have ep := plain_at h0
  refine ⟨ad.block, ad.off, by rw [← ep], fun j d hj k u hk => ?_⟩
  rw [List.getElem?_map] at hj
  cases hp : l[j]? with
  | none => rw [hp] at hj; cases hj
  | some p =>
    rw [hp] at hj
    simp only [Option.map_some, Option.some.injEq] at hj
    subst hj
    have := key j p k u hp hk
    rw [ep, add_none, ← Nat.add_assoc] at this
    exact this
theorem view_changes {H : Type} {enc : TypeId × Value → H} {W : World} {base : Nat} {v : Value} {d : DataW H} {p : List MemPlace}
    (hok : Value.okWide Try.prog W .any base 34 v) (h : DataW.Trod enc Try.prog W 0 (fun _ => true) true 34 v d p) :
    ∃ A n c l, v = .slice A n c ∧ n ≤ c ∧ Slc W A n l ∧ ∀ x ∈ l, Chg.ok x := by
  obtain ⟨A0, n0, c0, rfl⟩ := okWide_slice Try.underlying34 hok
  obtain ⟨fu, hf⟩ := h
  obtain ⟨x, ⟨B, d_, he, hc, hr⟩, hw⟩ := ((vw_slice Try.underlying34 cz61 vw61) : Vw enc Try.prog W 34 (Kd.slice 61 k61) _).go _ _ _ hf
  simp [Value.cells] at he
  obtain ⟨rfl, rfl, rfl⟩ := he
  refine ⟨A0, x.length, c0, x.map toChg, rfl, hc, slc_of_C hr, fun y hy => ?_⟩
  obtain ⟨z, hz, rfl⟩ := List.mem_map.1 hy
  obtain ⟨w0, _, w2, w3, w4⟩ := hw z hz
  have b0 := bounds_u64 w0
  have b3 := bounds_u64 w3
  have b2 := bounds_u32 w2
  have b4 := bounds_u32 w4
  exact ⟨b0, b2, b3, b4⟩
end
end Go.Proofs.Ytbbncbjdpopkiaa
