/- Two ranges are the same exactly if their bounds are: the plain part. -/
import Derived.Test.YtadhdimleabljaaRP
import Derived.Test.YtadhdimleabljaaWQR
import Derived.Test.YtadhdimleabljaaQR3
namespace Go.Proofs.YtadhdimleabljaaQ.QR
open Go.RowKit Go.Proofs.YtadhdimleabljaaQ.Ext
set_option linter.unusedVariables false
set_option linter.unusedSimpArgs false
theorem rangeSame_pure (r s : Rg) (hr : r.wf) (hs : s.wf) :
    laws_FnRangeSame.f 9 r.a.t r.a.l r.a.v r.b.t r.b.l r.b.v r.all s.a.t s.a.l s.a.v s.b.t s.b.l s.b.v s.all = some true := by
  unfold laws_FnRangeSame.f
  rw [fits_f r, Option.bind_some]
  by_cases h1 : r.fits
  · have e1 : (decide (r.a.l.length ≤ 2147483647) && decide (r.b.l.length ≤ 2147483647)) = true := by simp only [Rg.fits, Bd.fits] at h1; simp [h1.1, h1.2]
    rw [e1, if_pos rfl, fits_f s, Option.bind_some]
    by_cases h2 : s.fits
    · have e2 : (decide (s.a.l.length ≤ 2147483647) && decide (s.b.l.length ≤ 2147483647)) = true := by simp only [Rg.fits, Bd.fits] at h2; simp [h2.1, h2.2]
      rw [e2]
      show laws_FnRangeSame.j0 (8 + 1) _ _ _ _ _ _ _ _ _ _ _ _ _ _ _ = _
      rw [laws_FnRangeSame.j0, if_neg (by simp)]
      have := rangesOk_two 5 r s h1 h2
      simp only [Rg.s] at this
      rw [this, Option.bind_some]
      cases ho : r.ok
      · simp
      cases hp : s.ok
      · simp
      simp only [Bool.and_self, if_true]
      rw [sameRange_f r s hr hs ho hp, sameRange_f r r hr hr ho ho, sameBound_f _ _ h1.1 h2.1, sameBound_f _ _ h1.2 h2.2, same_refl, same_eq]
      cases (r.all == s.all) <;> cases r.a.same s.a <;> cases r.b.same s.b <;> simp
    · have e2 : (decide (s.a.l.length ≤ 2147483647) && decide (s.b.l.length ≤ 2147483647)) = false := by
        simp only [Rg.fits, Bd.fits] at h2
        by_cases h3 : s.a.l.length ≤ 2147483647
        · have : ¬ s.b.l.length ≤ 2147483647 := fun h => h2 ⟨h3, h⟩
          simp [this]
        · simp [h3]
      rw [e2]
      rfl
  · have e1 : (decide (r.a.l.length ≤ 2147483647) && decide (r.b.l.length ≤ 2147483647)) = false := by
      simp only [Rg.fits, Bd.fits] at h1
      by_cases h3 : r.a.l.length ≤ 2147483647
      · have : ¬ r.b.l.length ≤ 2147483647 := fun h => h1 ⟨h3, h⟩
        simp [this]
      · simp [h3]
    rw [e1]
    rfl
theorem u64ok_wf {x : Int} (h : (Lit.int .u64 x).wf = true) : u64ok x = true := by
  have := Ytadhdimleabljaa.wf64 h
  exact u64ok_mk this.1 this.2
def rgOf (x : S63) : Rg := ⟨⟨x.f0.f0, x.f0.f1, x.f0.f2⟩, ⟨x.f1.f0, x.f1.f1, x.f1.f2⟩, x.f2⟩
theorem rg_wf {x : S63} (h : wf63 x) : (rgOf x).wf :=
  ⟨⟨Ytadhdimleabljaa.Byt.of_wf h.1.2.1, u64ok_wf h.1.2.2⟩, ⟨Ytadhdimleabljaa.Byt.of_wf h.2.1.2.1, u64ok_wf h.2.1.2.2⟩⟩
theorem rangeSame_row (x0 x1 : S63) (w0 : wf63 x0) (w1 : wf63 x1) : ∃ k, laws_FnRangeSame.f k x0.f0.f0 x0.f0.f1 x0.f0.f2 x0.f1.f0 x0.f1.f1 x0.f1.f2 x0.f2 x1.f0.f0 x1.f0.f1 x1.f0.f2 x1.f1.f0 x1.f1.f1 x1.f1.f2 x1.f2 = some true :=
  ⟨9, rangeSame_pure (rgOf x0) (rgOf x1) (rg_wf w0) (rg_wf w1)⟩
end Go.Proofs.YtadhdimleabljaaQ.QR
