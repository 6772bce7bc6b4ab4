/- A range made wider by another one: the law. -/
import Derived.Test.YtbbncbjdpopkiaaRE2
namespace Go.Proofs.YtbbncbjdpopkiaaQ.QE
open Go.RowKit Go.Proofs.YtbbncbjdpopkiaaQ.Ext
set_option linter.unusedVariables false
set_option linter.unusedSimpArgs false
theorem j1_true (k : Nat) (r s : Rg) : laws_FnRangeExtend.j1 (k + 1) true r.a.t r.a.l r.a.v r.b.t r.b.l r.b.v r.all s.a.t s.a.l s.a.v s.b.t s.b.l s.b.v s.all = some true := by
  rw [laws_FnRangeExtend.j1, if_pos rfl]
theorem j0_true (k : Nat) (r s : Rg) : laws_FnRangeExtend.j0 (k + 1) true r.a.t r.a.l r.a.v r.b.t r.b.l r.b.v r.all s.a.t s.a.l s.a.v s.b.t s.b.l s.b.v s.all = some true := by
  rw [laws_FnRangeExtend.j0, if_pos rfl]
theorem orderBounds_f (b c : Bd) (hb : b.fits) (hc : c.fits) : spec_OrderBounds.f b.t b.l b.v c.t c.l c.v = some (Ytbbncbjdpopkiaa.orderL b.l b.v c.l c.v) := by
  simp only [Bd.fits] at hb hc
  unfold spec_OrderBounds.f
  rw [order_f _ _ _ _ (by omega) (by omega), Option.bind_some]
theorem same_self (b : Bd) : b.same b = true := by rw [same_bytes]; simp
theorem j2_f (k : Nat) (r s : Rg) (d : Bd) (hr : r.wf) (hs : s.wf) (hf : r.fits) (hg : s.fits) (ho : r.ok = true) (hp : s.ok = true) (ha : r.all = false) (hb : s.all = false) (hd : (r.wider s).a = d) :
    laws_FnRangeExtend.j2 (k + 1) r.a.t r.a.l r.a.v r.b.t r.b.l r.b.v r.all s.a.t s.a.l s.a.v s.b.t s.b.l s.b.v s.all d.t d.l d.v r.b.t r.b.l r.b.v r.all = some true := by
  have hdf : d.fits := by
    rw [← hd]; unfold Rg.wider; simp only; split
    · exact hg.1
    · exact hf.1
  rw [laws_FnRangeExtend.j2, orderBounds_f _ _ hg.2 hf.2, Option.bind_some, extend_f r s hr hs ho hp ha hb]
  have hwb : (r.wider s).b = if Ytbbncbjdpopkiaa.orderL s.b.l s.b.v r.b.l r.b.v > 0 then s.b else r.b := rfl
  rw [hd]
  by_cases h : Ytbbncbjdpopkiaa.orderL s.b.l s.b.v r.b.l r.b.v > 0
  · rw [if_pos h] at hwb
    rw [hwb, if_pos h, Option.bind_some]
    simp only [sameBound_f _ _ hdf hdf, sameBound_f _ _ hg.2 hg.2, same_self, Option.bind_some, if_true, Bool.not_false]
  · rw [if_neg h] at hwb
    rw [hwb, if_neg h, Option.bind_some]
    simp only [sameBound_f _ _ hdf hdf, sameBound_f _ _ hf.2 hf.2, same_self, Option.bind_some, if_true, Bool.not_false]
theorem fits_true {r : Rg} (h : r.fits) : (decide (r.a.l.length ≤ 2147483647) && decide (r.b.l.length ≤ 2147483647)) = true := by
  simp only [Rg.fits, Bd.fits] at h
  simp [h.1, h.2]
theorem fits_false {r : Rg} (h : ¬ r.fits) : (decide (r.a.l.length ≤ 2147483647) && decide (r.b.l.length ≤ 2147483647)) = false := by
  simp only [Rg.fits, Bd.fits] at h
  by_cases h3 : r.a.l.length ≤ 2147483647
  · have : ¬ r.b.l.length ≤ 2147483647 := fun h4 => h ⟨h3, h4⟩
    simp [this]
  · simp [h3]
theorem rangeExtend_pure (r s : Rg) (hr : r.wf) (hs : s.wf) :
    laws_FnRangeExtend.f 9 r.a.t r.a.l r.a.v r.b.t r.b.l r.b.v r.all s.a.t s.a.l s.a.v s.b.t s.b.l s.b.v s.all = some true := by
  unfold laws_FnRangeExtend.f
  rw [fits_f r, Option.bind_some]
  by_cases h1 : r.fits
  · rw [fits_true h1, if_pos rfl, fits_f s, Option.bind_some]
    by_cases h2 : s.fits
    · rw [fits_true h2]
      show laws_FnRangeExtend.j0 (8 + 1) _ _ _ _ _ _ _ _ _ _ _ _ _ _ _ = _
      rw [laws_FnRangeExtend.j0, if_neg (by simp)]
      have := rangesOk_two 5 r s h1 h2
      simp only [Rg.s] at this
      rw [this, Option.bind_some]
      by_cases ho : r.ok = true
      · by_cases hp : s.ok = true
        · rw [ho, hp, Bool.and_self, if_pos rfl]
          by_cases ha : r.all = true
          · rw [if_pos ha]; exact j1_true 7 r s
          · rw [if_neg ha]
            have ha : r.all = false := by simpa using ha
            by_cases hb : s.all = true
            · have := j1_true 7 r s; rw [hb] at this ⊢; exact this
            · have hb : s.all = false := by simpa using hb
              have key : ∀ fl, fl = false → laws_FnRangeExtend.j1 (7 + 1) fl r.a.t r.a.l r.a.v r.b.t r.b.l r.b.v r.all s.a.t s.a.l s.a.v s.b.t s.b.l s.b.v s.all = some true := by
                intro fl hfl
                subst hfl
                rw [laws_FnRangeExtend.j1, if_neg (by simp), orderBounds_f _ _ h2.1 h1.1, Option.bind_some]
                have hwa : (r.wider s).a = if Ytbbncbjdpopkiaa.orderL s.a.l s.a.v r.a.l r.a.v < 0 then s.a else r.a := rfl
                by_cases h : Ytbbncbjdpopkiaa.orderL s.a.l s.a.v r.a.l r.a.v < 0
                · rw [if_pos h] at hwa
                  rw [if_pos h]
                  exact j2_f 6 r s s.a hr hs h1 h2 ho hp ha hb hwa
                · rw [if_neg h] at hwa
                  rw [if_neg h]
                  exact j2_f 6 r s r.a hr hs h1 h2 ho hp ha hb hwa
              exact key _ hb
        · have hp : s.ok = false := by simpa using hp
          rw [hp, Bool.and_false, if_neg (by simp)]; exact j1_true 7 r s
      · have ho : r.ok = false := by simpa using ho
        rw [ho, Bool.false_and, if_neg (by simp)]; exact j1_true 7 r s
    · rw [fits_false h2]; exact j0_true 8 r s
  · rw [fits_false h1, if_neg (by simp)]; exact j0_true 8 r s
theorem u64ok_wf {x : Int} (h : (Lit.int .u64 x).wf = true) : u64ok x = true := by
  have := Ytbbncbjdpopkiaa.wf64 h
  exact u64ok_mk this.1 this.2
def rgOf (x : S27) : Rg := ⟨⟨x.f0.f0, x.f0.f1, x.f0.f2⟩, ⟨x.f1.f0, x.f1.f1, x.f1.f2⟩, x.f2⟩
theorem rg_wf {x : S27} (h : wf27 x) : (rgOf x).wf :=
  ⟨⟨Ytbbncbjdpopkiaa.Byt.of_wf h.1.2.1, u64ok_wf h.1.2.2⟩, ⟨Ytbbncbjdpopkiaa.Byt.of_wf h.2.1.2.1, u64ok_wf h.2.1.2.2⟩⟩
theorem rangeExtend_row (x0 x1 : S27) (w0 : wf27 x0) (w1 : wf27 x1) : ∃ k, laws_FnRangeExtend.f k x0.f0.f0 x0.f0.f1 x0.f0.f2 x0.f1.f0 x0.f1.f1 x0.f1.f2 x0.f2 x1.f0.f0 x1.f0.f1 x1.f0.f2 x1.f1.f0 x1.f1.f1 x1.f1.f2 x1.f2 = some true :=
  ⟨9, rangeExtend_pure (rgOf x0) (rgOf x1) (rg_wf w0) (rg_wf w1)⟩
end Go.Proofs.YtbbncbjdpopkiaaQ.QE
