/- Ranges of keys: whether they overlap. -/
import Derived.Test.YtadhdimleabljaaRP
import Derived.Test.YtadhdimleabljaaWQR
import Derived.Test.YtadhdimleabljaaQR6
import Derived.Test.YtadhdimleabljaaQR4
namespace Go.Proofs.YtadhdimleabljaaQ.QR
open Go.RowKit Go.Proofs.YtadhdimleabljaaQ.Ext
set_option linter.unusedVariables false
set_option linter.unusedSimpArgs false
theorem cmpL_anti (l k : List Int) : Ytadhdimleabljaa.cmpL k l = - Ytadhdimleabljaa.cmpL l k := by
  induction l generalizing k with
  | nil => cases k <;> simp [Ytadhdimleabljaa.cmpL]
  | cons x l ih =>
    cases k with
    | nil => simp [Ytadhdimleabljaa.cmpL]
    | cons y k =>
      by_cases h : x = y
      · subst h; rw [Ytadhdimleabljaa.cmpL_same, Ytadhdimleabljaa.cmpL_same]; exact ih k
      · rw [Ytadhdimleabljaa.cmpL_other _ _ _ _ h, Ytadhdimleabljaa.cmpL_other _ _ _ _ (fun e => h e.symm)]
        split <;> split <;> omega
theorem sgn_anti (x y : Int) : Ytadhdimleabljaa.sgn y x = - Ytadhdimleabljaa.sgn x y := by
  unfold Ytadhdimleabljaa.sgn
  rcases Int.lt_trichotomy x y with h | h | h
  · rw [if_neg (by omega), if_neg (by omega), if_pos h]; rfl
  · subst h; simp
  · rw [if_pos h, if_neg (by omega), if_neg (by omega)]
theorem order_anti (l k : List Int) (v u : Int) : Ytadhdimleabljaa.orderL k u l v = - Ytadhdimleabljaa.orderL l v k u := by
  unfold Ytadhdimleabljaa.orderL
  rw [cmpL_anti l k]
  by_cases h : Ytadhdimleabljaa.cmpL l k = 0
  · rw [if_pos h, if_pos (by omega)]; exact sgn_anti u v
  · rw [if_neg h, if_neg (by omega)]
theorem compareKeys_f (b c : Bd) (hb : b.wf) (hc : c.wf) (ob : b.okB = true) (oc : c.okB = true) (tb : b.t = true) (tc : c.t = true) :
    badgery_CompareKeys.f b.bytes c.bytes = some (Ytadhdimleabljaa.orderL b.l b.v c.l c.v) := by
  have l1 := bytes_len b tb
  have l2 := bytes_len c tc
  have k1 := okB_len ob tb
  have k2 := okB_len oc tc
  unfold badgery_CompareKeys.f
  rw [if_pos ⟨bytes_byt b hb, bytes_byt c hc, by omega, by omega, by omega, by omega⟩]
  simp only [Bd.bytes, tb, tc, if_true, Ytadhdimleabljaa.cmpKeys_keyB]
def Rg.meet (r s : Rg) : Bool := r.all || (s.all || (decide (Ytadhdimleabljaa.orderL r.a.l r.a.v s.b.l s.b.v ≤ 0) && decide (Ytadhdimleabljaa.orderL s.a.l s.a.v r.b.l r.b.v ≤ 0)))
theorem meet_f (r s : Rg) (hr : r.fits) (hs : s.fits) : spec_Meet.f r.a.t r.a.l r.a.v r.b.t r.b.l r.b.v r.all s.a.t s.a.l s.a.v s.b.t s.b.l s.b.v s.all = some (r.meet s) := by
  obtain ⟨h1, h2⟩ := hr
  obtain ⟨h3, h4⟩ := hs
  simp only [Bd.fits] at h1 h2 h3 h4
  unfold spec_Meet.f Rg.meet
  by_cases h : r.all = true
  · rw [if_pos h, h]; rfl
  · rw [if_neg h]
    by_cases k : s.all = true
    · rw [if_pos k, k]; simp
    · rw [if_neg k]
      simp only [spec_OrderBounds.f, order_f _ _ _ _ (show r.a.l.length ≤ 4000000000 by omega) (show s.b.l.length ≤ 4000000000 by omega), order_f _ _ _ _ (show s.a.l.length ≤ 4000000000 by omega) (show r.b.l.length ≤ 4000000000 by omega), Option.bind_some]
      by_cases c : Ytadhdimleabljaa.orderL r.a.l r.a.v s.b.l s.b.v ≤ 0
      · rw [if_pos c]; simp [h, k, c]
      · rw [if_neg c]; simp [h, k, c]
theorem wide_there {r : Rg} (h : r.wide = true) (ha : r.all = false) : r.a.t = true ∧ r.b.t = true := by
  unfold Rg.wide at h
  rw [ha] at h
  simp at h
  exact h.1
theorem notEmpty_f (r : Rg) (z : Int) (ho : r.ok = true) : badgercompact_keyRange_isEmpty.f r.a.bytes r.b.bytes r.all z = some false := by
  unfold badgercompact_keyRange_isEmpty.f
  cases ha : r.all with
  | true => split <;> (try split) <;> simp
  | false =>
    have := bytes_len r.a (wide_there (ok_parts ho).1 ha).1
    rw [if_neg (by omega)]
theorem overlap_f (r s : Rg) (hr : r.wf) (hs : s.wf) (ho : r.ok = true) (hp : s.ok = true) :
    impl_Overlap.f 3 r.a.t r.a.l r.a.v r.b.t r.b.l r.b.v r.all s.a.t s.a.l s.a.v s.b.t s.b.l s.b.v s.all = some (r.meet s) := by
  obtain ⟨ow, o1, o2⟩ := ok_parts ho
  obtain ⟨pw, p1, p2⟩ := ok_parts hp
  unfold impl_Overlap.f
  rw [rangeOf_f r hr o1 o2, Option.bind_some, rangeOf_f s hs p1 p2, Option.bind_some]
  simp only [badgercompact_Overlaps.f, badgercompact_Range_key.f, Option.bind_some, badgercompact_keyRange_overlapsWith.f, notEmpty_f r _ ho, notEmpty_f s _ hp]
  unfold Rg.meet
  cases ha : r.all with
  | true => rw [badgercompact_keyRange_overlapsWith.j0]; simp
  | false =>
    cases hb : s.all with
    | true => rw [badgercompact_keyRange_overlapsWith.j0]; simp
    | false =>
      obtain ⟨t1, t2⟩ := wide_there ow ha
      obtain ⟨t3, t4⟩ := wide_there pw hb
      simp only [Bool.false_eq_true, if_false]
      rw [badgercompact_keyRange_overlapsWith.j0, if_neg (by simp), compareKeys_f _ _ hr.1 hs.2 o1 p2 t1 t4, compareKeys_f _ _ hr.2 hs.1 o2 p1 t2 t3]
      simp only [Option.bind_some]
      have an := order_anti r.b.l s.a.l r.b.v s.a.v
      by_cases c1 : Ytadhdimleabljaa.orderL r.a.l r.a.v s.b.l s.b.v ≤ 0
      · by_cases c2 : Ytadhdimleabljaa.orderL s.a.l s.a.v r.b.l r.b.v ≤ 0
        · rw [if_neg (by omega), if_neg (by omega)]; simp [c1, c2]
        · rw [if_neg (by omega), if_pos (by omega)]; simp [c1, c2]
      · rw [if_pos (by omega)]; simp [c1]
theorem meet_comm (r s : Rg) : s.meet r = r.meet s := by
  unfold Rg.meet
  cases r.all <;> cases s.all <;> simp [Bool.and_comm]
theorem overlap_k (k : Nat) (r s : Rg) (hr : r.wf) (hs : s.wf) (ho : r.ok = true) (hp : s.ok = true) :
    impl_Overlap.f (k + 3) r.a.t r.a.l r.a.v r.b.t r.b.l r.b.v r.all s.a.t s.a.l s.a.v s.b.t s.b.l s.b.v s.all = some (r.meet s) := by
  induction k with
  | zero => exact overlap_f r s hr hs ho hp
  | succ k ih => exact impl_Overlap.mono _ _ _ _ _ _ _ _ _ _ _ _ _ _ _ _ ih
theorem fits_b (s : Rg) : (decide (s.a.l.length ≤ 2147483647) && decide (s.b.l.length ≤ 2147483647)) = true ↔ s.fits := by
  simp [Rg.fits, Bd.fits]
theorem rangeOverlap_pure (r s : Rg) (hr : r.wf) (hs : s.wf) :
    laws_FnRangeOverlap.f 9 r.a.t r.a.l r.a.v r.b.t r.b.l r.b.v r.all s.a.t s.a.l s.a.v s.b.t s.b.l s.b.v s.all = some true := by
  unfold laws_FnRangeOverlap.f
  rw [fits_f r, Option.bind_some]
  by_cases h1 : r.fits
  · rw [if_pos ((fits_b r).2 h1), fits_f s, Option.bind_some]
    by_cases h2 : s.fits
    · rw [(fits_b s).2 h2]
      show laws_FnRangeOverlap.j0 (8 + 1) _ _ _ _ _ _ _ _ _ _ _ _ _ _ _ = _
      rw [laws_FnRangeOverlap.j0, if_neg (by simp)]
      have := rangesOk_two 5 r s h1 h2
      simp only [Rg.s] at this
      rw [this, Option.bind_some]
      cases ho : r.ok
      · simp
      cases hp : s.ok
      · simp
      simp only [Bool.and_self, if_true]
      rw [overlap_k 5 r s hr hs ho hp, overlap_k 5 s r hs hr hp ho, meet_f r s h1 h2, meet_comm r s]
      simp
    · have e2 : (decide (s.a.l.length ≤ 2147483647) && decide (s.b.l.length ≤ 2147483647)) = false := Bool.eq_false_iff.2 fun h => h2 ((fits_b s).1 h)
      rw [e2]
      rfl
  · rw [if_neg (fun h => h1 ((fits_b r).1 h))]
    rfl
theorem u64ok_wf {x : Int} (h : (Lit.int .u64 x).wf = true) : u64ok x = true := by
  have := Ytadhdimleabljaa.wf64 h
  exact u64ok_mk this.1 this.2
def rgOf (x : S63) : Rg := ⟨⟨x.f0.f0, x.f0.f1, x.f0.f2⟩, ⟨x.f1.f0, x.f1.f1, x.f1.f2⟩, x.f2⟩
theorem rg_wf {x : S63} (h : wf63 x) : (rgOf x).wf :=
  ⟨⟨Ytadhdimleabljaa.Byt.of_wf h.1.2.1, u64ok_wf h.1.2.2⟩, ⟨Ytadhdimleabljaa.Byt.of_wf h.2.1.2.1, u64ok_wf h.2.1.2.2⟩⟩
theorem rangeOverlap_row (x0 x1 : S63) (w0 : wf63 x0) (w1 : wf63 x1) : ∃ k, laws_FnRangeOverlap.f k x0.f0.f0 x0.f0.f1 x0.f0.f2 x0.f1.f0 x0.f1.f1 x0.f1.f2 x0.f2 x1.f0.f0 x1.f0.f1 x1.f0.f2 x1.f1.f0 x1.f1.f1 x1.f1.f2 x1.f2 = some true :=
  ⟨9, rangeOverlap_pure (rgOf x0) (rgOf x1) (rg_wf w0) (rg_wf w1)⟩
end Go.Proofs.YtadhdimleabljaaQ.QR
