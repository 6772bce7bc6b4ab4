/- A range made wider by another one: the law's plain part. -/
import Derived.Test.YtbbncbjdpopkiaaRE
import Derived.Test.YtbbncbjdpopkiaaWQE
namespace Go.Proofs.YtbbncbjdpopkiaaQ.QE
open Go.RowKit Go.Proofs.YtbbncbjdpopkiaaQ.Ext
set_option linter.unusedVariables false
set_option linter.unusedSimpArgs false
theorem wide_there {r : Rg} (h : r.ok = true) (ha : r.all = false) : r.a.t = true ∧ r.b.t = true := by
  have hw := (ok_parts h).1
  unfold Rg.wide at hw
  rw [ha] at hw
  simp only [Bool.false_eq_true, if_false, Bool.and_eq_true] at hw
  exact hw.1
theorem bnd_ok (b : Bd) (hw : b.wf) (ho : b.okB = true) (ht : b.t = true) : bndok b.bytes = true := by
  have h2 := okB_len ho ht
  have hl := bytes_len b ht
  unfold bndok
  rw [bytes_byt b hw]
  simp
  omega
theorem bound_back (b : Bd) (hw : b.wf) (ho : b.okB = true) (ht : b.t = true) : impl_boundOf.f b.bytes = some (b.t, b.l, b.v) := by
  have h2 := okB_len ho ht
  have hv := u64ok_of hw.2
  unfold Bd.bytes
  rw [if_pos ht, boundOf_f b.l b.v (by omega) h2.1 hv.1 hv.2.out, ht]
theorem extend_f (r s : Rg) (hr : r.wf) (hs : s.wf) (ho : r.ok = true) (hp : s.ok = true) (ha : r.all = false) (hb : s.all = false) :
    impl_Extend.f r.a.t r.a.l r.a.v r.b.t r.b.l r.b.v r.all s.a.t s.a.l s.a.v s.b.t s.b.l s.b.v s.all = some ((r.wider s).a.t, (r.wider s).a.l, (r.wider s).a.v, (r.wider s).b.t, (r.wider s).b.l, (r.wider s).b.v, false) := by
  obtain ⟨_, o1, o2⟩ := ok_parts ho
  obtain ⟨_, p1, p2⟩ := ok_parts hp
  obtain ⟨t1, t2⟩ := wide_there ho ha
  obtain ⟨t3, t4⟩ := wide_there hp hb
  have e1 : Ytbbncbjdpopkiaa.cmpKeys s.a.bytes r.a.bytes = Ytbbncbjdpopkiaa.orderL s.a.l s.a.v r.a.l r.a.v := by
    unfold Bd.bytes; rw [if_pos t1, if_pos t3, Ytbbncbjdpopkiaa.cmpKeys_keyB]
  have e2 : Ytbbncbjdpopkiaa.cmpKeys s.b.bytes r.b.bytes = Ytbbncbjdpopkiaa.orderL s.b.l s.b.v r.b.l r.b.v := by
    unfold Bd.bytes; rw [if_pos t2, if_pos t4, Ytbbncbjdpopkiaa.cmpKeys_keyB]
  unfold impl_Extend.f
  rw [rangeOf_f r hr o1 o2, Option.bind_some, rangeOf_f s hs p1 p2, Option.bind_some]
  unfold badgercompact_Extend.f
  simp only
  rw [if_pos ⟨⟨bnd_ok _ hr.1 o1 t1, bnd_ok _ hr.2 o2 t2⟩, ⟨bnd_ok _ hs.1 p1 t3, bnd_ok _ hs.2 p2 t4⟩, ha, hb⟩, e1, e2, Option.bind_some]
  unfold impl_toldRange.f Rg.wider
  by_cases h1 : Ytbbncbjdpopkiaa.orderL s.a.l s.a.v r.a.l r.a.v < 0 <;> by_cases h2 : Ytbbncbjdpopkiaa.orderL s.b.l s.b.v r.b.l r.b.v > 0 <;>
    simp only [h1, h2, if_true, if_false, bound_back _ hr.1 o1 t1, bound_back _ hr.2 o2 t2, bound_back _ hs.1 p1 t3, bound_back _ hs.2 p2 t4, Option.bind_some]
end Go.Proofs.YtbbncbjdpopkiaaQ.QE
