/- Where a record lies, in bytes and back: the plain part. -/
import Derived.Test.YtadhdimleabljaaQS
import Derived.Test.YtadhdimleabljaaWQS
namespace Go.Proofs.YtadhdimleabljaaQ.QS
open Go.RowKit Go.Proofs.YtadhdimleabljaaQ.Ext
set_option linter.unusedVariables false
set_option linter.unusedSimpArgs false
theorem encode_f (a b c : Int) : impl_EncodeSpot.f a b c = some (Ytadhdimleabljaa.le32 a ++ Ytadhdimleabljaa.le32 b ++ Ytadhdimleabljaa.le32 c) := by
  simp [impl_EncodeSpot.f, impl_givenSpot.f, badgerlog_EncodePlace.f, badgerlog_valuePointer_Encode.f, badgerlog_y32.f, impl_own.f, Ytadhdimleabljaa.le32]
theorem wf32 {x : Int} (h : (Lit.int .u32 x).wf = true) : 0 ≤ x ∧ x ≤ 4294967295 := by
  simp [Lit.wf, IntKind.min, IntKind.max, IntKind.signed, IntKind.bits] at h; omega
theorem le32_byt (x : Int) : Ytadhdimleabljaa.Byt (Ytadhdimleabljaa.le32 x) := by
  intro y hy
  simp [Ytadhdimleabljaa.le32] at hy
  omega
theorem spotBack_row (x0 : S24) (w0 : wf24 x0) : laws_FnSpotBack.f x0.f0 x0.f1 x0.f2 = some true := by
  obtain ⟨h0, h1⟩ := wf32 w0.1
  obtain ⟨h2, h3⟩ := wf32 w0.2.1
  obtain ⟨h4, h5⟩ := wf32 w0.2.2
  unfold laws_FnSpotBack.f
  rw [encode_f, Option.bind_some]
  have hb : bytb (Ytadhdimleabljaa.le32 x0.f0 ++ Ytadhdimleabljaa.le32 x0.f1 ++ Ytadhdimleabljaa.le32 x0.f2) = true := bytb_of ((le32_byt _).append (le32_byt _) |>.append (le32_byt _))
  unfold impl_DecodeSpot.f
  rw [if_pos ⟨by simp [Ytadhdimleabljaa.le32], hb⟩, Option.bind_some]
  have e0 : Ytadhdimleabljaa.val4 (Ytadhdimleabljaa.le32 x0.f0 ++ Ytadhdimleabljaa.le32 x0.f1 ++ Ytadhdimleabljaa.le32 x0.f2) 0 = x0.f0 := by simp [Ytadhdimleabljaa.val4, Ytadhdimleabljaa.le32]; omega
  have e1 : Ytadhdimleabljaa.val4 (Ytadhdimleabljaa.le32 x0.f0 ++ Ytadhdimleabljaa.le32 x0.f1 ++ Ytadhdimleabljaa.le32 x0.f2) 4 = x0.f1 := by simp [Ytadhdimleabljaa.val4, Ytadhdimleabljaa.le32]; omega
  have e2 : Ytadhdimleabljaa.val4 (Ytadhdimleabljaa.le32 x0.f0 ++ Ytadhdimleabljaa.le32 x0.f1 ++ Ytadhdimleabljaa.le32 x0.f2) 8 = x0.f2 := by simp [Ytadhdimleabljaa.val4, Ytadhdimleabljaa.le32]; omega
  rw [e0, e1, e2]
  simp [Ytadhdimleabljaa.le32]
end Go.Proofs.YtadhdimleabljaaQ.QS
