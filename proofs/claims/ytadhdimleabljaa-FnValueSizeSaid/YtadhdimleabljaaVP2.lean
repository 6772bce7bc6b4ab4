/- A value has as many bytes as it is told to need: the plain part. -/
import Derived.Test.YtadhdimleabljaaVP
import Derived.Test.YtadhdimleabljaaQW3
namespace Go.Proofs.YtadhdimleabljaaQ.QW
open Go.RowKit Go.Proofs.YtadhdimleabljaaQ.Ext
set_option linter.unusedVariables false
set_option linter.unusedSimpArgs false
theorem valueSize_row (x0 : S69) (w0 : wf69 x0) : laws_FnValueSize.f x0.f0 x0.f1 x0.f2 x0.f3 = some true := by
  unfold laws_FnValueSize.f
  rw [fits_some, Option.bind_some]
  by_cases h1 : x0.f3.length ≤ 2147483647
  · rw [if_pos (by simp [h1]), few_some, Option.bind_some]
    by_cases h2 : x0.f3.length ≤ 300
    · have hu := u64ok_wf w0.2.2.1
      have hb := valB_some x0.f0 x0.f1 x0.f2 x0.f3 h2
      rw [if_pos (by simp [h2]), encode_some _ _ _ _ h2 hu, Option.bind_some, if_pos (by simp only; unfold wrap64; omega)]
      simp only [Option.some.injEq, decide_eq_true_eq]
      omega
    · rw [if_neg (by simp [h2])]
  · rw [if_neg (by simp [h1])]
end Go.Proofs.YtadhdimleabljaaQ.QW
