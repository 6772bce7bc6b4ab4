/- Values in bytes: the laws' plain parts. -/
import Derived.Test.YtadhdimleabljaaQW2
import Derived.Test.YtadhdimleabljaaWQW
namespace Go.Proofs.YtadhdimleabljaaQ.QW
open Go.RowKit Go.Proofs.YtadhdimleabljaaQ.Ext
set_option linter.unusedVariables false
set_option linter.unusedSimpArgs false
theorem fits_some (m u e : Int) (l : List Int) : laws_zzFits4.f m u e l = some (decide (l.length ≤ 2147483647)) := by
  unfold laws_zzFits4.f
  by_cases h : l.length ≤ 2147483647
  · rw [if_neg (by omega)]; simp [h]
  · rw [if_pos (by omega)]; simp [h]
theorem few_some (l : List Int) : laws_few.f [l] = some (decide (l.length ≤ 300)) := by
  unfold laws_few.f
  rw [if_pos (by simp)]
  simp
theorem u64ok_wf {x : Int} (h : (Lit.int .u64 x).wf = true) : u64ok x = true := by
  have := Ytadhdimleabljaa.wf64 h
  exact u64ok_mk this.1 this.2
theorem encode_some (m u e : Int) (l : List Int) (hl : l.length ≤ 300) (he : u64ok e = true) : impl_EncodeValue.f m u e l = some (Ytadhdimleabljaa.valB m u e l, ((Ytadhdimleabljaa.valB m u e l).length : Int)) := by
  unfold impl_EncodeValue.f
  rw [if_pos ⟨by omega, he⟩]
theorem valB_some (m u e : Int) (l : List Int) (hl : l.length ≤ 300) : 3 ≤ (Ytadhdimleabljaa.valB m u e l).length ∧ (Ytadhdimleabljaa.valB m u e l).length ≤ 312 := by
  have h1 := Ytadhdimleabljaa.valB_len m u e l
  have h2 := Ytadhdimleabljaa.vint_len 9 e
  omega
theorem valueBytes_row (x0 : S69) (w0 : wf69 x0) : laws_FnValueBytes.f x0.f0 x0.f1 x0.f2 x0.f3 = some true := by
  unfold laws_FnValueBytes.f
  rw [fits_some, Option.bind_some]
  by_cases h1 : x0.f3.length ≤ 2147483647
  · rw [if_pos (by simp [h1]), few_some, Option.bind_some]
    by_cases h2 : x0.f3.length ≤ 300
    · have hu := u64ok_wf w0.2.2.1
      have hb := valB_some x0.f0 x0.f1 x0.f2 x0.f3 h2
      rw [if_pos (by simp [h2]), encode_some _ _ _ _ h2 hu, Option.bind_some, spec_ValueBytes.f, if_pos ⟨by omega, hu⟩, Option.bind_some, spec_SameBytes.f, if_pos ⟨by simp only; omega, by omega⟩]
      simp
    · rw [if_neg (by simp [h2])]
  · rw [if_neg (by simp [h1])]
end Go.Proofs.YtadhdimleabljaaQ.QW
