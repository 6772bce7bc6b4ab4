/- A value in bytes is read again: the plain part. -/
import Derived.Test.YtadhdimleabljaaVP
import Derived.Test.YtadhdimleabljaaQW5
import Derived.Test.YtadhdimleabljaaQW4
namespace Go.Proofs.YtadhdimleabljaaQ.QW
open Go.RowKit Go.Proofs.YtadhdimleabljaaQ.Ext
set_option linter.unusedVariables false
set_option linter.unusedSimpArgs false
theorem vint_byt (k : Nat) (x : Int) (h : 0 ≤ x) (hk : x < 128 ^ (k + 1)) : Ytadhdimleabljaa.Byt (Ytadhdimleabljaa.vint k x) := by
  induction k generalizing x with
  | zero =>
    intro y hy
    simp [Ytadhdimleabljaa.vint] at hy
    subst hy
    simp at hk
    omega
  | succ k ih =>
    intro y hy
    by_cases hx : x < 128
    · rw [Ytadhdimleabljaa.vint_small _ _ hx] at hy
      simp at hy
      omega
    · rw [Ytadhdimleabljaa.vint_big _ _ (by omega)] at hy
      rcases List.mem_cons.1 hy with hy | hy
      · omega
      · exact ih (x / 128) (by omega) (by rw [Int.pow_succ] at hk; omega) y hy
theorem decode_some (m u e : Int) (l : List Int) (hl : l.length ≤ 300) (hb : Ytadhdimleabljaa.Byt l) (he : u64ok e = true) : impl_DecodeValue.f (Ytadhdimleabljaa.valB m u e l) = some (m, u, e, l) := by
  have h64 := u64ok_of he
  have hu := Ytadhdimleabljaa.uvar_back e l h64.1 h64.2.out
  have hv := Ytadhdimleabljaa.vint_len 9 e
  have hB : bytb (Ytadhdimleabljaa.vint 9 e ++ l) = true := bytb_of (Ytadhdimleabljaa.Byt.append (vint_byt 9 e h64.1 (by have := h64.2.out; simp; omega)) hb)
  show impl_DecodeValue.f (m :: u :: (Ytadhdimleabljaa.vint 9 e ++ l)) = _
  unfold impl_DecodeValue.f
  simp only
  rw [hu]
  rw [if_pos ⟨⟨by rw [List.length_append]; omega, hB⟩, by simp only; omega, by simp only [List.length_append]; omega⟩]
  simp
theorem valueBack_row (x0 : S69) (w0 : wf69 x0) : laws_FnValueBack.f x0.f0 x0.f1 x0.f2 x0.f3 = some true := by
  unfold laws_FnValueBack.f
  rw [fits_some, Option.bind_some]
  by_cases h1 : x0.f3.length ≤ 2147483647
  · rw [if_pos (by simp [h1]), few_some, Option.bind_some]
    by_cases h2 : x0.f3.length ≤ 300
    · have hu := u64ok_wf w0.2.2.1
      have hb := valB_some x0.f0 x0.f1 x0.f2 x0.f3 h2
      rw [if_pos (by simp [h2]), encode_some _ _ _ _ h2 hu, Option.bind_some, if_pos (by simp only; omega), decode_some _ _ _ _ h2 (Ytadhdimleabljaa.Byt.of_wf w0.2.2.2) hu, Option.bind_some]
      simp only [spec_SameValue.f, if_true, spec_SameBytes.f]
      rw [if_pos ⟨by omega, by omega⟩]
      simp
    · rw [if_neg (by simp [h2])]
  · rw [if_neg (by simp [h1])]
end Go.Proofs.YtadhdimleabljaaQ.QW
