/- The record of a checksum is read again: the plain part. -/
import Derived.Test.YtadhdimleabljaaQU
namespace Go.Proofs.YtadhdimleabljaaQ.QU
open Go.RowKit Go.Proofs.YtadhdimleabljaaQ.Ext
set_option linter.unusedVariables false
set_option linter.unusedSimpArgs false
theorem vint_byt (k : Nat) (x : Int) (h : 0 ≤ x) (hk : x < 128 ^ (k + 1)) : Ytadhdimleabljaa.Byt (Ytadhdimleabljaa.vint k x) := by
  induction k generalizing x with
  | zero =>
    intro y hy
    simp [Ytadhdimleabljaa.vint] at hy
    subst hy
    simp at hk
    omega
  | succ k ih =>
    intro y hy
    by_cases hx : x < 128
    · rw [Ytadhdimleabljaa.vint_small _ _ hx] at hy
      simp at hy
      omega
    · rw [Ytadhdimleabljaa.vint_big _ _ (by omega)] at hy
      rcases List.mem_cons.1 hy with hy | hy
      · omega
      · exact ih (x / 128) (by omega) (by rw [Int.pow_succ] at hk; omega) y hy
theorem sumRecord_row (x0 : Int) (w0 : (Lit.int .u64 x0).wf = true) : laws_FnSumRecord.f x0 = some true := by
  have hb := Ytadhdimleabljaa.wf64 w0
  obtain ⟨h0, h1⟩ := hb
  have hu := u64ok_mk h0 h1
  have hl := Ytadhdimleabljaa.sumR_len x0
  have e : sumOf (Ytadhdimleabljaa.sumR x0) = x0 := by
    unfold Ytadhdimleabljaa.sumR
    by_cases hx : x0 = 0
    · rw [if_pos hx, hx]; rfl
    · rw [if_neg hx]
      have := Ytadhdimleabljaa.uvar_back x0 [] h0 h1.out
      rw [List.append_nil] at this
      show (Ytadhdimleabljaa.uvarL (Ytadhdimleabljaa.vint 9 x0) 0 0).1 = x0
      rw [this]
  have hby : bytb (Ytadhdimleabljaa.sumR x0) = true := by
    unfold Ytadhdimleabljaa.sumR
    by_cases hx : x0 = 0
    · rw [if_pos hx]; rfl
    · rw [if_neg hx]
      refine bytb_of fun y hy => ?_
      rcases List.mem_cons.1 hy with hy | hy
      · omega
      · exact vint_byt 9 x0 h0 (by have := h1.out; simp; omega) y hy
  unfold laws_FnSumRecord.f impl_SumRecord.f impl_ReadSumRecord.f
  rw [if_pos hu, Option.bind_some, e, if_pos ⟨rfl, hu, hby⟩, Option.bind_some]
  simp only [if_true, Option.bind_some, Option.some.injEq, decide_eq_true_eq]
  omega
end Go.Proofs.YtadhdimleabljaaQ.QU
