/- How arguments of some types come in. -/
import Derived.Test.YtadhdimleabljaaGX
import Derived.Test.YtadhdimleabljaaQS0
namespace Go.Proofs.YtadhdimleabljaaQ.QS
open Go.ChangeShapes Go.WideShapes Go.ChangeAt Go.RowKit Go.Proofs.YtadhdimleabljaaW.PrintWords Go.Proofs.YtadhdimleabljaaQ.Ext
set_option linter.unusedVariables false
theorem cz22 : Try.prog.cellsOf 22 = (Kd.int .u32).sz := by kernel_rfl
def wf24 (x : S24) : Prop := ((Lit.int .u32 x.f0).wf = true) ∧ ((Lit.int .u32 x.f1).wf = true) ∧ ((Lit.int .u32 x.f2).wf = true)
theorem czl24 : Try.prog.cellsOf 24 = 3 := by kernel_rfl
set_option maxRecDepth 100000 in
theorem vw24 {H : Type} {enc : TypeId × Value → H} {w : World} : Vw enc Try.prog w 24 k24 wf24 :=
  ⟨fun fuel cs y h => by
    obtain ⟨hl, n, hf⟩ := Ytadhdimleabljaa.fields_of Try.underlying24 h
    rw [czl24] at hl
    obtain ⟨_, h0⟩ := hf 0 _ rfl
    obtain ⟨x0, k0, w0⟩ := ((vw_int Try.underlying22) : Vw enc Try.prog w 22 (Kd.int .u32) _).go _ _ _ h0
    obtain ⟨_, h1⟩ := hf 1 _ rfl
    obtain ⟨x1, k1, w1⟩ := ((vw_int Try.underlying22) : Vw enc Try.prog w 22 (Kd.int .u32) _).go _ _ _ h1
    obtain ⟨_, h2⟩ := hf 2 _ rfl
    obtain ⟨x2, k2, w2⟩ := ((vw_int Try.underlying22) : Vw enc Try.prog w 22 (Kd.int .u32) _).go _ _ _ h2
    refine ⟨⟨x0, x1, x2⟩, ?_, w0, w1, w2⟩
    exact kzero (a := k24) (kpair (a := (Kd.int .u32)) (o := 0) (kfield (a := (Kd.int .u32)) (o := 0) cz22 k0) (kpair (a := (Kd.int .u32)) (o := 1) (kfield (a := (Kd.int .u32)) (o := 1) cz22 k1) (klast (a := (Kd.int .u32)) (o := 2) (kfield (a := (Kd.int .u32)) (o := 2) cz22 k2) (by rw [hl]; rfl))))⟩
theorem cz24 : Try.prog.cellsOf 24 = k24.sz := by kernel_rfl
end Go.Proofs.YtadhdimleabljaaQ.QS
