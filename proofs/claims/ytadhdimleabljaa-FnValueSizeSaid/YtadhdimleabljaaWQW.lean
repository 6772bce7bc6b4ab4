/- How arguments of some types come in. -/
import Derived.Test.YtadhdimleabljaaGX
import Derived.Test.YtadhdimleabljaaQW0
namespace Go.Proofs.YtadhdimleabljaaQ.QW
open Go.ChangeShapes Go.WideShapes Go.ChangeAt Go.RowKit Go.Proofs.YtadhdimleabljaaW.PrintWords Go.Proofs.YtadhdimleabljaaQ.Ext
set_option linter.unusedVariables false
theorem cz5 : Try.prog.cellsOf 5 = (Kd.int .u8).sz := by kernel_rfl
theorem cz27 : Try.prog.cellsOf 27 = (Kd.int .u64).sz := by kernel_rfl
theorem cz26 : Try.prog.cellsOf 26 = (Kd.slice 5 (Kd.int .u8)).sz := by kernel_rfl
def wf69 (x : S69) : Prop := ((Lit.int .u8 x.f0).wf = true) ∧ ((Lit.int .u8 x.f1).wf = true) ∧ ((Lit.int .u64 x.f2).wf = true) ∧ (∀ y ∈ x.f3, (Lit.int .u8 y).wf = true)
theorem czl69 : Try.prog.cellsOf 69 = 4 := by kernel_rfl
set_option maxRecDepth 100000 in
theorem vw69 {H : Type} {enc : TypeId × Value → H} {w : World} : Vw enc Try.prog w 69 k69 wf69 :=
  ⟨fun fuel cs y h => by
    obtain ⟨hl, n, hf⟩ := Ytadhdimleabljaa.fields_of Try.underlying69 h
    rw [czl69] at hl
    obtain ⟨_, h0⟩ := hf 0 _ rfl
    obtain ⟨x0, k0, w0⟩ := ((vw_int Try.underlying5) : Vw enc Try.prog w 5 (Kd.int .u8) _).go _ _ _ h0
    obtain ⟨_, h1⟩ := hf 1 _ rfl
    obtain ⟨x1, k1, w1⟩ := ((vw_int Try.underlying5) : Vw enc Try.prog w 5 (Kd.int .u8) _).go _ _ _ h1
    obtain ⟨_, h2⟩ := hf 2 _ rfl
    obtain ⟨x2, k2, w2⟩ := ((vw_int Try.underlying27) : Vw enc Try.prog w 27 (Kd.int .u64) _).go _ _ _ h2
    obtain ⟨_, h3⟩ := hf 3 _ rfl
    obtain ⟨x3, k3, w3⟩ := ((vw_slice Try.underlying26 cz5 (vw_int Try.underlying5)) : Vw enc Try.prog w 26 (Kd.slice 5 (Kd.int .u8)) _).go _ _ _ h3
    refine ⟨⟨x0, x1, x2, x3⟩, ?_, w0, w1, w2, w3⟩
    exact kzero (a := k69) (kpair (a := (Kd.int .u8)) (o := 0) (kfield (a := (Kd.int .u8)) (o := 0) cz5 k0) (kpair (a := (Kd.int .u8)) (o := 1) (kfield (a := (Kd.int .u8)) (o := 1) cz5 k1) (kpair (a := (Kd.int .u64)) (o := 2) (kfield (a := (Kd.int .u64)) (o := 2) cz27 k2) (klast (a := (Kd.slice 5 (Kd.int .u8))) (o := 3) (kfield (a := (Kd.slice 5 (Kd.int .u8))) (o := 3) cz26 k3) (by rw [hl]; rfl)))))⟩
theorem cz69 : Try.prog.cellsOf 69 = k69.sz := by kernel_rfl
end Go.Proofs.YtadhdimleabljaaQ.QW
