/- How arguments of some types come in. -/
import Derived.Test.YtbbncbjdpopkiaaDoorGX
import Derived.Test.YtbbncbjdpopkiaaDoorQA0
namespace Go.Proofs.YtbbncbjdpopkiaaDoorQ.QA
open Go.ChangeShapes Go.WideShapes Go.ChangeAt Go.RowKit Go.Proofs.YtbbncbjdpopkiaaDoorW.PrintWords Go.Proofs.YtbbncbjdpopkiaaDoorQ.Ext
set_option linter.unusedVariables false
theorem cz5 : Tryd.prog.cellsOf 5 = (Kd.int .u8).sz := by kernel_rfl
theorem cz23 : Tryd.prog.cellsOf 23 = (Kd.int .u64).sz := by kernel_rfl
theorem cz22 : Tryd.prog.cellsOf 22 = (Kd.slice 5 (Kd.int .u8)).sz := by kernel_rfl
def wf32 (x : S32) : Prop := ((Lit.int .u8 x.f0).wf = true) ∧ ((Lit.int .u8 x.f1).wf = true) ∧ ((Lit.int .u64 x.f2).wf = true) ∧ (∀ y ∈ x.f3, (Lit.int .u8 y).wf = true)
theorem czl32 : Tryd.prog.cellsOf 32 = 4 := by kernel_rfl
set_option maxRecDepth 100000 in
theorem vw32 {H : Type} {enc : TypeId × Value → H} {w : World} : Vw enc Tryd.prog w 32 k32 wf32 :=
  ⟨fun fuel cs y h => by
    obtain ⟨hl, n, hf⟩ := YtbbncbjdpopkiaaDoor.fields_of Tryd.underlying32 h
    rw [czl32] at hl
    obtain ⟨_, h0⟩ := hf 0 _ rfl
    obtain ⟨x0, k0, w0⟩ := ((vw_int Tryd.underlying5) : Vw enc Tryd.prog w 5 (Kd.int .u8) _).go _ _ _ h0
    obtain ⟨_, h1⟩ := hf 1 _ rfl
    obtain ⟨x1, k1, w1⟩ := ((vw_int Tryd.underlying5) : Vw enc Tryd.prog w 5 (Kd.int .u8) _).go _ _ _ h1
    obtain ⟨_, h2⟩ := hf 2 _ rfl
    obtain ⟨x2, k2, w2⟩ := ((vw_int Tryd.underlying23) : Vw enc Tryd.prog w 23 (Kd.int .u64) _).go _ _ _ h2
    obtain ⟨_, h3⟩ := hf 3 _ rfl
    obtain ⟨x3, k3, w3⟩ := ((vw_slice Tryd.underlying22 cz5 (vw_int Tryd.underlying5)) : Vw enc Tryd.prog w 22 (Kd.slice 5 (Kd.int .u8)) _).go _ _ _ h3
    refine ⟨⟨x0, x1, x2, x3⟩, ?_, w0, w1, w2, w3⟩
    exact kzero (a := k32) (kpair (a := (Kd.int .u8)) (o := 0) (kfield (a := (Kd.int .u8)) (o := 0) cz5 k0) (kpair (a := (Kd.int .u8)) (o := 1) (kfield (a := (Kd.int .u8)) (o := 1) cz5 k1) (kpair (a := (Kd.int .u64)) (o := 2) (kfield (a := (Kd.int .u64)) (o := 2) cz23 k2) (klast (a := (Kd.slice 5 (Kd.int .u8))) (o := 3) (kfield (a := (Kd.slice 5 (Kd.int .u8))) (o := 3) cz22 k3) (by rw [hl]; rfl)))))⟩
theorem cz32 : Tryd.prog.cellsOf 32 = k32.sz := by kernel_rfl
end Go.Proofs.YtbbncbjdpopkiaaDoorQ.QA
