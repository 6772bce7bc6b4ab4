/- How arguments of some types come in. -/
import Derived.Test.YtbbncbjdpopkiaaGX
import Derived.Test.YtbbncbjdpopkiaaQE0
namespace Go.Proofs.YtbbncbjdpopkiaaQ.QE
open Go.ChangeShapes Go.WideShapes Go.ChangeAt Go.RowKit Go.Proofs.YtbbncbjdpopkiaaW.PrintWords Go.Proofs.YtbbncbjdpopkiaaQ.Ext
set_option linter.unusedVariables false
theorem cz4 : Try.prog.cellsOf 4 = Kd.bool.sz := by kernel_rfl
theorem cz5 : Try.prog.cellsOf 5 = (Kd.int .u8).sz := by kernel_rfl
theorem cz22 : Try.prog.cellsOf 22 = (Kd.slice 5 (Kd.int .u8)).sz := by kernel_rfl
theorem cz23 : Try.prog.cellsOf 23 = (Kd.int .u64).sz := by kernel_rfl
def wf25 (x : S25) : Prop := (True) ∧ (∀ y ∈ x.f1, (Lit.int .u8 y).wf = true) ∧ ((Lit.int .u64 x.f2).wf = true)
theorem czl25 : Try.prog.cellsOf 25 = 3 := by kernel_rfl
set_option maxRecDepth 100000 in
theorem vw25 {H : Type} {enc : TypeId × Value → H} {w : World} : Vw enc Try.prog w 25 k25 wf25 :=
  ⟨fun fuel cs y h => by
    obtain ⟨hl, n, hf⟩ := Ytbbncbjdpopkiaa.fields_of Try.underlying25 h
    rw [czl25] at hl
    obtain ⟨_, h0⟩ := hf 0 _ rfl
    obtain ⟨x0, k0, w0⟩ := ((vw_bool Try.underlying4) : Vw enc Try.prog w 4 Kd.bool _).go _ _ _ h0
    obtain ⟨_, h1⟩ := hf 1 _ rfl
    obtain ⟨x1, k1, w1⟩ := ((vw_slice Try.underlying22 cz5 (vw_int Try.underlying5)) : Vw enc Try.prog w 22 (Kd.slice 5 (Kd.int .u8)) _).go _ _ _ h1
    obtain ⟨_, h2⟩ := hf 2 _ rfl
    obtain ⟨x2, k2, w2⟩ := ((vw_int Try.underlying23) : Vw enc Try.prog w 23 (Kd.int .u64) _).go _ _ _ h2
    refine ⟨⟨x0, x1, x2⟩, ?_, w0, w1, w2⟩
    exact kzero (a := k25) (kpair (a := Kd.bool) (o := 0) (kfield (a := Kd.bool) (o := 0) cz4 k0) (kpair (a := (Kd.slice 5 (Kd.int .u8))) (o := 1) (kfield (a := (Kd.slice 5 (Kd.int .u8))) (o := 1) cz22 k1) (klast (a := (Kd.int .u64)) (o := 2) (kfield (a := (Kd.int .u64)) (o := 2) cz23 k2) (by rw [hl]; rfl))))⟩
theorem cz25 : Try.prog.cellsOf 25 = k25.sz := by kernel_rfl
def wf27 (x : S27) : Prop := (wf25 x.f0) ∧ (wf25 x.f1) ∧ (True)
theorem czl27 : Try.prog.cellsOf 27 = 7 := by kernel_rfl
set_option maxRecDepth 100000 in
theorem vw27 {H : Type} {enc : TypeId × Value → H} {w : World} : Vw enc Try.prog w 27 k27 wf27 :=
  ⟨fun fuel cs y h => by
    obtain ⟨hl, n, hf⟩ := Ytbbncbjdpopkiaa.fields_of Try.underlying27 h
    rw [czl27] at hl
    obtain ⟨_, h0⟩ := hf 0 _ rfl
    obtain ⟨x0, k0, w0⟩ := (vw25 : Vw enc Try.prog w 25 k25 _).go _ _ _ h0
    obtain ⟨_, h1⟩ := hf 1 _ rfl
    obtain ⟨x1, k1, w1⟩ := (vw25 : Vw enc Try.prog w 25 k25 _).go _ _ _ h1
    obtain ⟨_, h2⟩ := hf 2 _ rfl
    obtain ⟨x2, k2, w2⟩ := ((vw_bool Try.underlying4) : Vw enc Try.prog w 4 Kd.bool _).go _ _ _ h2
    refine ⟨⟨x0, x1, x2⟩, ?_, w0, w1, w2⟩
    exact kzero (a := k27) (kpair (a := k25) (o := 0) (kfield (a := k25) (o := 0) cz25 k0) (kpair (a := k25) (o := 3) (kfield (a := k25) (o := 3) cz25 k1) (klast (a := Kd.bool) (o := 6) (kfield (a := Kd.bool) (o := 6) cz4 k2) (by rw [hl]; rfl))))⟩
theorem cz27 : Try.prog.cellsOf 27 = k27.sz := by kernel_rfl
end Go.Proofs.YtbbncbjdpopkiaaQ.QE
