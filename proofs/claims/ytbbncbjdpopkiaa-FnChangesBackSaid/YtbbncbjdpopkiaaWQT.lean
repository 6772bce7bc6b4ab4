/- How arguments of some types come in. -/
import Derived.Test.YtbbncbjdpopkiaaGX
import Derived.Test.YtbbncbjdpopkiaaQT0
namespace Go.Proofs.YtbbncbjdpopkiaaQ.QT
open Go.ChangeShapes Go.WideShapes Go.ChangeAt Go.RowKit Go.Proofs.YtbbncbjdpopkiaaW.PrintWords Go.Proofs.YtbbncbjdpopkiaaQ.Ext
set_option linter.unusedVariables false
theorem cz23 : Try.prog.cellsOf 23 = (Kd.int .u64).sz := by kernel_rfl
theorem cz4 : Try.prog.cellsOf 4 = Kd.bool.sz := by kernel_rfl
theorem cz59 : Try.prog.cellsOf 59 = (Kd.int .u32).sz := by kernel_rfl
def wf61 (x : S61) : Prop := ((Lit.int .u64 x.f0).wf = true) ∧ (True) ∧ ((Lit.int .u32 x.f2).wf = true) ∧ ((Lit.int .u64 x.f3).wf = true) ∧ ((Lit.int .u32 x.f4).wf = true)
theorem czl61 : Try.prog.cellsOf 61 = 5 := by kernel_rfl
set_option maxRecDepth 100000 in
theorem vw61 {H : Type} {enc : TypeId × Value → H} {w : World} : Vw enc Try.prog w 61 k61 wf61 :=
  ⟨fun fuel cs y h => by
    obtain ⟨hl, n, hf⟩ := Ytbbncbjdpopkiaa.fields_of Try.underlying61 h
    rw [czl61] at hl
    obtain ⟨_, h0⟩ := hf 0 _ rfl
    obtain ⟨x0, k0, w0⟩ := ((vw_int Try.underlying23) : Vw enc Try.prog w 23 (Kd.int .u64) _).go _ _ _ h0
    obtain ⟨_, h1⟩ := hf 1 _ rfl
    obtain ⟨x1, k1, w1⟩ := ((vw_bool Try.underlying4) : Vw enc Try.prog w 4 Kd.bool _).go _ _ _ h1
    obtain ⟨_, h2⟩ := hf 2 _ rfl
    obtain ⟨x2, k2, w2⟩ := ((vw_int Try.underlying59) : Vw enc Try.prog w 59 (Kd.int .u32) _).go _ _ _ h2
    obtain ⟨_, h3⟩ := hf 3 _ rfl
    obtain ⟨x3, k3, w3⟩ := ((vw_int Try.underlying23) : Vw enc Try.prog w 23 (Kd.int .u64) _).go _ _ _ h3
    obtain ⟨_, h4⟩ := hf 4 _ rfl
    obtain ⟨x4, k4, w4⟩ := ((vw_int Try.underlying59) : Vw enc Try.prog w 59 (Kd.int .u32) _).go _ _ _ h4
    refine ⟨⟨x0, x1, x2, x3, x4⟩, ?_, w0, w1, w2, w3, w4⟩
    exact kzero (a := k61) (kpair (a := (Kd.int .u64)) (o := 0) (kfield (a := (Kd.int .u64)) (o := 0) cz23 k0) (kpair (a := Kd.bool) (o := 1) (kfield (a := Kd.bool) (o := 1) cz4 k1) (kpair (a := (Kd.int .u32)) (o := 2) (kfield (a := (Kd.int .u32)) (o := 2) cz59 k2) (kpair (a := (Kd.int .u64)) (o := 3) (kfield (a := (Kd.int .u64)) (o := 3) cz23 k3) (klast (a := (Kd.int .u32)) (o := 4) (kfield (a := (Kd.int .u32)) (o := 4) cz59 k4) (by rw [hl]; rfl))))))⟩
theorem cz61 : Try.prog.cellsOf 61 = k61.sz := by kernel_rfl
theorem cz34 : Try.prog.cellsOf 34 = (Kd.slice 61 k61).sz := by kernel_rfl
end Go.Proofs.YtbbncbjdpopkiaaQ.QT
