/- How arguments of some types come in. -/
import Derived.Test.YtpfmmbhbmdbmeaaGX
import Derived.Test.YtpfmmbhbmdbmeaaQMA0
namespace Go.Proofs.YtpfmmbhbmdbmeaaQ.QMA
open Go.ChangeShapes Go.WideShapes Go.ChangeAt Go.RowKit Go.Proofs.YtpfmmbhbmdbmeaaW.PrintWords Go.Proofs.YtpfmmbhbmdbmeaaQ.Ext Go.Proofs.YtpfmmbhbmdbmeaaQ.QT
set_option linter.unusedVariables false
theorem cz33 : Try.prog.cellsOf 33 = (Kd.int .u64).sz := by kernel_rfl
theorem cz4 : Try.prog.cellsOf 4 = Kd.bool.sz := by kernel_rfl
theorem cz34 : Try.prog.cellsOf 34 = (Kd.int .u32).sz := by kernel_rfl
def wf36 (x : S36) : Prop := ((Lit.int .u64 x.f0).wf = true) ∧ (True) ∧ ((Lit.int .u32 x.f2).wf = true) ∧ ((Lit.int .u64 x.f3).wf = true) ∧ ((Lit.int .u32 x.f4).wf = true)
theorem czl36 : Try.prog.cellsOf 36 = 5 := by kernel_rfl
set_option maxRecDepth 100000 in
theorem vw36 {H : Type} {enc : TypeId × Value → H} {w : World} : Vw enc Try.prog w 36 k36 wf36 :=
  ⟨fun fuel cs y h => by
    obtain ⟨hl, n, hf⟩ := Ytpfmmbhbmdbmeaa.fields_of Try.underlying36 h
    rw [czl36] at hl
    obtain ⟨_, h0⟩ := hf 0 _ rfl
    obtain ⟨x0, k0, w0⟩ := ((vw_int Try.underlying33) : Vw enc Try.prog w 33 (Kd.int .u64) _).go _ _ _ h0
    obtain ⟨_, h1⟩ := hf 1 _ rfl
    obtain ⟨x1, k1, w1⟩ := ((vw_bool Try.underlying4) : Vw enc Try.prog w 4 Kd.bool _).go _ _ _ h1
    obtain ⟨_, h2⟩ := hf 2 _ rfl
    obtain ⟨x2, k2, w2⟩ := ((vw_int Try.underlying34) : Vw enc Try.prog w 34 (Kd.int .u32) _).go _ _ _ h2
    obtain ⟨_, h3⟩ := hf 3 _ rfl
    obtain ⟨x3, k3, w3⟩ := ((vw_int Try.underlying33) : Vw enc Try.prog w 33 (Kd.int .u64) _).go _ _ _ h3
    obtain ⟨_, h4⟩ := hf 4 _ rfl
    obtain ⟨x4, k4, w4⟩ := ((vw_int Try.underlying34) : Vw enc Try.prog w 34 (Kd.int .u32) _).go _ _ _ h4
    refine ⟨⟨x0, x1, x2, x3, x4⟩, ?_, w0, w1, w2, w3, w4⟩
    exact kzero (a := k36) (kpair (a := (Kd.int .u64)) (o := 0) (kfield (a := (Kd.int .u64)) (o := 0) cz33 k0) (kpair (a := Kd.bool) (o := 1) (kfield (a := Kd.bool) (o := 1) cz4 k1) (kpair (a := (Kd.int .u32)) (o := 2) (kfield (a := (Kd.int .u32)) (o := 2) cz34 k2) (kpair (a := (Kd.int .u64)) (o := 3) (kfield (a := (Kd.int .u64)) (o := 3) cz33 k3) (klast (a := (Kd.int .u32)) (o := 4) (kfield (a := (Kd.int .u32)) (o := 4) cz34 k4) (by rw [hl]; rfl))))))⟩
theorem cz36 : Try.prog.cellsOf 36 = k36.sz := by kernel_rfl
theorem cz24 : Try.prog.cellsOf 24 = (Kd.slice 36 k36).sz := by kernel_rfl
theorem cz22 : Try.prog.cellsOf 22 = (Kd.slice 24 (Kd.slice 36 k36)).sz := by kernel_rfl
end Go.Proofs.YtpfmmbhbmdbmeaaQ.QMA
