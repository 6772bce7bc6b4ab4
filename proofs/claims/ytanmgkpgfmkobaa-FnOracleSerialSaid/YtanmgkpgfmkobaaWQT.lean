/- How arguments of some types come in. -/
import Derived.Test.YtanmgkpgfmkobaaGX
import Derived.Test.YtanmgkpgfmkobaaQT0
namespace Go.Proofs.YtanmgkpgfmkobaaQ.QT
open Go.ChangeShapes Go.WideShapes Go.ChangeAt Go.RowKit Go.Proofs.YtanmgkpgfmkobaaW.PrintWords Go.Proofs.YtanmgkpgfmkobaaQ.Ext
set_option linter.unusedVariables false
theorem cz2 : Try.prog.cellsOf 2 = (Kd.int .i64).sz := by kernel_rfl
theorem cz3 : Try.prog.cellsOf 3 = (Kd.int .i64).sz := by kernel_rfl
theorem cz28 : Try.prog.cellsOf 28 = (Kd.int .u64).sz := by kernel_rfl
def wf55 (x : S55) : Prop := ((Lit.int .i64 x.f0).wf = true) ∧ ((Lit.int .i64 x.f1).wf = true) ∧ ((Lit.int .u64 x.f2).wf = true)
theorem czl55 : Try.prog.cellsOf 55 = 3 := by kernel_rfl
set_option maxRecDepth 100000 in
theorem vw55 {H : Type} {enc : TypeId × Value → H} {w : World} : Vw enc Try.prog w 55 k55 wf55 :=
  ⟨fun fuel cs y h => by
    obtain ⟨hl, n, hf⟩ := Ytanmgkpgfmkobaa.fields_of Try.underlying55 h
    rw [czl55] at hl
    obtain ⟨_, h0⟩ := hf 0 _ rfl
    obtain ⟨x0, k0, w0⟩ := ((vw_int Try.underlying2) : Vw enc Try.prog w 2 (Kd.int .i64) _).go _ _ _ h0
    obtain ⟨_, h1⟩ := hf 1 _ rfl
    obtain ⟨x1, k1, w1⟩ := ((vw_int Try.underlying3) : Vw enc Try.prog w 3 (Kd.int .i64) _).go _ _ _ h1
    obtain ⟨_, h2⟩ := hf 2 _ rfl
    obtain ⟨x2, k2, w2⟩ := ((vw_int Try.underlying28) : Vw enc Try.prog w 28 (Kd.int .u64) _).go _ _ _ h2
    refine ⟨⟨x0, x1, x2⟩, ?_, w0, w1, w2⟩
    exact kzero (a := k55) (kpair (a := (Kd.int .i64)) (o := 0) (kfield (a := (Kd.int .i64)) (o := 0) cz2 k0) (kpair (a := (Kd.int .i64)) (o := 1) (kfield (a := (Kd.int .i64)) (o := 1) cz3 k1) (klast (a := (Kd.int .u64)) (o := 2) (kfield (a := (Kd.int .u64)) (o := 2) cz28 k2) (by rw [hl]; rfl))))⟩
theorem cz55 : Try.prog.cellsOf 55 = k55.sz := by kernel_rfl
theorem cz47 : Try.prog.cellsOf 47 = (Kd.slice 55 k55).sz := by kernel_rfl
end Go.Proofs.YtanmgkpgfmkobaaQ.QT
