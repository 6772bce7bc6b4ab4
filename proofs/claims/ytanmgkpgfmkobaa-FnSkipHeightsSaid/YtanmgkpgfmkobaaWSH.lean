/- How arguments of some types come in. -/
import Derived.Test.YtanmgkpgfmkobaaGX
import Derived.Test.YtanmgkpgfmkobaaQSH0
namespace Go.Proofs.YtanmgkpgfmkobaaQ.QSH
open Go.ChangeShapes Go.WideShapes Go.ChangeAt Go.RowKit Go.Proofs.YtanmgkpgfmkobaaW.PrintWords Go.Proofs.YtanmgkpgfmkobaaQ.Ext Go.Proofs.YtanmgkpgfmkobaaQ.QT
set_option linter.unusedVariables false
theorem cz26 : Try.prog.cellsOf 26 = (Kd.int .u32).sz := by kernel_rfl
theorem cz22 : Try.prog.cellsOf 22 = (Kd.slice 26 (Kd.int .u32)).sz := by kernel_rfl
theorem cz5 : Try.prog.cellsOf 5 = (Kd.int .u8).sz := by kernel_rfl
theorem cz27 : Try.prog.cellsOf 27 = (Kd.slice 5 (Kd.int .u8)).sz := by kernel_rfl
theorem cz28 : Try.prog.cellsOf 28 = (Kd.int .u64).sz := by kernel_rfl
def wf30 (x : S30) : Prop := ((Lit.int .u8 x.f0).wf = true) ∧ ((Lit.int .u8 x.f1).wf = true) ∧ ((Lit.int .u64 x.f2).wf = true) ∧ (∀ y ∈ x.f3, (Lit.int .u8 y).wf = true)
theorem czl30 : Try.prog.cellsOf 30 = 4 := by kernel_rfl
set_option maxRecDepth 100000 in
theorem vw30 {H : Type} {enc : TypeId × Value → H} {w : World} : Vw enc Try.prog w 30 k30 wf30 :=
  ⟨fun fuel cs y h => by
    obtain ⟨hl, n, hf⟩ := Ytanmgkpgfmkobaa.fields_of Try.underlying30 h
    rw [czl30] at hl
    obtain ⟨_, h0⟩ := hf 0 _ rfl
    obtain ⟨x0, k0, w0⟩ := ((vw_int Try.underlying5) : Vw enc Try.prog w 5 (Kd.int .u8) _).go _ _ _ h0
    obtain ⟨_, h1⟩ := hf 1 _ rfl
    obtain ⟨x1, k1, w1⟩ := ((vw_int Try.underlying5) : Vw enc Try.prog w 5 (Kd.int .u8) _).go _ _ _ h1
    obtain ⟨_, h2⟩ := hf 2 _ rfl
    obtain ⟨x2, k2, w2⟩ := ((vw_int Try.underlying28) : Vw enc Try.prog w 28 (Kd.int .u64) _).go _ _ _ h2
    obtain ⟨_, h3⟩ := hf 3 _ rfl
    obtain ⟨x3, k3, w3⟩ := ((vw_slice Try.underlying27 cz5 (vw_int Try.underlying5)) : Vw enc Try.prog w 27 (Kd.slice 5 (Kd.int .u8)) _).go _ _ _ h3
    refine ⟨⟨x0, x1, x2, x3⟩, ?_, w0, w1, w2, w3⟩
    exact kzero (a := k30) (kpair (a := (Kd.int .u8)) (o := 0) (kfield (a := (Kd.int .u8)) (o := 0) cz5 k0) (kpair (a := (Kd.int .u8)) (o := 1) (kfield (a := (Kd.int .u8)) (o := 1) cz5 k1) (kpair (a := (Kd.int .u64)) (o := 2) (kfield (a := (Kd.int .u64)) (o := 2) cz28 k2) (klast (a := (Kd.slice 5 (Kd.int .u8))) (o := 3) (kfield (a := (Kd.slice 5 (Kd.int .u8))) (o := 3) cz27 k3) (by rw [hl]; rfl)))))⟩
theorem cz30 : Try.prog.cellsOf 30 = k30.sz := by kernel_rfl
def wf32 (x : S32) : Prop := (∀ y ∈ x.f0, (Lit.int .u8 y).wf = true) ∧ ((Lit.int .u64 x.f1).wf = true) ∧ (wf30 x.f2)
theorem czl32 : Try.prog.cellsOf 32 = 6 := by kernel_rfl
set_option maxRecDepth 100000 in
theorem vw32 {H : Type} {enc : TypeId × Value → H} {w : World} : Vw enc Try.prog w 32 k32 wf32 :=
  ⟨fun fuel cs y h => by
    obtain ⟨hl, n, hf⟩ := Ytanmgkpgfmkobaa.fields_of Try.underlying32 h
    rw [czl32] at hl
    obtain ⟨_, h0⟩ := hf 0 _ rfl
    obtain ⟨x0, k0, w0⟩ := ((vw_slice Try.underlying27 cz5 (vw_int Try.underlying5)) : Vw enc Try.prog w 27 (Kd.slice 5 (Kd.int .u8)) _).go _ _ _ h0
    obtain ⟨_, h1⟩ := hf 1 _ rfl
    obtain ⟨x1, k1, w1⟩ := ((vw_int Try.underlying28) : Vw enc Try.prog w 28 (Kd.int .u64) _).go _ _ _ h1
    obtain ⟨_, h2⟩ := hf 2 _ rfl
    obtain ⟨x2, k2, w2⟩ := (vw30 : Vw enc Try.prog w 30 k30 _).go _ _ _ h2
    refine ⟨⟨x0, x1, x2⟩, ?_, w0, w1, w2⟩
    exact kzero (a := k32) (kpair (a := (Kd.slice 5 (Kd.int .u8))) (o := 0) (kfield (a := (Kd.slice 5 (Kd.int .u8))) (o := 0) cz27 k0) (kpair (a := (Kd.int .u64)) (o := 1) (kfield (a := (Kd.int .u64)) (o := 1) cz28 k1) (klast (a := k30) (o := 2) (kfield (a := k30) (o := 2) cz30 k2) (by rw [hl]; rfl))))⟩
theorem cz32 : Try.prog.cellsOf 32 = k32.sz := by kernel_rfl
theorem cz23 : Try.prog.cellsOf 23 = (Kd.slice 32 k32).sz := by kernel_rfl
theorem cz2 : Try.prog.cellsOf 2 = (Kd.int .i64).sz := by kernel_rfl
def wf78 (x : S78) : Prop := ((Lit.int .i64 x.f0).wf = true) ∧ (∀ y ∈ x.f1, (Lit.int .u8 y).wf = true) ∧ ((Lit.int .u64 x.f2).wf = true)
theorem czl78 : Try.prog.cellsOf 78 = 3 := by kernel_rfl
set_option maxRecDepth 100000 in
theorem vw78 {H : Type} {enc : TypeId × Value → H} {w : World} : Vw enc Try.prog w 78 k78 wf78 :=
  ⟨fun fuel cs y h => by
    obtain ⟨hl, n, hf⟩ := Ytanmgkpgfmkobaa.fields_of Try.underlying78 h
    rw [czl78] at hl
    obtain ⟨_, h0⟩ := hf 0 _ rfl
    obtain ⟨x0, k0, w0⟩ := ((vw_int Try.underlying2) : Vw enc Try.prog w 2 (Kd.int .i64) _).go _ _ _ h0
    obtain ⟨_, h1⟩ := hf 1 _ rfl
    obtain ⟨x1, k1, w1⟩ := ((vw_slice Try.underlying27 cz5 (vw_int Try.underlying5)) : Vw enc Try.prog w 27 (Kd.slice 5 (Kd.int .u8)) _).go _ _ _ h1
    obtain ⟨_, h2⟩ := hf 2 _ rfl
    obtain ⟨x2, k2, w2⟩ := ((vw_int Try.underlying28) : Vw enc Try.prog w 28 (Kd.int .u64) _).go _ _ _ h2
    refine ⟨⟨x0, x1, x2⟩, ?_, w0, w1, w2⟩
    exact kzero (a := k78) (kpair (a := (Kd.int .i64)) (o := 0) (kfield (a := (Kd.int .i64)) (o := 0) cz2 k0) (kpair (a := (Kd.slice 5 (Kd.int .u8))) (o := 1) (kfield (a := (Kd.slice 5 (Kd.int .u8))) (o := 1) cz27 k1) (klast (a := (Kd.int .u64)) (o := 2) (kfield (a := (Kd.int .u64)) (o := 2) cz28 k2) (by rw [hl]; rfl))))⟩
theorem cz78 : Try.prog.cellsOf 78 = k78.sz := by kernel_rfl
theorem cz39 : Try.prog.cellsOf 39 = (Kd.slice 78 k78).sz := by kernel_rfl
end Go.Proofs.YtanmgkpgfmkobaaQ.QSH
