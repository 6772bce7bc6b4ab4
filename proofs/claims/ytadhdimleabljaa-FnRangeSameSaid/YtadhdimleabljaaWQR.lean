/- How arguments of some types come in. -/
import Derived.Test.YtadhdimleabljaaW0
import Derived.Test.YtadhdimleabljaaQR0
namespace Go.Proofs.YtadhdimleabljaaQ.QR
open Go.ChangeShapes Go.WideShapes Go.ChangeAt Go.RowKit Go.Proofs.YtadhdimleabljaaW.PrintWords Go.Proofs.YtadhdimleabljaaQ.Ext
set_option linter.unusedVariables false
theorem cz4 : Try.prog.cellsOf 4 = Kd.bool.sz := by kernel_rfl
theorem cz5 : Try.prog.cellsOf 5 = (Kd.int .u8).sz := by kernel_rfl
theorem cz26 : Try.prog.cellsOf 26 = (Kd.slice 5 (Kd.int .u8)).sz := by kernel_rfl
theorem cz27 : Try.prog.cellsOf 27 = (Kd.int .u64).sz := by kernel_rfl
def wf61 (x : S61) : Prop := (True) ∧ (∀ y ∈ x.f1, (Lit.int .u8 y).wf = true) ∧ ((Lit.int .u64 x.f2).wf = true)
theorem czl61 : Try.prog.cellsOf 61 = 3 := by kernel_rfl
set_option maxRecDepth 100000 in
theorem vw61 {H : Type} {enc : TypeId × Value → H} {w : World} : Vw enc Try.prog w 61 k61 wf61 :=
  ⟨fun fuel cs y h => by
    obtain ⟨hl, n, hf⟩ := Ytadhdimleabljaa.fields_of Try.underlying61 h
    rw [czl61] at hl
    obtain ⟨_, h0⟩ := hf 0 _ rfl
    obtain ⟨x0, k0, w0⟩ := ((vw_bool Try.underlying4) : Vw enc Try.prog w 4 Kd.bool _).go _ _ _ h0
    obtain ⟨_, h1⟩ := hf 1 _ rfl
    obtain ⟨x1, k1, w1⟩ := ((vw_slice Try.underlying26 cz5 (vw_int Try.underlying5)) : Vw enc Try.prog w 26 (Kd.slice 5 (Kd.int .u8)) _).go _ _ _ h1
    obtain ⟨_, h2⟩ := hf 2 _ rfl
    obtain ⟨x2, k2, w2⟩ := ((vw_int Try.underlying27) : Vw enc Try.prog w 27 (Kd.int .u64) _).go _ _ _ h2
    refine ⟨⟨x0, x1, x2⟩, ?_, w0, w1, w2⟩
    exact kzero (a := k61) (kpair (a := Kd.bool) (o := 0) (kfield (a := Kd.bool) (o := 0) cz4 k0) (kpair (a := (Kd.slice 5 (Kd.int .u8))) (o := 1) (kfield (a := (Kd.slice 5 (Kd.int .u8))) (o := 1) cz26 k1) (klast (a := (Kd.int .u64)) (o := 2) (kfield (a := (Kd.int .u64)) (o := 2) cz27 k2) (by rw [hl]; rfl))))⟩
theorem cz61 : Try.prog.cellsOf 61 = k61.sz := by kernel_rfl
def wf63 (x : S63) : Prop := (wf61 x.f0) ∧ (wf61 x.f1) ∧ (True)
theorem czl63 : Try.prog.cellsOf 63 = 7 := by kernel_rfl
set_option maxRecDepth 100000 in
theorem vw63 {H : Type} {enc : TypeId × Value → H} {w : World} : Vw enc Try.prog w 63 k63 wf63 :=
  ⟨fun fuel cs y h => by
    obtain ⟨hl, n, hf⟩ := Ytadhdimleabljaa.fields_of Try.underlying63 h
    rw [czl63] at hl
    obtain ⟨_, h0⟩ := hf 0 _ rfl
    obtain ⟨x0, k0, w0⟩ := (vw61 : Vw enc Try.prog w 61 k61 _).go _ _ _ h0
    obtain ⟨_, h1⟩ := hf 1 _ rfl
    obtain ⟨x1, k1, w1⟩ := (vw61 : Vw enc Try.prog w 61 k61 _).go _ _ _ h1
    obtain ⟨_, h2⟩ := hf 2 _ rfl
    obtain ⟨x2, k2, w2⟩ := ((vw_bool Try.underlying4) : Vw enc Try.prog w 4 Kd.bool _).go _ _ _ h2
    refine ⟨⟨x0, x1, x2⟩, ?_, w0, w1, w2⟩
    exact kzero (a := k63) (kpair (a := k61) (o := 0) (kfield (a := k61) (o := 0) cz61 k0) (kpair (a := k61) (o := 3) (kfield (a := k61) (o := 3) cz61 k1) (klast (a := Kd.bool) (o := 6) (kfield (a := Kd.bool) (o := 6) cz4 k2) (by rw [hl]; rfl))))⟩
theorem cz63 : Try.prog.cellsOf 63 = k63.sz := by kernel_rfl
end Go.Proofs.YtadhdimleabljaaQ.QR
