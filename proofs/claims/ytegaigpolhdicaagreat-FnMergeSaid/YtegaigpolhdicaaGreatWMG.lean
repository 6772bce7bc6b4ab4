/- How arguments of some types come in. -/
import Derived.Test.YtegaigpolhdicaaGreatGX
import Derived.Test.YtegaigpolhdicaaGreatQMG0
namespace Go.Proofs.YtegaigpolhdicaaGreatQ.QMG
open Go.ChangeShapes Go.WideShapes Go.ChangeAt Go.RowKit Go.Proofs.YtegaigpolhdicaaGreatW.PrintWords Go.Proofs.YtegaigpolhdicaaGreatQ.Ext Go.Proofs.YtegaigpolhdicaaGreatQ.QT
set_option linter.unusedVariables false
theorem cz5 : Tryz.prog.cellsOf 5 = (Kd.int .u8).sz := by kernel_rfl
theorem cz36 : Tryz.prog.cellsOf 36 = (Kd.slice 5 (Kd.int .u8)).sz := by kernel_rfl
theorem cz37 : Tryz.prog.cellsOf 37 = (Kd.int .u64).sz := by kernel_rfl
def wf42 (x : S42) : Prop := ((Lit.int .u8 x.f0).wf = true) ∧ ((Lit.int .u8 x.f1).wf = true) ∧ ((Lit.int .u64 x.f2).wf = true) ∧ (∀ y ∈ x.f3, (Lit.int .u8 y).wf = true)
theorem czl42 : Tryz.prog.cellsOf 42 = 4 := by kernel_rfl
set_option maxRecDepth 100000 in
theorem vw42 {H : Type} {enc : TypeId × Value → H} {w : World} : Vw enc Tryz.prog w 42 k42 wf42 :=
  ⟨fun fuel cs y h => by
    obtain ⟨hl, n, hf⟩ := YtegaigpolhdicaaGreat.fields_of Tryz.underlying42 h
    rw [czl42] at hl
    obtain ⟨_, h0⟩ := hf 0 _ rfl
    obtain ⟨x0, k0, w0⟩ := ((vw_int Tryz.underlying5) : Vw enc Tryz.prog w 5 (Kd.int .u8) _).go _ _ _ h0
    obtain ⟨_, h1⟩ := hf 1 _ rfl
    obtain ⟨x1, k1, w1⟩ := ((vw_int Tryz.underlying5) : Vw enc Tryz.prog w 5 (Kd.int .u8) _).go _ _ _ h1
    obtain ⟨_, h2⟩ := hf 2 _ rfl
    obtain ⟨x2, k2, w2⟩ := ((vw_int Tryz.underlying37) : Vw enc Tryz.prog w 37 (Kd.int .u64) _).go _ _ _ h2
    obtain ⟨_, h3⟩ := hf 3 _ rfl
    obtain ⟨x3, k3, w3⟩ := ((vw_slice Tryz.underlying36 cz5 (vw_int Tryz.underlying5)) : Vw enc Tryz.prog w 36 (Kd.slice 5 (Kd.int .u8)) _).go _ _ _ h3
    refine ⟨⟨x0, x1, x2, x3⟩, ?_, w0, w1, w2, w3⟩
    exact kzero (a := k42) (kpair (a := (Kd.int .u8)) (o := 0) (kfield (a := (Kd.int .u8)) (o := 0) cz5 k0) (kpair (a := (Kd.int .u8)) (o := 1) (kfield (a := (Kd.int .u8)) (o := 1) cz5 k1) (kpair (a := (Kd.int .u64)) (o := 2) (kfield (a := (Kd.int .u64)) (o := 2) cz37 k2) (klast (a := (Kd.slice 5 (Kd.int .u8))) (o := 3) (kfield (a := (Kd.slice 5 (Kd.int .u8))) (o := 3) cz36 k3) (by rw [hl]; rfl)))))⟩
theorem cz42 : Tryz.prog.cellsOf 42 = k42.sz := by kernel_rfl
def wf44 (x : S44) : Prop := (∀ y ∈ x.f0, (Lit.int .u8 y).wf = true) ∧ ((Lit.int .u64 x.f1).wf = true) ∧ (wf42 x.f2)
theorem czl44 : Tryz.prog.cellsOf 44 = 6 := by kernel_rfl
set_option maxRecDepth 100000 in
theorem vw44 {H : Type} {enc : TypeId × Value → H} {w : World} : Vw enc Tryz.prog w 44 k44 wf44 :=
  ⟨fun fuel cs y h => by
    obtain ⟨hl, n, hf⟩ := YtegaigpolhdicaaGreat.fields_of Tryz.underlying44 h
    rw [czl44] at hl
    obtain ⟨_, h0⟩ := hf 0 _ rfl
    obtain ⟨x0, k0, w0⟩ := ((vw_slice Tryz.underlying36 cz5 (vw_int Tryz.underlying5)) : Vw enc Tryz.prog w 36 (Kd.slice 5 (Kd.int .u8)) _).go _ _ _ h0
    obtain ⟨_, h1⟩ := hf 1 _ rfl
    obtain ⟨x1, k1, w1⟩ := ((vw_int Tryz.underlying37) : Vw enc Tryz.prog w 37 (Kd.int .u64) _).go _ _ _ h1
    obtain ⟨_, h2⟩ := hf 2 _ rfl
    obtain ⟨x2, k2, w2⟩ := (vw42 : Vw enc Tryz.prog w 42 k42 _).go _ _ _ h2
    refine ⟨⟨x0, x1, x2⟩, ?_, w0, w1, w2⟩
    exact kzero (a := k44) (kpair (a := (Kd.slice 5 (Kd.int .u8))) (o := 0) (kfield (a := (Kd.slice 5 (Kd.int .u8))) (o := 0) cz36 k0) (kpair (a := (Kd.int .u64)) (o := 1) (kfield (a := (Kd.int .u64)) (o := 1) cz37 k1) (klast (a := k42) (o := 2) (kfield (a := k42) (o := 2) cz42 k2) (by rw [hl]; rfl))))⟩
theorem cz44 : Tryz.prog.cellsOf 44 = k44.sz := by kernel_rfl
theorem cz30 : Tryz.prog.cellsOf 30 = (Kd.slice 44 k44).sz := by kernel_rfl
theorem cz2 : Tryz.prog.cellsOf 2 = (Kd.int .i64).sz := by kernel_rfl
def wf39 (x : S39) : Prop := ((Lit.int .i64 x.f0).wf = true) ∧ (∀ y ∈ x.f1, (Lit.int .u8 y).wf = true) ∧ ((Lit.int .u64 x.f2).wf = true)
theorem czl39 : Tryz.prog.cellsOf 39 = 3 := by kernel_rfl
set_option maxRecDepth 100000 in
theorem vw39 {H : Type} {enc : TypeId × Value → H} {w : World} : Vw enc Tryz.prog w 39 k39 wf39 :=
  ⟨fun fuel cs y h => by
    obtain ⟨hl, n, hf⟩ := YtegaigpolhdicaaGreat.fields_of Tryz.underlying39 h
    rw [czl39] at hl
    obtain ⟨_, h0⟩ := hf 0 _ rfl
    obtain ⟨x0, k0, w0⟩ := ((vw_int Tryz.underlying2) : Vw enc Tryz.prog w 2 (Kd.int .i64) _).go _ _ _ h0
    obtain ⟨_, h1⟩ := hf 1 _ rfl
    obtain ⟨x1, k1, w1⟩ := ((vw_slice Tryz.underlying36 cz5 (vw_int Tryz.underlying5)) : Vw enc Tryz.prog w 36 (Kd.slice 5 (Kd.int .u8)) _).go _ _ _ h1
    obtain ⟨_, h2⟩ := hf 2 _ rfl
    obtain ⟨x2, k2, w2⟩ := ((vw_int Tryz.underlying37) : Vw enc Tryz.prog w 37 (Kd.int .u64) _).go _ _ _ h2
    refine ⟨⟨x0, x1, x2⟩, ?_, w0, w1, w2⟩
    exact kzero (a := k39) (kpair (a := (Kd.int .i64)) (o := 0) (kfield (a := (Kd.int .i64)) (o := 0) cz2 k0) (kpair (a := (Kd.slice 5 (Kd.int .u8))) (o := 1) (kfield (a := (Kd.slice 5 (Kd.int .u8))) (o := 1) cz36 k1) (klast (a := (Kd.int .u64)) (o := 2) (kfield (a := (Kd.int .u64)) (o := 2) cz37 k2) (by rw [hl]; rfl))))⟩
theorem cz39 : Tryz.prog.cellsOf 39 = k39.sz := by kernel_rfl
end Go.Proofs.YtegaigpolhdicaaGreatQ.QMG
