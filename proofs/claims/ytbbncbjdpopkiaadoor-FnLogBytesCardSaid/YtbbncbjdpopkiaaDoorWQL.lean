/- How arguments of some types come in. -/
import Derived.Test.YtbbncbjdpopkiaaDoorGX
import Derived.Test.YtbbncbjdpopkiaaDoorQL0
namespace Go.Proofs.YtbbncbjdpopkiaaDoorQ.QL
open Go.ChangeShapes Go.WideShapes Go.ChangeAt Go.RowKit Go.Proofs.YtbbncbjdpopkiaaDoorW.PrintWords Go.Proofs.YtbbncbjdpopkiaaDoorQ.Ext
set_option linter.unusedVariables false
theorem cz5 : Tryd.prog.cellsOf 5 = (Kd.int .u8).sz := by kernel_rfl
theorem cz22 : Tryd.prog.cellsOf 22 = (Kd.slice 5 (Kd.int .u8)).sz := by kernel_rfl
theorem cz23 : Tryd.prog.cellsOf 23 = (Kd.int .u64).sz := by kernel_rfl
def wf40 (x : S40) : Prop := (∀ y ∈ x.f0, (Lit.int .u8 y).wf = true) ∧ (∀ y ∈ x.f1, (Lit.int .u8 y).wf = true) ∧ ((Lit.int .u64 x.f2).wf = true) ∧ ((Lit.int .u8 x.f3).wf = true) ∧ ((Lit.int .u8 x.f4).wf = true)
theorem czl40 : Tryd.prog.cellsOf 40 = 5 := by kernel_rfl
set_option maxRecDepth 100000 in
theorem vw40 {H : Type} {enc : TypeId × Value → H} {w : World} : Vw enc Tryd.prog w 40 k40 wf40 :=
  ⟨fun fuel cs y h => by
    obtain ⟨hl, n, hf⟩ := YtbbncbjdpopkiaaDoor.fields_of Tryd.underlying40 h
    rw [czl40] at hl
    obtain ⟨_, h0⟩ := hf 0 _ rfl
    obtain ⟨x0, k0, w0⟩ := ((vw_slice Tryd.underlying22 cz5 (vw_int Tryd.underlying5)) : Vw enc Tryd.prog w 22 (Kd.slice 5 (Kd.int .u8)) _).go _ _ _ h0
    obtain ⟨_, h1⟩ := hf 1 _ rfl
    obtain ⟨x1, k1, w1⟩ := ((vw_slice Tryd.underlying22 cz5 (vw_int Tryd.underlying5)) : Vw enc Tryd.prog w 22 (Kd.slice 5 (Kd.int .u8)) _).go _ _ _ h1
    obtain ⟨_, h2⟩ := hf 2 _ rfl
    obtain ⟨x2, k2, w2⟩ := ((vw_int Tryd.underlying23) : Vw enc Tryd.prog w 23 (Kd.int .u64) _).go _ _ _ h2
    obtain ⟨_, h3⟩ := hf 3 _ rfl
    obtain ⟨x3, k3, w3⟩ := ((vw_int Tryd.underlying5) : Vw enc Tryd.prog w 5 (Kd.int .u8) _).go _ _ _ h3
    obtain ⟨_, h4⟩ := hf 4 _ rfl
    obtain ⟨x4, k4, w4⟩ := ((vw_int Tryd.underlying5) : Vw enc Tryd.prog w 5 (Kd.int .u8) _).go _ _ _ h4
    refine ⟨⟨x0, x1, x2, x3, x4⟩, ?_, w0, w1, w2, w3, w4⟩
    exact kzero (a := k40) (kpair (a := (Kd.slice 5 (Kd.int .u8))) (o := 0) (kfield (a := (Kd.slice 5 (Kd.int .u8))) (o := 0) cz22 k0) (kpair (a := (Kd.slice 5 (Kd.int .u8))) (o := 1) (kfield (a := (Kd.slice 5 (Kd.int .u8))) (o := 1) cz22 k1) (kpair (a := (Kd.int .u64)) (o := 2) (kfield (a := (Kd.int .u64)) (o := 2) cz23 k2) (kpair (a := (Kd.int .u8)) (o := 3) (kfield (a := (Kd.int .u8)) (o := 3) cz5 k3) (klast (a := (Kd.int .u8)) (o := 4) (kfield (a := (Kd.int .u8)) (o := 4) cz5 k4) (by rw [hl]; rfl))))))⟩
theorem cz40 : Tryd.prog.cellsOf 40 = k40.sz := by kernel_rfl
theorem cz45 : Tryd.prog.cellsOf 45 = (Kd.slice 40 k40).sz := by kernel_rfl
theorem cz4 : Tryd.prog.cellsOf 4 = Kd.bool.sz := by kernel_rfl
def wf80 (x : S80) : Prop := (∀ y ∈ x.f0, wf40 y) ∧ (True) ∧ ((Lit.int .u64 x.f2).wf = true) ∧ (True)
theorem czl80 : Tryd.prog.cellsOf 80 = 4 := by kernel_rfl
set_option maxRecDepth 100000 in
theorem vw80 {H : Type} {enc : TypeId × Value → H} {w : World} : Vw enc Tryd.prog w 80 k80 wf80 :=
  ⟨fun fuel cs y h => by
    obtain ⟨hl, n, hf⟩ := YtbbncbjdpopkiaaDoor.fields_of Tryd.underlying80 h
    rw [czl80] at hl
    obtain ⟨_, h0⟩ := hf 0 _ rfl
    obtain ⟨x0, k0, w0⟩ := ((vw_slice Tryd.underlying45 cz40 vw40) : Vw enc Tryd.prog w 45 (Kd.slice 40 k40) _).go _ _ _ h0
    obtain ⟨_, h1⟩ := hf 1 _ rfl
    obtain ⟨x1, k1, w1⟩ := ((vw_bool Tryd.underlying4) : Vw enc Tryd.prog w 4 Kd.bool _).go _ _ _ h1
    obtain ⟨_, h2⟩ := hf 2 _ rfl
    obtain ⟨x2, k2, w2⟩ := ((vw_int Tryd.underlying23) : Vw enc Tryd.prog w 23 (Kd.int .u64) _).go _ _ _ h2
    obtain ⟨_, h3⟩ := hf 3 _ rfl
    obtain ⟨x3, k3, w3⟩ := ((vw_bool Tryd.underlying4) : Vw enc Tryd.prog w 4 Kd.bool _).go _ _ _ h3
    refine ⟨⟨x0, x1, x2, x3⟩, ?_, w0, w1, w2, w3⟩
    exact kzero (a := k80) (kpair (a := (Kd.slice 40 k40)) (o := 0) (kfield (a := (Kd.slice 40 k40)) (o := 0) cz45 k0) (kpair (a := Kd.bool) (o := 1) (kfield (a := Kd.bool) (o := 1) cz4 k1) (kpair (a := (Kd.int .u64)) (o := 2) (kfield (a := (Kd.int .u64)) (o := 2) cz23 k2) (klast (a := Kd.bool) (o := 3) (kfield (a := Kd.bool) (o := 3) cz4 k3) (by rw [hl]; rfl)))))⟩
theorem cz80 : Tryd.prog.cellsOf 80 = k80.sz := by kernel_rfl
end Go.Proofs.YtbbncbjdpopkiaaDoorQ.QL
