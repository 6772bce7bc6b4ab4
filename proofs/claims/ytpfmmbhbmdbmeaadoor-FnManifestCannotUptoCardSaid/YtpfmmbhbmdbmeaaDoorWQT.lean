/- How arguments of some types come in. -/
import Derived.Test.YtpfmmbhbmdbmeaaDoorGX
import Derived.Test.YtpfmmbhbmdbmeaaDoorQT0
namespace Go.Proofs.YtpfmmbhbmdbmeaaDoorQ.QT
open Go.ChangeShapes Go.WideShapes Go.ChangeAt Go.RowKit Go.Proofs.YtpfmmbhbmdbmeaaDoorW.PrintWords Go.Proofs.YtpfmmbhbmdbmeaaDoorQ.Ext
set_option linter.unusedVariables false
theorem cz42 : Tryd.prog.cellsOf 42 = (Kd.int .u64).sz := by kernel_rfl
theorem cz4 : Tryd.prog.cellsOf 4 = Kd.bool.sz := by kernel_rfl
theorem cz43 : Tryd.prog.cellsOf 43 = (Kd.int .u32).sz := by kernel_rfl
def wf45 (x : S45) : Prop := ((Lit.int .u64 x.f0).wf = true) ∧ (True) ∧ ((Lit.int .u32 x.f2).wf = true) ∧ ((Lit.int .u64 x.f3).wf = true) ∧ ((Lit.int .u32 x.f4).wf = true)
theorem czl45 : Tryd.prog.cellsOf 45 = 5 := by kernel_rfl
set_option maxRecDepth 100000 in
theorem vw45 {H : Type} {enc : TypeId × Value → H} {w : World} : Vw enc Tryd.prog w 45 k45 wf45 :=
  ⟨fun fuel cs y h => by
    obtain ⟨hl, n, hf⟩ := YtpfmmbhbmdbmeaaDoor.fields_of Tryd.underlying45 h
    rw [czl45] at hl
    obtain ⟨_, h0⟩ := hf 0 _ rfl
    obtain ⟨x0, k0, w0⟩ := ((vw_int Tryd.underlying42) : Vw enc Tryd.prog w 42 (Kd.int .u64) _).go _ _ _ h0
    obtain ⟨_, h1⟩ := hf 1 _ rfl
    obtain ⟨x1, k1, w1⟩ := ((vw_bool Tryd.underlying4) : Vw enc Tryd.prog w 4 Kd.bool _).go _ _ _ h1
    obtain ⟨_, h2⟩ := hf 2 _ rfl
    obtain ⟨x2, k2, w2⟩ := ((vw_int Tryd.underlying43) : Vw enc Tryd.prog w 43 (Kd.int .u32) _).go _ _ _ h2
    obtain ⟨_, h3⟩ := hf 3 _ rfl
    obtain ⟨x3, k3, w3⟩ := ((vw_int Tryd.underlying42) : Vw enc Tryd.prog w 42 (Kd.int .u64) _).go _ _ _ h3
    obtain ⟨_, h4⟩ := hf 4 _ rfl
    obtain ⟨x4, k4, w4⟩ := ((vw_int Tryd.underlying43) : Vw enc Tryd.prog w 43 (Kd.int .u32) _).go _ _ _ h4
    refine ⟨⟨x0, x1, x2, x3, x4⟩, ?_, w0, w1, w2, w3, w4⟩
    exact kzero (a := k45) (kpair (a := (Kd.int .u64)) (o := 0) (kfield (a := (Kd.int .u64)) (o := 0) cz42 k0) (kpair (a := Kd.bool) (o := 1) (kfield (a := Kd.bool) (o := 1) cz4 k1) (kpair (a := (Kd.int .u32)) (o := 2) (kfield (a := (Kd.int .u32)) (o := 2) cz43 k2) (kpair (a := (Kd.int .u64)) (o := 3) (kfield (a := (Kd.int .u64)) (o := 3) cz42 k3) (klast (a := (Kd.int .u32)) (o := 4) (kfield (a := (Kd.int .u32)) (o := 4) cz43 k4) (by rw [hl]; rfl))))))⟩
theorem cz45 : Tryd.prog.cellsOf 45 = k45.sz := by kernel_rfl
theorem cz25 : Tryd.prog.cellsOf 25 = (Kd.slice 45 k45).sz := by kernel_rfl
theorem cz23 : Tryd.prog.cellsOf 23 = (Kd.slice 25 (Kd.slice 45 k45)).sz := by kernel_rfl
end Go.Proofs.YtpfmmbhbmdbmeaaDoorQ.QT
