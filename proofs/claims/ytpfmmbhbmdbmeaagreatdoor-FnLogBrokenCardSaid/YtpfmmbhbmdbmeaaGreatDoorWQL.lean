/- How arguments of some types come in. -/
import Derived.Test.YtpfmmbhbmdbmeaaGreatDoorGX
import Derived.Test.YtpfmmbhbmdbmeaaGreatDoorQL0
namespace Go.Proofs.YtpfmmbhbmdbmeaaGreatDoorQ.QL
open Go.ChangeShapes Go.WideShapes Go.ChangeAt Go.RowKit Go.Proofs.YtpfmmbhbmdbmeaaGreatDoorW.PrintWords Go.Proofs.YtpfmmbhbmdbmeaaGreatDoorQ.Ext
set_option linter.unusedVariables false
theorem cz5 : Tryz.prog.cellsOf 5 = (Kd.int .u8).sz := by kernel_rfl
theorem cz27 : Tryz.prog.cellsOf 27 = (Kd.slice 5 (Kd.int .u8)).sz := by kernel_rfl
theorem cz29 : Tryz.prog.cellsOf 29 = (Kd.int .u64).sz := by kernel_rfl
def wf31 (x : S31) : Prop := (∀ y ∈ x.f0, (Lit.int .u8 y).wf = true) ∧ (∀ y ∈ x.f1, (Lit.int .u8 y).wf = true) ∧ ((Lit.int .u64 x.f2).wf = true) ∧ ((Lit.int .u8 x.f3).wf = true) ∧ ((Lit.int .u8 x.f4).wf = true)
theorem czl31 : Tryz.prog.cellsOf 31 = 5 := by kernel_rfl
set_option maxRecDepth 100000 in
theorem vw31 {H : Type} {enc : TypeId × Value → H} {w : World} : Vw enc Tryz.prog w 31 k31 wf31 :=
  ⟨fun fuel cs y h => by
    obtain ⟨hl, n, hf⟩ := YtpfmmbhbmdbmeaaGreatDoor.fields_of Tryz.underlying31 h
    rw [czl31] at hl
    obtain ⟨_, h0⟩ := hf 0 _ rfl
    obtain ⟨x0, k0, w0⟩ := ((vw_slice Tryz.underlying27 cz5 (vw_int Tryz.underlying5)) : Vw enc Tryz.prog w 27 (Kd.slice 5 (Kd.int .u8)) _).go _ _ _ h0
    obtain ⟨_, h1⟩ := hf 1 _ rfl
    obtain ⟨x1, k1, w1⟩ := ((vw_slice Tryz.underlying27 cz5 (vw_int Tryz.underlying5)) : Vw enc Tryz.prog w 27 (Kd.slice 5 (Kd.int .u8)) _).go _ _ _ h1
    obtain ⟨_, h2⟩ := hf 2 _ rfl
    obtain ⟨x2, k2, w2⟩ := ((vw_int Tryz.underlying29) : Vw enc Tryz.prog w 29 (Kd.int .u64) _).go _ _ _ h2
    obtain ⟨_, h3⟩ := hf 3 _ rfl
    obtain ⟨x3, k3, w3⟩ := ((vw_int Tryz.underlying5) : Vw enc Tryz.prog w 5 (Kd.int .u8) _).go _ _ _ h3
    obtain ⟨_, h4⟩ := hf 4 _ rfl
    obtain ⟨x4, k4, w4⟩ := ((vw_int Tryz.underlying5) : Vw enc Tryz.prog w 5 (Kd.int .u8) _).go _ _ _ h4
    refine ⟨⟨x0, x1, x2, x3, x4⟩, ?_, w0, w1, w2, w3, w4⟩
    exact kzero (a := k31) (kpair (a := (Kd.slice 5 (Kd.int .u8))) (o := 0) (kfield (a := (Kd.slice 5 (Kd.int .u8))) (o := 0) cz27 k0) (kpair (a := (Kd.slice 5 (Kd.int .u8))) (o := 1) (kfield (a := (Kd.slice 5 (Kd.int .u8))) (o := 1) cz27 k1) (kpair (a := (Kd.int .u64)) (o := 2) (kfield (a := (Kd.int .u64)) (o := 2) cz29 k2) (kpair (a := (Kd.int .u8)) (o := 3) (kfield (a := (Kd.int .u8)) (o := 3) cz5 k3) (klast (a := (Kd.int .u8)) (o := 4) (kfield (a := (Kd.int .u8)) (o := 4) cz5 k4) (by rw [hl]; rfl))))))⟩
theorem cz31 : Tryz.prog.cellsOf 31 = k31.sz := by kernel_rfl
theorem cz25 : Tryz.prog.cellsOf 25 = (Kd.slice 31 k31).sz := by kernel_rfl
theorem cz4 : Tryz.prog.cellsOf 4 = Kd.bool.sz := by kernel_rfl
def wf45 (x : S45) : Prop := (∀ y ∈ x.f0, wf31 y) ∧ (True) ∧ ((Lit.int .u64 x.f2).wf = true) ∧ (True)
theorem czl45 : Tryz.prog.cellsOf 45 = 4 := by kernel_rfl
set_option maxRecDepth 100000 in
theorem vw45 {H : Type} {enc : TypeId × Value → H} {w : World} : Vw enc Tryz.prog w 45 k45 wf45 :=
  ⟨fun fuel cs y h => by
    obtain ⟨hl, n, hf⟩ := YtpfmmbhbmdbmeaaGreatDoor.fields_of Tryz.underlying45 h
    rw [czl45] at hl
    obtain ⟨_, h0⟩ := hf 0 _ rfl
    obtain ⟨x0, k0, w0⟩ := ((vw_slice Tryz.underlying25 cz31 vw31) : Vw enc Tryz.prog w 25 (Kd.slice 31 k31) _).go _ _ _ h0
    obtain ⟨_, h1⟩ := hf 1 _ rfl
    obtain ⟨x1, k1, w1⟩ := ((vw_bool Tryz.underlying4) : Vw enc Tryz.prog w 4 Kd.bool _).go _ _ _ h1
    obtain ⟨_, h2⟩ := hf 2 _ rfl
    obtain ⟨x2, k2, w2⟩ := ((vw_int Tryz.underlying29) : Vw enc Tryz.prog w 29 (Kd.int .u64) _).go _ _ _ h2
    obtain ⟨_, h3⟩ := hf 3 _ rfl
    obtain ⟨x3, k3, w3⟩ := ((vw_bool Tryz.underlying4) : Vw enc Tryz.prog w 4 Kd.bool _).go _ _ _ h3
    refine ⟨⟨x0, x1, x2, x3⟩, ?_, w0, w1, w2, w3⟩
    exact kzero (a := k45) (kpair (a := (Kd.slice 31 k31)) (o := 0) (kfield (a := (Kd.slice 31 k31)) (o := 0) cz25 k0) (kpair (a := Kd.bool) (o := 1) (kfield (a := Kd.bool) (o := 1) cz4 k1) (kpair (a := (Kd.int .u64)) (o := 2) (kfield (a := (Kd.int .u64)) (o := 2) cz29 k2) (klast (a := Kd.bool) (o := 3) (kfield (a := Kd.bool) (o := 3) cz4 k3) (by rw [hl]; rfl)))))⟩
theorem cz45 : Tryz.prog.cellsOf 45 = k45.sz := by kernel_rfl
end Go.Proofs.YtpfmmbhbmdbmeaaGreatDoorQ.QL
