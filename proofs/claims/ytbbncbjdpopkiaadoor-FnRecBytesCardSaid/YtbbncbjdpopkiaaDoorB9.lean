/- A record in bytes is its head, its key, its data and their checksum: the plain part. -/
import Derived.Test.YtbbncbjdpopkiaaDoorQR2
import Derived.Test.YtbbncbjdpopkiaaDoorWQR
namespace Go.Proofs.YtbbncbjdpopkiaaDoorQ.QR
open Go.RowKit Go.Proofs.YtbbncbjdpopkiaaDoorQ.Ext
set_option linter.unusedVariables false
set_option linter.unusedSimpArgs false
theorem u64w (n : Int) (h0 : 0 ≤ n) (h : n ≤ 4294967295) : IntKind.u64.wrap n = n := by unfold IntKind.wrap; simp [IntKind.signed, IntKind.bits]; omega
theorem bytb_wf {l : List Int} (h : ∀ y ∈ l, (Lit.int .u8 y).wf = true) : bytb l = true := bytb_of (YtbbncbjdpopkiaaDoor.Byt.of_wf h)
theorem specRec_some (x : S40) (w0 : wf40 x) (h1 : x.f0.length ≤ 1000) (h2 : x.f1.length ≤ 1000) : spec_RecBytes.f x.f0 x.f1 x.f2 x.f3 x.f4 = some (YtbbncbjdpopkiaaDoor.recB x.f3 x.f4 x.f2 x.f0 x.f1) := by
  obtain ⟨w1, w2, w3, w4, w5⟩ := w0
  have hu := YtbbncbjdpopkiaaDoor.wf64 w3
  have hb := bytb_wf w1
  have hc := bytb_wf w2
  have m1 := YtbbncbjdpopkiaaDoor.wf8 w4
  have m2 := YtbbncbjdpopkiaaDoor.wf8 w5
  have hL := YtbbncbjdpopkiaaDoor.headB_len (x.f0.length : Int) (x.f1.length : Int) x.f2 x.f3 x.f4 (by omega) (by omega)
  have hP : YtbbncbjdpopkiaaDoor.Byt (YtbbncbjdpopkiaaDoor.recP x.f3 x.f4 x.f2 x.f0 x.f1) := (YtbbncbjdpopkiaaDoor.headB_byt _ _ _ _ _ (by omega) (by omega) (by omega) (by omega) hu.1 hu.2 m1 m2).append ((byt_of hb).append (byt_of hc))
  have hin := YtbbncbjdpopkiaaDoor.crcOut_in _ hP
  have hlen : (YtbbncbjdpopkiaaDoor.recP x.f3 x.f4 x.f2 x.f0 x.f1).length ≤ 3000 := by unfold YtbbncbjdpopkiaaDoor.recP; simp; omega
  unfold spec_RecBytes.f spec_HeadOf.f
  rw [Option.bind_some]
  simp only
  rw [Int.emod_eq_of_lt (by omega) (by omega), Int.emod_eq_of_lt (by omega) (by omega), spec_HeadBytes.f, if_pos ⟨by omega, by omega, u64ok_mk hu.1 hu.2⟩, Option.bind_some, spec_Join.f, if_pos ⟨by simp, by simp; omega⟩, Option.bind_some]
  have e1 : [YtbbncbjdpopkiaaDoor.headB (x.f0.length : Int) (x.f1.length : Int) x.f2 x.f3 x.f4, x.f0, x.f1].flatten = YtbbncbjdpopkiaaDoor.recP x.f3 x.f4 x.f2 x.f0 x.f1 := by simp [YtbbncbjdpopkiaaDoor.recP]
  rw [e1, spec_Castagnoli.f, if_pos ⟨by omega, bytb_of hP⟩, Option.bind_some, u64w _ hin.1 hin.2, spec_High.f, if_pos ⟨hin.1, by omega, by omega⟩, Option.bind_some]
  have e2 : YtbbncbjdpopkiaaDoor.highL (YtbbncbjdpopkiaaDoor.crcOut (YtbbncbjdpopkiaaDoor.recP x.f3 x.f4 x.f2 x.f0 x.f1)) (4 : Int).toNat = YtbbncbjdpopkiaaDoor.be32 (YtbbncbjdpopkiaaDoor.crcOut (YtbbncbjdpopkiaaDoor.recP x.f3 x.f4 x.f2 x.f0 x.f1)) := YtbbncbjdpopkiaaDoor.highL_four _ hin.1 (by have := hin.2; omega)
  rw [e2, spec_Join.f, if_pos ⟨by simp, by simp [YtbbncbjdpopkiaaDoor.be32, YtbbncbjdpopkiaaDoor.be16]; omega⟩, Option.bind_some]
  simp [YtbbncbjdpopkiaaDoor.recB]
theorem recEnc_some (x : S40) (w0 : wf40 x) (h1 : x.f0.length ≤ 1000) (h2 : x.f1.length ≤ 1000) : impl_EncodeRec.f x.f0 x.f1 x.f2 x.f3 x.f4 = some (YtbbncbjdpopkiaaDoor.recB x.f3 x.f4 x.f2 x.f0 x.f1) := by
  obtain ⟨w1, w2, w3, w4, w5⟩ := w0
  have hu := YtbbncbjdpopkiaaDoor.wf64 w3
  rw [impl_EncodeRec.f, if_pos ⟨⟨by omega, by omega⟩, ⟨bytb_wf w1, bytb_wf w2⟩, u64ok_mk hu.1 hu.2, in8_mk (YtbbncbjdpopkiaaDoor.wf8 w4), in8_mk (YtbbncbjdpopkiaaDoor.wf8 w5)⟩]
theorem recBytes_row (x0 : S40) (w0 : wf40 x0) : laws_FnRecBytes.f x0.f0 x0.f1 x0.f2 x0.f3 x0.f4 = some true := by
  unfold laws_FnRecBytes.f laws_zzFits10.f
  by_cases h1 : (x0.f0.length : Int) > 2147483647
  · rw [if_pos h1]; rfl
  by_cases h2 : (x0.f1.length : Int) > 2147483647
  · rw [if_neg h1, if_pos h2]; rfl
  rw [if_neg h1, if_neg h2, Option.bind_some, if_pos rfl]
  unfold laws_recOk.f
  by_cases h3 : (x0.f0.length : Int) ≥ 1
  · rw [if_pos h3]
    by_cases h4 : (x0.f0.length : Int) ≤ 40
    · rw [if_pos h4, Option.bind_some]
      by_cases h5 : (x0.f1.length : Int) ≤ 200
      · rw [if_pos (by simp [h5]), recEnc_some x0 w0 (by omega) (by omega), Option.bind_some, specRec_some x0 w0 (by omega) (by omega), Option.bind_some]
        have := YtbbncbjdpopkiaaDoor.recB_len x0.f3 x0.f4 x0.f2 x0.f0 x0.f1 (by omega) (by omega)
        rw [spec_SameBytes.f, if_pos ⟨by omega, by omega⟩, Option.bind_some]
        simp
      · rw [if_neg (by simp [h5])]
    · rw [if_neg h4]; rfl
  · rw [if_neg h3]; rfl
end Go.Proofs.YtbbncbjdpopkiaaDoorQ.QR
