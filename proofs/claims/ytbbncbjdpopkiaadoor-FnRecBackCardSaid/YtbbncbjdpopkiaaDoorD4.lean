/- A record in bytes is read again: the plain part. -/
import Derived.Test.YtbbncbjdpopkiaaDoorQD2
import Derived.Test.YtbbncbjdpopkiaaDoorWQD
namespace Go.Proofs.YtbbncbjdpopkiaaDoorQ.QD
open Go.RowKit Go.Proofs.YtbbncbjdpopkiaaDoorQ.Ext
set_option linter.unusedVariables false
set_option linter.unusedSimpArgs false
theorem bytb_wf {l : List Int} (h : ∀ y ∈ l, (Lit.int .u8 y).wf = true) : bytb l = true := bytb_of (YtbbncbjdpopkiaaDoor.Byt.of_wf h)
theorem recEnc_some (x : S40) (w0 : wf40 x) (h1 : x.f0.length ≤ 1000) (h2 : x.f1.length ≤ 1000) : impl_EncodeRec.f x.f0 x.f1 x.f2 x.f3 x.f4 = some (YtbbncbjdpopkiaaDoor.recB x.f3 x.f4 x.f2 x.f0 x.f1) := by
  obtain ⟨w1, w2, w3, w4, w5⟩ := w0
  have hu := YtbbncbjdpopkiaaDoor.wf64 w3
  rw [impl_EncodeRec.f, if_pos ⟨⟨by omega, by omega⟩, ⟨bytb_wf w1, bytb_wf w2⟩, u64ok_mk hu.1 hu.2, in8_mk (YtbbncbjdpopkiaaDoor.wf8 w4), in8_mk (YtbbncbjdpopkiaaDoor.wf8 w5)⟩]
theorem recDec_some (x : S40) (w0 : wf40 x) (h1 : x.f0.length ≤ 1000) (h2 : x.f1.length ≤ 1000) : impl_DecodeRec.f (YtbbncbjdpopkiaaDoor.recB x.f3 x.f4 x.f2 x.f0 x.f1) = some (x.f0, x.f1, x.f2, x.f3, x.f4) := by
  obtain ⟨w1, w2, w3, w4, w5⟩ := w0
  have hu := YtbbncbjdpopkiaaDoor.wf64 w3
  have hb := bytb_wf w1
  have hc := bytb_wf w2
  have m1 := YtbbncbjdpopkiaaDoor.wf8 w4
  have m2 := YtbbncbjdpopkiaaDoor.wf8 w5
  have hP : YtbbncbjdpopkiaaDoor.Byt (YtbbncbjdpopkiaaDoor.recP x.f3 x.f4 x.f2 x.f0 x.f1) := (YtbbncbjdpopkiaaDoor.headB_byt _ _ _ _ _ (by omega) (by omega) (by omega) (by omega) hu.1 hu.2 m1 m2).append ((byt_of hb).append (byt_of hc))
  have hin := YtbbncbjdpopkiaaDoor.crcOut_in _ hP
  have hlen := YtbbncbjdpopkiaaDoor.recB_len x.f3 x.f4 x.f2 x.f0 x.f1 (by omega) (by omega)
  have hB : YtbbncbjdpopkiaaDoor.Byt (YtbbncbjdpopkiaaDoor.recB x.f3 x.f4 x.f2 x.f0 x.f1) := hP.append (YtbbncbjdpopkiaaDoor.byt32 hin.1 hin.2)
  obtain ⟨q, hq⟩ : ∃ q, q = YtbbncbjdpopkiaaDoor.be32 (YtbbncbjdpopkiaaDoor.crcOut (YtbbncbjdpopkiaaDoor.recP x.f3 x.f4 x.f2 x.f0 x.f1)) := ⟨_, rfl⟩
  have hq4 : q.length = 4 := by rw [hq]; simp [YtbbncbjdpopkiaaDoor.be32, YtbbncbjdpopkiaaDoor.be16]
  have e0 : YtbbncbjdpopkiaaDoor.recB x.f3 x.f4 x.f2 x.f0 x.f1 = YtbbncbjdpopkiaaDoor.headB (x.f0.length : Int) (x.f1.length : Int) x.f2 x.f3 x.f4 ++ (x.f0 ++ (x.f1 ++ q)) := by rw [hq]; simp [YtbbncbjdpopkiaaDoor.recB, YtbbncbjdpopkiaaDoor.recP]
  rw [e0] at hlen hB ⊢
  unfold impl_DecodeRec.f
  simp only
  rw [headRest_of _ _ _ _ _ _ (by omega) (by omega) (by omega) (by omega) hu.1 hu.2]
  dsimp only
  rw [Int.toNat_natCast, Int.toNat_natCast]
  rw [if_pos ⟨⟨rfl, by omega, bytb_of hB⟩, ⟨by omega, by omega, by omega, by omega⟩, by simp; omega, u64ok_mk hu.1 hu.2⟩, List.take_left' rfl, List.drop_left' rfl, List.take_left' rfl]
theorem recBack_row (x0 : S40) (w0 : wf40 x0) : laws_FnRecBack.f x0.f0 x0.f1 x0.f2 x0.f3 x0.f4 = some true := by
  unfold laws_FnRecBack.f laws_zzFits10.f
  by_cases h1 : (x0.f0.length : Int) > 2147483647
  · rw [if_pos h1]; rfl
  by_cases h2 : (x0.f1.length : Int) > 2147483647
  · rw [if_neg h1, if_pos h2]; rfl
  rw [if_neg h1, if_neg h2, Option.bind_some, if_pos rfl]
  unfold laws_recOk.f
  by_cases h3 : (x0.f0.length : Int) ≥ 1
  · rw [if_pos h3]
    by_cases h4 : (x0.f0.length : Int) ≤ 40
    · rw [if_pos h4, Option.bind_some]
      by_cases h5 : (x0.f1.length : Int) ≤ 200
      · rw [if_pos (by simp [h5]), recEnc_some x0 w0 (by omega) (by omega), Option.bind_some, recDec_some x0 w0 (by omega) (by omega), Option.bind_some]
        unfold spec_SameRec.f
        dsimp only
        rw [spec_SameBytes.f, if_pos ⟨by omega, by omega⟩, Option.bind_some, if_pos (by simp), spec_SameBytes.f, if_pos ⟨by omega, by omega⟩, Option.bind_some, if_pos (by simp), if_pos rfl, if_pos rfl]
        simp
      · rw [if_neg (by simp [h5])]
    · rw [if_neg h4]; rfl
  · rw [if_neg h3]; rfl
end Go.Proofs.YtbbncbjdpopkiaaDoorQ.QD
