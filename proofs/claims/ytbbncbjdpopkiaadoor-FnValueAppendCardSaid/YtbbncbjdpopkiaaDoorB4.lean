/- A value that is put behind other bytes is the same: the plain part. -/
import Derived.Test.YtbbncbjdpopkiaaDoorQA2
import Derived.Test.YtbbncbjdpopkiaaDoorWQA
namespace Go.Proofs.YtbbncbjdpopkiaaDoorQ.QA
open Go.RowKit Go.Proofs.YtbbncbjdpopkiaaDoorQ.Ext
set_option linter.unusedVariables false
set_option linter.unusedSimpArgs false
theorem valueAppend_row (x0 : List Int) (x1 : S32) (w0 : ∀ y ∈ x0, (Lit.int .u8 y).wf = true) (w1 : wf32 x1) : ∃ k, laws_FnValueAppend.f k x0 x1.f0 x1.f1 x1.f2 x1.f3 = some true := by
  refine ⟨1, ?_⟩
  have hu : u64ok x1.f2 = true := by
    have := YtbbncbjdpopkiaaDoor.wf64 w1.2.2.1
    exact u64ok_mk this.1 this.2
  unfold laws_FnValueAppend.f
  by_cases h0 : (x0.length : Int) > 2147483647
  · rw [if_pos h0]; rfl
  rw [if_neg h0]
  unfold laws_zzFits4.f
  by_cases h1 : (x1.f3.length : Int) > 2147483647
  · rw [if_pos h1]; rfl
  rw [if_neg h1, Option.bind_some]
  rw [show laws_FnValueAppend.j0 1 x0 (!true) x1.f0 x1.f1 x1.f2 x1.f3 = laws_FnValueAppend.j0 (0 + 1) x0 false x1.f0 x1.f1 x1.f2 x1.f3 from rfl, laws_FnValueAppend.j0, if_neg (by decide)]
  unfold laws_few.f
  rw [if_pos (by simp), Option.bind_some]
  by_cases h2 : x0.length ≤ 300 ∧ x1.f3.length ≤ 300
  · rw [if_pos (by simp [h2.1, h2.2])]
    have hb1 := YtbbncbjdpopkiaaDoor.valB_len x1.f0 x1.f1 x1.f2 x1.f3
    have hb2 := YtbbncbjdpopkiaaDoor.vint_len 9 x1.f2
    obtain ⟨h3, h4⟩ := h2
    rw [impl_EncodeValue.f, if_pos ⟨by omega, hu⟩, Option.bind_some, impl_AppendValue.f, if_pos ⟨by omega, by omega, hu⟩, Option.bind_some, spec_Join.f, if_pos ⟨by simp, by simp; omega⟩, Option.bind_some, spec_SameBytes.f, if_pos ⟨by simp; omega, by simp; omega⟩, Option.bind_some]
    simp
  · rw [if_neg (by simp; omega)]
end Go.Proofs.YtbbncbjdpopkiaaDoorQ.QA
