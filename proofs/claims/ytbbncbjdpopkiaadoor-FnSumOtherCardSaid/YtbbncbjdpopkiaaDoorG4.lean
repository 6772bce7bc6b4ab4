/- The error's variable: what the row tells of it, and that it stays. -/
import Derived.Test.YtbbncbjdpopkiaaDoorG1
import Derived.Test.YtbbncbjdpopkiaaDoorGB
import Derived.Test.YtbbncbjdpopkiaaDoorRows
import Derived.LaidLaws
import Derived.MakeChecks
import Derived.Stop.LaidErr
import Derived.ChangeVars
import Derived.KernelRfl
namespace Go.Proofs.YtbbncbjdpopkiaaDoor
open Go.ChangeShapes Go.WideShapes Go.ChangeAt Go.RowKit
set_option linter.unusedVariables false
set_option maxRecDepth 100000
theorem gErrN : Tryd.prog.globalNamed "loop.example/pub-g01501/pub/badgery.ErrChecksumMismatch" = some 0 := by kernel_rfl
theorem gErrT : (Tryd.prog.globals[0]?).map (·.type) = some 53 := by kernel_rfl
theorem errI : ∃ ms, Tryd.prog.underlying 53 = some (.interface ms) := ⟨_, Tryd.underlying53⟩
theorem errP : Tryd.prog.underlying 139 = some (.pointer 158) := by kernel_rfl
theorem errS : ∃ f, Tryd.prog.underlying 158 = some (.struct #[f]) ∧ f.type = 9 ∧ f.offset = 0 := ⟨_, Tryd.underlying158, rfl, rfl⟩
theorem strU : Tryd.prog.underlying 9 = some .string := by kernel_rfl
theorem errC : Tryd.prog.cellsOf 158 = 1 := by kernel_rfl
theorem strC : Tryd.prog.cellsOf 9 = 1 := by kernel_rfl
theorem errStar : "*" ++ "errors.errorString" = "*errors.errorString" := by decide
theorem errRow (u : TypeId) (h : Tryd.prog.typeName? 3 u = some "*errors.errorString") : u = 139 :=
  typeName_ptr_named (nm := "errors.errorString") (by rw [errStar]; kernel_rfl) (by kernel_rfl) (by decide) u (by rw [errStar]; exact h)
theorem errVar {W : World} (hL : laidMetH Tryd.prog [("loop.example/pub-g01501/pub/badgery.ErrChecksumMismatch", Rows.laid_loop_example_pub_g01501_pub_badgery_ErrChecksumMismatch)] W) :
    ∃ a, W.var? Tryd.prog "loop.example/pub-g01501/pub/badgery.ErrChecksumMismatch" = some #[.iface 139 (.pointer (some a))] := by
  rw [MakeChecks.laidMetH_plain _ _ _ (by rfl)] at hL
  obtain ⟨ms, hi⟩ := errI
  obtain ⟨f, hf, hft, hfo⟩ := errS
  obtain ⟨a, s, hv, _⟩ := laid_sentinel hL gErrN gErrT hi errRow errP hf hft hfo strU errC strC
  exact ⟨a, hv⟩
theorem errThere {W : World} {a : Addr} (hv : W.var? Tryd.prog "loop.example/pub-g01501/pub/badgery.ErrChecksumMismatch" = some #[.iface 139 (.pointer (some a))]) : GErr W :=
  ⟨_, _, by simpa using World.var?_cell gErrN hv 0⟩
theorem errReads {H : Type} (enc : TypeId × Value → H) {W : World} {a : Addr} (hv : W.var? Tryd.prog "loop.example/pub-g01501/pub/badgery.ErrChecksumMismatch" = some #[.iface 139 (.pointer (some a))]) (sp : Nat → Bool) :
    DataW.TrodVars enc Tryd.prog W sp ["loop.example/pub-g01501/pub/badgery.ErrChecksumMismatch"] [tok enc (.iface 139 (.pointer (some a)))] [.cell 0 0] := by
  obtain ⟨ms, hi⟩ := errI
  exact vars_read1 enc gErrN gErrT hi hv trivial sp
theorem var?_below {W W' : World} {n : String} {cs : Array Value} (h : W.var? Tryd.prog n = some cs) (hb : Below W.heap.size W W') : W'.var? Tryd.prog n = some cs := by
  unfold World.var? at h ⊢
  cases hg : Tryd.prog.globalNamed n with
  | none => simp [hg] at h
  | some g =>
    simp only [hg, Option.bind_some] at h ⊢
    have hlt : g < W.heap.size := by
      rcases Nat.lt_or_ge g W.heap.size with h' | h'
      · exact h'
      · simp [Array.getElem?_eq_none h'] at h
    rw [hb.block g hlt]
    exact h
end Go.Proofs.YtbbncbjdpopkiaaDoor
