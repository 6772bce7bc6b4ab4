/- The errors' variables: what the rows tell of them, and that they stay. -/
import Derived.Test.YtpfmmbhbmdbmeaaDoorZR
import Derived.Test.YtpfmmbhbmdbmeaaDoorGB
import Derived.Test.YtpfmmbhbmdbmeaaDoorRows
import Derived.LaidLaws
import Derived.MakeChecks
import Derived.Stop.LaidErr
import Derived.Stop.LaidTwo
import Derived.ChangeVars
import Derived.KernelRfl
namespace Go.Proofs.YtpfmmbhbmdbmeaaDoor
open Go.ChangeShapes Go.WideShapes Go.ChangeAt Go.RowKit
set_option linter.unusedVariables false
set_option maxRecDepth 100000
theorem gMagN : Tryd.prog.globalNamed "loop.example/pub-g01501/pub/badgerlog.errBadMagic" = some 0 := by kernel_rfl
theorem gMagT : (Tryd.prog.globals[0]?).map (·.type) = some 56 := by kernel_rfl
theorem gSumN : Tryd.prog.globalNamed "loop.example/pub-g01501/pub/badgerlog.errBadChecksum" = some 3 := by kernel_rfl
theorem gSumT : (Tryd.prog.globals[3]?).map (·.type) = some 56 := by kernel_rfl
theorem gEofN : Tryd.prog.globalNamed "io.EOF" = some 1 := by kernel_rfl
theorem gEofT : (Tryd.prog.globals[1]?).map (·.type) = some 56 := by kernel_rfl
theorem gUneN : Tryd.prog.globalNamed "io.ErrUnexpectedEOF" = some 2 := by kernel_rfl
theorem gUneT : (Tryd.prog.globals[2]?).map (·.type) = some 56 := by kernel_rfl
theorem gShoN : Tryd.prog.globalNamed "io.ErrShortBuffer" = some 4 := by kernel_rfl
theorem gShoT : (Tryd.prog.globals[4]?).map (·.type) = some 56 := by kernel_rfl
theorem errI : ∃ ms, Tryd.prog.underlying 56 = some (.interface ms) := ⟨_, Tryd.underlying56⟩
theorem errP : Tryd.prog.underlying 106 = some (.pointer 108) := by kernel_rfl
theorem errS : ∃ f, Tryd.prog.underlying 108 = some (.struct #[f]) ∧ f.type = 9 ∧ f.offset = 0 := ⟨_, Tryd.underlying108, rfl, rfl⟩
theorem strU : Tryd.prog.underlying 9 = some .string := by kernel_rfl
theorem errC : Tryd.prog.cellsOf 108 = 1 := by kernel_rfl
theorem strC : Tryd.prog.cellsOf 9 = 1 := by kernel_rfl
theorem errStar : "*" ++ "errors.errorString" = "*errors.errorString" := by decide
theorem errRow (u : TypeId) (h : Tryd.prog.typeName? 3 u = some "*errors.errorString") : u = 106 :=
  typeName_ptr_named (nm := "errors.errorString") (by rw [errStar]; kernel_rfl) (by kernel_rfl) (by decide) u (by rw [errStar]; exact h)
theorem errVars {W : World} (hL : laidMetH Tryd.prog [("io.ErrShortBuffer", Rows.laid_io_ErrShortBuffer), ("io.EOF", Rows.laid_io_EOF), ("io.ErrUnexpectedEOF", Rows.laid_io_ErrUnexpectedEOF), ("loop.example/pub-g01501/pub/badgerlog.errBadMagic", Rows.laid_loop_example_pub_g01501_pub_badgerlog_errBadMagic), ("loop.example/pub-g01501/pub/badgerlog.errBadChecksum", Rows.laid_loop_example_pub_g01501_pub_badgerlog_errBadChecksum)] W) :
    ∃ ae au ab ac, W.var? Tryd.prog "loop.example/pub-g01501/pub/badgerlog.errBadMagic" = some #[.iface 106 (.pointer (some ab))] ∧ W.var? Tryd.prog "loop.example/pub-g01501/pub/badgerlog.errBadChecksum" = some #[.iface 106 (.pointer (some ac))] ∧ ErrG W ae au := by
  rw [MakeChecks.laidMetH_plain _ _ _ (by rfl)] at hL
  obtain ⟨ms, hi⟩ := errI
  obtain ⟨f, hf, hft, hfo⟩ := errS
  obtain ⟨a4, s4, hv4, _⟩ := laid_sentinel hL gShoN gShoT hi errRow errP hf hft hfo strU errC strC
  obtain ⟨ae, au, s0, s1, c0, c1, t0, t1, hve, hvu, _, _, _, _, _, _, hne, hb0, hb1⟩ := laid_sentinels2 hL.tail gEofN gEofT gUneN gUneT hi errRow errP hf hft hfo strU errC strC
  obtain ⟨ab, sb, hvb, _⟩ := laid_sentinel hL.tail.tail.tail gMagN gMagT hi errRow errP hf hft hfo strU errC strC
  obtain ⟨ac, sc, hvc, _⟩ := laid_sentinel hL.tail.tail.tail.tail gSumN gSumT hi errRow errP hf hft hfo strU errC strC
  have hc4 : W.cell? ⟨4, 0, none⟩ = some (.iface 106 (.pointer (some a4))) := by simpa using World.var?_cell gShoN hv4 0
  have hlt := World.block_lt_of_cell? W _ hc4
  exact ⟨ae, au, ab, ac, hvb, hvc, by simpa using World.var?_cell gEofN hve 0, by simpa using World.var?_cell gUneN hvu 0, ⟨_, _, by simpa using World.var?_cell gSumN hvc 0⟩, fun e => hne e.symm, ⟨_, _, hb0⟩, ⟨_, _, hb1⟩, hlt⟩
theorem errReads2 {H : Type} (enc : TypeId × Value → H) {W : World} {ab ac : Addr} (hb : W.var? Tryd.prog "loop.example/pub-g01501/pub/badgerlog.errBadMagic" = some #[.iface 106 (.pointer (some ab))]) (hc : W.var? Tryd.prog "loop.example/pub-g01501/pub/badgerlog.errBadChecksum" = some #[.iface 106 (.pointer (some ac))]) (sp : Nat → Bool) :
    DataW.TrodVars enc Tryd.prog W sp ["loop.example/pub-g01501/pub/badgerlog.errBadMagic", "loop.example/pub-g01501/pub/badgerlog.errBadChecksum"] [tok enc (.iface 106 (.pointer (some ab))), tok enc (.iface 106 (.pointer (some ac)))] [.cell 0 0, .cell 3 0] := by
  obtain ⟨ms, hi⟩ := errI
  exact vars_read2 enc gMagN gMagT hi hb trivial gSumN gSumT hi hc trivial sp
theorem var?_below {W W' : World} {n : String} {cs : Array Value} (h : W.var? Tryd.prog n = some cs) (hb : Below W.heap.size W W') : W'.var? Tryd.prog n = some cs := by
  unfold World.var? at h ⊢
  cases hg : Tryd.prog.globalNamed n with
  | none => simp [hg] at h
  | some g =>
    simp only [hg, Option.bind_some] at h ⊢
    have hlt : g < W.heap.size := by
      rcases Nat.lt_or_ge g W.heap.size with h' | h'
      · exact h'
      · simp [Array.getElem?_eq_none h'] at h
    rw [hb.block g hlt]
    exact h
section
open Go.Proofs.YtpfmmbhbmdbmeaaDoorQ.QT Go.Proofs.YtpfmmbhbmdbmeaaDoorQ.Ext
theorem toSets_flat (l : List (List S45)) : (toSets l).flatten.length = l.flatten.length := by
  unfold toSets
  rw [← List.map_flatten, List.length_map]
end
end Go.Proofs.YtpfmmbhbmdbmeaaDoor
