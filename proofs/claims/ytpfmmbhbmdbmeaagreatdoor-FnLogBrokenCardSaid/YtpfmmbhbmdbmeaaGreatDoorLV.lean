/- The errors' variables: what the rows tell of them, and that they stay. -/
import Derived.Test.YtpfmmbhbmdbmeaaGreatDoorHG
import Derived.Test.YtpfmmbhbmdbmeaaGreatDoorGB
import Derived.Test.YtpfmmbhbmdbmeaaGreatDoorRows
import Derived.LaidLaws
import Derived.MakeChecks
import Derived.Stop.LaidErr
import Derived.Stop.LaidTwo
import Derived.ChangeVars
import Derived.KernelRfl
namespace Go.Proofs.YtpfmmbhbmdbmeaaGreatDoor
open Go.ChangeShapes Go.WideShapes Go.ChangeAt Go.RowKit
set_option linter.unusedVariables false
set_option maxRecDepth 100000
theorem gTruN : Tryz.prog.globalNamed "loop.example/pub-g01501/pub/badgerlog.errTruncate" = some 2 := by kernel_rfl
theorem gTruT : (Tryz.prog.globals[2]?).map (·.type) = some 82 := by kernel_rfl
theorem gStoN : Tryz.prog.globalNamed "loop.example/pub-g01501/pub/badgerlog.errStop" = some 3 := by kernel_rfl
theorem gStoT : (Tryz.prog.globals[3]?).map (·.type) = some 82 := by kernel_rfl
theorem gEofN : Tryz.prog.globalNamed "io.EOF" = some 0 := by kernel_rfl
theorem gEofT : (Tryz.prog.globals[0]?).map (·.type) = some 82 := by kernel_rfl
theorem gUneN : Tryz.prog.globalNamed "io.ErrUnexpectedEOF" = some 1 := by kernel_rfl
theorem gUneT : (Tryz.prog.globals[1]?).map (·.type) = some 82 := by kernel_rfl
theorem errI : ∃ ms, Tryz.prog.underlying 82 = some (.interface ms) := ⟨_, Tryz.underlying82⟩
theorem errP : Tryz.prog.underlying 169 = some (.pointer 171) := by kernel_rfl
theorem errS : ∃ f, Tryz.prog.underlying 171 = some (.struct #[f]) ∧ f.type = 9 ∧ f.offset = 0 := ⟨_, Tryz.underlying171, rfl, rfl⟩
theorem strU : Tryz.prog.underlying 9 = some .string := by kernel_rfl
theorem errC : Tryz.prog.cellsOf 171 = 1 := by kernel_rfl
theorem strC : Tryz.prog.cellsOf 9 = 1 := by kernel_rfl
theorem errStar : "*" ++ "errors.errorString" = "*errors.errorString" := by decide
theorem errRow (u : TypeId) (h : Tryz.prog.typeName? 3 u = some "*errors.errorString") : u = 169 :=
  typeName_ptr_named (nm := "errors.errorString") (by rw [errStar]; kernel_rfl) (by kernel_rfl) (by decide) u (by rw [errStar]; exact h)
theorem laid_skip {P : Program} {x y : String × DataW Unit} {r : List (String × DataW Unit)} {w : World} (h : laidMet P (x :: y :: r) w) : laidMet P (x :: r) w := by
  obtain ⟨ps, hv, hnd, hrows⟩ := h
  obtain ⟨n, d⟩ := x
  obtain ⟨n1, d1⟩ := y
  obtain ⟨g, t, cs, fuel, p, q, h1, h2, h3, h4, hq, rfl⟩ := hv
  obtain ⟨g1, t1, cs1, fuel1, p1, q1, _, _, _, _, hq1, rfl⟩ := hq
  have hs : List.Sublist (MemPlace.row ⟨g, 0, none⟩ cs.size ++ p ++ q1) (MemPlace.row ⟨g, 0, none⟩ cs.size ++ p ++ (MemPlace.row ⟨g1, 0, none⟩ cs1.size ++ p1 ++ q1)) := List.Sublist.append (List.Sublist.refl _) (List.sublist_append_right _ _)
  exact ⟨_, ⟨g, t, cs, fuel, p, q1, h1, h2, h3, h4, hq1, rfl⟩, hnd.sublist hs, fun b off hm => hrows b off (hs.subset hm)⟩
theorem ptr_inj {tp : Nat} {a b : Addr} {o : Option (Array Value)} (h : o = some #[.iface tp (.pointer (some a))]) (k : o = some #[.iface tp (.pointer (some b))]) : a = b := by
  rw [h] at k
  injection k with k
  have k2 := congrArg (fun x : Array Value => x[0]?) k
  simp at k2
  exact k2
theorem tab_lt {W : World} {d : DataW Unit} {r : List (String × DataW Unit)} (h : laidMet Tryz.prog (("math/bits.deBruijn64tab", d) :: r) W) : 10 < W.heap.size := by
  obtain ⟨ps, ⟨g, t, cs, fuel, p, q, hg, _, hv, _⟩, _⟩ := h
  obtain rfl : g = 10 := Option.some.inj (hg.symm.trans (by kernel_rfl))
  unfold World.var? at hv
  simp only [hg, Option.bind_some] at hv
  rcases Nat.lt_or_ge 10 W.heap.size with h' | h'
  · exact h'
  · simp [Array.getElem?_eq_none h'] at hv
theorem errVars {W : World} (hL : laidMetH Tryz.prog [("math/bits.deBruijn32tab", Rows.laid_math_bits_deBruijn32tab), ("math/bits.deBruijn64tab", Rows.laid_math_bits_deBruijn64tab), ("internal/strconv.uint64pow10", Rows.laid_internal_strconv_uint64pow10), ("strconv.ErrRange", Rows.laid_strconv_ErrRange), ("strconv.ErrSyntax", Rows.laid_strconv_ErrSyntax), ("io.ErrShortBuffer", Rows.laid_io_ErrShortBuffer), ("io.EOF", Rows.laid_io_EOF), ("io.ErrUnexpectedEOF", Rows.laid_io_ErrUnexpectedEOF), ("bytes.ErrTooLarge", Rows.laid_bytes_ErrTooLarge), ("loop.example/pub-g01501/pub/badgerlog.errStop", Rows.laid_loop_example_pub_g01501_pub_badgerlog_errStop), ("loop.example/pub-g01501/pub/badgerlog.errTruncate", Rows.laid_loop_example_pub_g01501_pub_badgerlog_errTruncate)] W) :
    ∃ ae au at' as', W.var? Tryz.prog "loop.example/pub-g01501/pub/badgerlog.errTruncate" = some #[.iface 169 (.pointer (some at'))] ∧ W.var? Tryz.prog "loop.example/pub-g01501/pub/badgerlog.errStop" = some #[.iface 169 (.pointer (some as'))] ∧ ErrZ W ae au at' := by
  rw [MakeChecks.laidMetH_plain _ _ _ (by rfl)] at hL
  obtain ⟨ms, hi⟩ := errI
  obtain ⟨f, hf, hft, hfo⟩ := errS
  have h6 := hL.tail.tail.tail.tail.tail.tail
  obtain ⟨ae, au, s0, s1, c0, c1, t0, t1, hve, hvu, _, _, _, _, _, _, hne, hb0, hb1⟩ := laid_sentinels2 h6 gEofN gEofT gUneN gUneT hi errRow errP hf hft hfo strU errC strC
  obtain ⟨ae2, at', s2, s3, c2, c3, t2, t3, hve2, hvt, _, _, _, _, _, _, hne2, _, hb3⟩ := laid_sentinels2 (laid_skip (laid_skip (laid_skip h6))) gEofN gEofT gTruN gTruT hi errRow errP hf hft hfo strU errC strC
  obtain ⟨au2, at2, s4, s5, c4, c5, t4, t5, hvu2, hvt2, _, _, _, _, _, _, hne3, _, _⟩ := laid_sentinels2 (laid_skip (laid_skip h6.tail)) gUneN gUneT gTruN gTruT hi errRow errP hf hft hfo strU errC strC
  obtain ⟨as', ss, hvs, _⟩ := laid_sentinel h6.tail.tail.tail gStoN gStoT hi errRow errP hf hft hfo strU errC strC
  obtain rfl := ptr_inj hve hve2
  obtain rfl := ptr_inj hvu hvu2
  obtain rfl := ptr_inj hvt hvt2
  exact ⟨ae, au, at', as', hvt, hvs, by simpa using World.var?_cell gEofN hve 0, by simpa using World.var?_cell gUneN hvu 0, by simpa using World.var?_cell gTruN hvt 0, fun e => hne e.symm, fun e => hne2 e.symm, fun e => hne3 e.symm, ⟨_, _, hb0⟩, ⟨_, _, hb1⟩, ⟨_, _, hb3⟩, tab_lt hL.tail⟩
theorem errReads2 {H : Type} (enc : TypeId × Value → H) {W : World} {ab ac : Addr} (hb : W.var? Tryz.prog "loop.example/pub-g01501/pub/badgerlog.errTruncate" = some #[.iface 169 (.pointer (some ab))]) (hc : W.var? Tryz.prog "loop.example/pub-g01501/pub/badgerlog.errStop" = some #[.iface 169 (.pointer (some ac))]) (sp : Nat → Bool) :
    DataW.TrodVars enc Tryz.prog W sp ["loop.example/pub-g01501/pub/badgerlog.errTruncate", "loop.example/pub-g01501/pub/badgerlog.errStop"] [tok enc (.iface 169 (.pointer (some ab))), tok enc (.iface 169 (.pointer (some ac)))] [.cell 2 0, .cell 3 0] := by
  obtain ⟨ms, hi⟩ := errI
  exact vars_read2 enc gTruN gTruT hi hb trivial gStoN gStoT hi hc trivial sp
theorem var?_below {W W' : World} {n : String} {cs : Array Value} (h : W.var? Tryz.prog n = some cs) (hb : Below W.heap.size W W') : W'.var? Tryz.prog n = some cs := by
  unfold World.var? at h ⊢
  cases hg : Tryz.prog.globalNamed n with
  | none => simp [hg] at h
  | some g =>
    simp only [hg, Option.bind_some] at h ⊢
    have hlt : g < W.heap.size := by
      rcases Nat.lt_or_ge g W.heap.size with h' | h'
      · exact h'
      · simp [Array.getElem?_eq_none h'] at h
    rw [hb.block g hlt]
    exact h
end Go.Proofs.YtpfmmbhbmdbmeaaGreatDoor
