/-
  NARROWER THAN 'FOR EVERY INPUT', by the rows' own cells (each row's printed sentence says how): FnManifest: ifaces, laid · FnManifestMark: ifaces, laid · FnManifestBroken: ifaces, laid · FnManifestCut: ifaces, laid · FnManifestCannot: ifaces, laid.
  DERIVED. THE GIVEN ROWS OF THIS SEAT. 5 by the template 'for every input the law returns true; each argument reads behind the call as it read before'; 0 by the template 'total and deterministic' (their statements: YtpfmmbhbmdbmeaaDoorTotals.lean).
  GIVEN WITH THE SEED: the statements are not yours to turn. If you find one false, say at which input.
  Laid BY PROGRAM, IN A SANDBOX (cutbox-rows.mjs): the forced cells as the released guide's own fill.sh prints them over the translation 83455f8484891d45… (all of the seat's roots in one cut). By AI agents, Wed Nov 11 2026. No macro, syntax, notation, axiom, sorry.
-/
import Derived.Test.YtpfmmbhbmdbmeaaDoorChecked
import GoSem.Claim
import GoSem.ClaimJoined
import GoSem.ClaimMapViews
import Derived.JoinedTies
import Derived.KernelRfl
namespace Go.Proofs.YtpfmmbhbmdbmeaaDoor
/- THE CELL 'sum', in the pinned program and in every row, IS THE sha256 OF THE DUMP (.gsa) THAT YtpfmmbhbmdbmeaaDoorProg.lean LOADS. Nothing in Lean hashes anything: it is a label: what it is worth is what the hold of that sum in a sandbox is worth. -/
noncomputable def Tryd.pinned : Pinned := { name := "ytpfmmbhbmdbmeaadoor", sum := "83455f8484891d459545d5bc2f63f526997942bb9d1a0ed2a1fded341c5795b6", checked := Tryd.checked }
namespace Rows
def none {H : Type} : Left H := { results := [], args := [] }

/- WHAT THE LISTED PACKAGE-LEVEL VARIABLES READ AS WHEN THE CALL BEGINS. Each datum BY PROGRAM (the guide's laid-datum.mjs) off the statement by which the dump's own 'gosem.cut.vars' lays the variable. In a bare row this is a premise. The card (YtpfmmbhbmdbmeaaDoorCards.lean) ties it to the program's text. -/
def laid_io_ErrShortBuffer {H : Type} : DataW H := .iface "*errors.errorString" (.ptr (.agg [.lit (.string [115, 104, 111, 114, 116, 32, 98, 117, 102, 102, 101, 114])]))
def laid_io_EOF {H : Type} : DataW H := .iface "*errors.errorString" (.ptr (.agg [.lit (.string [69, 79, 70])]))
def laid_io_ErrUnexpectedEOF {H : Type} : DataW H := .iface "*errors.errorString" (.ptr (.agg [.lit (.string [117, 110, 101, 120, 112, 101, 99, 116, 101, 100, 32, 69, 79, 70])]))
def laid_loop_example_pub_g01501_pub_badgerlog_errBadMagic {H : Type} : DataW H := .iface "*errors.errorString" (.ptr (.agg [.lit (.string [109, 97, 110, 105, 102, 101, 115, 116, 32, 104, 97, 115, 32, 98, 97, 100, 32, 109, 97, 103, 105, 99])]))
def laid_loop_example_pub_g01501_pub_badgerlog_errBadChecksum {H : Type} : DataW H := .iface "*errors.errorString" (.ptr (.agg [.lit (.string [109, 97, 110, 105, 102, 101, 115, 116, 32, 104, 97, 115, 32, 99, 104, 101, 99, 107, 115, 117, 109, 32, 109, 105, 115, 109, 97, 116, 99, 104])]))

/-- 'laws.FnManifest': WHATEVER THE INPUT: true; the input reads as it did. -/
def fnManifestSpec : ChangeSpec := { name := "fnManifest", vars := ["loop.example/pub-g01501/pub/badgerlog.errBadMagic", "loop.example/pub-g01501/pub/badgerlog.errBadChecksum"], fn := fun _ => fun
  | [d1, d2, g1, g2] => { results := [.lit (.bool true)], args := [d1, d2], vars := [g1, g2] }
  | _ => none }
def fnManifestRow : OpenClaim := { program := "ytpfmmbhbmdbmeaadoor", sum := "83455f8484891d459545d5bc2f63f526997942bb9d1a0ed2a1fded341c5795b6", func := "loop.example/pub-g01501/laws.FnManifest", spec := "fnManifest", unfollowed := true, recurses := true, named := ["loop.example/pub-g01501/pub/badgerlog.errBadMagic", "io.EOF", "io.ErrUnexpectedEOF", "loop.example/pub-g01501/pub/badgerlog.errBadChecksum", "io.ErrShortBuffer"], ifaces := true, apart := false, laid := [("io.ErrShortBuffer", laid_io_ErrShortBuffer), ("io.EOF", laid_io_EOF), ("io.ErrUnexpectedEOF", laid_io_ErrUnexpectedEOF), ("loop.example/pub-g01501/pub/badgerlog.errBadMagic", laid_loop_example_pub_g01501_pub_badgerlog_errBadMagic), ("loop.example/pub-g01501/pub/badgerlog.errBadChecksum", laid_loop_example_pub_g01501_pub_badgerlog_errBadChecksum)] }
def FnManifestSaid : Prop := fnManifestRow.holds Tryd.pinned (OpenSpec.ofChange fnManifestSpec)

/-- ITS FALSE NEIGHBOUR: 'it returns false'. Refute it at one input. -/
def fnManifestWrong : ChangeSpec := { name := "fnManifest", vars := ["loop.example/pub-g01501/pub/badgerlog.errBadMagic", "loop.example/pub-g01501/pub/badgerlog.errBadChecksum"], fn := fun _ => fun
  | [d1, d2, g1, g2] => { results := [.lit (.bool false)], args := [d1, d2], vars := [g1, g2] }
  | _ => none }
def FnManifestWrongFalsely : Prop := fnManifestRow.holds Tryd.pinned (OpenSpec.ofChange fnManifestWrong)

/-- 'laws.FnManifestMark': WHATEVER THE INPUT: true; the input reads as it did. -/
def fnManifestMarkSpec : ChangeSpec := { name := "fnManifestMark", vars := ["loop.example/pub-g01501/pub/badgerlog.errBadMagic", "loop.example/pub-g01501/pub/badgerlog.errBadChecksum"], fn := fun _ => fun
  | [d1, d2, d3, g1, g2] => { results := [.lit (.bool true)], args := [d1, d2, d3], vars := [g1, g2] }
  | _ => none }
def fnManifestMarkRow : OpenClaim := { program := "ytpfmmbhbmdbmeaadoor", sum := "83455f8484891d459545d5bc2f63f526997942bb9d1a0ed2a1fded341c5795b6", func := "loop.example/pub-g01501/laws.FnManifestMark", spec := "fnManifestMark", unfollowed := true, recurses := true, named := ["loop.example/pub-g01501/pub/badgerlog.errBadMagic", "io.EOF", "io.ErrUnexpectedEOF", "loop.example/pub-g01501/pub/badgerlog.errBadChecksum", "io.ErrShortBuffer"], ifaces := true, apart := false, laid := [("io.ErrShortBuffer", laid_io_ErrShortBuffer), ("io.EOF", laid_io_EOF), ("io.ErrUnexpectedEOF", laid_io_ErrUnexpectedEOF), ("loop.example/pub-g01501/pub/badgerlog.errBadMagic", laid_loop_example_pub_g01501_pub_badgerlog_errBadMagic), ("loop.example/pub-g01501/pub/badgerlog.errBadChecksum", laid_loop_example_pub_g01501_pub_badgerlog_errBadChecksum)] }
def FnManifestMarkSaid : Prop := fnManifestMarkRow.holds Tryd.pinned (OpenSpec.ofChange fnManifestMarkSpec)

/-- ITS FALSE NEIGHBOUR: 'it returns false'. Refute it at one input. -/
def fnManifestMarkWrong : ChangeSpec := { name := "fnManifestMark", vars := ["loop.example/pub-g01501/pub/badgerlog.errBadMagic", "loop.example/pub-g01501/pub/badgerlog.errBadChecksum"], fn := fun _ => fun
  | [d1, d2, d3, g1, g2] => { results := [.lit (.bool false)], args := [d1, d2, d3], vars := [g1, g2] }
  | _ => none }
def FnManifestMarkWrongFalsely : Prop := fnManifestMarkRow.holds Tryd.pinned (OpenSpec.ofChange fnManifestMarkWrong)

/-- 'laws.FnManifestBroken': WHATEVER THE INPUT: true; the input reads as it did. -/
def fnManifestBrokenSpec : ChangeSpec := { name := "fnManifestBroken", vars := ["loop.example/pub-g01501/pub/badgerlog.errBadMagic", "loop.example/pub-g01501/pub/badgerlog.errBadChecksum"], fn := fun _ => fun
  | [d1, d2, d3, d4, g1, g2] => { results := [.lit (.bool true)], args := [d1, d2, d3, d4], vars := [g1, g2] }
  | _ => none }
def fnManifestBrokenRow : OpenClaim := { program := "ytpfmmbhbmdbmeaadoor", sum := "83455f8484891d459545d5bc2f63f526997942bb9d1a0ed2a1fded341c5795b6", func := "loop.example/pub-g01501/laws.FnManifestBroken", spec := "fnManifestBroken", unfollowed := true, recurses := true, named := ["loop.example/pub-g01501/pub/badgerlog.errBadMagic", "io.EOF", "io.ErrUnexpectedEOF", "loop.example/pub-g01501/pub/badgerlog.errBadChecksum", "io.ErrShortBuffer"], ifaces := true, apart := false, laid := [("io.ErrShortBuffer", laid_io_ErrShortBuffer), ("io.EOF", laid_io_EOF), ("io.ErrUnexpectedEOF", laid_io_ErrUnexpectedEOF), ("loop.example/pub-g01501/pub/badgerlog.errBadMagic", laid_loop_example_pub_g01501_pub_badgerlog_errBadMagic), ("loop.example/pub-g01501/pub/badgerlog.errBadChecksum", laid_loop_example_pub_g01501_pub_badgerlog_errBadChecksum)] }
def FnManifestBrokenSaid : Prop := fnManifestBrokenRow.holds Tryd.pinned (OpenSpec.ofChange fnManifestBrokenSpec)

/-- ITS FALSE NEIGHBOUR: 'it returns false'. Refute it at one input. -/
def fnManifestBrokenWrong : ChangeSpec := { name := "fnManifestBroken", vars := ["loop.example/pub-g01501/pub/badgerlog.errBadMagic", "loop.example/pub-g01501/pub/badgerlog.errBadChecksum"], fn := fun _ => fun
  | [d1, d2, d3, d4, g1, g2] => { results := [.lit (.bool false)], args := [d1, d2, d3, d4], vars := [g1, g2] }
  | _ => none }
def FnManifestBrokenWrongFalsely : Prop := fnManifestBrokenRow.holds Tryd.pinned (OpenSpec.ofChange fnManifestBrokenWrong)

/-- 'laws.FnManifestCut': WHATEVER THE INPUT: true; the input reads as it did. -/
def fnManifestCutSpec : ChangeSpec := { name := "fnManifestCut", vars := ["loop.example/pub-g01501/pub/badgerlog.errBadMagic", "loop.example/pub-g01501/pub/badgerlog.errBadChecksum"], fn := fun _ => fun
  | [d1, d2, d3, g1, g2] => { results := [.lit (.bool true)], args := [d1, d2, d3], vars := [g1, g2] }
  | _ => none }
def fnManifestCutRow : OpenClaim := { program := "ytpfmmbhbmdbmeaadoor", sum := "83455f8484891d459545d5bc2f63f526997942bb9d1a0ed2a1fded341c5795b6", func := "loop.example/pub-g01501/laws.FnManifestCut", spec := "fnManifestCut", unfollowed := true, recurses := true, named := ["loop.example/pub-g01501/pub/badgerlog.errBadMagic", "io.EOF", "io.ErrUnexpectedEOF", "loop.example/pub-g01501/pub/badgerlog.errBadChecksum", "io.ErrShortBuffer"], ifaces := true, apart := false, laid := [("io.ErrShortBuffer", laid_io_ErrShortBuffer), ("io.EOF", laid_io_EOF), ("io.ErrUnexpectedEOF", laid_io_ErrUnexpectedEOF), ("loop.example/pub-g01501/pub/badgerlog.errBadMagic", laid_loop_example_pub_g01501_pub_badgerlog_errBadMagic), ("loop.example/pub-g01501/pub/badgerlog.errBadChecksum", laid_loop_example_pub_g01501_pub_badgerlog_errBadChecksum)] }
def FnManifestCutSaid : Prop := fnManifestCutRow.holds Tryd.pinned (OpenSpec.ofChange fnManifestCutSpec)

/-- ITS FALSE NEIGHBOUR: 'it returns false'. Refute it at one input. -/
def fnManifestCutWrong : ChangeSpec := { name := "fnManifestCut", vars := ["loop.example/pub-g01501/pub/badgerlog.errBadMagic", "loop.example/pub-g01501/pub/badgerlog.errBadChecksum"], fn := fun _ => fun
  | [d1, d2, d3, g1, g2] => { results := [.lit (.bool false)], args := [d1, d2, d3], vars := [g1, g2] }
  | _ => none }
def FnManifestCutWrongFalsely : Prop := fnManifestCutRow.holds Tryd.pinned (OpenSpec.ofChange fnManifestCutWrong)

/-- 'laws.FnManifestCannot': WHATEVER THE INPUT: true; the input reads as it did. -/
def fnManifestCannotSpec : ChangeSpec := { name := "fnManifestCannot", vars := ["loop.example/pub-g01501/pub/badgerlog.errBadMagic", "loop.example/pub-g01501/pub/badgerlog.errBadChecksum"], fn := fun _ => fun
  | [d1, d2, g1, g2] => { results := [.lit (.bool true)], args := [d1, d2], vars := [g1, g2] }
  | _ => none }
def fnManifestCannotRow : OpenClaim := { program := "ytpfmmbhbmdbmeaadoor", sum := "83455f8484891d459545d5bc2f63f526997942bb9d1a0ed2a1fded341c5795b6", func := "loop.example/pub-g01501/laws.FnManifestCannot", spec := "fnManifestCannot", unfollowed := true, recurses := true, named := ["loop.example/pub-g01501/pub/badgerlog.errBadMagic", "io.EOF", "io.ErrUnexpectedEOF", "loop.example/pub-g01501/pub/badgerlog.errBadChecksum", "io.ErrShortBuffer"], ifaces := true, apart := false, laid := [("io.ErrShortBuffer", laid_io_ErrShortBuffer), ("io.EOF", laid_io_EOF), ("io.ErrUnexpectedEOF", laid_io_ErrUnexpectedEOF), ("loop.example/pub-g01501/pub/badgerlog.errBadMagic", laid_loop_example_pub_g01501_pub_badgerlog_errBadMagic), ("loop.example/pub-g01501/pub/badgerlog.errBadChecksum", laid_loop_example_pub_g01501_pub_badgerlog_errBadChecksum)] }
def FnManifestCannotSaid : Prop := fnManifestCannotRow.holds Tryd.pinned (OpenSpec.ofChange fnManifestCannotSpec)

/-- ITS FALSE NEIGHBOUR: 'it returns false'. Refute it at one input. -/
def fnManifestCannotWrong : ChangeSpec := { name := "fnManifestCannot", vars := ["loop.example/pub-g01501/pub/badgerlog.errBadMagic", "loop.example/pub-g01501/pub/badgerlog.errBadChecksum"], fn := fun _ => fun
  | [d1, d2, g1, g2] => { results := [.lit (.bool false)], args := [d1, d2], vars := [g1, g2] }
  | _ => none }
def FnManifestCannotWrongFalsely : Prop := fnManifestCannotRow.holds Tryd.pinned (OpenSpec.ofChange fnManifestCannotWrong)

/- THE SECOND FORM. 'bulk': how many values and letters a reading holds, each counted each time it is reached (what is shared counts as often as it is met; a slice's spare places count too). A statement '..UptoSaid' is the law's where the arguments, and the package variables that the reading takes, are together of bulk at most 1048576: NARROWER than '..Said'. Prove '..Said' where nothing that the law and all that it calls make is longer than what came in: it says more and counts as full. Else prove '..UptoSaid'. A law counts once. -/
mutual
def uptoBulk {H : Type} : DataW H → Nat
  | .lit (.string bytes) => bytes.length + 1
  | .lit _ => 1
  | .nil => 1
  | .ptr d => uptoBulk d + 1
  | .slice elems spare => uptoBulkAll elems + uptoBulkAll spare + 1
  | .agg parts => uptoBulkAll parts + 1
  | .iface _ d => uptoBulk d + 1
  | .map entries => uptoBulkEntries entries + 1
  | .held _ => 1
def uptoBulkAll {H : Type} : List (DataW H) → Nat
  | [] => 0
  | d :: r => uptoBulk d + uptoBulkAll r
def uptoBulkEntries {H : Type} : List (Lit × DataW H) → Nat
  | [] => 0
  | x :: r => uptoBulkEntry x + uptoBulkEntries r
def uptoBulkEntry {H : Type} : Lit × DataW H → Nat
  | (.string bytes, d) => bytes.length + uptoBulk d + 1
  | (_, d) => uptoBulk d + 1
 end
def uptoSmall : (H : Type) → List (DataW H) → Bool := fun _ ds => decide (uptoBulkAll ds ≤ 1048576)
def OpenSpec.upto (s : _root_.Go.ChangeSpec) : _root_.Go.OpenSpec := { _root_.Go.OpenSpec.ofChange s with cond := some uptoSmall }

/-- 'laws.FnManifest', WHERE WHAT IT READS IS OF BULK AT MOST 1048576: true; the input reads as it did. -/
def fnManifestUptoRow : OpenClaim := { program := "ytpfmmbhbmdbmeaadoor", sum := "83455f8484891d459545d5bc2f63f526997942bb9d1a0ed2a1fded341c5795b6", func := "loop.example/pub-g01501/laws.FnManifest", spec := "fnManifest", unfollowed := true, recurses := true, named := ["loop.example/pub-g01501/pub/badgerlog.errBadMagic", "io.EOF", "io.ErrUnexpectedEOF", "loop.example/pub-g01501/pub/badgerlog.errBadChecksum", "io.ErrShortBuffer"], ifaces := true, apart := false, laid := [("io.ErrShortBuffer", laid_io_ErrShortBuffer), ("io.EOF", laid_io_EOF), ("io.ErrUnexpectedEOF", laid_io_ErrUnexpectedEOF), ("loop.example/pub-g01501/pub/badgerlog.errBadMagic", laid_loop_example_pub_g01501_pub_badgerlog_errBadMagic), ("loop.example/pub-g01501/pub/badgerlog.errBadChecksum", laid_loop_example_pub_g01501_pub_badgerlog_errBadChecksum)], narrowed := true }
def FnManifestUptoSaid : Prop := fnManifestUptoRow.holds Tryd.pinned (OpenSpec.upto fnManifestSpec)

/-- 'laws.FnManifestMark', WHERE WHAT IT READS IS OF BULK AT MOST 1048576: true; the input reads as it did. -/
def fnManifestMarkUptoRow : OpenClaim := { program := "ytpfmmbhbmdbmeaadoor", sum := "83455f8484891d459545d5bc2f63f526997942bb9d1a0ed2a1fded341c5795b6", func := "loop.example/pub-g01501/laws.FnManifestMark", spec := "fnManifestMark", unfollowed := true, recurses := true, named := ["loop.example/pub-g01501/pub/badgerlog.errBadMagic", "io.EOF", "io.ErrUnexpectedEOF", "loop.example/pub-g01501/pub/badgerlog.errBadChecksum", "io.ErrShortBuffer"], ifaces := true, apart := false, laid := [("io.ErrShortBuffer", laid_io_ErrShortBuffer), ("io.EOF", laid_io_EOF), ("io.ErrUnexpectedEOF", laid_io_ErrUnexpectedEOF), ("loop.example/pub-g01501/pub/badgerlog.errBadMagic", laid_loop_example_pub_g01501_pub_badgerlog_errBadMagic), ("loop.example/pub-g01501/pub/badgerlog.errBadChecksum", laid_loop_example_pub_g01501_pub_badgerlog_errBadChecksum)], narrowed := true }
def FnManifestMarkUptoSaid : Prop := fnManifestMarkUptoRow.holds Tryd.pinned (OpenSpec.upto fnManifestMarkSpec)

/-- 'laws.FnManifestBroken', WHERE WHAT IT READS IS OF BULK AT MOST 1048576: true; the input reads as it did. -/
def fnManifestBrokenUptoRow : OpenClaim := { program := "ytpfmmbhbmdbmeaadoor", sum := "83455f8484891d459545d5bc2f63f526997942bb9d1a0ed2a1fded341c5795b6", func := "loop.example/pub-g01501/laws.FnManifestBroken", spec := "fnManifestBroken", unfollowed := true, recurses := true, named := ["loop.example/pub-g01501/pub/badgerlog.errBadMagic", "io.EOF", "io.ErrUnexpectedEOF", "loop.example/pub-g01501/pub/badgerlog.errBadChecksum", "io.ErrShortBuffer"], ifaces := true, apart := false, laid := [("io.ErrShortBuffer", laid_io_ErrShortBuffer), ("io.EOF", laid_io_EOF), ("io.ErrUnexpectedEOF", laid_io_ErrUnexpectedEOF), ("loop.example/pub-g01501/pub/badgerlog.errBadMagic", laid_loop_example_pub_g01501_pub_badgerlog_errBadMagic), ("loop.example/pub-g01501/pub/badgerlog.errBadChecksum", laid_loop_example_pub_g01501_pub_badgerlog_errBadChecksum)], narrowed := true }
def FnManifestBrokenUptoSaid : Prop := fnManifestBrokenUptoRow.holds Tryd.pinned (OpenSpec.upto fnManifestBrokenSpec)

/-- 'laws.FnManifestCut', WHERE WHAT IT READS IS OF BULK AT MOST 1048576: true; the input reads as it did. -/
def fnManifestCutUptoRow : OpenClaim := { program := "ytpfmmbhbmdbmeaadoor", sum := "83455f8484891d459545d5bc2f63f526997942bb9d1a0ed2a1fded341c5795b6", func := "loop.example/pub-g01501/laws.FnManifestCut", spec := "fnManifestCut", unfollowed := true, recurses := true, named := ["loop.example/pub-g01501/pub/badgerlog.errBadMagic", "io.EOF", "io.ErrUnexpectedEOF", "loop.example/pub-g01501/pub/badgerlog.errBadChecksum", "io.ErrShortBuffer"], ifaces := true, apart := false, laid := [("io.ErrShortBuffer", laid_io_ErrShortBuffer), ("io.EOF", laid_io_EOF), ("io.ErrUnexpectedEOF", laid_io_ErrUnexpectedEOF), ("loop.example/pub-g01501/pub/badgerlog.errBadMagic", laid_loop_example_pub_g01501_pub_badgerlog_errBadMagic), ("loop.example/pub-g01501/pub/badgerlog.errBadChecksum", laid_loop_example_pub_g01501_pub_badgerlog_errBadChecksum)], narrowed := true }
def FnManifestCutUptoSaid : Prop := fnManifestCutUptoRow.holds Tryd.pinned (OpenSpec.upto fnManifestCutSpec)

/-- 'laws.FnManifestCannot', WHERE WHAT IT READS IS OF BULK AT MOST 1048576: true; the input reads as it did. -/
def fnManifestCannotUptoRow : OpenClaim := { program := "ytpfmmbhbmdbmeaadoor", sum := "83455f8484891d459545d5bc2f63f526997942bb9d1a0ed2a1fded341c5795b6", func := "loop.example/pub-g01501/laws.FnManifestCannot", spec := "fnManifestCannot", unfollowed := true, recurses := true, named := ["loop.example/pub-g01501/pub/badgerlog.errBadMagic", "io.EOF", "io.ErrUnexpectedEOF", "loop.example/pub-g01501/pub/badgerlog.errBadChecksum", "io.ErrShortBuffer"], ifaces := true, apart := false, laid := [("io.ErrShortBuffer", laid_io_ErrShortBuffer), ("io.EOF", laid_io_EOF), ("io.ErrUnexpectedEOF", laid_io_ErrUnexpectedEOF), ("loop.example/pub-g01501/pub/badgerlog.errBadMagic", laid_loop_example_pub_g01501_pub_badgerlog_errBadMagic), ("loop.example/pub-g01501/pub/badgerlog.errBadChecksum", laid_loop_example_pub_g01501_pub_badgerlog_errBadChecksum)], narrowed := true }
def FnManifestCannotUptoSaid : Prop := fnManifestCannotUptoRow.holds Tryd.pinned (OpenSpec.upto fnManifestCannotSpec)

end Rows
end Go.Proofs.YtpfmmbhbmdbmeaaDoor
