/-
  NARROWER THAN 'FOR EVERY INPUT', by the rows' own cells (each row's printed sentence says how): FnSumCheck: ifaces, laid · FnSumOther: ifaces, laid · FnValueAppend: laid · FnRecBytes: laid · FnLogBytes: laid · FnRecBack: laid.
  DERIVED. THE GIVEN ROWS OF THIS SEAT. 6 by the template 'for every input the law returns true; each argument reads behind the call as it read before'; 0 by the template 'total and deterministic' (their statements: YtbbncbjdpopkiaaDoorTotals.lean).
  GIVEN WITH THE SEED: the statements are not yours to turn. If you find one false, say at which input.
  Laid BY PROGRAM, IN A SANDBOX (cutbox-rows.mjs): the forced cells as the released guide's own fill.sh prints them over the translation f9861a4d4f8304a2… (all of the seat's roots in one cut). By AI agents, Wed Nov 11 2026. No macro, syntax, notation, axiom, sorry.
-/
import Derived.Test.YtbbncbjdpopkiaaDoorChecked
import GoSem.Claim
import GoSem.ClaimJoined
import GoSem.ClaimMapViews
import Derived.JoinedTies
import Derived.KernelRfl
namespace Go.Proofs.YtbbncbjdpopkiaaDoor
/- THE CELL 'sum', in the pinned program and in every row, IS THE sha256 OF THE DUMP (.gsa) THAT YtbbncbjdpopkiaaDoorProg.lean LOADS. Nothing in Lean hashes anything: it is a label: what it is worth is what the hold of that sum in a sandbox is worth. -/
noncomputable def Tryd.pinned : Pinned := { name := "ytbbncbjdpopkiaadoor", sum := "f9861a4d4f8304a2a388fe0cc681571739f5752fdf51a5f75a1a2f1de8fe53a5", checked := Tryd.checked }
namespace Rows
def none {H : Type} : Left H := { results := [], args := [] }

/- WHAT THE LISTED PACKAGE-LEVEL VARIABLES READ AS WHEN THE CALL BEGINS. Each datum BY PROGRAM (the guide's laid-datum.mjs) off the statement by which the dump's own 'gosem.cut.vars' lays the variable. In a bare row this is a premise. The card (YtbbncbjdpopkiaaDoorCards.lean) ties it to the program's text. -/
def laid_loop_example_pub_g01501_pub_badgery_ErrChecksumMismatch {H : Type} : DataW H := .iface "*errors.errorString" (.ptr (.agg [.lit (.string [99, 104, 101, 99, 107, 115, 117, 109, 32, 109, 105, 115, 109, 97, 116, 99, 104])]))
def laid_bytes_ErrTooLarge {H : Type} : DataW H := .iface "*errors.errorString" (.ptr (.agg [.lit (.string [98, 121, 116, 101, 115, 46, 66, 117, 102, 102, 101, 114, 58, 32, 116, 111, 111, 32, 108, 97, 114, 103, 101])]))

/-- 'laws.FnSumCheck': WHATEVER THE INPUT: true; the input reads as it did. -/
def fnSumCheckSpec : ChangeSpec := { name := "fnSumCheck", vars := ["loop.example/pub-g01501/pub/badgery.ErrChecksumMismatch"], fn := fun _ => fun
  | [d1, d2, g1] => { results := [.lit (.bool true)], args := [d1, d2], vars := [g1] }
  | _ => none }
def fnSumCheckRow : OpenClaim := { program := "ytbbncbjdpopkiaadoor", sum := "f9861a4d4f8304a2a388fe0cc681571739f5752fdf51a5f75a1a2f1de8fe53a5", func := "loop.example/pub-g01501/laws.FnSumCheck", spec := "fnSumCheck", named := ["loop.example/pub-g01501/pub/badgery.ErrChecksumMismatch"], ifaces := true, apart := false, laid := [("loop.example/pub-g01501/pub/badgery.ErrChecksumMismatch", laid_loop_example_pub_g01501_pub_badgery_ErrChecksumMismatch)] }
def FnSumCheckSaid : Prop := fnSumCheckRow.holds Tryd.pinned (OpenSpec.ofChange fnSumCheckSpec)

/-- ITS FALSE NEIGHBOUR: 'it returns false'. Refute it at one input. -/
def fnSumCheckWrong : ChangeSpec := { name := "fnSumCheck", vars := ["loop.example/pub-g01501/pub/badgery.ErrChecksumMismatch"], fn := fun _ => fun
  | [d1, d2, g1] => { results := [.lit (.bool false)], args := [d1, d2], vars := [g1] }
  | _ => none }
def FnSumCheckWrongFalsely : Prop := fnSumCheckRow.holds Tryd.pinned (OpenSpec.ofChange fnSumCheckWrong)

/-- 'laws.FnSumOther': WHATEVER THE INPUT: true; the input reads as it did. -/
def fnSumOtherSpec : ChangeSpec := { name := "fnSumOther", vars := ["loop.example/pub-g01501/pub/badgery.ErrChecksumMismatch"], fn := fun _ => fun
  | [d1, d2, d3, g1] => { results := [.lit (.bool true)], args := [d1, d2, d3], vars := [g1] }
  | _ => none }
def fnSumOtherRow : OpenClaim := { program := "ytbbncbjdpopkiaadoor", sum := "f9861a4d4f8304a2a388fe0cc681571739f5752fdf51a5f75a1a2f1de8fe53a5", func := "loop.example/pub-g01501/laws.FnSumOther", spec := "fnSumOther", named := ["loop.example/pub-g01501/pub/badgery.ErrChecksumMismatch"], ifaces := true, apart := false, laid := [("loop.example/pub-g01501/pub/badgery.ErrChecksumMismatch", laid_loop_example_pub_g01501_pub_badgery_ErrChecksumMismatch)] }
def FnSumOtherSaid : Prop := fnSumOtherRow.holds Tryd.pinned (OpenSpec.ofChange fnSumOtherSpec)

/-- ITS FALSE NEIGHBOUR: 'it returns false'. Refute it at one input. -/
def fnSumOtherWrong : ChangeSpec := { name := "fnSumOther", vars := ["loop.example/pub-g01501/pub/badgery.ErrChecksumMismatch"], fn := fun _ => fun
  | [d1, d2, d3, g1] => { results := [.lit (.bool false)], args := [d1, d2, d3], vars := [g1] }
  | _ => none }
def FnSumOtherWrongFalsely : Prop := fnSumOtherRow.holds Tryd.pinned (OpenSpec.ofChange fnSumOtherWrong)

/-- 'laws.FnValueAppend': WHATEVER THE INPUT: true; the input reads as it did. -/
def fnValueAppendSpec : ChangeSpec := { name := "fnValueAppend", fn := fun _ => fun
  | [d1, d2] => { results := [.lit (.bool true)], args := [d1, d2] }
  | _ => none }
def fnValueAppendRow : OpenClaim := { program := "ytbbncbjdpopkiaadoor", sum := "f9861a4d4f8304a2a388fe0cc681571739f5752fdf51a5f75a1a2f1de8fe53a5", func := "loop.example/pub-g01501/laws.FnValueAppend", spec := "fnValueAppend", named := ["bytes.ErrTooLarge"], apart := false, laid := [("bytes.ErrTooLarge", laid_bytes_ErrTooLarge)] }
def FnValueAppendSaid : Prop := fnValueAppendRow.holds Tryd.pinned (OpenSpec.ofChange fnValueAppendSpec)

/-- ITS FALSE NEIGHBOUR: 'it returns false'. Refute it at one input. -/
def fnValueAppendWrong : ChangeSpec := { name := "fnValueAppend", fn := fun _ => fun
  | [d1, d2] => { results := [.lit (.bool false)], args := [d1, d2] }
  | _ => none }
def FnValueAppendWrongFalsely : Prop := fnValueAppendRow.holds Tryd.pinned (OpenSpec.ofChange fnValueAppendWrong)

/-- 'laws.FnRecBytes': WHATEVER THE INPUT: true; the input reads as it did. -/
def fnRecBytesSpec : ChangeSpec := { name := "fnRecBytes", fn := fun _ => fun
  | [d] => { results := [.lit (.bool true)], args := [d] }
  | _ => none }
def fnRecBytesRow : OpenClaim := { program := "ytbbncbjdpopkiaadoor", sum := "f9861a4d4f8304a2a388fe0cc681571739f5752fdf51a5f75a1a2f1de8fe53a5", func := "loop.example/pub-g01501/laws.FnRecBytes", spec := "fnRecBytes", named := ["bytes.ErrTooLarge"], apart := false, laid := [("bytes.ErrTooLarge", laid_bytes_ErrTooLarge)] }
def FnRecBytesSaid : Prop := fnRecBytesRow.holds Tryd.pinned (OpenSpec.ofChange fnRecBytesSpec)

/-- ITS FALSE NEIGHBOUR: 'it returns false'. Refute it at one input. -/
def fnRecBytesWrong : ChangeSpec := { name := "fnRecBytes", fn := fun _ => fun
  | [d] => { results := [.lit (.bool false)], args := [d] }
  | _ => none }
def FnRecBytesWrongFalsely : Prop := fnRecBytesRow.holds Tryd.pinned (OpenSpec.ofChange fnRecBytesWrong)

/-- 'laws.FnLogBytes': WHATEVER THE INPUT: true; the input reads as it did. -/
def fnLogBytesSpec : ChangeSpec := { name := "fnLogBytes", fn := fun _ => fun
  | [d] => { results := [.lit (.bool true)], args := [d] }
  | _ => none }
def fnLogBytesRow : OpenClaim := { program := "ytbbncbjdpopkiaadoor", sum := "f9861a4d4f8304a2a388fe0cc681571739f5752fdf51a5f75a1a2f1de8fe53a5", func := "loop.example/pub-g01501/laws.FnLogBytes", spec := "fnLogBytes", recurses := true, named := ["bytes.ErrTooLarge"], apart := false, laid := [("bytes.ErrTooLarge", laid_bytes_ErrTooLarge)] }
def FnLogBytesSaid : Prop := fnLogBytesRow.holds Tryd.pinned (OpenSpec.ofChange fnLogBytesSpec)

/-- ITS FALSE NEIGHBOUR: 'it returns false'. Refute it at one input. -/
def fnLogBytesWrong : ChangeSpec := { name := "fnLogBytes", fn := fun _ => fun
  | [d] => { results := [.lit (.bool false)], args := [d] }
  | _ => none }
def FnLogBytesWrongFalsely : Prop := fnLogBytesRow.holds Tryd.pinned (OpenSpec.ofChange fnLogBytesWrong)

/-- 'laws.FnRecBack': WHATEVER THE INPUT: true; the input reads as it did. -/
def fnRecBackSpec : ChangeSpec := { name := "fnRecBack", fn := fun _ => fun
  | [d] => { results := [.lit (.bool true)], args := [d] }
  | _ => none }
def fnRecBackRow : OpenClaim := { program := "ytbbncbjdpopkiaadoor", sum := "f9861a4d4f8304a2a388fe0cc681571739f5752fdf51a5f75a1a2f1de8fe53a5", func := "loop.example/pub-g01501/laws.FnRecBack", spec := "fnRecBack", named := ["bytes.ErrTooLarge"], apart := false, laid := [("bytes.ErrTooLarge", laid_bytes_ErrTooLarge)] }
def FnRecBackSaid : Prop := fnRecBackRow.holds Tryd.pinned (OpenSpec.ofChange fnRecBackSpec)

/-- ITS FALSE NEIGHBOUR: 'it returns false'. Refute it at one input. -/
def fnRecBackWrong : ChangeSpec := { name := "fnRecBack", fn := fun _ => fun
  | [d] => { results := [.lit (.bool false)], args := [d] }
  | _ => none }
def FnRecBackWrongFalsely : Prop := fnRecBackRow.holds Tryd.pinned (OpenSpec.ofChange fnRecBackWrong)

/- THE SECOND FORM. 'bulk': how many values and letters a reading holds, each counted each time it is reached (what is shared counts as often as it is met; a slice's spare places count too). A statement '..UptoSaid' is the law's where the arguments, and the package variables that the reading takes, are together of bulk at most 1048576: NARROWER than '..Said'. Prove '..Said' where nothing that the law and all that it calls make is longer than what came in: it says more and counts as full. Else prove '..UptoSaid'. A law counts once. -/
mutual
def uptoBulk {H : Type} : DataW H → Nat
  | .lit (.string bytes) => bytes.length + 1
  | .lit _ => 1
  | .nil => 1
  | .ptr d => uptoBulk d + 1
  | .slice elems spare => uptoBulkAll elems + uptoBulkAll spare + 1
  | .agg parts => uptoBulkAll parts + 1
  | .iface _ d => uptoBulk d + 1
  | .map entries => uptoBulkEntries entries + 1
  | .held _ => 1
def uptoBulkAll {H : Type} : List (DataW H) → Nat
  | [] => 0
  | d :: r => uptoBulk d + uptoBulkAll r
def uptoBulkEntries {H : Type} : List (Lit × DataW H) → Nat
  | [] => 0
  | x :: r => uptoBulkEntry x + uptoBulkEntries r
def uptoBulkEntry {H : Type} : Lit × DataW H → Nat
  | (.string bytes, d) => bytes.length + uptoBulk d + 1
  | (_, d) => uptoBulk d + 1
 end
def uptoSmall : (H : Type) → List (DataW H) → Bool := fun _ ds => decide (uptoBulkAll ds ≤ 1048576)
def OpenSpec.upto (s : _root_.Go.ChangeSpec) : _root_.Go.OpenSpec := { _root_.Go.OpenSpec.ofChange s with cond := some uptoSmall }

/-- 'laws.FnSumCheck', WHERE WHAT IT READS IS OF BULK AT MOST 1048576: true; the input reads as it did. -/
def fnSumCheckUptoRow : OpenClaim := { program := "ytbbncbjdpopkiaadoor", sum := "f9861a4d4f8304a2a388fe0cc681571739f5752fdf51a5f75a1a2f1de8fe53a5", func := "loop.example/pub-g01501/laws.FnSumCheck", spec := "fnSumCheck", named := ["loop.example/pub-g01501/pub/badgery.ErrChecksumMismatch"], ifaces := true, apart := false, laid := [("loop.example/pub-g01501/pub/badgery.ErrChecksumMismatch", laid_loop_example_pub_g01501_pub_badgery_ErrChecksumMismatch)], narrowed := true }
def FnSumCheckUptoSaid : Prop := fnSumCheckUptoRow.holds Tryd.pinned (OpenSpec.upto fnSumCheckSpec)

/-- 'laws.FnSumOther', WHERE WHAT IT READS IS OF BULK AT MOST 1048576: true; the input reads as it did. -/
def fnSumOtherUptoRow : OpenClaim := { program := "ytbbncbjdpopkiaadoor", sum := "f9861a4d4f8304a2a388fe0cc681571739f5752fdf51a5f75a1a2f1de8fe53a5", func := "loop.example/pub-g01501/laws.FnSumOther", spec := "fnSumOther", named := ["loop.example/pub-g01501/pub/badgery.ErrChecksumMismatch"], ifaces := true, apart := false, laid := [("loop.example/pub-g01501/pub/badgery.ErrChecksumMismatch", laid_loop_example_pub_g01501_pub_badgery_ErrChecksumMismatch)], narrowed := true }
def FnSumOtherUptoSaid : Prop := fnSumOtherUptoRow.holds Tryd.pinned (OpenSpec.upto fnSumOtherSpec)

/-- 'laws.FnValueAppend', WHERE WHAT IT READS IS OF BULK AT MOST 1048576: true; the input reads as it did. -/
def fnValueAppendUptoRow : OpenClaim := { program := "ytbbncbjdpopkiaadoor", sum := "f9861a4d4f8304a2a388fe0cc681571739f5752fdf51a5f75a1a2f1de8fe53a5", func := "loop.example/pub-g01501/laws.FnValueAppend", spec := "fnValueAppend", named := ["bytes.ErrTooLarge"], apart := false, laid := [("bytes.ErrTooLarge", laid_bytes_ErrTooLarge)], narrowed := true }
def FnValueAppendUptoSaid : Prop := fnValueAppendUptoRow.holds Tryd.pinned (OpenSpec.upto fnValueAppendSpec)

/-- 'laws.FnRecBytes', WHERE WHAT IT READS IS OF BULK AT MOST 1048576: true; the input reads as it did. -/
def fnRecBytesUptoRow : OpenClaim := { program := "ytbbncbjdpopkiaadoor", sum := "f9861a4d4f8304a2a388fe0cc681571739f5752fdf51a5f75a1a2f1de8fe53a5", func := "loop.example/pub-g01501/laws.FnRecBytes", spec := "fnRecBytes", named := ["bytes.ErrTooLarge"], apart := false, laid := [("bytes.ErrTooLarge", laid_bytes_ErrTooLarge)], narrowed := true }
def FnRecBytesUptoSaid : Prop := fnRecBytesUptoRow.holds Tryd.pinned (OpenSpec.upto fnRecBytesSpec)

/-- 'laws.FnLogBytes', WHERE WHAT IT READS IS OF BULK AT MOST 1048576: true; the input reads as it did. -/
def fnLogBytesUptoRow : OpenClaim := { program := "ytbbncbjdpopkiaadoor", sum := "f9861a4d4f8304a2a388fe0cc681571739f5752fdf51a5f75a1a2f1de8fe53a5", func := "loop.example/pub-g01501/laws.FnLogBytes", spec := "fnLogBytes", recurses := true, named := ["bytes.ErrTooLarge"], apart := false, laid := [("bytes.ErrTooLarge", laid_bytes_ErrTooLarge)], narrowed := true }
def FnLogBytesUptoSaid : Prop := fnLogBytesUptoRow.holds Tryd.pinned (OpenSpec.upto fnLogBytesSpec)

/-- 'laws.FnRecBack', WHERE WHAT IT READS IS OF BULK AT MOST 1048576: true; the input reads as it did. -/
def fnRecBackUptoRow : OpenClaim := { program := "ytbbncbjdpopkiaadoor", sum := "f9861a4d4f8304a2a388fe0cc681571739f5752fdf51a5f75a1a2f1de8fe53a5", func := "loop.example/pub-g01501/laws.FnRecBack", spec := "fnRecBack", named := ["bytes.ErrTooLarge"], apart := false, laid := [("bytes.ErrTooLarge", laid_bytes_ErrTooLarge)], narrowed := true }
def FnRecBackUptoSaid : Prop := fnRecBackUptoRow.holds Tryd.pinned (OpenSpec.upto fnRecBackSpec)

end Rows
end Go.Proofs.YtbbncbjdpopkiaaDoor
