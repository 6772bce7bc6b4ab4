/-
  No cell of these rows narrows 'for every input' (looked for: loops, veiled, ifaces, maps, wideKeys, modest, calm, conditions, laid).
  DERIVED. THE GIVEN ROWS OF THIS SEAT. 25 by the template 'for every input the law returns true; each argument reads behind the call as it read before'; 0 by the template 'total and deterministic' (their statements: YtadhdimleabljaaTotals.lean).
  GIVEN WITH THE SEED: the statements are not yours to turn. If you find one false, say at which input.
  Laid BY PROGRAM, IN A SANDBOX (cutbox-rows.mjs): the forced cells as the released guide's own fill.sh prints them over the translation 6c068302078d72f0… (all of the seat's roots in one cut). By AI agents, Wed Nov 11 2026. No macro, syntax, notation, axiom, sorry.
-/
import Derived.Test.YtadhdimleabljaaChecked
import GoSem.Claim
import GoSem.ClaimJoined
import GoSem.ClaimMapViews
import Derived.JoinedTies
import Derived.KernelRfl
namespace Go.Proofs.Ytadhdimleabljaa
/- THE CELL 'sum', in the pinned program and in every row, IS THE sha256 OF THE DUMP (.gsa) THAT YtadhdimleabljaaProg.lean LOADS. Nothing in Lean hashes anything: it is a label: what it is worth is what the hold of that sum in a sandbox is worth. -/
noncomputable def Try.pinned : Pinned := { name := "ytadhdimleabljaa", sum := "6c068302078d72f05e692edaf058613482ed71c5d95e674ca9dcfce65746da53", checked := Try.checked }
namespace Rows
def none {H : Type} : Left H := { results := [], args := [] }

/-- 'laws.FnSpotLess': WHATEVER THE INPUT: true; the input reads as it did. -/
def fnSpotLessSpec : ChangeSpec := { name := "fnSpotLess", fn := fun _ => fun
  | [d1, d2] => { results := [.lit (.bool true)], args := [d1, d2] }
  | _ => none }
def fnSpotLessRow : OpenClaim := { program := "ytadhdimleabljaa", sum := "6c068302078d72f05e692edaf058613482ed71c5d95e674ca9dcfce65746da53", func := "loop.example/pub-g01501/laws.FnSpotLess", spec := "fnSpotLess", apart := false }
def FnSpotLessSaid : Prop := fnSpotLessRow.holds Try.pinned (OpenSpec.ofChange fnSpotLessSpec)

/-- ITS FALSE NEIGHBOUR: 'it returns false'. Refute it at one input. -/
def fnSpotLessWrong : ChangeSpec := { name := "fnSpotLess", fn := fun _ => fun
  | [d1, d2] => { results := [.lit (.bool false)], args := [d1, d2] }
  | _ => none }
def FnSpotLessWrongFalsely : Prop := fnSpotLessRow.holds Try.pinned (OpenSpec.ofChange fnSpotLessWrong)

/-- 'laws.FnKeyBytes': WHATEVER THE INPUT: true; the input reads as it did. -/
def fnKeyBytesSpec : ChangeSpec := { name := "fnKeyBytes", fn := fun _ => fun
  | [d1, d2] => { results := [.lit (.bool true)], args := [d1, d2] }
  | _ => none }
def fnKeyBytesRow : OpenClaim := { program := "ytadhdimleabljaa", sum := "6c068302078d72f05e692edaf058613482ed71c5d95e674ca9dcfce65746da53", func := "loop.example/pub-g01501/laws.FnKeyBytes", spec := "fnKeyBytes", apart := false }
def FnKeyBytesSaid : Prop := fnKeyBytesRow.holds Try.pinned (OpenSpec.ofChange fnKeyBytesSpec)

/-- ITS FALSE NEIGHBOUR: 'it returns false'. Refute it at one input. -/
def fnKeyBytesWrong : ChangeSpec := { name := "fnKeyBytes", fn := fun _ => fun
  | [d1, d2] => { results := [.lit (.bool false)], args := [d1, d2] }
  | _ => none }
def FnKeyBytesWrongFalsely : Prop := fnKeyBytesRow.holds Try.pinned (OpenSpec.ofChange fnKeyBytesWrong)

/-- 'laws.FnVarintCut': WHATEVER THE INPUT: true; the input reads as it did. -/
def fnVarintCutSpec : ChangeSpec := { name := "fnVarintCut", fn := fun _ => fun
  | [d1, d2] => { results := [.lit (.bool true)], args := [d1, d2] }
  | _ => none }
def fnVarintCutRow : OpenClaim := { program := "ytadhdimleabljaa", sum := "6c068302078d72f05e692edaf058613482ed71c5d95e674ca9dcfce65746da53", func := "loop.example/pub-g01501/laws.FnVarintCut", spec := "fnVarintCut", apart := false }
def FnVarintCutSaid : Prop := fnVarintCutRow.holds Try.pinned (OpenSpec.ofChange fnVarintCutSpec)

/-- ITS FALSE NEIGHBOUR: 'it returns false'. Refute it at one input. -/
def fnVarintCutWrong : ChangeSpec := { name := "fnVarintCut", fn := fun _ => fun
  | [d1, d2] => { results := [.lit (.bool false)], args := [d1, d2] }
  | _ => none }
def FnVarintCutWrongFalsely : Prop := fnVarintCutRow.holds Try.pinned (OpenSpec.ofChange fnVarintCutWrong)

/-- 'laws.FnHeadBytes': WHATEVER THE INPUT: true; the input reads as it did. -/
def fnHeadBytesSpec : ChangeSpec := { name := "fnHeadBytes", fn := fun _ => fun
  | [d] => { results := [.lit (.bool true)], args := [d] }
  | _ => none }
def fnHeadBytesRow : OpenClaim := { program := "ytadhdimleabljaa", sum := "6c068302078d72f05e692edaf058613482ed71c5d95e674ca9dcfce65746da53", func := "loop.example/pub-g01501/laws.FnHeadBytes", spec := "fnHeadBytes", apart := false }
def FnHeadBytesSaid : Prop := fnHeadBytesRow.holds Try.pinned (OpenSpec.ofChange fnHeadBytesSpec)

/-- ITS FALSE NEIGHBOUR: 'it returns false'. Refute it at one input. -/
def fnHeadBytesWrong : ChangeSpec := { name := "fnHeadBytes", fn := fun _ => fun
  | [d] => { results := [.lit (.bool false)], args := [d] }
  | _ => none }
def FnHeadBytesWrongFalsely : Prop := fnHeadBytesRow.holds Try.pinned (OpenSpec.ofChange fnHeadBytesWrong)

/-- 'laws.FnNumbersList32': WHATEVER THE INPUT: true; the input reads as it did. -/
def fnNumbersList32Spec : ChangeSpec := { name := "fnNumbersList32", fn := fun _ => fun
  | [d] => { results := [.lit (.bool true)], args := [d] }
  | _ => none }
def fnNumbersList32Row : OpenClaim := { program := "ytadhdimleabljaa", sum := "6c068302078d72f05e692edaf058613482ed71c5d95e674ca9dcfce65746da53", func := "loop.example/pub-g01501/laws.FnNumbersList32", spec := "fnNumbersList32", apart := false }
def FnNumbersList32Said : Prop := fnNumbersList32Row.holds Try.pinned (OpenSpec.ofChange fnNumbersList32Spec)

/-- ITS FALSE NEIGHBOUR: 'it returns false'. Refute it at one input. -/
def fnNumbersList32Wrong : ChangeSpec := { name := "fnNumbersList32", fn := fun _ => fun
  | [d] => { results := [.lit (.bool false)], args := [d] }
  | _ => none }
def FnNumbersList32WrongFalsely : Prop := fnNumbersList32Row.holds Try.pinned (OpenSpec.ofChange fnNumbersList32Wrong)

/-- 'laws.FnSum': WHATEVER THE INPUT: true; the input reads as it did. -/
def fnSumSpec : ChangeSpec := { name := "fnSum", fn := fun _ => fun
  | [d] => { results := [.lit (.bool true)], args := [d] }
  | _ => none }
def fnSumRow : OpenClaim := { program := "ytadhdimleabljaa", sum := "6c068302078d72f05e692edaf058613482ed71c5d95e674ca9dcfce65746da53", func := "loop.example/pub-g01501/laws.FnSum", spec := "fnSum", apart := false }
def FnSumSaid : Prop := fnSumRow.holds Try.pinned (OpenSpec.ofChange fnSumSpec)

/-- ITS FALSE NEIGHBOUR: 'it returns false'. Refute it at one input. -/
def fnSumWrong : ChangeSpec := { name := "fnSum", fn := fun _ => fun
  | [d] => { results := [.lit (.bool false)], args := [d] }
  | _ => none }
def FnSumWrongFalsely : Prop := fnSumRow.holds Try.pinned (OpenSpec.ofChange fnSumWrong)

/-- 'laws.FnKeyCompare': WHATEVER THE INPUT: true; the input reads as it did. -/
def fnKeyCompareSpec : ChangeSpec := { name := "fnKeyCompare", fn := fun _ => fun
  | [d1, d2, d3, d4] => { results := [.lit (.bool true)], args := [d1, d2, d3, d4] }
  | _ => none }
def fnKeyCompareRow : OpenClaim := { program := "ytadhdimleabljaa", sum := "6c068302078d72f05e692edaf058613482ed71c5d95e674ca9dcfce65746da53", func := "loop.example/pub-g01501/laws.FnKeyCompare", spec := "fnKeyCompare", inPlace := ["internal/bytealg.Compare"], apart := false }
def FnKeyCompareSaid : Prop := fnKeyCompareRow.holds Try.pinned (OpenSpec.ofChange fnKeyCompareSpec)

/-- ITS FALSE NEIGHBOUR: 'it returns false'. Refute it at one input. -/
def fnKeyCompareWrong : ChangeSpec := { name := "fnKeyCompare", fn := fun _ => fun
  | [d1, d2, d3, d4] => { results := [.lit (.bool false)], args := [d1, d2, d3, d4] }
  | _ => none }
def FnKeyCompareWrongFalsely : Prop := fnKeyCompareRow.holds Try.pinned (OpenSpec.ofChange fnKeyCompareWrong)

/-- 'laws.FnNumbersList64': WHATEVER THE INPUT: true; the input reads as it did. -/
def fnNumbersList64Spec : ChangeSpec := { name := "fnNumbersList64", fn := fun _ => fun
  | [d] => { results := [.lit (.bool true)], args := [d] }
  | _ => none }
def fnNumbersList64Row : OpenClaim := { program := "ytadhdimleabljaa", sum := "6c068302078d72f05e692edaf058613482ed71c5d95e674ca9dcfce65746da53", func := "loop.example/pub-g01501/laws.FnNumbersList64", spec := "fnNumbersList64", apart := false }
def FnNumbersList64Said : Prop := fnNumbersList64Row.holds Try.pinned (OpenSpec.ofChange fnNumbersList64Spec)

/-- ITS FALSE NEIGHBOUR: 'it returns false'. Refute it at one input. -/
def fnNumbersList64Wrong : ChangeSpec := { name := "fnNumbersList64", fn := fun _ => fun
  | [d] => { results := [.lit (.bool false)], args := [d] }
  | _ => none }
def FnNumbersList64WrongFalsely : Prop := fnNumbersList64Row.holds Try.pinned (OpenSpec.ofChange fnNumbersList64Wrong)

/-- 'laws.FnSpotBack': WHATEVER THE INPUT: true; the input reads as it did. -/
def fnSpotBackSpec : ChangeSpec := { name := "fnSpotBack", fn := fun _ => fun
  | [d] => { results := [.lit (.bool true)], args := [d] }
  | _ => none }
def fnSpotBackRow : OpenClaim := { program := "ytadhdimleabljaa", sum := "6c068302078d72f05e692edaf058613482ed71c5d95e674ca9dcfce65746da53", func := "loop.example/pub-g01501/laws.FnSpotBack", spec := "fnSpotBack", apart := false }
def FnSpotBackSaid : Prop := fnSpotBackRow.holds Try.pinned (OpenSpec.ofChange fnSpotBackSpec)

/-- ITS FALSE NEIGHBOUR: 'it returns false'. Refute it at one input. -/
def fnSpotBackWrong : ChangeSpec := { name := "fnSpotBack", fn := fun _ => fun
  | [d] => { results := [.lit (.bool false)], args := [d] }
  | _ => none }
def FnSpotBackWrongFalsely : Prop := fnSpotBackRow.holds Try.pinned (OpenSpec.ofChange fnSpotBackWrong)

/-- 'laws.FnVarint': WHATEVER THE INPUT: true; the input reads as it did. -/
def fnVarintSpec : ChangeSpec := { name := "fnVarint", fn := fun _ => fun
  | [d1, d2] => { results := [.lit (.bool true)], args := [d1, d2] }
  | _ => none }
def fnVarintRow : OpenClaim := { program := "ytadhdimleabljaa", sum := "6c068302078d72f05e692edaf058613482ed71c5d95e674ca9dcfce65746da53", func := "loop.example/pub-g01501/laws.FnVarint", spec := "fnVarint", apart := false }
def FnVarintSaid : Prop := fnVarintRow.holds Try.pinned (OpenSpec.ofChange fnVarintSpec)

/-- ITS FALSE NEIGHBOUR: 'it returns false'. Refute it at one input. -/
def fnVarintWrong : ChangeSpec := { name := "fnVarint", fn := fun _ => fun
  | [d1, d2] => { results := [.lit (.bool false)], args := [d1, d2] }
  | _ => none }
def FnVarintWrongFalsely : Prop := fnVarintRow.holds Try.pinned (OpenSpec.ofChange fnVarintWrong)

/-- 'laws.FnKeySame': WHATEVER THE INPUT: true; the input reads as it did. -/
def fnKeySameSpec : ChangeSpec := { name := "fnKeySame", fn := fun _ => fun
  | [d1, d2, d3, d4] => { results := [.lit (.bool true)], args := [d1, d2, d3, d4] }
  | _ => none }
def fnKeySameRow : OpenClaim := { program := "ytadhdimleabljaa", sum := "6c068302078d72f05e692edaf058613482ed71c5d95e674ca9dcfce65746da53", func := "loop.example/pub-g01501/laws.FnKeySame", spec := "fnKeySame", apart := false }
def FnKeySameSaid : Prop := fnKeySameRow.holds Try.pinned (OpenSpec.ofChange fnKeySameSpec)

/-- ITS FALSE NEIGHBOUR: 'it returns false'. Refute it at one input. -/
def fnKeySameWrong : ChangeSpec := { name := "fnKeySame", fn := fun _ => fun
  | [d1, d2, d3, d4] => { results := [.lit (.bool false)], args := [d1, d2, d3, d4] }
  | _ => none }
def FnKeySameWrongFalsely : Prop := fnKeySameRow.holds Try.pinned (OpenSpec.ofChange fnKeySameWrong)

/-- 'laws.FnRangeSame': WHATEVER THE INPUT: true; the input reads as it did. -/
def fnRangeSameSpec : ChangeSpec := { name := "fnRangeSame", fn := fun _ => fun
  | [d1, d2] => { results := [.lit (.bool true)], args := [d1, d2] }
  | _ => none }
def fnRangeSameRow : OpenClaim := { program := "ytadhdimleabljaa", sum := "6c068302078d72f05e692edaf058613482ed71c5d95e674ca9dcfce65746da53", func := "loop.example/pub-g01501/laws.FnRangeSame", spec := "fnRangeSame", apart := false }
def FnRangeSameSaid : Prop := fnRangeSameRow.holds Try.pinned (OpenSpec.ofChange fnRangeSameSpec)

/-- ITS FALSE NEIGHBOUR: 'it returns false'. Refute it at one input. -/
def fnRangeSameWrong : ChangeSpec := { name := "fnRangeSame", fn := fun _ => fun
  | [d1, d2] => { results := [.lit (.bool false)], args := [d1, d2] }
  | _ => none }
def FnRangeSameWrongFalsely : Prop := fnRangeSameRow.holds Try.pinned (OpenSpec.ofChange fnRangeSameWrong)

/-- 'laws.FnValueBytes': WHATEVER THE INPUT: true; the input reads as it did. -/
def fnValueBytesSpec : ChangeSpec := { name := "fnValueBytes", fn := fun _ => fun
  | [d] => { results := [.lit (.bool true)], args := [d] }
  | _ => none }
def fnValueBytesRow : OpenClaim := { program := "ytadhdimleabljaa", sum := "6c068302078d72f05e692edaf058613482ed71c5d95e674ca9dcfce65746da53", func := "loop.example/pub-g01501/laws.FnValueBytes", spec := "fnValueBytes", apart := false }
def FnValueBytesSaid : Prop := fnValueBytesRow.holds Try.pinned (OpenSpec.ofChange fnValueBytesSpec)

/-- ITS FALSE NEIGHBOUR: 'it returns false'. Refute it at one input. -/
def fnValueBytesWrong : ChangeSpec := { name := "fnValueBytes", fn := fun _ => fun
  | [d] => { results := [.lit (.bool false)], args := [d] }
  | _ => none }
def FnValueBytesWrongFalsely : Prop := fnValueBytesRow.holds Try.pinned (OpenSpec.ofChange fnValueBytesWrong)

/-- 'laws.FnValueSize': WHATEVER THE INPUT: true; the input reads as it did. -/
def fnValueSizeSpec : ChangeSpec := { name := "fnValueSize", fn := fun _ => fun
  | [d] => { results := [.lit (.bool true)], args := [d] }
  | _ => none }
def fnValueSizeRow : OpenClaim := { program := "ytadhdimleabljaa", sum := "6c068302078d72f05e692edaf058613482ed71c5d95e674ca9dcfce65746da53", func := "loop.example/pub-g01501/laws.FnValueSize", spec := "fnValueSize", apart := false }
def FnValueSizeSaid : Prop := fnValueSizeRow.holds Try.pinned (OpenSpec.ofChange fnValueSizeSpec)

/-- ITS FALSE NEIGHBOUR: 'it returns false'. Refute it at one input. -/
def fnValueSizeWrong : ChangeSpec := { name := "fnValueSize", fn := fun _ => fun
  | [d] => { results := [.lit (.bool false)], args := [d] }
  | _ => none }
def FnValueSizeWrongFalsely : Prop := fnValueSizeRow.holds Try.pinned (OpenSpec.ofChange fnValueSizeWrong)

/-- 'laws.FnKeyBack': WHATEVER THE INPUT: true; the input reads as it did. -/
def fnKeyBackSpec : ChangeSpec := { name := "fnKeyBack", fn := fun _ => fun
  | [d1, d2] => { results := [.lit (.bool true)], args := [d1, d2] }
  | _ => none }
def fnKeyBackRow : OpenClaim := { program := "ytadhdimleabljaa", sum := "6c068302078d72f05e692edaf058613482ed71c5d95e674ca9dcfce65746da53", func := "loop.example/pub-g01501/laws.FnKeyBack", spec := "fnKeyBack", apart := false }
def FnKeyBackSaid : Prop := fnKeyBackRow.holds Try.pinned (OpenSpec.ofChange fnKeyBackSpec)

/-- ITS FALSE NEIGHBOUR: 'it returns false'. Refute it at one input. -/
def fnKeyBackWrong : ChangeSpec := { name := "fnKeyBack", fn := fun _ => fun
  | [d1, d2] => { results := [.lit (.bool false)], args := [d1, d2] }
  | _ => none }
def FnKeyBackWrongFalsely : Prop := fnKeyBackRow.holds Try.pinned (OpenSpec.ofChange fnKeyBackWrong)

/-- 'laws.FnNumbers': WHATEVER THE INPUT: true; the input reads as it did. -/
def fnNumbersSpec : ChangeSpec := { name := "fnNumbers", fn := fun _ => fun
  | [d] => { results := [.lit (.bool true)], args := [d] }
  | _ => none }
def fnNumbersRow : OpenClaim := { program := "ytadhdimleabljaa", sum := "6c068302078d72f05e692edaf058613482ed71c5d95e674ca9dcfce65746da53", func := "loop.example/pub-g01501/laws.FnNumbers", spec := "fnNumbers", apart := false }
def FnNumbersSaid : Prop := fnNumbersRow.holds Try.pinned (OpenSpec.ofChange fnNumbersSpec)

/-- ITS FALSE NEIGHBOUR: 'it returns false'. Refute it at one input. -/
def fnNumbersWrong : ChangeSpec := { name := "fnNumbers", fn := fun _ => fun
  | [d] => { results := [.lit (.bool false)], args := [d] }
  | _ => none }
def FnNumbersWrongFalsely : Prop := fnNumbersRow.holds Try.pinned (OpenSpec.ofChange fnNumbersWrong)

/-- 'laws.FnHeadBack': WHATEVER THE INPUT: true; the input reads as it did. -/
def fnHeadBackSpec : ChangeSpec := { name := "fnHeadBack", fn := fun _ => fun
  | [d1, d2] => { results := [.lit (.bool true)], args := [d1, d2] }
  | _ => none }
def fnHeadBackRow : OpenClaim := { program := "ytadhdimleabljaa", sum := "6c068302078d72f05e692edaf058613482ed71c5d95e674ca9dcfce65746da53", func := "loop.example/pub-g01501/laws.FnHeadBack", spec := "fnHeadBack", apart := false }
def FnHeadBackSaid : Prop := fnHeadBackRow.holds Try.pinned (OpenSpec.ofChange fnHeadBackSpec)

/-- ITS FALSE NEIGHBOUR: 'it returns false'. Refute it at one input. -/
def fnHeadBackWrong : ChangeSpec := { name := "fnHeadBack", fn := fun _ => fun
  | [d1, d2] => { results := [.lit (.bool false)], args := [d1, d2] }
  | _ => none }
def FnHeadBackWrongFalsely : Prop := fnHeadBackRow.holds Try.pinned (OpenSpec.ofChange fnHeadBackWrong)

/-- 'laws.FnSumRecord': WHATEVER THE INPUT: true; the input reads as it did. -/
def fnSumRecordSpec : ChangeSpec := { name := "fnSumRecord", fn := fun _ => fun
  | [d] => { results := [.lit (.bool true)], args := [d] }
  | _ => none }
def fnSumRecordRow : OpenClaim := { program := "ytadhdimleabljaa", sum := "6c068302078d72f05e692edaf058613482ed71c5d95e674ca9dcfce65746da53", func := "loop.example/pub-g01501/laws.FnSumRecord", spec := "fnSumRecord", apart := false }
def FnSumRecordSaid : Prop := fnSumRecordRow.holds Try.pinned (OpenSpec.ofChange fnSumRecordSpec)

/-- ITS FALSE NEIGHBOUR: 'it returns false'. Refute it at one input. -/
def fnSumRecordWrong : ChangeSpec := { name := "fnSumRecord", fn := fun _ => fun
  | [d] => { results := [.lit (.bool false)], args := [d] }
  | _ => none }
def FnSumRecordWrongFalsely : Prop := fnSumRecordRow.holds Try.pinned (OpenSpec.ofChange fnSumRecordWrong)

/-- 'laws.FnRangeOverlap': WHATEVER THE INPUT: true; the input reads as it did. -/
def fnRangeOverlapSpec : ChangeSpec := { name := "fnRangeOverlap", fn := fun _ => fun
  | [d1, d2] => { results := [.lit (.bool true)], args := [d1, d2] }
  | _ => none }
def fnRangeOverlapRow : OpenClaim := { program := "ytadhdimleabljaa", sum := "6c068302078d72f05e692edaf058613482ed71c5d95e674ca9dcfce65746da53", func := "loop.example/pub-g01501/laws.FnRangeOverlap", spec := "fnRangeOverlap", inPlace := ["internal/bytealg.Compare"], apart := false }
def FnRangeOverlapSaid : Prop := fnRangeOverlapRow.holds Try.pinned (OpenSpec.ofChange fnRangeOverlapSpec)

/-- ITS FALSE NEIGHBOUR: 'it returns false'. Refute it at one input. -/
def fnRangeOverlapWrong : ChangeSpec := { name := "fnRangeOverlap", fn := fun _ => fun
  | [d1, d2] => { results := [.lit (.bool false)], args := [d1, d2] }
  | _ => none }
def FnRangeOverlapWrongFalsely : Prop := fnRangeOverlapRow.holds Try.pinned (OpenSpec.ofChange fnRangeOverlapWrong)

/-- 'laws.FnValueBack': WHATEVER THE INPUT: true; the input reads as it did. -/
def fnValueBackSpec : ChangeSpec := { name := "fnValueBack", fn := fun _ => fun
  | [d] => { results := [.lit (.bool true)], args := [d] }
  | _ => none }
def fnValueBackRow : OpenClaim := { program := "ytadhdimleabljaa", sum := "6c068302078d72f05e692edaf058613482ed71c5d95e674ca9dcfce65746da53", func := "loop.example/pub-g01501/laws.FnValueBack", spec := "fnValueBack", apart := false }
def FnValueBackSaid : Prop := fnValueBackRow.holds Try.pinned (OpenSpec.ofChange fnValueBackSpec)

/-- ITS FALSE NEIGHBOUR: 'it returns false'. Refute it at one input. -/
def fnValueBackWrong : ChangeSpec := { name := "fnValueBack", fn := fun _ => fun
  | [d] => { results := [.lit (.bool false)], args := [d] }
  | _ => none }
def FnValueBackWrongFalsely : Prop := fnValueBackRow.holds Try.pinned (OpenSpec.ofChange fnValueBackWrong)

/-- 'laws.FnFilterHas': WHATEVER THE INPUT: true; the input reads as it did. -/
def fnFilterHasSpec : ChangeSpec := { name := "fnFilterHas", fn := fun _ => fun
  | [d1, d2] => { results := [.lit (.bool true)], args := [d1, d2] }
  | _ => none }
def fnFilterHasRow : OpenClaim := { program := "ytadhdimleabljaa", sum := "6c068302078d72f05e692edaf058613482ed71c5d95e674ca9dcfce65746da53", func := "loop.example/pub-g01501/laws.FnFilterHas", spec := "fnFilterHas", apart := false }
def FnFilterHasSaid : Prop := fnFilterHasRow.holds Try.pinned (OpenSpec.ofChange fnFilterHasSpec)

/-- ITS FALSE NEIGHBOUR: 'it returns false'. Refute it at one input. -/
def fnFilterHasWrong : ChangeSpec := { name := "fnFilterHas", fn := fun _ => fun
  | [d1, d2] => { results := [.lit (.bool false)], args := [d1, d2] }
  | _ => none }
def FnFilterHasWrongFalsely : Prop := fnFilterHasRow.holds Try.pinned (OpenSpec.ofChange fnFilterHasWrong)

/-- 'laws.FnFilterMore': WHATEVER THE INPUT: true; the input reads as it did. -/
def fnFilterMoreSpec : ChangeSpec := { name := "fnFilterMore", fn := fun _ => fun
  | [d1, d2, d3] => { results := [.lit (.bool true)], args := [d1, d2, d3] }
  | _ => none }
def fnFilterMoreRow : OpenClaim := { program := "ytadhdimleabljaa", sum := "6c068302078d72f05e692edaf058613482ed71c5d95e674ca9dcfce65746da53", func := "loop.example/pub-g01501/laws.FnFilterMore", spec := "fnFilterMore", apart := false }
def FnFilterMoreSaid : Prop := fnFilterMoreRow.holds Try.pinned (OpenSpec.ofChange fnFilterMoreSpec)

/-- ITS FALSE NEIGHBOUR: 'it returns false'. Refute it at one input. -/
def fnFilterMoreWrong : ChangeSpec := { name := "fnFilterMore", fn := fun _ => fun
  | [d1, d2, d3] => { results := [.lit (.bool false)], args := [d1, d2, d3] }
  | _ => none }
def FnFilterMoreWrongFalsely : Prop := fnFilterMoreRow.holds Try.pinned (OpenSpec.ofChange fnFilterMoreWrong)

/-- 'laws.FnRangeExtend': WHATEVER THE INPUT: true; the input reads as it did. -/
def fnRangeExtendSpec : ChangeSpec := { name := "fnRangeExtend", fn := fun _ => fun
  | [d1, d2] => { results := [.lit (.bool true)], args := [d1, d2] }
  | _ => none }
def fnRangeExtendRow : OpenClaim := { program := "ytadhdimleabljaa", sum := "6c068302078d72f05e692edaf058613482ed71c5d95e674ca9dcfce65746da53", func := "loop.example/pub-g01501/laws.FnRangeExtend", spec := "fnRangeExtend", inPlace := ["internal/bytealg.Compare"], apart := false }
def FnRangeExtendSaid : Prop := fnRangeExtendRow.holds Try.pinned (OpenSpec.ofChange fnRangeExtendSpec)

/-- ITS FALSE NEIGHBOUR: 'it returns false'. Refute it at one input. -/
def fnRangeExtendWrong : ChangeSpec := { name := "fnRangeExtend", fn := fun _ => fun
  | [d1, d2] => { results := [.lit (.bool false)], args := [d1, d2] }
  | _ => none }
def FnRangeExtendWrongFalsely : Prop := fnRangeExtendRow.holds Try.pinned (OpenSpec.ofChange fnRangeExtendWrong)

/-- 'laws.FnFilterKeys': WHATEVER THE INPUT: true; the input reads as it did. -/
def fnFilterKeysSpec : ChangeSpec := { name := "fnFilterKeys", fn := fun _ => fun
  | [d1, d2, d3] => { results := [.lit (.bool true)], args := [d1, d2, d3] }
  | _ => none }
def fnFilterKeysRow : OpenClaim := { program := "ytadhdimleabljaa", sum := "6c068302078d72f05e692edaf058613482ed71c5d95e674ca9dcfce65746da53", func := "loop.example/pub-g01501/laws.FnFilterKeys", spec := "fnFilterKeys", apart := false }
def FnFilterKeysSaid : Prop := fnFilterKeysRow.holds Try.pinned (OpenSpec.ofChange fnFilterKeysSpec)

/-- ITS FALSE NEIGHBOUR: 'it returns false'. Refute it at one input. -/
def fnFilterKeysWrong : ChangeSpec := { name := "fnFilterKeys", fn := fun _ => fun
  | [d1, d2, d3] => { results := [.lit (.bool false)], args := [d1, d2, d3] }
  | _ => none }
def FnFilterKeysWrongFalsely : Prop := fnFilterKeysRow.holds Try.pinned (OpenSpec.ofChange fnFilterKeysWrong)

/-- 'laws.FnChangesBack': WHATEVER THE INPUT: true; the input reads as it did. -/
def fnChangesBackSpec : ChangeSpec := { name := "fnChangesBack", fn := fun _ => fun
  | [d] => { results := [.lit (.bool true)], args := [d] }
  | _ => none }
def fnChangesBackRow : OpenClaim := { program := "ytadhdimleabljaa", sum := "6c068302078d72f05e692edaf058613482ed71c5d95e674ca9dcfce65746da53", func := "loop.example/pub-g01501/laws.FnChangesBack", spec := "fnChangesBack", apart := false }
def FnChangesBackSaid : Prop := fnChangesBackRow.holds Try.pinned (OpenSpec.ofChange fnChangesBackSpec)

/-- ITS FALSE NEIGHBOUR: 'it returns false'. Refute it at one input. -/
def fnChangesBackWrong : ChangeSpec := { name := "fnChangesBack", fn := fun _ => fun
  | [d] => { results := [.lit (.bool false)], args := [d] }
  | _ => none }
def FnChangesBackWrongFalsely : Prop := fnChangesBackRow.holds Try.pinned (OpenSpec.ofChange fnChangesBackWrong)

/- THE SECOND FORM. 'bulk': how many values and letters a reading holds, each counted each time it is reached (what is shared counts as often as it is met; a slice's spare places count too). A statement '..UptoSaid' is the law's where the arguments, and the package variables that the reading takes, are together of bulk at most 1048576: NARROWER than '..Said'. Prove '..Said' where nothing that the law and all that it calls make is longer than what came in: it says more and counts as full. Else prove '..UptoSaid'. A law counts once. -/
mutual
def uptoBulk {H : Type} : DataW H → Nat
  | .lit (.string bytes) => bytes.length + 1
  | .lit _ => 1
  | .nil => 1
  | .ptr d => uptoBulk d + 1
  | .slice elems spare => uptoBulkAll elems + uptoBulkAll spare + 1
  | .agg parts => uptoBulkAll parts + 1
  | .iface _ d => uptoBulk d + 1
  | .map entries => uptoBulkEntries entries + 1
  | .held _ => 1
def uptoBulkAll {H : Type} : List (DataW H) → Nat
  | [] => 0
  | d :: r => uptoBulk d + uptoBulkAll r
def uptoBulkEntries {H : Type} : List (Lit × DataW H) → Nat
  | [] => 0
  | x :: r => uptoBulkEntry x + uptoBulkEntries r
def uptoBulkEntry {H : Type} : Lit × DataW H → Nat
  | (.string bytes, d) => bytes.length + uptoBulk d + 1
  | (_, d) => uptoBulk d + 1
 end
def uptoSmall : (H : Type) → List (DataW H) → Bool := fun _ ds => decide (uptoBulkAll ds ≤ 1048576)
def OpenSpec.upto (s : _root_.Go.ChangeSpec) : _root_.Go.OpenSpec := { _root_.Go.OpenSpec.ofChange s with cond := some uptoSmall }

/-- 'laws.FnSpotLess', WHERE WHAT IT READS IS OF BULK AT MOST 1048576: true; the input reads as it did. -/
def fnSpotLessUptoRow : OpenClaim := { program := "ytadhdimleabljaa", sum := "6c068302078d72f05e692edaf058613482ed71c5d95e674ca9dcfce65746da53", func := "loop.example/pub-g01501/laws.FnSpotLess", spec := "fnSpotLess", apart := false, narrowed := true }
def FnSpotLessUptoSaid : Prop := fnSpotLessUptoRow.holds Try.pinned (OpenSpec.upto fnSpotLessSpec)

/-- 'laws.FnKeyBytes', WHERE WHAT IT READS IS OF BULK AT MOST 1048576: true; the input reads as it did. -/
def fnKeyBytesUptoRow : OpenClaim := { program := "ytadhdimleabljaa", sum := "6c068302078d72f05e692edaf058613482ed71c5d95e674ca9dcfce65746da53", func := "loop.example/pub-g01501/laws.FnKeyBytes", spec := "fnKeyBytes", apart := false, narrowed := true }
def FnKeyBytesUptoSaid : Prop := fnKeyBytesUptoRow.holds Try.pinned (OpenSpec.upto fnKeyBytesSpec)

/-- 'laws.FnVarintCut', WHERE WHAT IT READS IS OF BULK AT MOST 1048576: true; the input reads as it did. -/
def fnVarintCutUptoRow : OpenClaim := { program := "ytadhdimleabljaa", sum := "6c068302078d72f05e692edaf058613482ed71c5d95e674ca9dcfce65746da53", func := "loop.example/pub-g01501/laws.FnVarintCut", spec := "fnVarintCut", apart := false, narrowed := true }
def FnVarintCutUptoSaid : Prop := fnVarintCutUptoRow.holds Try.pinned (OpenSpec.upto fnVarintCutSpec)

/-- 'laws.FnHeadBytes', WHERE WHAT IT READS IS OF BULK AT MOST 1048576: true; the input reads as it did. -/
def fnHeadBytesUptoRow : OpenClaim := { program := "ytadhdimleabljaa", sum := "6c068302078d72f05e692edaf058613482ed71c5d95e674ca9dcfce65746da53", func := "loop.example/pub-g01501/laws.FnHeadBytes", spec := "fnHeadBytes", apart := false, narrowed := true }
def FnHeadBytesUptoSaid : Prop := fnHeadBytesUptoRow.holds Try.pinned (OpenSpec.upto fnHeadBytesSpec)

/-- 'laws.FnNumbersList32', WHERE WHAT IT READS IS OF BULK AT MOST 1048576: true; the input reads as it did. -/
def fnNumbersList32UptoRow : OpenClaim := { program := "ytadhdimleabljaa", sum := "6c068302078d72f05e692edaf058613482ed71c5d95e674ca9dcfce65746da53", func := "loop.example/pub-g01501/laws.FnNumbersList32", spec := "fnNumbersList32", apart := false, narrowed := true }
def FnNumbersList32UptoSaid : Prop := fnNumbersList32UptoRow.holds Try.pinned (OpenSpec.upto fnNumbersList32Spec)

/-- 'laws.FnSum', WHERE WHAT IT READS IS OF BULK AT MOST 1048576: true; the input reads as it did. -/
def fnSumUptoRow : OpenClaim := { program := "ytadhdimleabljaa", sum := "6c068302078d72f05e692edaf058613482ed71c5d95e674ca9dcfce65746da53", func := "loop.example/pub-g01501/laws.FnSum", spec := "fnSum", apart := false, narrowed := true }
def FnSumUptoSaid : Prop := fnSumUptoRow.holds Try.pinned (OpenSpec.upto fnSumSpec)

/-- 'laws.FnKeyCompare', WHERE WHAT IT READS IS OF BULK AT MOST 1048576: true; the input reads as it did. -/
def fnKeyCompareUptoRow : OpenClaim := { program := "ytadhdimleabljaa", sum := "6c068302078d72f05e692edaf058613482ed71c5d95e674ca9dcfce65746da53", func := "loop.example/pub-g01501/laws.FnKeyCompare", spec := "fnKeyCompare", inPlace := ["internal/bytealg.Compare"], apart := false, narrowed := true }
def FnKeyCompareUptoSaid : Prop := fnKeyCompareUptoRow.holds Try.pinned (OpenSpec.upto fnKeyCompareSpec)

/-- 'laws.FnNumbersList64', WHERE WHAT IT READS IS OF BULK AT MOST 1048576: true; the input reads as it did. -/
def fnNumbersList64UptoRow : OpenClaim := { program := "ytadhdimleabljaa", sum := "6c068302078d72f05e692edaf058613482ed71c5d95e674ca9dcfce65746da53", func := "loop.example/pub-g01501/laws.FnNumbersList64", spec := "fnNumbersList64", apart := false, narrowed := true }
def FnNumbersList64UptoSaid : Prop := fnNumbersList64UptoRow.holds Try.pinned (OpenSpec.upto fnNumbersList64Spec)

/-- 'laws.FnSpotBack', WHERE WHAT IT READS IS OF BULK AT MOST 1048576: true; the input reads as it did. -/
def fnSpotBackUptoRow : OpenClaim := { program := "ytadhdimleabljaa", sum := "6c068302078d72f05e692edaf058613482ed71c5d95e674ca9dcfce65746da53", func := "loop.example/pub-g01501/laws.FnSpotBack", spec := "fnSpotBack", apart := false, narrowed := true }
def FnSpotBackUptoSaid : Prop := fnSpotBackUptoRow.holds Try.pinned (OpenSpec.upto fnSpotBackSpec)

/-- 'laws.FnVarint', WHERE WHAT IT READS IS OF BULK AT MOST 1048576: true; the input reads as it did. -/
def fnVarintUptoRow : OpenClaim := { program := "ytadhdimleabljaa", sum := "6c068302078d72f05e692edaf058613482ed71c5d95e674ca9dcfce65746da53", func := "loop.example/pub-g01501/laws.FnVarint", spec := "fnVarint", apart := false, narrowed := true }
def FnVarintUptoSaid : Prop := fnVarintUptoRow.holds Try.pinned (OpenSpec.upto fnVarintSpec)

/-- 'laws.FnKeySame', WHERE WHAT IT READS IS OF BULK AT MOST 1048576: true; the input reads as it did. -/
def fnKeySameUptoRow : OpenClaim := { program := "ytadhdimleabljaa", sum := "6c068302078d72f05e692edaf058613482ed71c5d95e674ca9dcfce65746da53", func := "loop.example/pub-g01501/laws.FnKeySame", spec := "fnKeySame", apart := false, narrowed := true }
def FnKeySameUptoSaid : Prop := fnKeySameUptoRow.holds Try.pinned (OpenSpec.upto fnKeySameSpec)

/-- 'laws.FnRangeSame', WHERE WHAT IT READS IS OF BULK AT MOST 1048576: true; the input reads as it did. -/
def fnRangeSameUptoRow : OpenClaim := { program := "ytadhdimleabljaa", sum := "6c068302078d72f05e692edaf058613482ed71c5d95e674ca9dcfce65746da53", func := "loop.example/pub-g01501/laws.FnRangeSame", spec := "fnRangeSame", apart := false, narrowed := true }
def FnRangeSameUptoSaid : Prop := fnRangeSameUptoRow.holds Try.pinned (OpenSpec.upto fnRangeSameSpec)

/-- 'laws.FnValueBytes', WHERE WHAT IT READS IS OF BULK AT MOST 1048576: true; the input reads as it did. -/
def fnValueBytesUptoRow : OpenClaim := { program := "ytadhdimleabljaa", sum := "6c068302078d72f05e692edaf058613482ed71c5d95e674ca9dcfce65746da53", func := "loop.example/pub-g01501/laws.FnValueBytes", spec := "fnValueBytes", apart := false, narrowed := true }
def FnValueBytesUptoSaid : Prop := fnValueBytesUptoRow.holds Try.pinned (OpenSpec.upto fnValueBytesSpec)

/-- 'laws.FnValueSize', WHERE WHAT IT READS IS OF BULK AT MOST 1048576: true; the input reads as it did. -/
def fnValueSizeUptoRow : OpenClaim := { program := "ytadhdimleabljaa", sum := "6c068302078d72f05e692edaf058613482ed71c5d95e674ca9dcfce65746da53", func := "loop.example/pub-g01501/laws.FnValueSize", spec := "fnValueSize", apart := false, narrowed := true }
def FnValueSizeUptoSaid : Prop := fnValueSizeUptoRow.holds Try.pinned (OpenSpec.upto fnValueSizeSpec)

/-- 'laws.FnKeyBack', WHERE WHAT IT READS IS OF BULK AT MOST 1048576: true; the input reads as it did. -/
def fnKeyBackUptoRow : OpenClaim := { program := "ytadhdimleabljaa", sum := "6c068302078d72f05e692edaf058613482ed71c5d95e674ca9dcfce65746da53", func := "loop.example/pub-g01501/laws.FnKeyBack", spec := "fnKeyBack", apart := false, narrowed := true }
def FnKeyBackUptoSaid : Prop := fnKeyBackUptoRow.holds Try.pinned (OpenSpec.upto fnKeyBackSpec)

/-- 'laws.FnNumbers', WHERE WHAT IT READS IS OF BULK AT MOST 1048576: true; the input reads as it did. -/
def fnNumbersUptoRow : OpenClaim := { program := "ytadhdimleabljaa", sum := "6c068302078d72f05e692edaf058613482ed71c5d95e674ca9dcfce65746da53", func := "loop.example/pub-g01501/laws.FnNumbers", spec := "fnNumbers", apart := false, narrowed := true }
def FnNumbersUptoSaid : Prop := fnNumbersUptoRow.holds Try.pinned (OpenSpec.upto fnNumbersSpec)

/-- 'laws.FnHeadBack', WHERE WHAT IT READS IS OF BULK AT MOST 1048576: true; the input reads as it did. -/
def fnHeadBackUptoRow : OpenClaim := { program := "ytadhdimleabljaa", sum := "6c068302078d72f05e692edaf058613482ed71c5d95e674ca9dcfce65746da53", func := "loop.example/pub-g01501/laws.FnHeadBack", spec := "fnHeadBack", apart := false, narrowed := true }
def FnHeadBackUptoSaid : Prop := fnHeadBackUptoRow.holds Try.pinned (OpenSpec.upto fnHeadBackSpec)

/-- 'laws.FnSumRecord', WHERE WHAT IT READS IS OF BULK AT MOST 1048576: true; the input reads as it did. -/
def fnSumRecordUptoRow : OpenClaim := { program := "ytadhdimleabljaa", sum := "6c068302078d72f05e692edaf058613482ed71c5d95e674ca9dcfce65746da53", func := "loop.example/pub-g01501/laws.FnSumRecord", spec := "fnSumRecord", apart := false, narrowed := true }
def FnSumRecordUptoSaid : Prop := fnSumRecordUptoRow.holds Try.pinned (OpenSpec.upto fnSumRecordSpec)

/-- 'laws.FnRangeOverlap', WHERE WHAT IT READS IS OF BULK AT MOST 1048576: true; the input reads as it did. -/
def fnRangeOverlapUptoRow : OpenClaim := { program := "ytadhdimleabljaa", sum := "6c068302078d72f05e692edaf058613482ed71c5d95e674ca9dcfce65746da53", func := "loop.example/pub-g01501/laws.FnRangeOverlap", spec := "fnRangeOverlap", inPlace := ["internal/bytealg.Compare"], apart := false, narrowed := true }
def FnRangeOverlapUptoSaid : Prop := fnRangeOverlapUptoRow.holds Try.pinned (OpenSpec.upto fnRangeOverlapSpec)

/-- 'laws.FnValueBack', WHERE WHAT IT READS IS OF BULK AT MOST 1048576: true; the input reads as it did. -/
def fnValueBackUptoRow : OpenClaim := { program := "ytadhdimleabljaa", sum := "6c068302078d72f05e692edaf058613482ed71c5d95e674ca9dcfce65746da53", func := "loop.example/pub-g01501/laws.FnValueBack", spec := "fnValueBack", apart := false, narrowed := true }
def FnValueBackUptoSaid : Prop := fnValueBackUptoRow.holds Try.pinned (OpenSpec.upto fnValueBackSpec)

/-- 'laws.FnFilterHas', WHERE WHAT IT READS IS OF BULK AT MOST 1048576: true; the input reads as it did. -/
def fnFilterHasUptoRow : OpenClaim := { program := "ytadhdimleabljaa", sum := "6c068302078d72f05e692edaf058613482ed71c5d95e674ca9dcfce65746da53", func := "loop.example/pub-g01501/laws.FnFilterHas", spec := "fnFilterHas", apart := false, narrowed := true }
def FnFilterHasUptoSaid : Prop := fnFilterHasUptoRow.holds Try.pinned (OpenSpec.upto fnFilterHasSpec)

/-- 'laws.FnFilterMore', WHERE WHAT IT READS IS OF BULK AT MOST 1048576: true; the input reads as it did. -/
def fnFilterMoreUptoRow : OpenClaim := { program := "ytadhdimleabljaa", sum := "6c068302078d72f05e692edaf058613482ed71c5d95e674ca9dcfce65746da53", func := "loop.example/pub-g01501/laws.FnFilterMore", spec := "fnFilterMore", apart := false, narrowed := true }
def FnFilterMoreUptoSaid : Prop := fnFilterMoreUptoRow.holds Try.pinned (OpenSpec.upto fnFilterMoreSpec)

/-- 'laws.FnRangeExtend', WHERE WHAT IT READS IS OF BULK AT MOST 1048576: true; the input reads as it did. -/
def fnRangeExtendUptoRow : OpenClaim := { program := "ytadhdimleabljaa", sum := "6c068302078d72f05e692edaf058613482ed71c5d95e674ca9dcfce65746da53", func := "loop.example/pub-g01501/laws.FnRangeExtend", spec := "fnRangeExtend", inPlace := ["internal/bytealg.Compare"], apart := false, narrowed := true }
def FnRangeExtendUptoSaid : Prop := fnRangeExtendUptoRow.holds Try.pinned (OpenSpec.upto fnRangeExtendSpec)

/-- 'laws.FnFilterKeys', WHERE WHAT IT READS IS OF BULK AT MOST 1048576: true; the input reads as it did. -/
def fnFilterKeysUptoRow : OpenClaim := { program := "ytadhdimleabljaa", sum := "6c068302078d72f05e692edaf058613482ed71c5d95e674ca9dcfce65746da53", func := "loop.example/pub-g01501/laws.FnFilterKeys", spec := "fnFilterKeys", apart := false, narrowed := true }
def FnFilterKeysUptoSaid : Prop := fnFilterKeysUptoRow.holds Try.pinned (OpenSpec.upto fnFilterKeysSpec)

/-- 'laws.FnChangesBack', WHERE WHAT IT READS IS OF BULK AT MOST 1048576: true; the input reads as it did. -/
def fnChangesBackUptoRow : OpenClaim := { program := "ytadhdimleabljaa", sum := "6c068302078d72f05e692edaf058613482ed71c5d95e674ca9dcfce65746da53", func := "loop.example/pub-g01501/laws.FnChangesBack", spec := "fnChangesBack", apart := false, narrowed := true }
def FnChangesBackUptoSaid : Prop := fnChangesBackUptoRow.holds Try.pinned (OpenSpec.upto fnChangesBackSpec)

end Rows
end Go.Proofs.Ytadhdimleabljaa
