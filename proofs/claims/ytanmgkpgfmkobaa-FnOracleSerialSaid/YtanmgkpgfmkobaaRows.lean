/-
  No cell of these rows narrows 'for every input' (looked for: loops, veiled, ifaces, maps, wideKeys, modest, calm, conditions, laid).
  DERIVED. THE GIVEN ROWS OF THIS SEAT. 8 by the template 'for every input the law returns true; each argument reads behind the call as it read before'; 0 by the template 'total and deterministic' (their statements: YtanmgkpgfmkobaaTotals.lean).
  GIVEN WITH THE SEED: the statements are not yours to turn. If you find one false, say at which input.
  Laid BY PROGRAM, IN A SANDBOX (cutbox-rows.mjs): the forced cells as the released guide's own fill.sh prints them over the translation 492f35cc21193cee… (all of the seat's roots in one cut). By AI agents, Wed Nov 11 2026. No macro, syntax, notation, axiom, sorry.
-/
import Derived.Test.YtanmgkpgfmkobaaChecked
import GoSem.Claim
import GoSem.ClaimJoined
import GoSem.ClaimMapViews
import Derived.JoinedTies
import Derived.KernelRfl
namespace Go.Proofs.Ytanmgkpgfmkobaa
/- THE CELL 'sum', in the pinned program and in every row, IS THE sha256 OF THE DUMP (.gsa) THAT YtanmgkpgfmkobaaProg.lean LOADS. Nothing in Lean hashes anything: it is a label: what it is worth is what the hold of that sum in a sandbox is worth. -/
noncomputable def Try.pinned : Pinned := { name := "ytanmgkpgfmkobaa", sum := "492f35cc21193cee5dc05be035a479f78f879ba0f7eaba2e5feaaec2373e2a77", checked := Try.checked }
namespace Rows
def none {H : Type} : Left H := { results := [], args := [] }

/-- 'laws.FnSkipEmpty': WHATEVER THE INPUT: true; the input reads as it did. -/
def fnSkipEmptySpec : ChangeSpec := { name := "fnSkipEmpty", fn := fun _ => fun
  | [d1, d2] => { results := [.lit (.bool true)], args := [d1, d2] }
  | _ => none }
def fnSkipEmptyRow : OpenClaim := { program := "ytanmgkpgfmkobaa", sum := "492f35cc21193cee5dc05be035a479f78f879ba0f7eaba2e5feaaec2373e2a77", func := "loop.example/pub-g01501/laws.FnSkipEmpty", spec := "fnSkipEmpty", inPlace := ["internal/bytealg.Compare"], apart := false }
def FnSkipEmptySaid : Prop := fnSkipEmptyRow.holds Try.pinned (OpenSpec.ofChange fnSkipEmptySpec)

/-- ITS FALSE NEIGHBOUR: 'it returns false'. Refute it at one input. -/
def fnSkipEmptyWrong : ChangeSpec := { name := "fnSkipEmpty", fn := fun _ => fun
  | [d1, d2] => { results := [.lit (.bool false)], args := [d1, d2] }
  | _ => none }
def FnSkipEmptyWrongFalsely : Prop := fnSkipEmptyRow.holds Try.pinned (OpenSpec.ofChange fnSkipEmptyWrong)

/-- 'laws.FnSkipGet': WHATEVER THE INPUT: true; the input reads as it did. -/
def fnSkipGetSpec : ChangeSpec := { name := "fnSkipGet", fn := fun _ => fun
  | [d1, d2, d3, d4] => { results := [.lit (.bool true)], args := [d1, d2, d3, d4] }
  | _ => none }
def fnSkipGetRow : OpenClaim := { program := "ytanmgkpgfmkobaa", sum := "492f35cc21193cee5dc05be035a479f78f879ba0f7eaba2e5feaaec2373e2a77", func := "loop.example/pub-g01501/laws.FnSkipGet", spec := "fnSkipGet", inPlace := ["internal/bytealg.Compare"], apart := false }
def FnSkipGetSaid : Prop := fnSkipGetRow.holds Try.pinned (OpenSpec.ofChange fnSkipGetSpec)

/-- ITS FALSE NEIGHBOUR: 'it returns false'. Refute it at one input. -/
def fnSkipGetWrong : ChangeSpec := { name := "fnSkipGet", fn := fun _ => fun
  | [d1, d2, d3, d4] => { results := [.lit (.bool false)], args := [d1, d2, d3, d4] }
  | _ => none }
def FnSkipGetWrongFalsely : Prop := fnSkipGetRow.holds Try.pinned (OpenSpec.ofChange fnSkipGetWrong)

/-- 'laws.FnSkipSteps': WHATEVER THE INPUT: true; the input reads as it did. -/
def fnSkipStepsSpec : ChangeSpec := { name := "fnSkipSteps", fn := fun _ => fun
  | [d1, d2, d3] => { results := [.lit (.bool true)], args := [d1, d2, d3] }
  | _ => none }
def fnSkipStepsRow : OpenClaim := { program := "ytanmgkpgfmkobaa", sum := "492f35cc21193cee5dc05be035a479f78f879ba0f7eaba2e5feaaec2373e2a77", func := "loop.example/pub-g01501/laws.FnSkipSteps", spec := "fnSkipSteps", inPlace := ["internal/bytealg.Compare"], unfollowed := true, recurses := true, apart := false }
def FnSkipStepsSaid : Prop := fnSkipStepsRow.holds Try.pinned (OpenSpec.ofChange fnSkipStepsSpec)

/-- ITS FALSE NEIGHBOUR: 'it returns false'. Refute it at one input. -/
def fnSkipStepsWrong : ChangeSpec := { name := "fnSkipSteps", fn := fun _ => fun
  | [d1, d2, d3] => { results := [.lit (.bool false)], args := [d1, d2, d3] }
  | _ => none }
def FnSkipStepsWrongFalsely : Prop := fnSkipStepsRow.holds Try.pinned (OpenSpec.ofChange fnSkipStepsWrong)

/-- 'laws.FnOracle': WHATEVER THE INPUT: true; the input reads as it did. -/
def fnOracleSpec : ChangeSpec := { name := "fnOracle", fn := fun _ => fun
  | [d1, d2] => { results := [.lit (.bool true)], args := [d1, d2] }
  | _ => none }
def fnOracleRow : OpenClaim := { program := "ytanmgkpgfmkobaa", sum := "492f35cc21193cee5dc05be035a479f78f879ba0f7eaba2e5feaaec2373e2a77", func := "loop.example/pub-g01501/laws.FnOracle", spec := "fnOracle", inPlace := ["internal/reflectlite.ValueOf", "internal/reflectlite.Swapper", "(internal/reflectlite.Value).Len"], unfollowed := true, recurses := true, apart := false }
def FnOracleSaid : Prop := fnOracleRow.holds Try.pinned (OpenSpec.ofChange fnOracleSpec)

/-- ITS FALSE NEIGHBOUR: 'it returns false'. Refute it at one input. -/
def fnOracleWrong : ChangeSpec := { name := "fnOracle", fn := fun _ => fun
  | [d1, d2] => { results := [.lit (.bool false)], args := [d1, d2] }
  | _ => none }
def FnOracleWrongFalsely : Prop := fnOracleRow.holds Try.pinned (OpenSpec.ofChange fnOracleWrong)

/-- 'laws.FnOracleBelow': WHATEVER THE INPUT: true; the input reads as it did. -/
def fnOracleBelowSpec : ChangeSpec := { name := "fnOracleBelow", fn := fun _ => fun
  | [d1, d2] => { results := [.lit (.bool true)], args := [d1, d2] }
  | _ => none }
def fnOracleBelowRow : OpenClaim := { program := "ytanmgkpgfmkobaa", sum := "492f35cc21193cee5dc05be035a479f78f879ba0f7eaba2e5feaaec2373e2a77", func := "loop.example/pub-g01501/laws.FnOracleBelow", spec := "fnOracleBelow", inPlace := ["internal/reflectlite.ValueOf", "internal/reflectlite.Swapper", "(internal/reflectlite.Value).Len"], unfollowed := true, recurses := true, apart := false }
def FnOracleBelowSaid : Prop := fnOracleBelowRow.holds Try.pinned (OpenSpec.ofChange fnOracleBelowSpec)

/-- ITS FALSE NEIGHBOUR: 'it returns false'. Refute it at one input. -/
def fnOracleBelowWrong : ChangeSpec := { name := "fnOracleBelow", fn := fun _ => fun
  | [d1, d2] => { results := [.lit (.bool false)], args := [d1, d2] }
  | _ => none }
def FnOracleBelowWrongFalsely : Prop := fnOracleBelowRow.holds Try.pinned (OpenSpec.ofChange fnOracleBelowWrong)

/-- 'laws.FnOracleSerial': WHATEVER THE INPUT: true; the input reads as it did. -/
def fnOracleSerialSpec : ChangeSpec := { name := "fnOracleSerial", fn := fun _ => fun
  | [d] => { results := [.lit (.bool true)], args := [d] }
  | _ => none }
def fnOracleSerialRow : OpenClaim := { program := "ytanmgkpgfmkobaa", sum := "492f35cc21193cee5dc05be035a479f78f879ba0f7eaba2e5feaaec2373e2a77", func := "loop.example/pub-g01501/laws.FnOracleSerial", spec := "fnOracleSerial", inPlace := ["internal/reflectlite.ValueOf", "internal/reflectlite.Swapper", "(internal/reflectlite.Value).Len"], unfollowed := true, recurses := true, apart := false }
def FnOracleSerialSaid : Prop := fnOracleSerialRow.holds Try.pinned (OpenSpec.ofChange fnOracleSerialSpec)

/-- ITS FALSE NEIGHBOUR: 'it returns false'. Refute it at one input. -/
def fnOracleSerialWrong : ChangeSpec := { name := "fnOracleSerial", fn := fun _ => fun
  | [d] => { results := [.lit (.bool false)], args := [d] }
  | _ => none }
def FnOracleSerialWrongFalsely : Prop := fnOracleSerialRow.holds Try.pinned (OpenSpec.ofChange fnOracleSerialWrong)

/-- 'laws.FnSkipHeights': WHATEVER THE INPUT: true; the input reads as it did. -/
def fnSkipHeightsSpec : ChangeSpec := { name := "fnSkipHeights", fn := fun _ => fun
  | [d1, d2, d3, d4, d5] => { results := [.lit (.bool true)], args := [d1, d2, d3, d4, d5] }
  | _ => none }
def fnSkipHeightsRow : OpenClaim := { program := "ytanmgkpgfmkobaa", sum := "492f35cc21193cee5dc05be035a479f78f879ba0f7eaba2e5feaaec2373e2a77", func := "loop.example/pub-g01501/laws.FnSkipHeights", spec := "fnSkipHeights", inPlace := ["internal/bytealg.Compare"], unfollowed := true, recurses := true, apart := false }
def FnSkipHeightsSaid : Prop := fnSkipHeightsRow.holds Try.pinned (OpenSpec.ofChange fnSkipHeightsSpec)

/-- ITS FALSE NEIGHBOUR: 'it returns false'. Refute it at one input. -/
def fnSkipHeightsWrong : ChangeSpec := { name := "fnSkipHeights", fn := fun _ => fun
  | [d1, d2, d3, d4, d5] => { results := [.lit (.bool false)], args := [d1, d2, d3, d4, d5] }
  | _ => none }
def FnSkipHeightsWrongFalsely : Prop := fnSkipHeightsRow.holds Try.pinned (OpenSpec.ofChange fnSkipHeightsWrong)

/-- 'laws.FnSkipOne': WHATEVER THE INPUT: true; the input reads as it did. -/
def fnSkipOneSpec : ChangeSpec := { name := "fnSkipOne", fn := fun _ => fun
  | [d1, d2, d3, d4] => { results := [.lit (.bool true)], args := [d1, d2, d3, d4] }
  | _ => none }
def fnSkipOneRow : OpenClaim := { program := "ytanmgkpgfmkobaa", sum := "492f35cc21193cee5dc05be035a479f78f879ba0f7eaba2e5feaaec2373e2a77", func := "loop.example/pub-g01501/laws.FnSkipOne", spec := "fnSkipOne", inPlace := ["internal/bytealg.Compare"], unfollowed := true, recurses := true, apart := false }
def FnSkipOneSaid : Prop := fnSkipOneRow.holds Try.pinned (OpenSpec.ofChange fnSkipOneSpec)

/-- ITS FALSE NEIGHBOUR: 'it returns false'. Refute it at one input. -/
def fnSkipOneWrong : ChangeSpec := { name := "fnSkipOne", fn := fun _ => fun
  | [d1, d2, d3, d4] => { results := [.lit (.bool false)], args := [d1, d2, d3, d4] }
  | _ => none }
def FnSkipOneWrongFalsely : Prop := fnSkipOneRow.holds Try.pinned (OpenSpec.ofChange fnSkipOneWrong)

/- THE SECOND FORM. 'bulk': how many values and letters a reading holds, each counted each time it is reached (what is shared counts as often as it is met; a slice's spare places count too). A statement '..UptoSaid' is the law's where the arguments, and the package variables that the reading takes, are together of bulk at most 1048576: NARROWER than '..Said'. Prove '..Said' where nothing that the law and all that it calls make is longer than what came in: it says more and counts as full. Else prove '..UptoSaid'. A law counts once. -/
mutual
def uptoBulk {H : Type} : DataW H → Nat
  | .lit (.string bytes) => bytes.length + 1
  | .lit _ => 1
  | .nil => 1
  | .ptr d => uptoBulk d + 1
  | .slice elems spare => uptoBulkAll elems + uptoBulkAll spare + 1
  | .agg parts => uptoBulkAll parts + 1
  | .iface _ d => uptoBulk d + 1
  | .map entries => uptoBulkEntries entries + 1
  | .held _ => 1
def uptoBulkAll {H : Type} : List (DataW H) → Nat
  | [] => 0
  | d :: r => uptoBulk d + uptoBulkAll r
def uptoBulkEntries {H : Type} : List (Lit × DataW H) → Nat
  | [] => 0
  | x :: r => uptoBulkEntry x + uptoBulkEntries r
def uptoBulkEntry {H : Type} : Lit × DataW H → Nat
  | (.string bytes, d) => bytes.length + uptoBulk d + 1
  | (_, d) => uptoBulk d + 1
 end
def uptoSmall : (H : Type) → List (DataW H) → Bool := fun _ ds => decide (uptoBulkAll ds ≤ 1048576)
def OpenSpec.upto (s : _root_.Go.ChangeSpec) : _root_.Go.OpenSpec := { _root_.Go.OpenSpec.ofChange s with cond := some uptoSmall }

/-- 'laws.FnSkipEmpty', WHERE WHAT IT READS IS OF BULK AT MOST 1048576: true; the input reads as it did. -/
def fnSkipEmptyUptoRow : OpenClaim := { program := "ytanmgkpgfmkobaa", sum := "492f35cc21193cee5dc05be035a479f78f879ba0f7eaba2e5feaaec2373e2a77", func := "loop.example/pub-g01501/laws.FnSkipEmpty", spec := "fnSkipEmpty", inPlace := ["internal/bytealg.Compare"], apart := false, narrowed := true }
def FnSkipEmptyUptoSaid : Prop := fnSkipEmptyUptoRow.holds Try.pinned (OpenSpec.upto fnSkipEmptySpec)

/-- 'laws.FnSkipGet', WHERE WHAT IT READS IS OF BULK AT MOST 1048576: true; the input reads as it did. -/
def fnSkipGetUptoRow : OpenClaim := { program := "ytanmgkpgfmkobaa", sum := "492f35cc21193cee5dc05be035a479f78f879ba0f7eaba2e5feaaec2373e2a77", func := "loop.example/pub-g01501/laws.FnSkipGet", spec := "fnSkipGet", inPlace := ["internal/bytealg.Compare"], apart := false, narrowed := true }
def FnSkipGetUptoSaid : Prop := fnSkipGetUptoRow.holds Try.pinned (OpenSpec.upto fnSkipGetSpec)

/-- 'laws.FnSkipSteps', WHERE WHAT IT READS IS OF BULK AT MOST 1048576: true; the input reads as it did. -/
def fnSkipStepsUptoRow : OpenClaim := { program := "ytanmgkpgfmkobaa", sum := "492f35cc21193cee5dc05be035a479f78f879ba0f7eaba2e5feaaec2373e2a77", func := "loop.example/pub-g01501/laws.FnSkipSteps", spec := "fnSkipSteps", inPlace := ["internal/bytealg.Compare"], unfollowed := true, recurses := true, apart := false, narrowed := true }
def FnSkipStepsUptoSaid : Prop := fnSkipStepsUptoRow.holds Try.pinned (OpenSpec.upto fnSkipStepsSpec)

/-- 'laws.FnOracle', WHERE WHAT IT READS IS OF BULK AT MOST 1048576: true; the input reads as it did. -/
def fnOracleUptoRow : OpenClaim := { program := "ytanmgkpgfmkobaa", sum := "492f35cc21193cee5dc05be035a479f78f879ba0f7eaba2e5feaaec2373e2a77", func := "loop.example/pub-g01501/laws.FnOracle", spec := "fnOracle", inPlace := ["internal/reflectlite.ValueOf", "internal/reflectlite.Swapper", "(internal/reflectlite.Value).Len"], unfollowed := true, recurses := true, apart := false, narrowed := true }
def FnOracleUptoSaid : Prop := fnOracleUptoRow.holds Try.pinned (OpenSpec.upto fnOracleSpec)

/-- 'laws.FnOracleBelow', WHERE WHAT IT READS IS OF BULK AT MOST 1048576: true; the input reads as it did. -/
def fnOracleBelowUptoRow : OpenClaim := { program := "ytanmgkpgfmkobaa", sum := "492f35cc21193cee5dc05be035a479f78f879ba0f7eaba2e5feaaec2373e2a77", func := "loop.example/pub-g01501/laws.FnOracleBelow", spec := "fnOracleBelow", inPlace := ["internal/reflectlite.ValueOf", "internal/reflectlite.Swapper", "(internal/reflectlite.Value).Len"], unfollowed := true, recurses := true, apart := false, narrowed := true }
def FnOracleBelowUptoSaid : Prop := fnOracleBelowUptoRow.holds Try.pinned (OpenSpec.upto fnOracleBelowSpec)

/-- 'laws.FnOracleSerial', WHERE WHAT IT READS IS OF BULK AT MOST 1048576: true; the input reads as it did. -/
def fnOracleSerialUptoRow : OpenClaim := { program := "ytanmgkpgfmkobaa", sum := "492f35cc21193cee5dc05be035a479f78f879ba0f7eaba2e5feaaec2373e2a77", func := "loop.example/pub-g01501/laws.FnOracleSerial", spec := "fnOracleSerial", inPlace := ["internal/reflectlite.ValueOf", "internal/reflectlite.Swapper", "(internal/reflectlite.Value).Len"], unfollowed := true, recurses := true, apart := false, narrowed := true }
def FnOracleSerialUptoSaid : Prop := fnOracleSerialUptoRow.holds Try.pinned (OpenSpec.upto fnOracleSerialSpec)

/-- 'laws.FnSkipHeights', WHERE WHAT IT READS IS OF BULK AT MOST 1048576: true; the input reads as it did. -/
def fnSkipHeightsUptoRow : OpenClaim := { program := "ytanmgkpgfmkobaa", sum := "492f35cc21193cee5dc05be035a479f78f879ba0f7eaba2e5feaaec2373e2a77", func := "loop.example/pub-g01501/laws.FnSkipHeights", spec := "fnSkipHeights", inPlace := ["internal/bytealg.Compare"], unfollowed := true, recurses := true, apart := false, narrowed := true }
def FnSkipHeightsUptoSaid : Prop := fnSkipHeightsUptoRow.holds Try.pinned (OpenSpec.upto fnSkipHeightsSpec)

/-- 'laws.FnSkipOne', WHERE WHAT IT READS IS OF BULK AT MOST 1048576: true; the input reads as it did. -/
def fnSkipOneUptoRow : OpenClaim := { program := "ytanmgkpgfmkobaa", sum := "492f35cc21193cee5dc05be035a479f78f879ba0f7eaba2e5feaaec2373e2a77", func := "loop.example/pub-g01501/laws.FnSkipOne", spec := "fnSkipOne", inPlace := ["internal/bytealg.Compare"], unfollowed := true, recurses := true, apart := false, narrowed := true }
def FnSkipOneUptoSaid : Prop := fnSkipOneUptoRow.holds Try.pinned (OpenSpec.upto fnSkipOneSpec)

end Rows
end Go.Proofs.Ytanmgkpgfmkobaa
