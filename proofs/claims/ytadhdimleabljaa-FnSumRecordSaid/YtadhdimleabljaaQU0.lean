-- Lines that a program has printed for this claim: functions as plain Lean functions, and their walks.
import Derived.Test.YtadhdimleabljaaProg
import Derived.Below
import Derived.Deep.Draws
import Derived.Deep.AppendLies
import Derived.Maps.AppendAt
import Derived.OwnWalk
import Derived.Laws.BytesArg
import Derived.Laws.MakeOwn
import Derived.Laws.OwnMore
import Derived.Deep.OwnRows
import Derived.Tactics
import Derived.Lib.ConvBytes
import Derived.Laws.Slices
import Derived.WalkKit
import Derived.KernelRfl
import Derived.RowKit3
import Derived.Deep.LoopGhost
import Derived.Deep.QuietTactic
import Derived.BigQuiet
import Derived.WideLaws
import Derived.Deep.DeepCutAuto
import Derived.Deep.CutBlock
import Derived.Deep.RegionHeld3
import Derived.Laws.Rows
import Derived.Lib.AppendStr
import Derived.ArgAppend
import Derived.Laws.IdiomCopy
import Derived.OrdersHeld
import Derived.Laws.BitsLemmas
import Derived.RowKit
import Derived.Test.YtadhdimleabljaaWWords
import Derived.Test.YtadhdimleabljaaWLast
import Derived.Test.YtadhdimleabljaaWTab
import Derived.Test.YtadhdimleabljaaWFour
import Derived.Test.YtadhdimleabljaaWQPut
import Derived.Test.YtadhdimleabljaaWApart
import Derived.Test.YtadhdimleabljaaWArr
import Derived.Test.YtadhdimleabljaaWZeros
import Derived.Test.YtadhdimleabljaaWFoot
import Derived.Test.YtadhdimleabljaaWKept
import Derived.Test.YtadhdimleabljaaWShare
import Derived.Test.YtadhdimleabljaaWN
import Derived.Test.YtadhdimleabljaaWFootNe
import Derived.Test.YtadhdimleabljaaWAt
import Derived.Test.YtadhdimleabljaaWEqStruct
import Derived.Test.YtadhdimleabljaaWRepsOne
import Derived.Test.YtadhdimleabljaaWInv
import Derived.Test.YtadhdimleabljaaWInvWords
import Derived.Test.YtadhdimleabljaaWGuard
import Derived.Test.YtadhdimleabljaaWNEv
import Derived.Test.YtadhdimleabljaaWMore
import Derived.Test.YtadhdimleabljaaGX
import Derived.Test.YtadhdimleabljaaU6
namespace Go.Proofs.YtadhdimleabljaaQ.QU
open Go.RowKit Go.Proofs.YtadhdimleabljaaQ.Ext Go.Proofs.YtadhdimleabljaaW.PrintWords Go.Proofs.YtadhdimleabljaaW.PrintLast Go.Proofs.YtadhdimleabljaaW.PrintMore
attribute [local go_sem] max2_int min2_int max_two min_two max_three min_three max_four min_four   -- for this text's walks alone
set_option linter.unusedVariables false
set_option linter.unusedSimpArgs false



def errW : Option Int → Value
  | none => .nilIface
  | some c => .iface 0 (.int .i64 c)
theorem errW_none : errW none = .nilIface := rfl
theorem errW_some (c : Int) : errW (some c) = .iface 0 (.int .i64 c) := rfl

-- the values' own types

end Go.Proofs.YtadhdimleabljaaQ.QU
