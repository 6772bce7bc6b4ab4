-- Lines that a program has printed for this claim: functions as plain Lean functions, and their walks.
import Derived.Test.YtegaigpolhdicaaGreatQV0
import Derived.Test.YtegaigpolhdicaaGreatQV1
namespace Go.Proofs.YtegaigpolhdicaaGreatQ.QV
open Go.RowKit Go.Proofs.YtegaigpolhdicaaGreatQ.Ext Go.Proofs.YtegaigpolhdicaaGreatW.PrintWords Go.Proofs.YtegaigpolhdicaaGreatW.PrintLast
set_option linter.unusedVariables false
set_option linter.unusedSimpArgs false

end Go.Proofs.YtegaigpolhdicaaGreatQ.QV
