-- Lines that a program has printed for this claim: functions as plain Lean functions, and their walks.
import Derived.Test.YtanmgkpgfmkobaaQV0
import Derived.Test.YtanmgkpgfmkobaaQV1
namespace Go.Proofs.YtanmgkpgfmkobaaQ.QV
open Go.RowKit Go.Proofs.YtanmgkpgfmkobaaQ.Ext Go.Proofs.YtanmgkpgfmkobaaW.PrintWords Go.Proofs.YtanmgkpgfmkobaaW.PrintLast
set_option linter.unusedVariables false
set_option linter.unusedSimpArgs false

end Go.Proofs.YtanmgkpgfmkobaaQ.QV
