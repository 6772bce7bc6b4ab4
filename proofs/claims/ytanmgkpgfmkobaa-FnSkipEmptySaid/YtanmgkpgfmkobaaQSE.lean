-- Lines that a program has printed for this claim: functions as plain Lean functions, and their walks.
import Derived.Test.YtanmgkpgfmkobaaQSE0
import Derived.Test.YtanmgkpgfmkobaaQSE1
import Derived.Test.YtanmgkpgfmkobaaQSE2
namespace Go.Proofs.YtanmgkpgfmkobaaQ.QSE
open Go.RowKit Go.Proofs.YtanmgkpgfmkobaaQ.Ext Go.Proofs.YtanmgkpgfmkobaaW.PrintWords Go.Proofs.YtanmgkpgfmkobaaW.PrintLast Go.Proofs.YtanmgkpgfmkobaaW.PrintMore Go.Proofs.YtanmgkpgfmkobaaQ.QT
attribute [local go_sem] max2_int min2_int max_two min_two max_three min_three max_four min_four   -- for this text's walks alone
set_option linter.unusedVariables false
set_option linter.unusedSimpArgs false

end Go.Proofs.YtanmgkpgfmkobaaQ.QSE
