-- Lines that a program has printed for this claim: functions as plain Lean functions, and their walks.
import Derived.Test.YtadhdimleabljaaQS0
import Derived.Test.YtadhdimleabljaaQS1
import Derived.Test.YtadhdimleabljaaQS2
import Derived.Test.YtadhdimleabljaaQS3
namespace Go.Proofs.YtadhdimleabljaaQ.QS
open Go.RowKit Go.Proofs.YtadhdimleabljaaQ.Ext Go.Proofs.YtadhdimleabljaaW.PrintWords Go.Proofs.YtadhdimleabljaaW.PrintLast Go.Proofs.YtadhdimleabljaaW.PrintMore
attribute [local go_sem] max2_int min2_int max_two min_two max_three min_three max_four min_four   -- for this text's walks alone
set_option linter.unusedVariables false
set_option linter.unusedSimpArgs false

end Go.Proofs.YtadhdimleabljaaQ.QS
