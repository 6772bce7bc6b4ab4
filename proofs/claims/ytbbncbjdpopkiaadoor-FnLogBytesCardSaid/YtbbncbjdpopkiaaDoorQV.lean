-- Lines that a program has printed for this claim: functions as plain Lean functions, and their walks.
import Derived.Test.YtbbncbjdpopkiaaDoorQV0
import Derived.Test.YtbbncbjdpopkiaaDoorQV1
namespace Go.Proofs.YtbbncbjdpopkiaaDoorQ.QV
open Go.RowKit Go.Proofs.YtbbncbjdpopkiaaDoorQ.Ext Go.Proofs.YtbbncbjdpopkiaaDoorW.PrintWords Go.Proofs.YtbbncbjdpopkiaaDoorW.PrintLast Go.Proofs.YtbbncbjdpopkiaaDoorW.PrintMore
attribute [local go_sem] max2_int min2_int max_two min_two max_three min_three max_four min_four   -- for this text's walks alone
set_option linter.unusedVariables false
set_option linter.unusedSimpArgs false

end Go.Proofs.YtbbncbjdpopkiaaDoorQ.QV
