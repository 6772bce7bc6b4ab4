/- How arguments of some types come in. -/
import Derived.Test.YtadhdimleabljaaGX
import Derived.Test.YtadhdimleabljaaQB0
namespace Go.Proofs.YtadhdimleabljaaQ.QB
open Go.ChangeShapes Go.WideShapes Go.ChangeAt Go.RowKit Go.Proofs.YtadhdimleabljaaW.PrintWords Go.Proofs.YtadhdimleabljaaQ.Ext
set_option linter.unusedVariables false
theorem cz22 : Try.prog.cellsOf 22 = (Kd.int .u32).sz := by kernel_rfl
theorem cz40 : Try.prog.cellsOf 40 = (Kd.slice 22 (Kd.int .u32)).sz := by kernel_rfl
theorem cz5 : Try.prog.cellsOf 5 = (Kd.int .u8).sz := by kernel_rfl
theorem cz26 : Try.prog.cellsOf 26 = (Kd.slice 5 (Kd.int .u8)).sz := by kernel_rfl
theorem cz93 : Try.prog.cellsOf 93 = (Kd.slice 26 (Kd.slice 5 (Kd.int .u8))).sz := by kernel_rfl
end Go.Proofs.YtadhdimleabljaaQ.QB
