-- Lines that a program has printed for this claim: functions as plain Lean functions, and their walks.
import Derived.Test.YtpfmmbhbmdbmeaaGreatDoorQL0
namespace Go.Proofs.YtpfmmbhbmdbmeaaGreatDoorQ.QL
open Go.RowKit Go.Proofs.YtpfmmbhbmdbmeaaGreatDoorQ.Ext Go.Proofs.YtpfmmbhbmdbmeaaGreatDoorW.PrintWords Go.Proofs.YtpfmmbhbmdbmeaaGreatDoorW.PrintLast Go.Proofs.YtpfmmbhbmdbmeaaGreatDoorW.PrintMore
attribute [local go_sem] max2_int min2_int max_two min_two max_three min_three max_four min_four   -- for this text's walks alone
set_option linter.unusedVariables false
set_option linter.unusedSimpArgs false

theorem eqA60 (d : Nat) (w : World) (x0 y0 : Int) (x1 y1 : Int) (x2 y2 : Int) :
    (Op.equalIn (d + 2) 60 (.agg #[.int .u32 x0, .int .u32 x1, .int .u32 x2]) (.agg #[.int .u32 y0, .int .u32 y1, .int .u32 y2])).run Tryz.prog w = .ok (x0 == y0 && (x1 == y1 && (x2 == y2))) w := by
  refine eqA_of Tryz.underlying60 (by kernel_rfl) ?_
  refine eqf_cons (by rfl) (by go_simp; rfl) (by go_simp; rfl) (by go_simp) ?_
  refine eqf_cons (by rfl) (by go_simp; rfl) (by go_simp; rfl) (by go_simp) ?_
  exact eqf_last (by rfl) (by go_simp; rfl) (by go_simp; rfl) (by go_simp)
end Go.Proofs.YtpfmmbhbmdbmeaaGreatDoorQ.QL
