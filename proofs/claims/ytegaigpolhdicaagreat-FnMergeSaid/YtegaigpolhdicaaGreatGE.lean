/- Texts that this claim shares with others, put together: E1 E2 E3. -/
import Derived.Test.YtegaigpolhdicaaGreatGB
import Derived.StillTailTactics
/- Values: contracts. -/
namespace Go.Proofs.YtegaigpolhdicaaGreat
open Go.RowKit
set_option linter.unusedVariables false
set_option linter.unusedSimpArgs false
/-- A value's bytes. -/
def valB (m u e : Int) (l : List Int) : List Int := [m, u] ++ (vint 9 e ++ l)
end Go.Proofs.YtegaigpolhdicaaGreat

/- Values by the specification. -/
namespace Go.Proofs.YtegaigpolhdicaaGreat
open Go.RowKit
set_option linter.unusedVariables false
set_option linter.unusedSimpArgs false
end Go.Proofs.YtegaigpolhdicaaGreat

/- Values in bytes: contracts. -/
namespace Go.Proofs.YtegaigpolhdicaaGreat
open Go.RowKit
set_option linter.unusedVariables false
set_option linter.unusedSimpArgs false
end Go.Proofs.YtegaigpolhdicaaGreat
