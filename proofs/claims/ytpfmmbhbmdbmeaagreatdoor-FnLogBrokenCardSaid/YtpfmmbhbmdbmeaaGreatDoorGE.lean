/- Texts that this claim shares with others, put together: E1 E2 E3. -/
import Derived.Test.YtpfmmbhbmdbmeaaGreatDoorGB
import Derived.StillTailTactics
/- Values: contracts. -/
namespace Go.Proofs.YtpfmmbhbmdbmeaaGreatDoor
open Go.RowKit
set_option linter.unusedVariables false
set_option linter.unusedSimpArgs false
end Go.Proofs.YtpfmmbhbmdbmeaaGreatDoor

/- Values by the specification. -/
namespace Go.Proofs.YtpfmmbhbmdbmeaaGreatDoor
open Go.RowKit
set_option linter.unusedVariables false
set_option linter.unusedSimpArgs false
end Go.Proofs.YtpfmmbhbmdbmeaaGreatDoor

/- Values in bytes: contracts. -/
namespace Go.Proofs.YtpfmmbhbmdbmeaaGreatDoor
open Go.RowKit
set_option linter.unusedVariables false
set_option linter.unusedSimpArgs false
end Go.Proofs.YtpfmmbhbmdbmeaaGreatDoor
