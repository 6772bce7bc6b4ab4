/- Short words for whether an operation is done. -/
import Derived.Test.YtpfmmbhbmdbmeaaGreatDoorWWords
import Derived.Test.YtpfmmbhbmdbmeaaGreatDoorWB
namespace Go.Proofs.YtpfmmbhbmdbmeaaGreatDoorW.PrintLast
abbrev tt : Bool := true
abbrev ff : Bool := false
end Go.Proofs.YtpfmmbhbmdbmeaaGreatDoorW.PrintLast
