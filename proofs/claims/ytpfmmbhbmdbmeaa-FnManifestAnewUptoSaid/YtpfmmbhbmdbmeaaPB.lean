/- Short words for whether an operation is done. -/
import Derived.Test.YtpfmmbhbmdbmeaaWWords
import Derived.Test.YtpfmmbhbmdbmeaaWLast
import Derived.Test.YtpfmmbhbmdbmeaaWTab
namespace Go.Proofs.YtpfmmbhbmdbmeaaW.PrintLast
abbrev tt : Bool := true
abbrev ff : Bool := false
end Go.Proofs.YtpfmmbhbmdbmeaaW.PrintLast
