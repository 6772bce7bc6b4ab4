/- Short words for whether an operation is done. -/
import Derived.Test.YtpfmmbhbmdbmeaaDoorWWords
import Derived.Test.YtpfmmbhbmdbmeaaDoorWLast
import Derived.Test.YtpfmmbhbmdbmeaaDoorWTab
namespace Go.Proofs.YtpfmmbhbmdbmeaaDoorW.PrintLast
abbrev tt : Bool := true
abbrev ff : Bool := false
end Go.Proofs.YtpfmmbhbmdbmeaaDoorW.PrintLast
