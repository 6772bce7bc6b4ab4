/- Short words for whether an operation is done. -/
import Derived.Test.YtegaigpolhdicaaGreatWWords
import Derived.Test.YtegaigpolhdicaaGreatWB
namespace Go.Proofs.YtegaigpolhdicaaGreatW.PrintLast
abbrev tt : Bool := true
abbrev ff : Bool := false
end Go.Proofs.YtegaigpolhdicaaGreatW.PrintLast
