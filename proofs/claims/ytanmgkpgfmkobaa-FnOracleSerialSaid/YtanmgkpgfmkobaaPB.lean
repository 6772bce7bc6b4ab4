/- Short words for whether an operation is done. -/
import Derived.Test.YtanmgkpgfmkobaaWWords
import Derived.Test.YtanmgkpgfmkobaaWLast
import Derived.Test.YtanmgkpgfmkobaaWTab
namespace Go.Proofs.YtanmgkpgfmkobaaW.PrintLast
abbrev tt : Bool := true
abbrev ff : Bool := false
end Go.Proofs.YtanmgkpgfmkobaaW.PrintLast
