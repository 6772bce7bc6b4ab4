/- A log is a head of 20 bytes and the bytes of its records. -/
import Derived.Test.YtbbncbjdpopkiaaDoorL5
import Derived.Test.YtbbncbjdpopkiaaDoorWQL
namespace Go.Proofs.YtbbncbjdpopkiaaDoorQ.QL
open Go.RowKit Go.Proofs.YtbbncbjdpopkiaaDoorQ.Ext
theorem logBytes_row (x0 : List UnitS) (w0 : ∀ y ∈ x0, wf80 y) : ∃ k, laws_FnLogBytes.f k x0 = some true :=
  logBytes_plain x0 fun u hu r hr => (w0 u hu).1 r hr
end Go.Proofs.YtbbncbjdpopkiaaDoorQ.QL
