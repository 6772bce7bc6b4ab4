/- Changes of the list of tables, in bytes: fields. -/
import Derived.Test.YtpfmmbhbmdbmeaaGB
import Derived.Test.YtpfmmbhbmdbmeaaGM
import Derived.Test.YtpfmmbhbmdbmeaaPB
import Derived.StillTailTactics
namespace Go.Proofs.Ytpfmmbhbmdbmeaa
open Go.RowKit
set_option linter.unusedVariables false
set_option linter.unusedSimpArgs false
theorem cell_appF {w w1 : World} {p : Addr} {v : Value} {r : Option Nat} (hg : w.grownBy w1 r) (hr : r ≠ some p.block) (h : w.cell? p = some v) : w1.cell? p = some v := by
  rw [hg.cell_far p (World.block_lt_of_cell? w _ h) (fun e => hr e.symm)]; exact h
/-- A field of a record, if it is not 0. -/
def fieldB (k v : Int) : List Int := if v = 0 then [] else k :: vint 9 v
end Go.Proofs.Ytpfmmbhbmdbmeaa
