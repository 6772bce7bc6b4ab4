-- Lines that a program has printed for this claim: functions as plain Lean functions, and their walks.
import Derived.Test.YtanmgkpgfmkobaaProg
import Derived.Below
import Derived.Deep.Draws
import Derived.Deep.AppendLies
import Derived.Maps.AppendAt
import Derived.OwnWalk
import Derived.Laws.BytesArg
import Derived.Laws.MakeOwn
import Derived.Laws.OwnMore
import Derived.Deep.OwnRows
import Derived.Tactics
import Derived.Lib.ConvBytes
import Derived.Laws.Slices
import Derived.WalkKit
import Derived.KernelRfl
import Derived.RowKit3
import Derived.Deep.LoopGhost
import Derived.Deep.QuietTactic
import Derived.BigQuiet
import Derived.WideLaws
import Derived.Deep.DeepCutAuto
import Derived.Deep.CutBlock
import Derived.Deep.RegionHeld3
import Derived.Laws.Rows
import Derived.Lib.AppendStr
import Derived.ArgAppend
import Derived.Laws.IdiomCopy
import Derived.OrdersHeld
import Derived.Laws.BitsLemmas
import Derived.RowKit
import Derived.Test.YtanmgkpgfmkobaaWWords
import Derived.Test.YtanmgkpgfmkobaaWLast
import Derived.Test.YtanmgkpgfmkobaaWTab
import Derived.Test.YtanmgkpgfmkobaaWFour
import Derived.Test.YtanmgkpgfmkobaaWQPut
import Derived.Test.YtanmgkpgfmkobaaWApart
import Derived.Test.YtanmgkpgfmkobaaWArr
import Derived.Test.YtanmgkpgfmkobaaWZeros
import Derived.Test.YtanmgkpgfmkobaaWFoot
import Derived.Test.YtanmgkpgfmkobaaWKept
import Derived.Test.YtanmgkpgfmkobaaWShare
import Derived.Test.YtanmgkpgfmkobaaWN
import Derived.Test.YtanmgkpgfmkobaaWFootNe
import Derived.Test.YtanmgkpgfmkobaaWAt
import Derived.Test.YtanmgkpgfmkobaaWEqStruct
import Derived.Test.YtanmgkpgfmkobaaWRepsOne
import Derived.Test.YtanmgkpgfmkobaaWInv
import Derived.Test.YtanmgkpgfmkobaaWInvWords
import Derived.Test.YtanmgkpgfmkobaaWGuard
import Derived.Test.YtanmgkpgfmkobaaWNEv
import Derived.Test.YtanmgkpgfmkobaaWMore
import Derived.Test.YtanmgkpgfmkobaaGX
import Derived.Test.YtanmgkpgfmkobaaX7
import Derived.Test.YtanmgkpgfmkobaaQT0
namespace Go.Proofs.YtanmgkpgfmkobaaQ.QSE
open Go.RowKit Go.Proofs.YtanmgkpgfmkobaaQ.Ext Go.Proofs.YtanmgkpgfmkobaaW.PrintWords Go.Proofs.YtanmgkpgfmkobaaW.PrintLast Go.Proofs.YtanmgkpgfmkobaaW.PrintMore Go.Proofs.YtanmgkpgfmkobaaQ.QT
attribute [local go_sem] max2_int min2_int max_two min_two max_three min_three max_four min_four   -- for this text's walks alone
set_option linter.unusedVariables false
set_option linter.unusedSimpArgs false
theorem info26 : (Try.prog.info? 26).map (fun i => (i.zero, i.size, i.bytes)) = some (some (.int .u32 0), 1, 4) := by kernel_rfl
-- the values' own types
def rd_L6 (xs : List (List Int)) (i : Int) : (List Int) := xs.getD i.toNat ([] : List Int)
theorem at_L6 {w : World} {A : Option Addr} {n : Nat} {xs : List (List Int)} (h : Kd.C (Kd.slice 26 (Kd.int .u32)) w A n xs) (i : Int) (h0 : 0 ≤ i) (h1 : i < n) : ∃ ad A0 c0, A = some ad ∧ w.cell? (ad.add i.toNat) = some (.slice A0 (rd_L6 xs i).length c0) ∧ (rd_L6 xs i).length ≤ c0 ∧ (Kd.int .u32).C w A0 (rd_L6 xs i).length (rd_L6 xs i) := by
  obtain ⟨ad, c, e, _, hK, hc0⟩ := Kd.C_get h ([] : List Int) i h0 h1
  have hc : ∀ j u, c[j]? = some u → w.cell? (ad.add (i.toNat * 1 + j)) = some u := hc0
  obtain ⟨A0, c0, rfl, l0, g0⟩ := hK
  exact ⟨ad, A0, c0, e, by have hq := hc 0 _ rfl; rwa [Nat.mul_one, Nat.add_zero] at hq, l0, g0⟩

def rd_L7 (xs : List (List S32)) (i : Int) : (List S32) := xs.getD i.toNat ([] : List S32)
theorem at_L7 {w : World} {A : Option Addr} {n : Nat} {xs : List (List S32)} (h : Kd.C (Kd.slice 32 k32) w A n xs) (i : Int) (h0 : 0 ≤ i) (h1 : i < n) : ∃ ad A0 c0, A = some ad ∧ w.cell? (ad.add i.toNat) = some (.slice A0 (rd_L7 xs i).length c0) ∧ (rd_L7 xs i).length ≤ c0 ∧ k32.C w A0 (rd_L7 xs i).length (rd_L7 xs i) := by
  obtain ⟨ad, c, e, _, hK, hc0⟩ := Kd.C_get h ([] : List S32) i h0 h1
  have hc : ∀ j u, c[j]? = some u → w.cell? (ad.add (i.toNat * 1 + j)) = some u := hc0
  obtain ⟨A0, c0, rfl, l0, g0⟩ := hK
  exact ⟨ad, A0, c0, e, by have hq := hc 0 _ rfl; rwa [Nat.mul_one, Nat.add_zero] at hq, l0, g0⟩

end Go.Proofs.YtanmgkpgfmkobaaQ.QSE
