-- Lines that a program has printed for this claim: functions as plain Lean functions, and their walks.
import Derived.Test.YtbbncbjdpopkiaaDoorProg
import Derived.Below
import Derived.Deep.Draws
import Derived.Deep.AppendLies
import Derived.Maps.AppendAt
import Derived.OwnWalk
import Derived.Laws.BytesArg
import Derived.Laws.MakeOwn
import Derived.Laws.OwnMore
import Derived.Deep.OwnRows
import Derived.Tactics
import Derived.Lib.ConvBytes
import Derived.Laws.Slices
import Derived.WalkKit
import Derived.KernelRfl
import Derived.RowKit3
import Derived.Deep.LoopGhost
import Derived.Deep.QuietTactic
import Derived.BigQuiet
import Derived.WideLaws
import Derived.Deep.DeepCutAuto
import Derived.Deep.CutBlock
import Derived.Deep.RegionHeld3
import Derived.Laws.Rows
import Derived.Lib.AppendStr
import Derived.ArgAppend
import Derived.Laws.IdiomCopy
import Derived.OrdersHeld
import Derived.Laws.BitsLemmas
import Derived.RowKit
import Derived.Test.YtbbncbjdpopkiaaDoorWWords
import Derived.Test.YtbbncbjdpopkiaaDoorWLast
import Derived.Test.YtbbncbjdpopkiaaDoorWTab
import Derived.Test.YtbbncbjdpopkiaaDoorWFour
import Derived.Test.YtbbncbjdpopkiaaDoorWQPut
import Derived.Test.YtbbncbjdpopkiaaDoorWApart
import Derived.Test.YtbbncbjdpopkiaaDoorWArr
import Derived.Test.YtbbncbjdpopkiaaDoorWZeros
import Derived.Test.YtbbncbjdpopkiaaDoorWFoot
import Derived.Test.YtbbncbjdpopkiaaDoorWKept
import Derived.Test.YtbbncbjdpopkiaaDoorWShare
import Derived.Test.YtbbncbjdpopkiaaDoorWN
import Derived.Test.YtbbncbjdpopkiaaDoorWFootNe
import Derived.Test.YtbbncbjdpopkiaaDoorWAt
import Derived.Test.YtbbncbjdpopkiaaDoorWEqStruct
import Derived.Test.YtbbncbjdpopkiaaDoorWRepsOne
import Derived.Test.YtbbncbjdpopkiaaDoorWInv
import Derived.Test.YtbbncbjdpopkiaaDoorWInvWords
import Derived.Test.YtbbncbjdpopkiaaDoorWGuard
import Derived.Test.YtbbncbjdpopkiaaDoorWNEv
import Derived.Test.YtbbncbjdpopkiaaDoorWMore
import Derived.Test.YtbbncbjdpopkiaaDoorGX
namespace Go.Proofs.YtbbncbjdpopkiaaDoorQ.QV
open Go.RowKit Go.Proofs.YtbbncbjdpopkiaaDoorQ.Ext Go.Proofs.YtbbncbjdpopkiaaDoorW.PrintWords Go.Proofs.YtbbncbjdpopkiaaDoorW.PrintLast Go.Proofs.YtbbncbjdpopkiaaDoorW.PrintMore
attribute [local go_sem] max2_int min2_int max_two min_two max_three min_three max_four min_four   -- for this text's walks alone
set_option linter.unusedVariables false
set_option linter.unusedSimpArgs false



def errW : Option Int → Value
  | none => .nilIface
  | some c => .iface 0 (.int .i64 c)
theorem errW_none : errW none = .nilIface := rfl
theorem errW_some (c : Int) : errW (some c) = .iface 0 (.int .i64 c) := rfl

-- the values' own types
def rd_L2 (xs : List (List Int)) (i : Int) : (List Int) := xs.getD i.toNat ([] : List Int)
theorem at_L2 {w : World} {A : Option Addr} {n : Nat} {xs : List (List Int)} (h : Kd.C (Kd.slice 5 (Kd.int .u8)) w A n xs) (i : Int) (h0 : 0 ≤ i) (h1 : i < n) : ∃ ad A0 c0, A = some ad ∧ w.cell? (ad.add i.toNat) = some (.slice A0 (rd_L2 xs i).length c0) ∧ (rd_L2 xs i).length ≤ c0 ∧ (Kd.int .u8).C w A0 (rd_L2 xs i).length (rd_L2 xs i) := by
  obtain ⟨ad, c, e, _, hK, hc0⟩ := Kd.C_get h ([] : List Int) i h0 h1
  have hc : ∀ j u, c[j]? = some u → w.cell? (ad.add (i.toNat * 1 + j)) = some u := hc0
  obtain ⟨A0, c0, rfl, l0, g0⟩ := hK
  exact ⟨ad, A0, c0, e, by have hq := hc 0 _ rfl; rwa [Nat.mul_one, Nat.add_zero] at hq, l0, g0⟩

/-! #### struct type 32 -/
structure S32 where
  f0 : Int
  f1 : Int
  f2 : Int
  f3 : (List Int)
def z32 : S32 := ⟨(0 : Int), (0 : Int), (0 : Int), ([] : List Int)⟩
def k32 : Kd S32 := Kd.iso (Kd.pair (Kd.int .u8) (Kd.pair (Kd.int .u8) (Kd.pair (Kd.int .u64) (Kd.slice 5 (Kd.int .u8))))) (fun x : S32 => (x.f0, x.f1, x.f2, x.f3))
theorem k32_open {w : World} {x : S32} {cs : List Value} (h : k32.K w x cs) : ∃ A3 c3, cs = [.int .u8 x.f0, .int .u8 x.f1, .int .u64 x.f2, .slice A3 x.f3.length c3] ∧ x.f3.length ≤ c3 ∧ (Kd.int .u8).C w A3 x.f3.length x.f3 := by
  obtain ⟨_, _, rfl, rfl, ⟨_, _, rfl, rfl, ⟨_, _, rfl, rfl, ⟨A3, c3, rfl, l3, g3⟩⟩⟩⟩ := h
  exact ⟨A3, c3, rfl, l3, g3⟩
theorem k32_openM {w : World} {base : Nat} {ok : Nat → Prop} {x : S32} {cs : List Value} (h : k32.M w base ok x cs) : ∃ v3, cs = [.int .u8 x.f0, .int .u8 x.f1, .int .u64 x.f2, v3] ∧ (Kd.int .u8).R 5 w base ok v3 x.f3 := by
  obtain ⟨_, _, rfl, rfl, ⟨_, _, rfl, rfl, ⟨_, _, rfl, rfl, ⟨v3, rfl, g3⟩⟩⟩⟩ := h
  exact ⟨v3, rfl, g3⟩
theorem k32_mk (w : World) (x : S32) {A3 : Option Addr} {c3 : Nat} (l3 : x.f3.length ≤ c3) (g3 : (Kd.int .u8).C w A3 x.f3.length x.f3) : k32.K w x [.int .u8 x.f0, .int .u8 x.f1, .int .u64 x.f2, .slice A3 x.f3.length c3] := ⟨[.int .u8 x.f0], [.int .u8 x.f1, .int .u64 x.f2, .slice A3 x.f3.length c3], rfl, rfl, ⟨[.int .u8 x.f1], [.int .u64 x.f2, .slice A3 x.f3.length c3], rfl, rfl, ⟨[.int .u64 x.f2], [.slice A3 x.f3.length c3], rfl, rfl, ⟨A3, c3, rfl, l3, g3⟩⟩⟩⟩
theorem k32_mkM (w : World) (base : Nat) (ok : Nat → Prop) (x : S32) {v3 : Value} (g3 : (Kd.int .u8).R 5 w base ok v3 x.f3) : k32.M w base ok x [.int .u8 x.f0, .int .u8 x.f1, .int .u64 x.f2, v3] := ⟨[.int .u8 x.f0], [.int .u8 x.f1, .int .u64 x.f2, v3], rfl, rfl, ⟨[.int .u8 x.f1], [.int .u64 x.f2, v3], rfl, rfl, ⟨[.int .u64 x.f2], [v3], rfl, rfl, ⟨v3, rfl, g3⟩⟩⟩⟩
def rd_T32 (xs : List S32) (i : Int) : S32 := xs.getD i.toNat z32
theorem at_T32 {w : World} {A : Option Addr} {n : Nat} {xs : List S32} (h : Kd.C k32 w A n xs) (i : Int) (h0 : 0 ≤ i) (h1 : i < n) : ∃ ad A3 c3, A = some ad ∧ w.cell? (ad.add (i.toNat * 4)) = some (.int .u8 (rd_T32 xs i).f0) ∧ w.cell? ⟨(ad.add (i.toNat * 4)).block, (ad.add (i.toNat * 4)).off + 1, none⟩ = some (.int .u8 (rd_T32 xs i).f1) ∧ w.cell? ⟨(ad.add (i.toNat * 4)).block, (ad.add (i.toNat * 4)).off + 2, none⟩ = some (.int .u64 (rd_T32 xs i).f2) ∧ w.cell? ⟨(ad.add (i.toNat * 4)).block, (ad.add (i.toNat * 4)).off + 3, none⟩ = some (.slice A3 (rd_T32 xs i).f3.length c3) ∧ (rd_T32 xs i).f3.length ≤ c3 ∧ (Kd.int .u8).C w A3 (rd_T32 xs i).f3.length (rd_T32 xs i).f3 := by
  obtain ⟨ad, c, e, _, hK, hc0⟩ := Kd.C_get h z32 i h0 h1
  have hc : ∀ j u, c[j]? = some u → w.cell? (ad.add (i.toNat * 4 + j)) = some u := hc0
  obtain ⟨A3, c3, rfl, l3, g3⟩ := k32_open hK
  exact ⟨ad, A3, c3, e, hc 0 _ rfl, by rw [← add_field _ _ 1 (by omega)]; exact hc 1 _ rfl, by rw [← add_field _ _ 2 (by omega)]; exact hc 2 _ rfl, by rw [← add_field _ _ 3 (by omega)]; exact hc 3 _ rfl, l3, g3⟩

end Go.Proofs.YtbbncbjdpopkiaaDoorQ.QV
