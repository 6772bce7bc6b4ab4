-- Lines that a program has printed for this claim: functions as plain Lean functions, and their walks.
import Derived.Test.YtpfmmbhbmdbmeaaProg
import Derived.Below
import Derived.Deep.Draws
import Derived.Deep.AppendLies
import Derived.Maps.AppendAt
import Derived.OwnWalk
import Derived.Laws.BytesArg
import Derived.Laws.MakeOwn
import Derived.Laws.OwnMore
import Derived.Deep.OwnRows
import Derived.Tactics
import Derived.Lib.ConvBytes
import Derived.Laws.Slices
import Derived.WalkKit
import Derived.KernelRfl
import Derived.RowKit3
import Derived.Deep.LoopGhost
import Derived.Deep.QuietTactic
import Derived.BigQuiet
import Derived.WideLaws
import Derived.Deep.DeepCutAuto
import Derived.Deep.CutBlock
import Derived.Deep.RegionHeld3
import Derived.Laws.Rows
import Derived.Lib.AppendStr
import Derived.ArgAppend
import Derived.Laws.IdiomCopy
import Derived.OrdersHeld
import Derived.Laws.BitsLemmas
import Derived.RowKit
import Derived.Test.YtpfmmbhbmdbmeaaWWords
import Derived.Test.YtpfmmbhbmdbmeaaWLast
import Derived.Test.YtpfmmbhbmdbmeaaWTab
import Derived.Test.YtpfmmbhbmdbmeaaWFour
import Derived.Test.YtpfmmbhbmdbmeaaWQPut
import Derived.Test.YtpfmmbhbmdbmeaaWApart
import Derived.Test.YtpfmmbhbmdbmeaaWArr
import Derived.Test.YtpfmmbhbmdbmeaaWZeros
import Derived.Test.YtpfmmbhbmdbmeaaWFoot
import Derived.Test.YtpfmmbhbmdbmeaaWKept
import Derived.Test.YtpfmmbhbmdbmeaaWShare
import Derived.Test.YtpfmmbhbmdbmeaaWN
import Derived.Test.YtpfmmbhbmdbmeaaWFootNe
import Derived.Test.YtpfmmbhbmdbmeaaWAt
import Derived.Test.YtpfmmbhbmdbmeaaWEqStruct
import Derived.Test.YtpfmmbhbmdbmeaaWRepsOne
import Derived.Test.YtpfmmbhbmdbmeaaWInv
import Derived.Test.YtpfmmbhbmdbmeaaWInvWords
import Derived.Test.YtpfmmbhbmdbmeaaWGuard
import Derived.Test.YtpfmmbhbmdbmeaaWNEv
import Derived.Test.YtpfmmbhbmdbmeaaWMore
import Derived.Test.YtpfmmbhbmdbmeaaGX
namespace Go.Proofs.YtpfmmbhbmdbmeaaQ.QT
open Go.RowKit Go.Proofs.YtpfmmbhbmdbmeaaQ.Ext Go.Proofs.YtpfmmbhbmdbmeaaW.PrintWords Go.Proofs.YtpfmmbhbmdbmeaaW.PrintLast Go.Proofs.YtpfmmbhbmdbmeaaW.PrintMore
attribute [local go_sem] max2_int min2_int max_two min_two max_three min_three max_four min_four   -- for this text's walks alone
set_option linter.unusedVariables false
set_option linter.unusedSimpArgs false



def errW : Option Int → Value
  | none => .nilIface
  | some c => .iface 0 (.int .i64 c)
theorem errW_none : errW none = .nilIface := rfl
theorem errW_some (c : Int) : errW (some c) = .iface 0 (.int .i64 c) := rfl

-- the values' own types
/-! #### struct type 36 -/
structure S36 where
  f0 : Int
  f1 : Bool
  f2 : Int
  f3 : Int
  f4 : Int
def z36 : S36 := ⟨(0 : Int), false, (0 : Int), (0 : Int), (0 : Int)⟩
def k36 : Kd S36 := Kd.iso (Kd.pair (Kd.int .u64) (Kd.pair Kd.bool (Kd.pair (Kd.int .u32) (Kd.pair (Kd.int .u64) (Kd.int .u32))))) (fun x : S36 => (x.f0, x.f1, x.f2, x.f3, x.f4))
theorem k36_open {w : World} {x : S36} {cs : List Value} (h : k36.K w x cs) : cs = [.int .u64 x.f0, .bool x.f1, .int .u32 x.f2, .int .u64 x.f3, .int .u32 x.f4] := by
  obtain ⟨_, _, rfl, rfl, ⟨_, _, rfl, rfl, ⟨_, _, rfl, rfl, ⟨_, _, rfl, rfl, rfl⟩⟩⟩⟩ := h
  exact rfl
theorem k36_openM {w : World} {base : Nat} {ok : Nat → Prop} {x : S36} {cs : List Value} (h : k36.M w base ok x cs) : cs = [.int .u64 x.f0, .bool x.f1, .int .u32 x.f2, .int .u64 x.f3, .int .u32 x.f4] := by
  obtain ⟨_, _, rfl, rfl, ⟨_, _, rfl, rfl, ⟨_, _, rfl, rfl, ⟨_, _, rfl, rfl, rfl⟩⟩⟩⟩ := h
  exact rfl
theorem k36_mk (w : World) (x : S36)  : k36.K w x [.int .u64 x.f0, .bool x.f1, .int .u32 x.f2, .int .u64 x.f3, .int .u32 x.f4] := ⟨[.int .u64 x.f0], [.bool x.f1, .int .u32 x.f2, .int .u64 x.f3, .int .u32 x.f4], rfl, rfl, ⟨[.bool x.f1], [.int .u32 x.f2, .int .u64 x.f3, .int .u32 x.f4], rfl, rfl, ⟨[.int .u32 x.f2], [.int .u64 x.f3, .int .u32 x.f4], rfl, rfl, ⟨[.int .u64 x.f3], [.int .u32 x.f4], rfl, rfl, rfl⟩⟩⟩⟩
theorem k36_mkM (w : World) (base : Nat) (ok : Nat → Prop) (x : S36)  : k36.M w base ok x [.int .u64 x.f0, .bool x.f1, .int .u32 x.f2, .int .u64 x.f3, .int .u32 x.f4] := ⟨[.int .u64 x.f0], [.bool x.f1, .int .u32 x.f2, .int .u64 x.f3, .int .u32 x.f4], rfl, rfl, ⟨[.bool x.f1], [.int .u32 x.f2, .int .u64 x.f3, .int .u32 x.f4], rfl, rfl, ⟨[.int .u32 x.f2], [.int .u64 x.f3, .int .u32 x.f4], rfl, rfl, ⟨[.int .u64 x.f3], [.int .u32 x.f4], rfl, rfl, rfl⟩⟩⟩⟩
def rd_T36 (xs : List S36) (i : Int) : S36 := xs.getD i.toNat z36
theorem at_T36 {w : World} {A : Option Addr} {n : Nat} {xs : List S36} (h : Kd.C k36 w A n xs) (i : Int) (h0 : 0 ≤ i) (h1 : i < n) : ∃ ad , A = some ad ∧ w.cell? (ad.add (i.toNat * 5)) = some (.int .u64 (rd_T36 xs i).f0) ∧ w.cell? ⟨(ad.add (i.toNat * 5)).block, (ad.add (i.toNat * 5)).off + 1, none⟩ = some (.bool (rd_T36 xs i).f1) ∧ w.cell? ⟨(ad.add (i.toNat * 5)).block, (ad.add (i.toNat * 5)).off + 2, none⟩ = some (.int .u32 (rd_T36 xs i).f2) ∧ w.cell? ⟨(ad.add (i.toNat * 5)).block, (ad.add (i.toNat * 5)).off + 3, none⟩ = some (.int .u64 (rd_T36 xs i).f3) ∧ w.cell? ⟨(ad.add (i.toNat * 5)).block, (ad.add (i.toNat * 5)).off + 4, none⟩ = some (.int .u32 (rd_T36 xs i).f4) := by
  obtain ⟨ad, c, e, _, hK, hc0⟩ := Kd.C_get h z36 i h0 h1
  have hc : ∀ j u, c[j]? = some u → w.cell? (ad.add (i.toNat * 5 + j)) = some u := hc0
  obtain rfl := k36_open hK
  exact ⟨ad, e, hc 0 _ rfl, by rw [← add_field _ _ 1 (by omega)]; exact hc 1 _ rfl, by rw [← add_field _ _ 2 (by omega)]; exact hc 2 _ rfl, by rw [← add_field _ _ 3 (by omega)]; exact hc 3 _ rfl, by rw [← add_field _ _ 4 (by omega)]; exact hc 4 _ rfl⟩

def rd_L4 (xs : List (List S36)) (i : Int) : (List S36) := xs.getD i.toNat ([] : List S36)
theorem at_L4 {w : World} {A : Option Addr} {n : Nat} {xs : List (List S36)} (h : Kd.C (Kd.slice 36 k36) w A n xs) (i : Int) (h0 : 0 ≤ i) (h1 : i < n) : ∃ ad A0 c0, A = some ad ∧ w.cell? (ad.add i.toNat) = some (.slice A0 (rd_L4 xs i).length c0) ∧ (rd_L4 xs i).length ≤ c0 ∧ k36.C w A0 (rd_L4 xs i).length (rd_L4 xs i) := by
  obtain ⟨ad, c, e, _, hK, hc0⟩ := Kd.C_get h ([] : List S36) i h0 h1
  have hc : ∀ j u, c[j]? = some u → w.cell? (ad.add (i.toNat * 1 + j)) = some u := hc0
  obtain ⟨A0, c0, rfl, l0, g0⟩ := hK
  exact ⟨ad, A0, c0, e, by have hq := hc 0 _ rfl; rwa [Nat.mul_one, Nat.add_zero] at hq, l0, g0⟩

def rd_L5 (xs : List (List (List S36))) (i : Int) : (List (List S36)) := xs.getD i.toNat ([] : List (List S36))
theorem at_L5 {w : World} {A : Option Addr} {n : Nat} {xs : List (List (List S36))} (h : Kd.C (Kd.slice 24 (Kd.slice 36 k36)) w A n xs) (i : Int) (h0 : 0 ≤ i) (h1 : i < n) : ∃ ad A0 c0, A = some ad ∧ w.cell? (ad.add i.toNat) = some (.slice A0 (rd_L5 xs i).length c0) ∧ (rd_L5 xs i).length ≤ c0 ∧ (Kd.slice 36 k36).C w A0 (rd_L5 xs i).length (rd_L5 xs i) := by
  obtain ⟨ad, c, e, _, hK, hc0⟩ := Kd.C_get h ([] : List (List S36)) i h0 h1
  have hc : ∀ j u, c[j]? = some u → w.cell? (ad.add (i.toNat * 1 + j)) = some u := hc0
  obtain ⟨A0, c0, rfl, l0, g0⟩ := hK
  exact ⟨ad, A0, c0, e, by have hq := hc 0 _ rfl; rwa [Nat.mul_one, Nat.add_zero] at hq, l0, g0⟩

end Go.Proofs.YtpfmmbhbmdbmeaaQ.QT
