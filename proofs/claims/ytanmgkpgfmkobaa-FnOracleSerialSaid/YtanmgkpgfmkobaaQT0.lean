-- Lines that a program has printed for this claim: functions as plain Lean functions, and their walks.
import Derived.Test.YtanmgkpgfmkobaaProg
import Derived.Below
import Derived.Deep.Draws
import Derived.Deep.AppendLies
import Derived.Maps.AppendAt
import Derived.OwnWalk
import Derived.Laws.BytesArg
import Derived.Laws.MakeOwn
import Derived.Laws.OwnMore
import Derived.Deep.OwnRows
import Derived.Tactics
import Derived.Lib.ConvBytes
import Derived.Laws.Slices
import Derived.WalkKit
import Derived.KernelRfl
import Derived.RowKit3
import Derived.Deep.LoopGhost
import Derived.Deep.QuietTactic
import Derived.BigQuiet
import Derived.WideLaws
import Derived.Deep.DeepCutAuto
import Derived.Deep.CutBlock
import Derived.Deep.RegionHeld3
import Derived.Laws.Rows
import Derived.Lib.AppendStr
import Derived.ArgAppend
import Derived.Laws.IdiomCopy
import Derived.OrdersHeld
import Derived.Laws.BitsLemmas
import Derived.RowKit
import Derived.Test.YtanmgkpgfmkobaaWWords
import Derived.Test.YtanmgkpgfmkobaaWLast
import Derived.Test.YtanmgkpgfmkobaaWTab
import Derived.Test.YtanmgkpgfmkobaaGX
namespace Go.Proofs.YtanmgkpgfmkobaaQ.QT
open Go.RowKit Go.Proofs.YtanmgkpgfmkobaaQ.Ext Go.Proofs.YtanmgkpgfmkobaaW.PrintWords Go.Proofs.YtanmgkpgfmkobaaW.PrintLast
set_option linter.unusedVariables false
set_option linter.unusedSimpArgs false



def errW : Option Int → Value
  | none => .nilIface
  | some c => .iface 0 (.int .i64 c)
theorem errW_none : errW none = .nilIface := rfl
theorem errW_some (c : Int) : errW (some c) = .iface 0 (.int .i64 c) := rfl

-- the values' own types
/-! #### struct type 55 -/
structure S55 where
  f0 : Int
  f1 : Int
  f2 : Int
def z55 : S55 := ⟨(0 : Int), (0 : Int), (0 : Int)⟩
def k55 : Kd S55 := Kd.iso (Kd.pair (Kd.int .i64) (Kd.pair (Kd.int .i64) (Kd.int .u64))) (fun x : S55 => (x.f0, x.f1, x.f2))
theorem k55_open {w : World} {x : S55} {cs : List Value} (h : k55.K w x cs) : cs = [.int .i64 x.f0, .int .i64 x.f1, .int .u64 x.f2] := by
  obtain ⟨_, _, rfl, rfl, ⟨_, _, rfl, rfl, rfl⟩⟩ := h
  exact rfl
theorem k55_openM {w : World} {base : Nat} {ok : Nat → Prop} {x : S55} {cs : List Value} (h : k55.M w base ok x cs) : cs = [.int .i64 x.f0, .int .i64 x.f1, .int .u64 x.f2] := by
  obtain ⟨_, _, rfl, rfl, ⟨_, _, rfl, rfl, rfl⟩⟩ := h
  exact rfl
theorem k55_mk (w : World) (x : S55)  : k55.K w x [.int .i64 x.f0, .int .i64 x.f1, .int .u64 x.f2] := ⟨[.int .i64 x.f0], [.int .i64 x.f1, .int .u64 x.f2], rfl, rfl, ⟨[.int .i64 x.f1], [.int .u64 x.f2], rfl, rfl, rfl⟩⟩
theorem k55_mkM (w : World) (base : Nat) (ok : Nat → Prop) (x : S55)  : k55.M w base ok x [.int .i64 x.f0, .int .i64 x.f1, .int .u64 x.f2] := ⟨[.int .i64 x.f0], [.int .i64 x.f1, .int .u64 x.f2], rfl, rfl, ⟨[.int .i64 x.f1], [.int .u64 x.f2], rfl, rfl, rfl⟩⟩
def rd_T55 (xs : List S55) (i : Int) : S55 := xs.getD i.toNat z55
theorem at_T55 {w : World} {A : Option Addr} {n : Nat} {xs : List S55} (h : Kd.C k55 w A n xs) (i : Int) (h0 : 0 ≤ i) (h1 : i < n) : ∃ ad , A = some ad ∧ w.cell? (ad.add (i.toNat * 3)) = some (.int .i64 (rd_T55 xs i).f0) ∧ w.cell? ⟨(ad.add (i.toNat * 3)).block, (ad.add (i.toNat * 3)).off + 1, none⟩ = some (.int .i64 (rd_T55 xs i).f1) ∧ w.cell? ⟨(ad.add (i.toNat * 3)).block, (ad.add (i.toNat * 3)).off + 2, none⟩ = some (.int .u64 (rd_T55 xs i).f2) := by
  obtain ⟨ad, c, e, _, hK, hc0⟩ := Kd.C_get h z55 i h0 h1
  have hc : ∀ j u, c[j]? = some u → w.cell? (ad.add (i.toNat * 3 + j)) = some u := hc0
  obtain rfl := k55_open hK
  exact ⟨ad, e, hc 0 _ rfl, by rw [← add_field _ _ 1 (by omega)]; exact hc 1 _ rfl, by rw [← add_field _ _ 2 (by omega)]; exact hc 2 _ rfl⟩

def rd_L3 (xs : List (List S55)) (i : Int) : (List S55) := xs.getD i.toNat ([] : List S55)
theorem at_L3 {w : World} {A : Option Addr} {n : Nat} {xs : List (List S55)} (h : Kd.C (Kd.slice 55 k55) w A n xs) (i : Int) (h0 : 0 ≤ i) (h1 : i < n) : ∃ ad A0 c0, A = some ad ∧ w.cell? (ad.add i.toNat) = some (.slice A0 (rd_L3 xs i).length c0) ∧ (rd_L3 xs i).length ≤ c0 ∧ k55.C w A0 (rd_L3 xs i).length (rd_L3 xs i) := by
  obtain ⟨ad, c, e, _, hK, hc0⟩ := Kd.C_get h ([] : List S55) i h0 h1
  have hc : ∀ j u, c[j]? = some u → w.cell? (ad.add (i.toNat * 1 + j)) = some u := hc0
  obtain ⟨A0, c0, rfl, l0, g0⟩ := hK
  exact ⟨ad, A0, c0, e, by have hq := hc 0 _ rfl; rwa [Nat.mul_one, Nat.add_zero] at hq, l0, g0⟩

end Go.Proofs.YtanmgkpgfmkobaaQ.QT
