-- Lines that a program has printed for this claim: functions as plain Lean functions, and their walks.
import Derived.Test.YtbbncbjdpopkiaaDoorProg
import Derived.Below
import Derived.Deep.Draws
import Derived.Deep.AppendLies
import Derived.Maps.AppendAt
import Derived.OwnWalk
import Derived.Laws.BytesArg
import Derived.Laws.MakeOwn
import Derived.Laws.OwnMore
import Derived.Deep.OwnRows
import Derived.Tactics
import Derived.Lib.ConvBytes
import Derived.Laws.Slices
import Derived.WalkKit
import Derived.KernelRfl
import Derived.RowKit3
import Derived.Deep.LoopGhost
import Derived.Deep.QuietTactic
import Derived.BigQuiet
import Derived.WideLaws
import Derived.Deep.DeepCutAuto
import Derived.Deep.CutBlock
import Derived.Deep.RegionHeld3
import Derived.Laws.Rows
import Derived.Lib.AppendStr
import Derived.ArgAppend
import Derived.Laws.IdiomCopy
import Derived.OrdersHeld
import Derived.Laws.BitsLemmas
import Derived.RowKit
import Derived.Test.YtbbncbjdpopkiaaDoorWWords
import Derived.Test.YtbbncbjdpopkiaaDoorWLast
import Derived.Test.YtbbncbjdpopkiaaDoorWTab
import Derived.Test.YtbbncbjdpopkiaaDoorWFour
import Derived.Test.YtbbncbjdpopkiaaDoorWQPut
import Derived.Test.YtbbncbjdpopkiaaDoorWApart
import Derived.Test.YtbbncbjdpopkiaaDoorWArr
import Derived.Test.YtbbncbjdpopkiaaDoorWZeros
import Derived.Test.YtbbncbjdpopkiaaDoorWFoot
import Derived.Test.YtbbncbjdpopkiaaDoorWKept
import Derived.Test.YtbbncbjdpopkiaaDoorWShare
import Derived.Test.YtbbncbjdpopkiaaDoorWN
import Derived.Test.YtbbncbjdpopkiaaDoorWFootNe
import Derived.Test.YtbbncbjdpopkiaaDoorWAt
import Derived.Test.YtbbncbjdpopkiaaDoorWEqStruct
import Derived.Test.YtbbncbjdpopkiaaDoorWRepsOne
import Derived.Test.YtbbncbjdpopkiaaDoorWInv
import Derived.Test.YtbbncbjdpopkiaaDoorWInvWords
import Derived.Test.YtbbncbjdpopkiaaDoorWGuard
import Derived.Test.YtbbncbjdpopkiaaDoorWNEv
import Derived.Test.YtbbncbjdpopkiaaDoorWMore
import Derived.Test.YtbbncbjdpopkiaaDoorGX
namespace Go.Proofs.YtbbncbjdpopkiaaDoorQ.QG
open Go.RowKit Go.Proofs.YtbbncbjdpopkiaaDoorQ.Ext Go.Proofs.YtbbncbjdpopkiaaDoorW.PrintWords Go.Proofs.YtbbncbjdpopkiaaDoorW.PrintLast Go.Proofs.YtbbncbjdpopkiaaDoorW.PrintMore
attribute [local go_sem] max2_int min2_int max_two min_two max_three min_three max_four min_four   -- for this text's walks alone
set_option linter.unusedVariables false
set_option linter.unusedSimpArgs false



def errW : Option Int → Value
  | none => .nilIface
  | some c => .iface 0 (.int .i64 c)
theorem errW_none : errW none = .nilIface := rfl
theorem errW_some (c : Int) : errW (some c) = .iface 0 (.int .i64 c) := rfl

-- the values' own types
def rd_L1 (xs : List (List Int)) (i : Int) : (List Int) := xs.getD i.toNat ([] : List Int)
theorem at_L1 {w : World} {A : Option Addr} {n : Nat} {xs : List (List Int)} (h : Kd.C (Kd.slice 5 (Kd.int .u8)) w A n xs) (i : Int) (h0 : 0 ≤ i) (h1 : i < n) : ∃ ad A0 c0, A = some ad ∧ w.cell? (ad.add i.toNat) = some (.slice A0 (rd_L1 xs i).length c0) ∧ (rd_L1 xs i).length ≤ c0 ∧ (Kd.int .u8).C w A0 (rd_L1 xs i).length (rd_L1 xs i) := by
  obtain ⟨ad, c, e, _, hK, hc0⟩ := Kd.C_get h ([] : List Int) i h0 h1
  have hc : ∀ j u, c[j]? = some u → w.cell? (ad.add (i.toNat * 1 + j)) = some u := hc0
  obtain ⟨A0, c0, rfl, l0, g0⟩ := hK
  exact ⟨ad, A0, c0, e, by have hq := hc 0 _ rfl; rwa [Nat.mul_one, Nat.add_zero] at hq, l0, g0⟩

/-! #### struct type 40 -/
structure S40 where
  f0 : (List Int)
  f1 : (List Int)
  f2 : Int
  f3 : Int
  f4 : Int
def z40 : S40 := ⟨([] : List Int), ([] : List Int), (0 : Int), (0 : Int), (0 : Int)⟩
def k40 : Kd S40 := Kd.iso (Kd.pair (Kd.slice 5 (Kd.int .u8)) (Kd.pair (Kd.slice 5 (Kd.int .u8)) (Kd.pair (Kd.int .u64) (Kd.pair (Kd.int .u8) (Kd.int .u8))))) (fun x : S40 => (x.f0, x.f1, x.f2, x.f3, x.f4))
theorem k40_open {w : World} {x : S40} {cs : List Value} (h : k40.K w x cs) : ∃ A0 c0 A1 c1, cs = [.slice A0 x.f0.length c0, .slice A1 x.f1.length c1, .int .u64 x.f2, .int .u8 x.f3, .int .u8 x.f4] ∧ x.f0.length ≤ c0 ∧ (Kd.int .u8).C w A0 x.f0.length x.f0 ∧ x.f1.length ≤ c1 ∧ (Kd.int .u8).C w A1 x.f1.length x.f1 := by
  obtain ⟨_, _, rfl, ⟨A0, c0, rfl, l0, g0⟩, ⟨_, _, rfl, ⟨A1, c1, rfl, l1, g1⟩, ⟨_, _, rfl, rfl, ⟨_, _, rfl, rfl, rfl⟩⟩⟩⟩ := h
  exact ⟨A0, c0, A1, c1, rfl, l0, g0, l1, g1⟩
theorem k40_openM {w : World} {base : Nat} {ok : Nat → Prop} {x : S40} {cs : List Value} (h : k40.M w base ok x cs) : ∃ v0 v1, cs = [v0, v1, .int .u64 x.f2, .int .u8 x.f3, .int .u8 x.f4] ∧ (Kd.int .u8).R 5 w base ok v0 x.f0 ∧ (Kd.int .u8).R 5 w base ok v1 x.f1 := by
  obtain ⟨_, _, rfl, ⟨v0, rfl, g0⟩, ⟨_, _, rfl, ⟨v1, rfl, g1⟩, ⟨_, _, rfl, rfl, ⟨_, _, rfl, rfl, rfl⟩⟩⟩⟩ := h
  exact ⟨v0, v1, rfl, g0, g1⟩
theorem k40_mk (w : World) (x : S40) {A0 : Option Addr} {c0 : Nat} (l0 : x.f0.length ≤ c0) (g0 : (Kd.int .u8).C w A0 x.f0.length x.f0) {A1 : Option Addr} {c1 : Nat} (l1 : x.f1.length ≤ c1) (g1 : (Kd.int .u8).C w A1 x.f1.length x.f1) : k40.K w x [.slice A0 x.f0.length c0, .slice A1 x.f1.length c1, .int .u64 x.f2, .int .u8 x.f3, .int .u8 x.f4] := ⟨[.slice A0 x.f0.length c0], [.slice A1 x.f1.length c1, .int .u64 x.f2, .int .u8 x.f3, .int .u8 x.f4], rfl, ⟨A0, c0, rfl, l0, g0⟩, ⟨[.slice A1 x.f1.length c1], [.int .u64 x.f2, .int .u8 x.f3, .int .u8 x.f4], rfl, ⟨A1, c1, rfl, l1, g1⟩, ⟨[.int .u64 x.f2], [.int .u8 x.f3, .int .u8 x.f4], rfl, rfl, ⟨[.int .u8 x.f3], [.int .u8 x.f4], rfl, rfl, rfl⟩⟩⟩⟩
theorem k40_mkM (w : World) (base : Nat) (ok : Nat → Prop) (x : S40) {v0 : Value} (g0 : (Kd.int .u8).R 5 w base ok v0 x.f0) {v1 : Value} (g1 : (Kd.int .u8).R 5 w base ok v1 x.f1) : k40.M w base ok x [v0, v1, .int .u64 x.f2, .int .u8 x.f3, .int .u8 x.f4] := ⟨[v0], [v1, .int .u64 x.f2, .int .u8 x.f3, .int .u8 x.f4], rfl, ⟨v0, rfl, g0⟩, ⟨[v1], [.int .u64 x.f2, .int .u8 x.f3, .int .u8 x.f4], rfl, ⟨v1, rfl, g1⟩, ⟨[.int .u64 x.f2], [.int .u8 x.f3, .int .u8 x.f4], rfl, rfl, ⟨[.int .u8 x.f3], [.int .u8 x.f4], rfl, rfl, rfl⟩⟩⟩⟩
def rd_T40 (xs : List S40) (i : Int) : S40 := xs.getD i.toNat z40
theorem at_T40 {w : World} {A : Option Addr} {n : Nat} {xs : List S40} (h : Kd.C k40 w A n xs) (i : Int) (h0 : 0 ≤ i) (h1 : i < n) : ∃ ad A0 c0 A1 c1, A = some ad ∧ w.cell? (ad.add (i.toNat * 5)) = some (.slice A0 (rd_T40 xs i).f0.length c0) ∧ w.cell? ⟨(ad.add (i.toNat * 5)).block, (ad.add (i.toNat * 5)).off + 1, none⟩ = some (.slice A1 (rd_T40 xs i).f1.length c1) ∧ w.cell? ⟨(ad.add (i.toNat * 5)).block, (ad.add (i.toNat * 5)).off + 2, none⟩ = some (.int .u64 (rd_T40 xs i).f2) ∧ w.cell? ⟨(ad.add (i.toNat * 5)).block, (ad.add (i.toNat * 5)).off + 3, none⟩ = some (.int .u8 (rd_T40 xs i).f3) ∧ w.cell? ⟨(ad.add (i.toNat * 5)).block, (ad.add (i.toNat * 5)).off + 4, none⟩ = some (.int .u8 (rd_T40 xs i).f4) ∧ (rd_T40 xs i).f0.length ≤ c0 ∧ (Kd.int .u8).C w A0 (rd_T40 xs i).f0.length (rd_T40 xs i).f0 ∧ (rd_T40 xs i).f1.length ≤ c1 ∧ (Kd.int .u8).C w A1 (rd_T40 xs i).f1.length (rd_T40 xs i).f1 := by
  obtain ⟨ad, c, e, _, hK, hc0⟩ := Kd.C_get h z40 i h0 h1
  have hc : ∀ j u, c[j]? = some u → w.cell? (ad.add (i.toNat * 5 + j)) = some u := hc0
  obtain ⟨A0, c0, A1, c1, rfl, l0, g0, l1, g1⟩ := k40_open hK
  exact ⟨ad, A0, c0, A1, c1, e, hc 0 _ rfl, by rw [← add_field _ _ 1 (by omega)]; exact hc 1 _ rfl, by rw [← add_field _ _ 2 (by omega)]; exact hc 2 _ rfl, by rw [← add_field _ _ 3 (by omega)]; exact hc 3 _ rfl, by rw [← add_field _ _ 4 (by omega)]; exact hc 4 _ rfl, l0, g0, l1, g1⟩

/-! #### struct type 72 -/
structure S72 where
  f0 : (List Int)
  f1 : (List Int)
  f2 : Int
  f3 : Int
  f4 : Int
def z72 : S72 := ⟨([] : List Int), ([] : List Int), (0 : Int), (0 : Int), (0 : Int)⟩
def k72 : Kd S72 := Kd.iso (Kd.pair (Kd.slice 5 (Kd.int .u8)) (Kd.pair (Kd.slice 5 (Kd.int .u8)) (Kd.pair (Kd.int .u64) (Kd.pair (Kd.int .u8) (Kd.int .u8))))) (fun x : S72 => (x.f0, x.f1, x.f2, x.f3, x.f4))
theorem k72_open {w : World} {x : S72} {cs : List Value} (h : k72.K w x cs) : ∃ A0 c0 A1 c1, cs = [.slice A0 x.f0.length c0, .slice A1 x.f1.length c1, .int .u64 x.f2, .int .u8 x.f3, .int .u8 x.f4] ∧ x.f0.length ≤ c0 ∧ (Kd.int .u8).C w A0 x.f0.length x.f0 ∧ x.f1.length ≤ c1 ∧ (Kd.int .u8).C w A1 x.f1.length x.f1 := by
  obtain ⟨_, _, rfl, ⟨A0, c0, rfl, l0, g0⟩, ⟨_, _, rfl, ⟨A1, c1, rfl, l1, g1⟩, ⟨_, _, rfl, rfl, ⟨_, _, rfl, rfl, rfl⟩⟩⟩⟩ := h
  exact ⟨A0, c0, A1, c1, rfl, l0, g0, l1, g1⟩
theorem k72_openM {w : World} {base : Nat} {ok : Nat → Prop} {x : S72} {cs : List Value} (h : k72.M w base ok x cs) : ∃ v0 v1, cs = [v0, v1, .int .u64 x.f2, .int .u8 x.f3, .int .u8 x.f4] ∧ (Kd.int .u8).R 5 w base ok v0 x.f0 ∧ (Kd.int .u8).R 5 w base ok v1 x.f1 := by
  obtain ⟨_, _, rfl, ⟨v0, rfl, g0⟩, ⟨_, _, rfl, ⟨v1, rfl, g1⟩, ⟨_, _, rfl, rfl, ⟨_, _, rfl, rfl, rfl⟩⟩⟩⟩ := h
  exact ⟨v0, v1, rfl, g0, g1⟩
theorem k72_mk (w : World) (x : S72) {A0 : Option Addr} {c0 : Nat} (l0 : x.f0.length ≤ c0) (g0 : (Kd.int .u8).C w A0 x.f0.length x.f0) {A1 : Option Addr} {c1 : Nat} (l1 : x.f1.length ≤ c1) (g1 : (Kd.int .u8).C w A1 x.f1.length x.f1) : k72.K w x [.slice A0 x.f0.length c0, .slice A1 x.f1.length c1, .int .u64 x.f2, .int .u8 x.f3, .int .u8 x.f4] := ⟨[.slice A0 x.f0.length c0], [.slice A1 x.f1.length c1, .int .u64 x.f2, .int .u8 x.f3, .int .u8 x.f4], rfl, ⟨A0, c0, rfl, l0, g0⟩, ⟨[.slice A1 x.f1.length c1], [.int .u64 x.f2, .int .u8 x.f3, .int .u8 x.f4], rfl, ⟨A1, c1, rfl, l1, g1⟩, ⟨[.int .u64 x.f2], [.int .u8 x.f3, .int .u8 x.f4], rfl, rfl, ⟨[.int .u8 x.f3], [.int .u8 x.f4], rfl, rfl, rfl⟩⟩⟩⟩
theorem k72_mkM (w : World) (base : Nat) (ok : Nat → Prop) (x : S72) {v0 : Value} (g0 : (Kd.int .u8).R 5 w base ok v0 x.f0) {v1 : Value} (g1 : (Kd.int .u8).R 5 w base ok v1 x.f1) : k72.M w base ok x [v0, v1, .int .u64 x.f2, .int .u8 x.f3, .int .u8 x.f4] := ⟨[v0], [v1, .int .u64 x.f2, .int .u8 x.f3, .int .u8 x.f4], rfl, ⟨v0, rfl, g0⟩, ⟨[v1], [.int .u64 x.f2, .int .u8 x.f3, .int .u8 x.f4], rfl, ⟨v1, rfl, g1⟩, ⟨[.int .u64 x.f2], [.int .u8 x.f3, .int .u8 x.f4], rfl, rfl, ⟨[.int .u8 x.f3], [.int .u8 x.f4], rfl, rfl, rfl⟩⟩⟩⟩
def rd_T72 (xs : List S72) (i : Int) : S72 := xs.getD i.toNat z72
theorem at_T72 {w : World} {A : Option Addr} {n : Nat} {xs : List S72} (h : Kd.C k72 w A n xs) (i : Int) (h0 : 0 ≤ i) (h1 : i < n) : ∃ ad A0 c0 A1 c1, A = some ad ∧ w.cell? (ad.add (i.toNat * 5)) = some (.slice A0 (rd_T72 xs i).f0.length c0) ∧ w.cell? ⟨(ad.add (i.toNat * 5)).block, (ad.add (i.toNat * 5)).off + 1, none⟩ = some (.slice A1 (rd_T72 xs i).f1.length c1) ∧ w.cell? ⟨(ad.add (i.toNat * 5)).block, (ad.add (i.toNat * 5)).off + 2, none⟩ = some (.int .u64 (rd_T72 xs i).f2) ∧ w.cell? ⟨(ad.add (i.toNat * 5)).block, (ad.add (i.toNat * 5)).off + 3, none⟩ = some (.int .u8 (rd_T72 xs i).f3) ∧ w.cell? ⟨(ad.add (i.toNat * 5)).block, (ad.add (i.toNat * 5)).off + 4, none⟩ = some (.int .u8 (rd_T72 xs i).f4) ∧ (rd_T72 xs i).f0.length ≤ c0 ∧ (Kd.int .u8).C w A0 (rd_T72 xs i).f0.length (rd_T72 xs i).f0 ∧ (rd_T72 xs i).f1.length ≤ c1 ∧ (Kd.int .u8).C w A1 (rd_T72 xs i).f1.length (rd_T72 xs i).f1 := by
  obtain ⟨ad, c, e, _, hK, hc0⟩ := Kd.C_get h z72 i h0 h1
  have hc : ∀ j u, c[j]? = some u → w.cell? (ad.add (i.toNat * 5 + j)) = some u := hc0
  obtain ⟨A0, c0, A1, c1, rfl, l0, g0, l1, g1⟩ := k72_open hK
  exact ⟨ad, A0, c0, A1, c1, e, hc 0 _ rfl, by rw [← add_field _ _ 1 (by omega)]; exact hc 1 _ rfl, by rw [← add_field _ _ 2 (by omega)]; exact hc 2 _ rfl, by rw [← add_field _ _ 3 (by omega)]; exact hc 3 _ rfl, by rw [← add_field _ _ 4 (by omega)]; exact hc 4 _ rfl, l0, g0, l1, g1⟩

end Go.Proofs.YtbbncbjdpopkiaaDoorQ.QG
