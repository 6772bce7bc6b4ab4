-- Lines that a program has printed for this claim: functions as plain Lean functions, and their walks.
import Derived.Test.YtanmgkpgfmkobaaProg
import Derived.Below
import Derived.Deep.Draws
import Derived.Deep.AppendLies
import Derived.Maps.AppendAt
import Derived.OwnWalk
import Derived.Laws.BytesArg
import Derived.Laws.MakeOwn
import Derived.Laws.OwnMore
import Derived.Deep.OwnRows
import Derived.Tactics
import Derived.Lib.ConvBytes
import Derived.Laws.Slices
import Derived.WalkKit
import Derived.KernelRfl
import Derived.RowKit3
import Derived.Deep.LoopGhost
import Derived.Deep.QuietTactic
import Derived.BigQuiet
import Derived.WideLaws
import Derived.Deep.DeepCutAuto
import Derived.Deep.CutBlock
import Derived.Deep.RegionHeld3
import Derived.Laws.Rows
import Derived.Lib.AppendStr
import Derived.ArgAppend
import Derived.Laws.IdiomCopy
import Derived.OrdersHeld
import Derived.Laws.BitsLemmas
import Derived.RowKit
import Derived.Test.YtanmgkpgfmkobaaWWords
import Derived.Test.YtanmgkpgfmkobaaWLast
import Derived.Test.YtanmgkpgfmkobaaWTab
import Derived.Test.YtanmgkpgfmkobaaWFour
import Derived.Test.YtanmgkpgfmkobaaWQPut
import Derived.Test.YtanmgkpgfmkobaaWApart
import Derived.Test.YtanmgkpgfmkobaaWArr
import Derived.Test.YtanmgkpgfmkobaaWZeros
import Derived.Test.YtanmgkpgfmkobaaWFoot
import Derived.Test.YtanmgkpgfmkobaaWKept
import Derived.Test.YtanmgkpgfmkobaaWShare
import Derived.Test.YtanmgkpgfmkobaaWN
import Derived.Test.YtanmgkpgfmkobaaWFootNe
import Derived.Test.YtanmgkpgfmkobaaWAt
import Derived.Test.YtanmgkpgfmkobaaWEqStruct
import Derived.Test.YtanmgkpgfmkobaaWRepsOne
import Derived.Test.YtanmgkpgfmkobaaWInv
import Derived.Test.YtanmgkpgfmkobaaWInvWords
import Derived.Test.YtanmgkpgfmkobaaWGuard
import Derived.Test.YtanmgkpgfmkobaaWNEv
import Derived.Test.YtanmgkpgfmkobaaWMore
import Derived.Test.YtanmgkpgfmkobaaGX
namespace Go.Proofs.YtanmgkpgfmkobaaQ.QV
open Go.RowKit Go.Proofs.YtanmgkpgfmkobaaQ.Ext Go.Proofs.YtanmgkpgfmkobaaW.PrintWords Go.Proofs.YtanmgkpgfmkobaaW.PrintLast Go.Proofs.YtanmgkpgfmkobaaW.PrintMore
attribute [local go_sem] max2_int min2_int max_two min_two max_three min_three max_four min_four   -- for this text's walks alone
set_option linter.unusedVariables false
set_option linter.unusedSimpArgs false



def errW : Option Int → Value
  | none => .nilIface
  | some c => .iface 0 (.int .i64 c)
theorem errW_none : errW none = .nilIface := rfl
theorem errW_some (c : Int) : errW (some c) = .iface 0 (.int .i64 c) := rfl

-- the values' own types
def rd_L2 (xs : List (List Int)) (i : Int) : (List Int) := xs.getD i.toNat ([] : List Int)
theorem at_L2 {w : World} {A : Option Addr} {n : Nat} {xs : List (List Int)} (h : Kd.C (Kd.slice 5 (Kd.int .u8)) w A n xs) (i : Int) (h0 : 0 ≤ i) (h1 : i < n) : ∃ ad A0 c0, A = some ad ∧ w.cell? (ad.add i.toNat) = some (.slice A0 (rd_L2 xs i).length c0) ∧ (rd_L2 xs i).length ≤ c0 ∧ (Kd.int .u8).C w A0 (rd_L2 xs i).length (rd_L2 xs i) := by
  obtain ⟨ad, c, e, _, hK, hc0⟩ := Kd.C_get h ([] : List Int) i h0 h1
  have hc : ∀ j u, c[j]? = some u → w.cell? (ad.add (i.toNat * 1 + j)) = some u := hc0
  obtain ⟨A0, c0, rfl, l0, g0⟩ := hK
  exact ⟨ad, A0, c0, e, by have hq := hc 0 _ rfl; rwa [Nat.mul_one, Nat.add_zero] at hq, l0, g0⟩

/-! #### struct type 30 -/
structure S30 where
  f0 : Int
  f1 : Int
  f2 : Int
  f3 : (List Int)
def z30 : S30 := ⟨(0 : Int), (0 : Int), (0 : Int), ([] : List Int)⟩
def k30 : Kd S30 := Kd.iso (Kd.pair (Kd.int .u8) (Kd.pair (Kd.int .u8) (Kd.pair (Kd.int .u64) (Kd.slice 5 (Kd.int .u8))))) (fun x : S30 => (x.f0, x.f1, x.f2, x.f3))
theorem k30_open {w : World} {x : S30} {cs : List Value} (h : k30.K w x cs) : ∃ A3 c3, cs = [.int .u8 x.f0, .int .u8 x.f1, .int .u64 x.f2, .slice A3 x.f3.length c3] ∧ x.f3.length ≤ c3 ∧ (Kd.int .u8).C w A3 x.f3.length x.f3 := by
  obtain ⟨_, _, rfl, rfl, ⟨_, _, rfl, rfl, ⟨_, _, rfl, rfl, ⟨A3, c3, rfl, l3, g3⟩⟩⟩⟩ := h
  exact ⟨A3, c3, rfl, l3, g3⟩
theorem k30_openM {w : World} {base : Nat} {ok : Nat → Prop} {x : S30} {cs : List Value} (h : k30.M w base ok x cs) : ∃ v3, cs = [.int .u8 x.f0, .int .u8 x.f1, .int .u64 x.f2, v3] ∧ (Kd.int .u8).R 5 w base ok v3 x.f3 := by
  obtain ⟨_, _, rfl, rfl, ⟨_, _, rfl, rfl, ⟨_, _, rfl, rfl, ⟨v3, rfl, g3⟩⟩⟩⟩ := h
  exact ⟨v3, rfl, g3⟩
theorem k30_mk (w : World) (x : S30) {A3 : Option Addr} {c3 : Nat} (l3 : x.f3.length ≤ c3) (g3 : (Kd.int .u8).C w A3 x.f3.length x.f3) : k30.K w x [.int .u8 x.f0, .int .u8 x.f1, .int .u64 x.f2, .slice A3 x.f3.length c3] := ⟨[.int .u8 x.f0], [.int .u8 x.f1, .int .u64 x.f2, .slice A3 x.f3.length c3], rfl, rfl, ⟨[.int .u8 x.f1], [.int .u64 x.f2, .slice A3 x.f3.length c3], rfl, rfl, ⟨[.int .u64 x.f2], [.slice A3 x.f3.length c3], rfl, rfl, ⟨A3, c3, rfl, l3, g3⟩⟩⟩⟩
theorem k30_mkM (w : World) (base : Nat) (ok : Nat → Prop) (x : S30) {v3 : Value} (g3 : (Kd.int .u8).R 5 w base ok v3 x.f3) : k30.M w base ok x [.int .u8 x.f0, .int .u8 x.f1, .int .u64 x.f2, v3] := ⟨[.int .u8 x.f0], [.int .u8 x.f1, .int .u64 x.f2, v3], rfl, rfl, ⟨[.int .u8 x.f1], [.int .u64 x.f2, v3], rfl, rfl, ⟨[.int .u64 x.f2], [v3], rfl, rfl, ⟨v3, rfl, g3⟩⟩⟩⟩
def rd_T30 (xs : List S30) (i : Int) : S30 := xs.getD i.toNat z30
theorem at_T30 {w : World} {A : Option Addr} {n : Nat} {xs : List S30} (h : Kd.C k30 w A n xs) (i : Int) (h0 : 0 ≤ i) (h1 : i < n) : ∃ ad A3 c3, A = some ad ∧ w.cell? (ad.add (i.toNat * 4)) = some (.int .u8 (rd_T30 xs i).f0) ∧ w.cell? ⟨(ad.add (i.toNat * 4)).block, (ad.add (i.toNat * 4)).off + 1, none⟩ = some (.int .u8 (rd_T30 xs i).f1) ∧ w.cell? ⟨(ad.add (i.toNat * 4)).block, (ad.add (i.toNat * 4)).off + 2, none⟩ = some (.int .u64 (rd_T30 xs i).f2) ∧ w.cell? ⟨(ad.add (i.toNat * 4)).block, (ad.add (i.toNat * 4)).off + 3, none⟩ = some (.slice A3 (rd_T30 xs i).f3.length c3) ∧ (rd_T30 xs i).f3.length ≤ c3 ∧ (Kd.int .u8).C w A3 (rd_T30 xs i).f3.length (rd_T30 xs i).f3 := by
  obtain ⟨ad, c, e, _, hK, hc0⟩ := Kd.C_get h z30 i h0 h1
  have hc : ∀ j u, c[j]? = some u → w.cell? (ad.add (i.toNat * 4 + j)) = some u := hc0
  obtain ⟨A3, c3, rfl, l3, g3⟩ := k30_open hK
  exact ⟨ad, A3, c3, e, hc 0 _ rfl, by rw [← add_field _ _ 1 (by omega)]; exact hc 1 _ rfl, by rw [← add_field _ _ 2 (by omega)]; exact hc 2 _ rfl, by rw [← add_field _ _ 3 (by omega)]; exact hc 3 _ rfl, l3, g3⟩

/-! #### struct type 72 -/
structure S72 where
  f0 : Int
  f1 : Int
  f2 : Int
  f3 : (List Int)
  f4 : Int
def z72 : S72 := ⟨(0 : Int), (0 : Int), (0 : Int), ([] : List Int), (0 : Int)⟩
def k72 : Kd S72 := Kd.iso (Kd.pair (Kd.int .u8) (Kd.pair (Kd.int .u8) (Kd.pair (Kd.int .u64) (Kd.pair (Kd.slice 5 (Kd.int .u8)) (Kd.int .u64))))) (fun x : S72 => (x.f0, x.f1, x.f2, x.f3, x.f4))
theorem k72_open {w : World} {x : S72} {cs : List Value} (h : k72.K w x cs) : ∃ A3 c3, cs = [.int .u8 x.f0, .int .u8 x.f1, .int .u64 x.f2, .slice A3 x.f3.length c3, .int .u64 x.f4] ∧ x.f3.length ≤ c3 ∧ (Kd.int .u8).C w A3 x.f3.length x.f3 := by
  obtain ⟨_, _, rfl, rfl, ⟨_, _, rfl, rfl, ⟨_, _, rfl, rfl, ⟨_, _, rfl, ⟨A3, c3, rfl, l3, g3⟩, rfl⟩⟩⟩⟩ := h
  exact ⟨A3, c3, rfl, l3, g3⟩
theorem k72_openM {w : World} {base : Nat} {ok : Nat → Prop} {x : S72} {cs : List Value} (h : k72.M w base ok x cs) : ∃ v3, cs = [.int .u8 x.f0, .int .u8 x.f1, .int .u64 x.f2, v3, .int .u64 x.f4] ∧ (Kd.int .u8).R 5 w base ok v3 x.f3 := by
  obtain ⟨_, _, rfl, rfl, ⟨_, _, rfl, rfl, ⟨_, _, rfl, rfl, ⟨_, _, rfl, ⟨v3, rfl, g3⟩, rfl⟩⟩⟩⟩ := h
  exact ⟨v3, rfl, g3⟩
theorem k72_mk (w : World) (x : S72) {A3 : Option Addr} {c3 : Nat} (l3 : x.f3.length ≤ c3) (g3 : (Kd.int .u8).C w A3 x.f3.length x.f3) : k72.K w x [.int .u8 x.f0, .int .u8 x.f1, .int .u64 x.f2, .slice A3 x.f3.length c3, .int .u64 x.f4] := ⟨[.int .u8 x.f0], [.int .u8 x.f1, .int .u64 x.f2, .slice A3 x.f3.length c3, .int .u64 x.f4], rfl, rfl, ⟨[.int .u8 x.f1], [.int .u64 x.f2, .slice A3 x.f3.length c3, .int .u64 x.f4], rfl, rfl, ⟨[.int .u64 x.f2], [.slice A3 x.f3.length c3, .int .u64 x.f4], rfl, rfl, ⟨[.slice A3 x.f3.length c3], [.int .u64 x.f4], rfl, ⟨A3, c3, rfl, l3, g3⟩, rfl⟩⟩⟩⟩
theorem k72_mkM (w : World) (base : Nat) (ok : Nat → Prop) (x : S72) {v3 : Value} (g3 : (Kd.int .u8).R 5 w base ok v3 x.f3) : k72.M w base ok x [.int .u8 x.f0, .int .u8 x.f1, .int .u64 x.f2, v3, .int .u64 x.f4] := ⟨[.int .u8 x.f0], [.int .u8 x.f1, .int .u64 x.f2, v3, .int .u64 x.f4], rfl, rfl, ⟨[.int .u8 x.f1], [.int .u64 x.f2, v3, .int .u64 x.f4], rfl, rfl, ⟨[.int .u64 x.f2], [v3, .int .u64 x.f4], rfl, rfl, ⟨[v3], [.int .u64 x.f4], rfl, ⟨v3, rfl, g3⟩, rfl⟩⟩⟩⟩
def rd_T72 (xs : List S72) (i : Int) : S72 := xs.getD i.toNat z72
theorem at_T72 {w : World} {A : Option Addr} {n : Nat} {xs : List S72} (h : Kd.C k72 w A n xs) (i : Int) (h0 : 0 ≤ i) (h1 : i < n) : ∃ ad A3 c3, A = some ad ∧ w.cell? (ad.add (i.toNat * 5)) = some (.int .u8 (rd_T72 xs i).f0) ∧ w.cell? ⟨(ad.add (i.toNat * 5)).block, (ad.add (i.toNat * 5)).off + 1, none⟩ = some (.int .u8 (rd_T72 xs i).f1) ∧ w.cell? ⟨(ad.add (i.toNat * 5)).block, (ad.add (i.toNat * 5)).off + 2, none⟩ = some (.int .u64 (rd_T72 xs i).f2) ∧ w.cell? ⟨(ad.add (i.toNat * 5)).block, (ad.add (i.toNat * 5)).off + 3, none⟩ = some (.slice A3 (rd_T72 xs i).f3.length c3) ∧ w.cell? ⟨(ad.add (i.toNat * 5)).block, (ad.add (i.toNat * 5)).off + 4, none⟩ = some (.int .u64 (rd_T72 xs i).f4) ∧ (rd_T72 xs i).f3.length ≤ c3 ∧ (Kd.int .u8).C w A3 (rd_T72 xs i).f3.length (rd_T72 xs i).f3 := by
  obtain ⟨ad, c, e, _, hK, hc0⟩ := Kd.C_get h z72 i h0 h1
  have hc : ∀ j u, c[j]? = some u → w.cell? (ad.add (i.toNat * 5 + j)) = some u := hc0
  obtain ⟨A3, c3, rfl, l3, g3⟩ := k72_open hK
  exact ⟨ad, A3, c3, e, hc 0 _ rfl, by rw [← add_field _ _ 1 (by omega)]; exact hc 1 _ rfl, by rw [← add_field _ _ 2 (by omega)]; exact hc 2 _ rfl, by rw [← add_field _ _ 3 (by omega)]; exact hc 3 _ rfl, by rw [← add_field _ _ 4 (by omega)]; exact hc 4 _ rfl, l3, g3⟩

end Go.Proofs.YtanmgkpgfmkobaaQ.QV
