-- Lines that a program has printed for this claim: functions as plain Lean functions, and their walks.
import Derived.Test.YtanmgkpgfmkobaaProg
import Derived.Below
import Derived.Deep.Draws
import Derived.Deep.AppendLies
import Derived.Maps.AppendAt
import Derived.OwnWalk
import Derived.Laws.BytesArg
import Derived.Laws.MakeOwn
import Derived.Laws.OwnMore
import Derived.Deep.OwnRows
import Derived.Tactics
import Derived.Lib.ConvBytes
import Derived.Laws.Slices
import Derived.WalkKit
import Derived.KernelRfl
import Derived.RowKit3
import Derived.Deep.LoopGhost
import Derived.Deep.QuietTactic
import Derived.BigQuiet
import Derived.WideLaws
import Derived.Deep.DeepCutAuto
import Derived.Deep.CutBlock
import Derived.Deep.RegionHeld3
import Derived.Laws.Rows
import Derived.Lib.AppendStr
import Derived.ArgAppend
import Derived.Laws.IdiomCopy
import Derived.OrdersHeld
import Derived.Laws.BitsLemmas
import Derived.RowKit
import Derived.Test.YtanmgkpgfmkobaaWWords
import Derived.Test.YtanmgkpgfmkobaaWLast
import Derived.Test.YtanmgkpgfmkobaaWTab
import Derived.Test.YtanmgkpgfmkobaaWFour
import Derived.Test.YtanmgkpgfmkobaaWQPut
import Derived.Test.YtanmgkpgfmkobaaWApart
import Derived.Test.YtanmgkpgfmkobaaWArr
import Derived.Test.YtanmgkpgfmkobaaWZeros
import Derived.Test.YtanmgkpgfmkobaaWFoot
import Derived.Test.YtanmgkpgfmkobaaWKept
import Derived.Test.YtanmgkpgfmkobaaWShare
import Derived.Test.YtanmgkpgfmkobaaWN
import Derived.Test.YtanmgkpgfmkobaaWFootNe
import Derived.Test.YtanmgkpgfmkobaaWAt
import Derived.Test.YtanmgkpgfmkobaaWEqStruct
import Derived.Test.YtanmgkpgfmkobaaWRepsOne
import Derived.Test.YtanmgkpgfmkobaaWInv
import Derived.Test.YtanmgkpgfmkobaaWInvWords
import Derived.Test.YtanmgkpgfmkobaaWGuard
import Derived.Test.YtanmgkpgfmkobaaWNEv
import Derived.Test.YtanmgkpgfmkobaaWMore
import Derived.Test.YtanmgkpgfmkobaaGX
namespace Go.Proofs.YtanmgkpgfmkobaaQ.QT
open Go.RowKit Go.Proofs.YtanmgkpgfmkobaaQ.Ext Go.Proofs.YtanmgkpgfmkobaaW.PrintWords Go.Proofs.YtanmgkpgfmkobaaW.PrintLast Go.Proofs.YtanmgkpgfmkobaaW.PrintMore
attribute [local go_sem] max2_int min2_int max_two min_two max_three min_three max_four min_four   -- for this text's walks alone
set_option linter.unusedVariables false
set_option linter.unusedSimpArgs false



def errW : Option Int → Value
  | none => .nilIface
  | some c => .iface 0 (.int .i64 c)
theorem errW_none : errW none = .nilIface := rfl
theorem errW_some (c : Int) : errW (some c) = .iface 0 (.int .i64 c) := rfl

theorem info32 : (Try.prog.info? 32).map (fun i => (i.zero, i.size, i.bytes)) = some (some (.agg #[(.slice none 0 0), (.int .u64 0), (.int .u8 0), (.int .u8 0), (.int .u64 0), (.slice none 0 0)]), 6, 72) := by kernel_rfl
theorem info82 : (Try.prog.info? 82).map (fun i => (i.zero, i.size, i.bytes)) = some (some (.agg #[(.bool false), (.slice none 0 0), (.int .u64 0), (.int .u8 0), (.int .u8 0), (.int .u64 0), (.slice none 0 0)]), 7, 80) := by kernel_rfl
-- the values' own types
def rd_L1 (xs : List (List Int)) (i : Int) : (List Int) := xs.getD i.toNat ([] : List Int)
theorem at_L1 {w : World} {A : Option Addr} {n : Nat} {xs : List (List Int)} (h : Kd.C (Kd.slice 5 (Kd.int .u8)) w A n xs) (i : Int) (h0 : 0 ≤ i) (h1 : i < n) : ∃ ad A0 c0, A = some ad ∧ w.cell? (ad.add i.toNat) = some (.slice A0 (rd_L1 xs i).length c0) ∧ (rd_L1 xs i).length ≤ c0 ∧ (Kd.int .u8).C w A0 (rd_L1 xs i).length (rd_L1 xs i) := by
  obtain ⟨ad, c, e, _, hK, hc0⟩ := Kd.C_get h ([] : List Int) i h0 h1
  have hc : ∀ j u, c[j]? = some u → w.cell? (ad.add (i.toNat * 1 + j)) = some u := hc0
  obtain ⟨A0, c0, rfl, l0, g0⟩ := hK
  exact ⟨ad, A0, c0, e, by have hq := hc 0 _ rfl; rwa [Nat.mul_one, Nat.add_zero] at hq, l0, g0⟩

/-! #### struct type 30 -/
structure S30 where
  f0 : Int
  f1 : Int
  f2 : Int
  f3 : (List Int)
def z30 : S30 := ⟨(0 : Int), (0 : Int), (0 : Int), ([] : List Int)⟩
def k30 : Kd S30 := Kd.iso (Kd.pair (Kd.int .u8) (Kd.pair (Kd.int .u8) (Kd.pair (Kd.int .u64) (Kd.slice 5 (Kd.int .u8))))) (fun x : S30 => (x.f0, x.f1, x.f2, x.f3))
theorem k30_open {w : World} {x : S30} {cs : List Value} (h : k30.K w x cs) : ∃ A3 c3, cs = [.int .u8 x.f0, .int .u8 x.f1, .int .u64 x.f2, .slice A3 x.f3.length c3] ∧ x.f3.length ≤ c3 ∧ (Kd.int .u8).C w A3 x.f3.length x.f3 := by
  obtain ⟨_, _, rfl, rfl, ⟨_, _, rfl, rfl, ⟨_, _, rfl, rfl, ⟨A3, c3, rfl, l3, g3⟩⟩⟩⟩ := h
  exact ⟨A3, c3, rfl, l3, g3⟩
theorem k30_openM {w : World} {base : Nat} {ok : Nat → Prop} {x : S30} {cs : List Value} (h : k30.M w base ok x cs) : ∃ v3, cs = [.int .u8 x.f0, .int .u8 x.f1, .int .u64 x.f2, v3] ∧ (Kd.int .u8).R 5 w base ok v3 x.f3 := by
  obtain ⟨_, _, rfl, rfl, ⟨_, _, rfl, rfl, ⟨_, _, rfl, rfl, ⟨v3, rfl, g3⟩⟩⟩⟩ := h
  exact ⟨v3, rfl, g3⟩
theorem k30_mk (w : World) (x : S30) {A3 : Option Addr} {c3 : Nat} (l3 : x.f3.length ≤ c3) (g3 : (Kd.int .u8).C w A3 x.f3.length x.f3) : k30.K w x [.int .u8 x.f0, .int .u8 x.f1, .int .u64 x.f2, .slice A3 x.f3.length c3] := ⟨[.int .u8 x.f0], [.int .u8 x.f1, .int .u64 x.f2, .slice A3 x.f3.length c3], rfl, rfl, ⟨[.int .u8 x.f1], [.int .u64 x.f2, .slice A3 x.f3.length c3], rfl, rfl, ⟨[.int .u64 x.f2], [.slice A3 x.f3.length c3], rfl, rfl, ⟨A3, c3, rfl, l3, g3⟩⟩⟩⟩
theorem k30_mkM (w : World) (base : Nat) (ok : Nat → Prop) (x : S30) {v3 : Value} (g3 : (Kd.int .u8).R 5 w base ok v3 x.f3) : k30.M w base ok x [.int .u8 x.f0, .int .u8 x.f1, .int .u64 x.f2, v3] := ⟨[.int .u8 x.f0], [.int .u8 x.f1, .int .u64 x.f2, v3], rfl, rfl, ⟨[.int .u8 x.f1], [.int .u64 x.f2, v3], rfl, rfl, ⟨[.int .u64 x.f2], [v3], rfl, rfl, ⟨v3, rfl, g3⟩⟩⟩⟩
theorem k30_openF {W : World} {ok : Nat → Prop} {x : S30} {cs : List Value} (h : Kd.FK k30 W ok x cs) : ∃ A3 c3, cs = [.int .u8 x.f0, .int .u8 x.f1, .int .u64 x.f2, .slice A3 x.f3.length c3] ∧ x.f3.length ≤ c3 ∧ Kd.F (Kd.int .u8) W ok A3 x.f3.length x.f3 := by
  obtain ⟨A3, c3, rfl, l3, _⟩ := k30_open (Kd.FK_now h)
  exact ⟨A3, c3, rfl, l3, (fun W' hW => by obtain ⟨A3_, c3_, he, l3_, g3_⟩ := k30_open (h W' hW); injection (Option.some.inj (show some (Value.slice A3 x.f3.length c3) = some (Value.slice A3_ x.f3.length c3_) from congrArg (fun l => l[3]?) he)) with ha_ _ _; rw [ha_]; exact g3_)⟩
theorem k30_mkF (W : World) (ok : Nat → Prop) (x : S30) {A3 : Option Addr} {c3 : Nat} (l3 : x.f3.length ≤ c3) (g3 : Kd.F (Kd.int .u8) W ok A3 x.f3.length x.f3) : Kd.FK k30 W ok x [.int .u8 x.f0, .int .u8 x.f1, .int .u64 x.f2, .slice A3 x.f3.length c3] := fun W2 hW => k30_mk W2 x l3 (g3 W2 hW)
def rd_T30 (xs : List S30) (i : Int) : S30 := xs.getD i.toNat z30
theorem at_T30 {w : World} {A : Option Addr} {n : Nat} {xs : List S30} (h : Kd.C k30 w A n xs) (i : Int) (h0 : 0 ≤ i) (h1 : i < n) : ∃ ad A3 c3, A = some ad ∧ w.cell? (ad.add (i.toNat * 4)) = some (.int .u8 (rd_T30 xs i).f0) ∧ w.cell? ⟨(ad.add (i.toNat * 4)).block, (ad.add (i.toNat * 4)).off + 1, none⟩ = some (.int .u8 (rd_T30 xs i).f1) ∧ w.cell? ⟨(ad.add (i.toNat * 4)).block, (ad.add (i.toNat * 4)).off + 2, none⟩ = some (.int .u64 (rd_T30 xs i).f2) ∧ w.cell? ⟨(ad.add (i.toNat * 4)).block, (ad.add (i.toNat * 4)).off + 3, none⟩ = some (.slice A3 (rd_T30 xs i).f3.length c3) ∧ (rd_T30 xs i).f3.length ≤ c3 ∧ (Kd.int .u8).C w A3 (rd_T30 xs i).f3.length (rd_T30 xs i).f3 := by
  obtain ⟨ad, c, e, _, hK, hc0⟩ := Kd.C_get h z30 i h0 h1
  have hc : ∀ j u, c[j]? = some u → w.cell? (ad.add (i.toNat * 4 + j)) = some u := hc0
  obtain ⟨A3, c3, rfl, l3, g3⟩ := k30_open hK
  exact ⟨ad, A3, c3, e, hc 0 _ rfl, by rw [← add_field _ _ 1 (by omega)]; exact hc 1 _ rfl, by rw [← add_field _ _ 2 (by omega)]; exact hc 2 _ rfl, by rw [← add_field _ _ 3 (by omega)]; exact hc 3 _ rfl, l3, g3⟩

/-! #### struct type 32 -/
structure S32 where
  f0 : (List Int)
  f1 : Int
  f2 : S30
def z32 : S32 := ⟨([] : List Int), (0 : Int), z30⟩
def k32 : Kd S32 := Kd.iso (Kd.pair (Kd.slice 5 (Kd.int .u8)) (Kd.pair (Kd.int .u64) k30)) (fun x : S32 => (x.f0, x.f1, x.f2))
theorem k32_open {w : World} {x : S32} {cs : List Value} (h : k32.K w x cs) : ∃ A0 c0 A5 c5, cs = [.slice A0 x.f0.length c0, .int .u64 x.f1, .int .u8 x.f2.f0, .int .u8 x.f2.f1, .int .u64 x.f2.f2, .slice A5 x.f2.f3.length c5] ∧ x.f0.length ≤ c0 ∧ (Kd.int .u8).C w A0 x.f0.length x.f0 ∧ x.f2.f3.length ≤ c5 ∧ (Kd.int .u8).C w A5 x.f2.f3.length x.f2.f3 := by
  obtain ⟨_, _, rfl, ⟨A0, c0, rfl, l0, g0⟩, ⟨_, _, rfl, rfl, s2⟩⟩ := h
  obtain ⟨A5, c5, rfl, l5, g5⟩ := k30_open s2
  exact ⟨A0, c0, A5, c5, rfl, l0, g0, l5, g5⟩
theorem k32_openM {w : World} {base : Nat} {ok : Nat → Prop} {x : S32} {cs : List Value} (h : k32.M w base ok x cs) : ∃ v0 v5, cs = [v0, .int .u64 x.f1, .int .u8 x.f2.f0, .int .u8 x.f2.f1, .int .u64 x.f2.f2, v5] ∧ (Kd.int .u8).R 5 w base ok v0 x.f0 ∧ (Kd.int .u8).R 5 w base ok v5 x.f2.f3 := by
  obtain ⟨_, _, rfl, ⟨v0, rfl, g0⟩, ⟨_, _, rfl, rfl, s2⟩⟩ := h
  obtain ⟨v5, rfl, g5⟩ := k30_openM s2
  exact ⟨v0, v5, rfl, g0, g5⟩
theorem k32_mk (w : World) (x : S32) {A0 : Option Addr} {c0 : Nat} (l0 : x.f0.length ≤ c0) (g0 : (Kd.int .u8).C w A0 x.f0.length x.f0) {A5 : Option Addr} {c5 : Nat} (l5 : x.f2.f3.length ≤ c5) (g5 : (Kd.int .u8).C w A5 x.f2.f3.length x.f2.f3) : k32.K w x [.slice A0 x.f0.length c0, .int .u64 x.f1, .int .u8 x.f2.f0, .int .u8 x.f2.f1, .int .u64 x.f2.f2, .slice A5 x.f2.f3.length c5] := ⟨[.slice A0 x.f0.length c0], [.int .u64 x.f1, .int .u8 x.f2.f0, .int .u8 x.f2.f1, .int .u64 x.f2.f2, .slice A5 x.f2.f3.length c5], rfl, ⟨A0, c0, rfl, l0, g0⟩, ⟨[.int .u64 x.f1], [.int .u8 x.f2.f0, .int .u8 x.f2.f1, .int .u64 x.f2.f2, .slice A5 x.f2.f3.length c5], rfl, rfl, (k30_mk w x.f2 l5 g5)⟩⟩
theorem k32_mkM (w : World) (base : Nat) (ok : Nat → Prop) (x : S32) {v0 : Value} (g0 : (Kd.int .u8).R 5 w base ok v0 x.f0) {v5 : Value} (g5 : (Kd.int .u8).R 5 w base ok v5 x.f2.f3) : k32.M w base ok x [v0, .int .u64 x.f1, .int .u8 x.f2.f0, .int .u8 x.f2.f1, .int .u64 x.f2.f2, v5] := ⟨[v0], [.int .u64 x.f1, .int .u8 x.f2.f0, .int .u8 x.f2.f1, .int .u64 x.f2.f2, v5], rfl, ⟨v0, rfl, g0⟩, ⟨[.int .u64 x.f1], [.int .u8 x.f2.f0, .int .u8 x.f2.f1, .int .u64 x.f2.f2, v5], rfl, rfl, (k30_mkM w base ok x.f2 g5)⟩⟩
theorem k32_openF {W : World} {ok : Nat → Prop} {x : S32} {cs : List Value} (h : Kd.FK k32 W ok x cs) : ∃ A0 c0 A5 c5, cs = [.slice A0 x.f0.length c0, .int .u64 x.f1, .int .u8 x.f2.f0, .int .u8 x.f2.f1, .int .u64 x.f2.f2, .slice A5 x.f2.f3.length c5] ∧ x.f0.length ≤ c0 ∧ Kd.F (Kd.int .u8) W ok A0 x.f0.length x.f0 ∧ x.f2.f3.length ≤ c5 ∧ Kd.F (Kd.int .u8) W ok A5 x.f2.f3.length x.f2.f3 := by
  obtain ⟨A0, c0, A5, c5, rfl, l0, _, l5, _⟩ := k32_open (Kd.FK_now h)
  exact ⟨A0, c0, A5, c5, rfl, l0, (fun W' hW => by obtain ⟨A0_, c0_, A5_, c5_, he, l0_, g0_, l5_, g5_⟩ := k32_open (h W' hW); injection (Option.some.inj (show some (Value.slice A0 x.f0.length c0) = some (Value.slice A0_ x.f0.length c0_) from congrArg (fun l => l[0]?) he)) with ha_ _ _; rw [ha_]; exact g0_), l5, (fun W' hW => by obtain ⟨A0_, c0_, A5_, c5_, he, l0_, g0_, l5_, g5_⟩ := k32_open (h W' hW); injection (Option.some.inj (show some (Value.slice A5 x.f2.f3.length c5) = some (Value.slice A5_ x.f2.f3.length c5_) from congrArg (fun l => l[5]?) he)) with ha_ _ _; rw [ha_]; exact g5_)⟩
theorem k32_mkF (W : World) (ok : Nat → Prop) (x : S32) {A0 : Option Addr} {c0 : Nat} (l0 : x.f0.length ≤ c0) (g0 : Kd.F (Kd.int .u8) W ok A0 x.f0.length x.f0) {A5 : Option Addr} {c5 : Nat} (l5 : x.f2.f3.length ≤ c5) (g5 : Kd.F (Kd.int .u8) W ok A5 x.f2.f3.length x.f2.f3) : Kd.FK k32 W ok x [.slice A0 x.f0.length c0, .int .u64 x.f1, .int .u8 x.f2.f0, .int .u8 x.f2.f1, .int .u64 x.f2.f2, .slice A5 x.f2.f3.length c5] := fun W2 hW => k32_mk W2 x l0 (g0 W2 hW) l5 (g5 W2 hW)
def rd_T32 (xs : List S32) (i : Int) : S32 := xs.getD i.toNat z32
theorem at_T32 {w : World} {A : Option Addr} {n : Nat} {xs : List S32} (h : Kd.C k32 w A n xs) (i : Int) (h0 : 0 ≤ i) (h1 : i < n) : ∃ ad A0 c0 A5 c5, A = some ad ∧ w.cell? (ad.add (i.toNat * 6)) = some (.slice A0 (rd_T32 xs i).f0.length c0) ∧ w.cell? ⟨(ad.add (i.toNat * 6)).block, (ad.add (i.toNat * 6)).off + 1, none⟩ = some (.int .u64 (rd_T32 xs i).f1) ∧ w.cell? ⟨(ad.add (i.toNat * 6)).block, (ad.add (i.toNat * 6)).off + 2, none⟩ = some (.int .u8 (rd_T32 xs i).f2.f0) ∧ w.cell? ⟨(ad.add (i.toNat * 6)).block, (ad.add (i.toNat * 6)).off + 3, none⟩ = some (.int .u8 (rd_T32 xs i).f2.f1) ∧ w.cell? ⟨(ad.add (i.toNat * 6)).block, (ad.add (i.toNat * 6)).off + 4, none⟩ = some (.int .u64 (rd_T32 xs i).f2.f2) ∧ w.cell? ⟨(ad.add (i.toNat * 6)).block, (ad.add (i.toNat * 6)).off + 5, none⟩ = some (.slice A5 (rd_T32 xs i).f2.f3.length c5) ∧ (rd_T32 xs i).f0.length ≤ c0 ∧ (Kd.int .u8).C w A0 (rd_T32 xs i).f0.length (rd_T32 xs i).f0 ∧ (rd_T32 xs i).f2.f3.length ≤ c5 ∧ (Kd.int .u8).C w A5 (rd_T32 xs i).f2.f3.length (rd_T32 xs i).f2.f3 := by
  obtain ⟨ad, c, e, _, hK, hc0⟩ := Kd.C_get h z32 i h0 h1
  have hc : ∀ j u, c[j]? = some u → w.cell? (ad.add (i.toNat * 6 + j)) = some u := hc0
  obtain ⟨A0, c0, A5, c5, rfl, l0, g0, l5, g5⟩ := k32_open hK
  exact ⟨ad, A0, c0, A5, c5, e, hc 0 _ rfl, by rw [← add_field _ _ 1 (by omega)]; exact hc 1 _ rfl, by rw [← add_field _ _ 2 (by omega)]; exact hc 2 _ rfl, by rw [← add_field _ _ 3 (by omega)]; exact hc 3 _ rfl, by rw [← add_field _ _ 4 (by omega)]; exact hc 4 _ rfl, by rw [← add_field _ _ 5 (by omega)]; exact hc 5 _ rfl, l0, g0, l5, g5⟩

/-! #### struct type 78 -/
structure S78 where
  f0 : Int
  f1 : (List Int)
  f2 : Int
def z78 : S78 := ⟨(0 : Int), ([] : List Int), (0 : Int)⟩
def k78 : Kd S78 := Kd.iso (Kd.pair (Kd.int .i64) (Kd.pair (Kd.slice 5 (Kd.int .u8)) (Kd.int .u64))) (fun x : S78 => (x.f0, x.f1, x.f2))
theorem k78_open {w : World} {x : S78} {cs : List Value} (h : k78.K w x cs) : ∃ A1 c1, cs = [.int .i64 x.f0, .slice A1 x.f1.length c1, .int .u64 x.f2] ∧ x.f1.length ≤ c1 ∧ (Kd.int .u8).C w A1 x.f1.length x.f1 := by
  obtain ⟨_, _, rfl, rfl, ⟨_, _, rfl, ⟨A1, c1, rfl, l1, g1⟩, rfl⟩⟩ := h
  exact ⟨A1, c1, rfl, l1, g1⟩
theorem k78_openM {w : World} {base : Nat} {ok : Nat → Prop} {x : S78} {cs : List Value} (h : k78.M w base ok x cs) : ∃ v1, cs = [.int .i64 x.f0, v1, .int .u64 x.f2] ∧ (Kd.int .u8).R 5 w base ok v1 x.f1 := by
  obtain ⟨_, _, rfl, rfl, ⟨_, _, rfl, ⟨v1, rfl, g1⟩, rfl⟩⟩ := h
  exact ⟨v1, rfl, g1⟩
theorem k78_mk (w : World) (x : S78) {A1 : Option Addr} {c1 : Nat} (l1 : x.f1.length ≤ c1) (g1 : (Kd.int .u8).C w A1 x.f1.length x.f1) : k78.K w x [.int .i64 x.f0, .slice A1 x.f1.length c1, .int .u64 x.f2] := ⟨[.int .i64 x.f0], [.slice A1 x.f1.length c1, .int .u64 x.f2], rfl, rfl, ⟨[.slice A1 x.f1.length c1], [.int .u64 x.f2], rfl, ⟨A1, c1, rfl, l1, g1⟩, rfl⟩⟩
theorem k78_mkM (w : World) (base : Nat) (ok : Nat → Prop) (x : S78) {v1 : Value} (g1 : (Kd.int .u8).R 5 w base ok v1 x.f1) : k78.M w base ok x [.int .i64 x.f0, v1, .int .u64 x.f2] := ⟨[.int .i64 x.f0], [v1, .int .u64 x.f2], rfl, rfl, ⟨[v1], [.int .u64 x.f2], rfl, ⟨v1, rfl, g1⟩, rfl⟩⟩
theorem k78_openF {W : World} {ok : Nat → Prop} {x : S78} {cs : List Value} (h : Kd.FK k78 W ok x cs) : ∃ A1 c1, cs = [.int .i64 x.f0, .slice A1 x.f1.length c1, .int .u64 x.f2] ∧ x.f1.length ≤ c1 ∧ Kd.F (Kd.int .u8) W ok A1 x.f1.length x.f1 := by
  obtain ⟨A1, c1, rfl, l1, _⟩ := k78_open (Kd.FK_now h)
  exact ⟨A1, c1, rfl, l1, (fun W' hW => by obtain ⟨A1_, c1_, he, l1_, g1_⟩ := k78_open (h W' hW); injection (Option.some.inj (show some (Value.slice A1 x.f1.length c1) = some (Value.slice A1_ x.f1.length c1_) from congrArg (fun l => l[1]?) he)) with ha_ _ _; rw [ha_]; exact g1_)⟩
theorem k78_mkF (W : World) (ok : Nat → Prop) (x : S78) {A1 : Option Addr} {c1 : Nat} (l1 : x.f1.length ≤ c1) (g1 : Kd.F (Kd.int .u8) W ok A1 x.f1.length x.f1) : Kd.FK k78 W ok x [.int .i64 x.f0, .slice A1 x.f1.length c1, .int .u64 x.f2] := fun W2 hW => k78_mk W2 x l1 (g1 W2 hW)
def rd_T78 (xs : List S78) (i : Int) : S78 := xs.getD i.toNat z78
theorem at_T78 {w : World} {A : Option Addr} {n : Nat} {xs : List S78} (h : Kd.C k78 w A n xs) (i : Int) (h0 : 0 ≤ i) (h1 : i < n) : ∃ ad A1 c1, A = some ad ∧ w.cell? (ad.add (i.toNat * 3)) = some (.int .i64 (rd_T78 xs i).f0) ∧ w.cell? ⟨(ad.add (i.toNat * 3)).block, (ad.add (i.toNat * 3)).off + 1, none⟩ = some (.slice A1 (rd_T78 xs i).f1.length c1) ∧ w.cell? ⟨(ad.add (i.toNat * 3)).block, (ad.add (i.toNat * 3)).off + 2, none⟩ = some (.int .u64 (rd_T78 xs i).f2) ∧ (rd_T78 xs i).f1.length ≤ c1 ∧ (Kd.int .u8).C w A1 (rd_T78 xs i).f1.length (rd_T78 xs i).f1 := by
  obtain ⟨ad, c, e, _, hK, hc0⟩ := Kd.C_get h z78 i h0 h1
  have hc : ∀ j u, c[j]? = some u → w.cell? (ad.add (i.toNat * 3 + j)) = some u := hc0
  obtain ⟨A1, c1, rfl, l1, g1⟩ := k78_open hK
  exact ⟨ad, A1, c1, e, hc 0 _ rfl, by rw [← add_field _ _ 1 (by omega)]; exact hc 1 _ rfl, by rw [← add_field _ _ 2 (by omega)]; exact hc 2 _ rfl, l1, g1⟩

/-! #### struct type 82 -/
structure S82 where
  f0 : Bool
  f1 : S32
def z82 : S82 := ⟨false, z32⟩
def k82 : Kd S82 := Kd.iso (Kd.pair Kd.bool k32) (fun x : S82 => (x.f0, x.f1))
theorem k82_open {w : World} {x : S82} {cs : List Value} (h : k82.K w x cs) : ∃ A1 c1 A6 c6, cs = [.bool x.f0, .slice A1 x.f1.f0.length c1, .int .u64 x.f1.f1, .int .u8 x.f1.f2.f0, .int .u8 x.f1.f2.f1, .int .u64 x.f1.f2.f2, .slice A6 x.f1.f2.f3.length c6] ∧ x.f1.f0.length ≤ c1 ∧ (Kd.int .u8).C w A1 x.f1.f0.length x.f1.f0 ∧ x.f1.f2.f3.length ≤ c6 ∧ (Kd.int .u8).C w A6 x.f1.f2.f3.length x.f1.f2.f3 := by
  obtain ⟨_, _, rfl, rfl, s1⟩ := h
  obtain ⟨A1, c1, A6, c6, rfl, l1, g1, l6, g6⟩ := k32_open s1
  exact ⟨A1, c1, A6, c6, rfl, l1, g1, l6, g6⟩
theorem k82_openM {w : World} {base : Nat} {ok : Nat → Prop} {x : S82} {cs : List Value} (h : k82.M w base ok x cs) : ∃ v1 v6, cs = [.bool x.f0, v1, .int .u64 x.f1.f1, .int .u8 x.f1.f2.f0, .int .u8 x.f1.f2.f1, .int .u64 x.f1.f2.f2, v6] ∧ (Kd.int .u8).R 5 w base ok v1 x.f1.f0 ∧ (Kd.int .u8).R 5 w base ok v6 x.f1.f2.f3 := by
  obtain ⟨_, _, rfl, rfl, s1⟩ := h
  obtain ⟨v1, v6, rfl, g1, g6⟩ := k32_openM s1
  exact ⟨v1, v6, rfl, g1, g6⟩
theorem k82_mk (w : World) (x : S82) {A1 : Option Addr} {c1 : Nat} (l1 : x.f1.f0.length ≤ c1) (g1 : (Kd.int .u8).C w A1 x.f1.f0.length x.f1.f0) {A6 : Option Addr} {c6 : Nat} (l6 : x.f1.f2.f3.length ≤ c6) (g6 : (Kd.int .u8).C w A6 x.f1.f2.f3.length x.f1.f2.f3) : k82.K w x [.bool x.f0, .slice A1 x.f1.f0.length c1, .int .u64 x.f1.f1, .int .u8 x.f1.f2.f0, .int .u8 x.f1.f2.f1, .int .u64 x.f1.f2.f2, .slice A6 x.f1.f2.f3.length c6] := ⟨[.bool x.f0], [.slice A1 x.f1.f0.length c1, .int .u64 x.f1.f1, .int .u8 x.f1.f2.f0, .int .u8 x.f1.f2.f1, .int .u64 x.f1.f2.f2, .slice A6 x.f1.f2.f3.length c6], rfl, rfl, (k32_mk w x.f1 l1 g1 l6 g6)⟩
theorem k82_mkM (w : World) (base : Nat) (ok : Nat → Prop) (x : S82) {v1 : Value} (g1 : (Kd.int .u8).R 5 w base ok v1 x.f1.f0) {v6 : Value} (g6 : (Kd.int .u8).R 5 w base ok v6 x.f1.f2.f3) : k82.M w base ok x [.bool x.f0, v1, .int .u64 x.f1.f1, .int .u8 x.f1.f2.f0, .int .u8 x.f1.f2.f1, .int .u64 x.f1.f2.f2, v6] := ⟨[.bool x.f0], [v1, .int .u64 x.f1.f1, .int .u8 x.f1.f2.f0, .int .u8 x.f1.f2.f1, .int .u64 x.f1.f2.f2, v6], rfl, rfl, (k32_mkM w base ok x.f1 g1 g6)⟩
theorem k82_openF {W : World} {ok : Nat → Prop} {x : S82} {cs : List Value} (h : Kd.FK k82 W ok x cs) : ∃ A1 c1 A6 c6, cs = [.bool x.f0, .slice A1 x.f1.f0.length c1, .int .u64 x.f1.f1, .int .u8 x.f1.f2.f0, .int .u8 x.f1.f2.f1, .int .u64 x.f1.f2.f2, .slice A6 x.f1.f2.f3.length c6] ∧ x.f1.f0.length ≤ c1 ∧ Kd.F (Kd.int .u8) W ok A1 x.f1.f0.length x.f1.f0 ∧ x.f1.f2.f3.length ≤ c6 ∧ Kd.F (Kd.int .u8) W ok A6 x.f1.f2.f3.length x.f1.f2.f3 := by
  obtain ⟨A1, c1, A6, c6, rfl, l1, _, l6, _⟩ := k82_open (Kd.FK_now h)
  exact ⟨A1, c1, A6, c6, rfl, l1, (fun W' hW => by obtain ⟨A1_, c1_, A6_, c6_, he, l1_, g1_, l6_, g6_⟩ := k82_open (h W' hW); injection (Option.some.inj (show some (Value.slice A1 x.f1.f0.length c1) = some (Value.slice A1_ x.f1.f0.length c1_) from congrArg (fun l => l[1]?) he)) with ha_ _ _; rw [ha_]; exact g1_), l6, (fun W' hW => by obtain ⟨A1_, c1_, A6_, c6_, he, l1_, g1_, l6_, g6_⟩ := k82_open (h W' hW); injection (Option.some.inj (show some (Value.slice A6 x.f1.f2.f3.length c6) = some (Value.slice A6_ x.f1.f2.f3.length c6_) from congrArg (fun l => l[6]?) he)) with ha_ _ _; rw [ha_]; exact g6_)⟩
theorem k82_mkF (W : World) (ok : Nat → Prop) (x : S82) {A1 : Option Addr} {c1 : Nat} (l1 : x.f1.f0.length ≤ c1) (g1 : Kd.F (Kd.int .u8) W ok A1 x.f1.f0.length x.f1.f0) {A6 : Option Addr} {c6 : Nat} (l6 : x.f1.f2.f3.length ≤ c6) (g6 : Kd.F (Kd.int .u8) W ok A6 x.f1.f2.f3.length x.f1.f2.f3) : Kd.FK k82 W ok x [.bool x.f0, .slice A1 x.f1.f0.length c1, .int .u64 x.f1.f1, .int .u8 x.f1.f2.f0, .int .u8 x.f1.f2.f1, .int .u64 x.f1.f2.f2, .slice A6 x.f1.f2.f3.length c6] := fun W2 hW => k82_mk W2 x l1 (g1 W2 hW) l6 (g6 W2 hW)
def rd_T82 (xs : List S82) (i : Int) : S82 := xs.getD i.toNat z82
theorem at_T82 {w : World} {A : Option Addr} {n : Nat} {xs : List S82} (h : Kd.C k82 w A n xs) (i : Int) (h0 : 0 ≤ i) (h1 : i < n) : ∃ ad A1 c1 A6 c6, A = some ad ∧ w.cell? (ad.add (i.toNat * 7)) = some (.bool (rd_T82 xs i).f0) ∧ w.cell? ⟨(ad.add (i.toNat * 7)).block, (ad.add (i.toNat * 7)).off + 1, none⟩ = some (.slice A1 (rd_T82 xs i).f1.f0.length c1) ∧ w.cell? ⟨(ad.add (i.toNat * 7)).block, (ad.add (i.toNat * 7)).off + 2, none⟩ = some (.int .u64 (rd_T82 xs i).f1.f1) ∧ w.cell? ⟨(ad.add (i.toNat * 7)).block, (ad.add (i.toNat * 7)).off + 3, none⟩ = some (.int .u8 (rd_T82 xs i).f1.f2.f0) ∧ w.cell? ⟨(ad.add (i.toNat * 7)).block, (ad.add (i.toNat * 7)).off + 4, none⟩ = some (.int .u8 (rd_T82 xs i).f1.f2.f1) ∧ w.cell? ⟨(ad.add (i.toNat * 7)).block, (ad.add (i.toNat * 7)).off + 5, none⟩ = some (.int .u64 (rd_T82 xs i).f1.f2.f2) ∧ w.cell? ⟨(ad.add (i.toNat * 7)).block, (ad.add (i.toNat * 7)).off + 6, none⟩ = some (.slice A6 (rd_T82 xs i).f1.f2.f3.length c6) ∧ (rd_T82 xs i).f1.f0.length ≤ c1 ∧ (Kd.int .u8).C w A1 (rd_T82 xs i).f1.f0.length (rd_T82 xs i).f1.f0 ∧ (rd_T82 xs i).f1.f2.f3.length ≤ c6 ∧ (Kd.int .u8).C w A6 (rd_T82 xs i).f1.f2.f3.length (rd_T82 xs i).f1.f2.f3 := by
  obtain ⟨ad, c, e, _, hK, hc0⟩ := Kd.C_get h z82 i h0 h1
  have hc : ∀ j u, c[j]? = some u → w.cell? (ad.add (i.toNat * 7 + j)) = some u := hc0
  obtain ⟨A1, c1, A6, c6, rfl, l1, g1, l6, g6⟩ := k82_open hK
  exact ⟨ad, A1, c1, A6, c6, e, hc 0 _ rfl, by rw [← add_field _ _ 1 (by omega)]; exact hc 1 _ rfl, by rw [← add_field _ _ 2 (by omega)]; exact hc 2 _ rfl, by rw [← add_field _ _ 3 (by omega)]; exact hc 3 _ rfl, by rw [← add_field _ _ 4 (by omega)]; exact hc 4 _ rfl, by rw [← add_field _ _ 5 (by omega)]; exact hc 5 _ rfl, by rw [← add_field _ _ 6 (by omega)]; exact hc 6 _ rfl, l1, g1, l6, g6⟩

def rd_L10 (xs : List (List Int)) (i : Int) : (List Int) := xs.getD i.toNat ([] : List Int)
theorem at_L10 {w : World} {A : Option Addr} {n : Nat} {xs : List (List Int)} (h : Kd.C (Kd.slice 26 (Kd.int .u32)) w A n xs) (i : Int) (h0 : 0 ≤ i) (h1 : i < n) : ∃ ad A0 c0, A = some ad ∧ w.cell? (ad.add i.toNat) = some (.slice A0 (rd_L10 xs i).length c0) ∧ (rd_L10 xs i).length ≤ c0 ∧ (Kd.int .u32).C w A0 (rd_L10 xs i).length (rd_L10 xs i) := by
  obtain ⟨ad, c, e, _, hK, hc0⟩ := Kd.C_get h ([] : List Int) i h0 h1
  have hc : ∀ j u, c[j]? = some u → w.cell? (ad.add (i.toNat * 1 + j)) = some u := hc0
  obtain ⟨A0, c0, rfl, l0, g0⟩ := hK
  exact ⟨ad, A0, c0, e, by have hq := hc 0 _ rfl; rwa [Nat.mul_one, Nat.add_zero] at hq, l0, g0⟩

def rd_L11 (xs : List (List S32)) (i : Int) : (List S32) := xs.getD i.toNat ([] : List S32)
theorem at_L11 {w : World} {A : Option Addr} {n : Nat} {xs : List (List S32)} (h : Kd.C (Kd.slice 32 k32) w A n xs) (i : Int) (h0 : 0 ≤ i) (h1 : i < n) : ∃ ad A0 c0, A = some ad ∧ w.cell? (ad.add i.toNat) = some (.slice A0 (rd_L11 xs i).length c0) ∧ (rd_L11 xs i).length ≤ c0 ∧ k32.C w A0 (rd_L11 xs i).length (rd_L11 xs i) := by
  obtain ⟨ad, c, e, _, hK, hc0⟩ := Kd.C_get h ([] : List S32) i h0 h1
  have hc : ∀ j u, c[j]? = some u → w.cell? (ad.add (i.toNat * 1 + j)) = some u := hc0
  obtain ⟨A0, c0, rfl, l0, g0⟩ := hK
  exact ⟨ad, A0, c0, e, by have hq := hc 0 _ rfl; rwa [Nat.mul_one, Nat.add_zero] at hq, l0, g0⟩

def rd_L12 (xs : List (List S82)) (i : Int) : (List S82) := xs.getD i.toNat ([] : List S82)
theorem at_L12 {w : World} {A : Option Addr} {n : Nat} {xs : List (List S82)} (h : Kd.C (Kd.slice 82 k82) w A n xs) (i : Int) (h0 : 0 ≤ i) (h1 : i < n) : ∃ ad A0 c0, A = some ad ∧ w.cell? (ad.add i.toNat) = some (.slice A0 (rd_L12 xs i).length c0) ∧ (rd_L12 xs i).length ≤ c0 ∧ k82.C w A0 (rd_L12 xs i).length (rd_L12 xs i) := by
  obtain ⟨ad, c, e, _, hK, hc0⟩ := Kd.C_get h ([] : List S82) i h0 h1
  have hc : ∀ j u, c[j]? = some u → w.cell? (ad.add (i.toNat * 1 + j)) = some u := hc0
  obtain ⟨A0, c0, rfl, l0, g0⟩ := hK
  exact ⟨ad, A0, c0, e, by have hq := hc 0 _ rfl; rwa [Nat.mul_one, Nat.add_zero] at hq, l0, g0⟩

def rd_L13 (xs : List (List S78)) (i : Int) : (List S78) := xs.getD i.toNat ([] : List S78)
theorem at_L13 {w : World} {A : Option Addr} {n : Nat} {xs : List (List S78)} (h : Kd.C (Kd.slice 78 k78) w A n xs) (i : Int) (h0 : 0 ≤ i) (h1 : i < n) : ∃ ad A0 c0, A = some ad ∧ w.cell? (ad.add i.toNat) = some (.slice A0 (rd_L13 xs i).length c0) ∧ (rd_L13 xs i).length ≤ c0 ∧ k78.C w A0 (rd_L13 xs i).length (rd_L13 xs i) := by
  obtain ⟨ad, c, e, _, hK, hc0⟩ := Kd.C_get h ([] : List S78) i h0 h1
  have hc : ∀ j u, c[j]? = some u → w.cell? (ad.add (i.toNat * 1 + j)) = some u := hc0
  obtain ⟨A0, c0, rfl, l0, g0⟩ := hK
  exact ⟨ad, A0, c0, e, by have hq := hc 0 _ rfl; rwa [Nat.mul_one, Nat.add_zero] at hq, l0, g0⟩

end Go.Proofs.YtanmgkpgfmkobaaQ.QT
