-- Lines that a program has printed for this claim: functions as plain Lean functions, and their walks.
import Derived.Test.YtadhdimleabljaaProg
import Derived.Below
import Derived.Deep.Draws
import Derived.Deep.AppendLies
import Derived.Maps.AppendAt
import Derived.OwnWalk
import Derived.Laws.BytesArg
import Derived.Laws.MakeOwn
import Derived.Laws.OwnMore
import Derived.Deep.OwnRows
import Derived.Tactics
import Derived.Lib.ConvBytes
import Derived.Laws.Slices
import Derived.WalkKit
import Derived.KernelRfl
import Derived.RowKit3
import Derived.Deep.LoopGhost
import Derived.Deep.QuietTactic
import Derived.BigQuiet
import Derived.WideLaws
import Derived.Deep.DeepCutAuto
import Derived.Deep.CutBlock
import Derived.Deep.RegionHeld3
import Derived.Laws.Rows
import Derived.Lib.AppendStr
import Derived.ArgAppend
import Derived.Laws.IdiomCopy
import Derived.OrdersHeld
import Derived.Laws.BitsLemmas
import Derived.RowKit
import Derived.Test.YtadhdimleabljaaWWords
import Derived.Test.YtadhdimleabljaaWLast
import Derived.Test.YtadhdimleabljaaWTab
import Derived.Test.YtadhdimleabljaaWFour
import Derived.Test.YtadhdimleabljaaWQPut
import Derived.Test.YtadhdimleabljaaWApart
import Derived.Test.YtadhdimleabljaaWArr
import Derived.Test.YtadhdimleabljaaWZeros
import Derived.Test.YtadhdimleabljaaWFoot
import Derived.Test.YtadhdimleabljaaWKept
import Derived.Test.YtadhdimleabljaaWShare
import Derived.Test.YtadhdimleabljaaWN
import Derived.Test.YtadhdimleabljaaWFootNe
import Derived.Test.YtadhdimleabljaaWAt
import Derived.Test.YtadhdimleabljaaWEqStruct
import Derived.Test.YtadhdimleabljaaWRepsOne
import Derived.Test.YtadhdimleabljaaWInv
import Derived.Test.YtadhdimleabljaaWInvWords
import Derived.Test.YtadhdimleabljaaWGuard
import Derived.Test.YtadhdimleabljaaWNEv
import Derived.Test.YtadhdimleabljaaWMore
import Derived.Test.YtadhdimleabljaaX1
namespace Go.Proofs.YtadhdimleabljaaQ.QR
open Go.RowKit Go.Proofs.YtadhdimleabljaaQ.Ext Go.Proofs.YtadhdimleabljaaW.PrintWords Go.Proofs.YtadhdimleabljaaW.PrintLast Go.Proofs.YtadhdimleabljaaW.PrintMore
attribute [local go_sem] max2_int min2_int max_two min_two max_three min_three max_four min_four   -- for this text's walks alone
set_option linter.unusedVariables false
set_option linter.unusedSimpArgs false



def errW : Option Int → Value
  | none => .nilIface
  | some c => .iface 0 (.int .i64 c)
theorem errW_none : errW none = .nilIface := rfl
theorem errW_some (c : Int) : errW (some c) = .iface 0 (.int .i64 c) := rfl

theorem info63 : (Try.prog.info? 63).map (fun i => (i.zero, i.size, i.bytes)) = some (some (.agg #[(.bool false), (.slice none 0 0), (.int .u64 0), (.bool false), (.slice none 0 0), (.int .u64 0), (.bool false)]), 7, 88) := by kernel_rfl
-- the values' own types
def rd_L2 (xs : List (List Int)) (i : Int) : (List Int) := xs.getD i.toNat ([] : List Int)
theorem at_L2 {w : World} {A : Option Addr} {n : Nat} {xs : List (List Int)} (h : Kd.C (Kd.slice 5 (Kd.int .u8)) w A n xs) (i : Int) (h0 : 0 ≤ i) (h1 : i < n) : ∃ ad A0 c0, A = some ad ∧ w.cell? (ad.add i.toNat) = some (.slice A0 (rd_L2 xs i).length c0) ∧ (rd_L2 xs i).length ≤ c0 ∧ (Kd.int .u8).C w A0 (rd_L2 xs i).length (rd_L2 xs i) := by
  obtain ⟨ad, c, e, _, hK, hc0⟩ := Kd.C_get h ([] : List Int) i h0 h1
  have hc : ∀ j u, c[j]? = some u → w.cell? (ad.add (i.toNat * 1 + j)) = some u := hc0
  obtain ⟨A0, c0, rfl, l0, g0⟩ := hK
  exact ⟨ad, A0, c0, e, by have hq := hc 0 _ rfl; rwa [Nat.mul_one, Nat.add_zero] at hq, l0, g0⟩

/-! #### struct type 61 -/
structure S61 where
  f0 : Bool
  f1 : (List Int)
  f2 : Int
def z61 : S61 := ⟨false, ([] : List Int), (0 : Int)⟩
def k61 : Kd S61 := Kd.iso (Kd.pair Kd.bool (Kd.pair (Kd.slice 5 (Kd.int .u8)) (Kd.int .u64))) (fun x : S61 => (x.f0, x.f1, x.f2))
theorem k61_heap : Kd.Heap k61 := Kd.heap_iso _ (Kd.heap_pair Kd.heap_bool (Kd.heap_pair (Kd.heap_slice 5 (Kd.heap_int .u8)) (Kd.heap_int .u64)))
theorem k61_open {w : World} {x : S61} {cs : List Value} (h : k61.K w x cs) : ∃ A1 c1, cs = [.bool x.f0, .slice A1 x.f1.length c1, .int .u64 x.f2] ∧ x.f1.length ≤ c1 ∧ (Kd.int .u8).C w A1 x.f1.length x.f1 := by
  obtain ⟨_, _, rfl, rfl, ⟨_, _, rfl, ⟨A1, c1, rfl, l1, g1⟩, rfl⟩⟩ := h
  exact ⟨A1, c1, rfl, l1, g1⟩
theorem k61_openM {w : World} {base : Nat} {ok : Nat → Prop} {x : S61} {cs : List Value} (h : k61.M w base ok x cs) : ∃ v1, cs = [.bool x.f0, v1, .int .u64 x.f2] ∧ (Kd.int .u8).R 5 w base ok v1 x.f1 := by
  obtain ⟨_, _, rfl, rfl, ⟨_, _, rfl, ⟨v1, rfl, g1⟩, rfl⟩⟩ := h
  exact ⟨v1, rfl, g1⟩
theorem k61_mk (w : World) (x : S61) {A1 : Option Addr} {c1 : Nat} (l1 : x.f1.length ≤ c1) (g1 : (Kd.int .u8).C w A1 x.f1.length x.f1) : k61.K w x [.bool x.f0, .slice A1 x.f1.length c1, .int .u64 x.f2] := ⟨[.bool x.f0], [.slice A1 x.f1.length c1, .int .u64 x.f2], rfl, rfl, ⟨[.slice A1 x.f1.length c1], [.int .u64 x.f2], rfl, ⟨A1, c1, rfl, l1, g1⟩, rfl⟩⟩
theorem k61_mkM (w : World) (base : Nat) (ok : Nat → Prop) (x : S61) {v1 : Value} (g1 : (Kd.int .u8).R 5 w base ok v1 x.f1) : k61.M w base ok x [.bool x.f0, v1, .int .u64 x.f2] := ⟨[.bool x.f0], [v1, .int .u64 x.f2], rfl, rfl, ⟨[v1], [.int .u64 x.f2], rfl, ⟨v1, rfl, g1⟩, rfl⟩⟩
theorem k61_openF {W : World} {ok : Nat → Prop} {x : S61} {cs : List Value} (h : Kd.FK k61 W ok x cs) : ∃ A1 c1, cs = [.bool x.f0, .slice A1 x.f1.length c1, .int .u64 x.f2] ∧ x.f1.length ≤ c1 ∧ Kd.F (Kd.int .u8) W ok A1 x.f1.length x.f1 := by
  obtain ⟨A1, c1, rfl, l1, _⟩ := k61_open (Kd.FK_now h)
  exact ⟨A1, c1, rfl, l1, (fun W' hW => by obtain ⟨A1_, c1_, he, l1_, g1_⟩ := k61_open (h W' hW); injection (Option.some.inj (show some (Value.slice A1 x.f1.length c1) = some (Value.slice A1_ x.f1.length c1_) from congrArg (fun l => l[1]?) he)) with ha_ _ _; rw [ha_]; exact g1_)⟩
theorem k61_mkF (W : World) (ok : Nat → Prop) (x : S61) {A1 : Option Addr} {c1 : Nat} (l1 : x.f1.length ≤ c1) (g1 : Kd.F (Kd.int .u8) W ok A1 x.f1.length x.f1) : Kd.FK k61 W ok x [.bool x.f0, .slice A1 x.f1.length c1, .int .u64 x.f2] := fun W2 hW => k61_mk W2 x l1 (g1 W2 hW)
def rd_T61 (xs : List S61) (i : Int) : S61 := xs.getD i.toNat z61
theorem at_T61 {w : World} {A : Option Addr} {n : Nat} {xs : List S61} (h : Kd.C k61 w A n xs) (i : Int) (h0 : 0 ≤ i) (h1 : i < n) : ∃ ad A1 c1, A = some ad ∧ w.cell? (ad.add (i.toNat * 3)) = some (.bool (rd_T61 xs i).f0) ∧ w.cell? ⟨(ad.add (i.toNat * 3)).block, (ad.add (i.toNat * 3)).off + 1, none⟩ = some (.slice A1 (rd_T61 xs i).f1.length c1) ∧ w.cell? ⟨(ad.add (i.toNat * 3)).block, (ad.add (i.toNat * 3)).off + 2, none⟩ = some (.int .u64 (rd_T61 xs i).f2) ∧ (rd_T61 xs i).f1.length ≤ c1 ∧ (Kd.int .u8).C w A1 (rd_T61 xs i).f1.length (rd_T61 xs i).f1 := by
  obtain ⟨ad, c, e, _, hK, hc0⟩ := Kd.C_get h z61 i h0 h1
  have hc : ∀ j u, c[j]? = some u → w.cell? (ad.add (i.toNat * 3 + j)) = some u := hc0
  obtain ⟨A1, c1, rfl, l1, g1⟩ := k61_open hK
  exact ⟨ad, A1, c1, e, hc 0 _ rfl, by rw [← add_field _ _ 1 (by omega)]; exact hc 1 _ rfl, by rw [← add_field _ _ 2 (by omega)]; exact hc 2 _ rfl, l1, g1⟩

/-! #### struct type 63 -/
structure S63 where
  f0 : S61
  f1 : S61
  f2 : Bool
def z63 : S63 := ⟨z61, z61, false⟩
def k63 : Kd S63 := Kd.iso (Kd.pair k61 (Kd.pair k61 Kd.bool)) (fun x : S63 => (x.f0, x.f1, x.f2))
theorem k63_heap : Kd.Heap k63 := Kd.heap_iso _ (Kd.heap_pair k61_heap (Kd.heap_pair k61_heap Kd.heap_bool))
theorem k63_open {w : World} {x : S63} {cs : List Value} (h : k63.K w x cs) : ∃ A1 c1 A4 c4, cs = [.bool x.f0.f0, .slice A1 x.f0.f1.length c1, .int .u64 x.f0.f2, .bool x.f1.f0, .slice A4 x.f1.f1.length c4, .int .u64 x.f1.f2, .bool x.f2] ∧ x.f0.f1.length ≤ c1 ∧ (Kd.int .u8).C w A1 x.f0.f1.length x.f0.f1 ∧ x.f1.f1.length ≤ c4 ∧ (Kd.int .u8).C w A4 x.f1.f1.length x.f1.f1 := by
  obtain ⟨_, _, rfl, s0, ⟨_, _, rfl, s3, rfl⟩⟩ := h
  obtain ⟨A1, c1, rfl, l1, g1⟩ := k61_open s0
  obtain ⟨A4, c4, rfl, l4, g4⟩ := k61_open s3
  exact ⟨A1, c1, A4, c4, rfl, l1, g1, l4, g4⟩
theorem k63_openM {w : World} {base : Nat} {ok : Nat → Prop} {x : S63} {cs : List Value} (h : k63.M w base ok x cs) : ∃ v1 v4, cs = [.bool x.f0.f0, v1, .int .u64 x.f0.f2, .bool x.f1.f0, v4, .int .u64 x.f1.f2, .bool x.f2] ∧ (Kd.int .u8).R 5 w base ok v1 x.f0.f1 ∧ (Kd.int .u8).R 5 w base ok v4 x.f1.f1 := by
  obtain ⟨_, _, rfl, s0, ⟨_, _, rfl, s3, rfl⟩⟩ := h
  obtain ⟨v1, rfl, g1⟩ := k61_openM s0
  obtain ⟨v4, rfl, g4⟩ := k61_openM s3
  exact ⟨v1, v4, rfl, g1, g4⟩
theorem k63_mk (w : World) (x : S63) {A1 : Option Addr} {c1 : Nat} (l1 : x.f0.f1.length ≤ c1) (g1 : (Kd.int .u8).C w A1 x.f0.f1.length x.f0.f1) {A4 : Option Addr} {c4 : Nat} (l4 : x.f1.f1.length ≤ c4) (g4 : (Kd.int .u8).C w A4 x.f1.f1.length x.f1.f1) : k63.K w x [.bool x.f0.f0, .slice A1 x.f0.f1.length c1, .int .u64 x.f0.f2, .bool x.f1.f0, .slice A4 x.f1.f1.length c4, .int .u64 x.f1.f2, .bool x.f2] := ⟨[.bool x.f0.f0, .slice A1 x.f0.f1.length c1, .int .u64 x.f0.f2], [.bool x.f1.f0, .slice A4 x.f1.f1.length c4, .int .u64 x.f1.f2, .bool x.f2], rfl, (k61_mk w x.f0 l1 g1), ⟨[.bool x.f1.f0, .slice A4 x.f1.f1.length c4, .int .u64 x.f1.f2], [.bool x.f2], rfl, (k61_mk w x.f1 l4 g4), rfl⟩⟩
theorem k63_mkM (w : World) (base : Nat) (ok : Nat → Prop) (x : S63) {v1 : Value} (g1 : (Kd.int .u8).R 5 w base ok v1 x.f0.f1) {v4 : Value} (g4 : (Kd.int .u8).R 5 w base ok v4 x.f1.f1) : k63.M w base ok x [.bool x.f0.f0, v1, .int .u64 x.f0.f2, .bool x.f1.f0, v4, .int .u64 x.f1.f2, .bool x.f2] := ⟨[.bool x.f0.f0, v1, .int .u64 x.f0.f2], [.bool x.f1.f0, v4, .int .u64 x.f1.f2, .bool x.f2], rfl, (k61_mkM w base ok x.f0 g1), ⟨[.bool x.f1.f0, v4, .int .u64 x.f1.f2], [.bool x.f2], rfl, (k61_mkM w base ok x.f1 g4), rfl⟩⟩
theorem k63_openF {W : World} {ok : Nat → Prop} {x : S63} {cs : List Value} (h : Kd.FK k63 W ok x cs) : ∃ A1 c1 A4 c4, cs = [.bool x.f0.f0, .slice A1 x.f0.f1.length c1, .int .u64 x.f0.f2, .bool x.f1.f0, .slice A4 x.f1.f1.length c4, .int .u64 x.f1.f2, .bool x.f2] ∧ x.f0.f1.length ≤ c1 ∧ Kd.F (Kd.int .u8) W ok A1 x.f0.f1.length x.f0.f1 ∧ x.f1.f1.length ≤ c4 ∧ Kd.F (Kd.int .u8) W ok A4 x.f1.f1.length x.f1.f1 := by
  obtain ⟨A1, c1, A4, c4, rfl, l1, _, l4, _⟩ := k63_open (Kd.FK_now h)
  exact ⟨A1, c1, A4, c4, rfl, l1, (fun W' hW => by obtain ⟨A1_, c1_, A4_, c4_, he, l1_, g1_, l4_, g4_⟩ := k63_open (h W' hW); injection (Option.some.inj (show some (Value.slice A1 x.f0.f1.length c1) = some (Value.slice A1_ x.f0.f1.length c1_) from congrArg (fun l => l[1]?) he)) with ha_ _ _; rw [ha_]; exact g1_), l4, (fun W' hW => by obtain ⟨A1_, c1_, A4_, c4_, he, l1_, g1_, l4_, g4_⟩ := k63_open (h W' hW); injection (Option.some.inj (show some (Value.slice A4 x.f1.f1.length c4) = some (Value.slice A4_ x.f1.f1.length c4_) from congrArg (fun l => l[4]?) he)) with ha_ _ _; rw [ha_]; exact g4_)⟩
theorem k63_mkF (W : World) (ok : Nat → Prop) (x : S63) {A1 : Option Addr} {c1 : Nat} (l1 : x.f0.f1.length ≤ c1) (g1 : Kd.F (Kd.int .u8) W ok A1 x.f0.f1.length x.f0.f1) {A4 : Option Addr} {c4 : Nat} (l4 : x.f1.f1.length ≤ c4) (g4 : Kd.F (Kd.int .u8) W ok A4 x.f1.f1.length x.f1.f1) : Kd.FK k63 W ok x [.bool x.f0.f0, .slice A1 x.f0.f1.length c1, .int .u64 x.f0.f2, .bool x.f1.f0, .slice A4 x.f1.f1.length c4, .int .u64 x.f1.f2, .bool x.f2] := fun W2 hW => k63_mk W2 x l1 (g1 W2 hW) l4 (g4 W2 hW)
def rd_T63 (xs : List S63) (i : Int) : S63 := xs.getD i.toNat z63
theorem at_T63 {w : World} {A : Option Addr} {n : Nat} {xs : List S63} (h : Kd.C k63 w A n xs) (i : Int) (h0 : 0 ≤ i) (h1 : i < n) : ∃ ad A1 c1 A4 c4, A = some ad ∧ w.cell? (ad.add (i.toNat * 7)) = some (.bool (rd_T63 xs i).f0.f0) ∧ w.cell? ⟨(ad.add (i.toNat * 7)).block, (ad.add (i.toNat * 7)).off + 1, none⟩ = some (.slice A1 (rd_T63 xs i).f0.f1.length c1) ∧ w.cell? ⟨(ad.add (i.toNat * 7)).block, (ad.add (i.toNat * 7)).off + 2, none⟩ = some (.int .u64 (rd_T63 xs i).f0.f2) ∧ w.cell? ⟨(ad.add (i.toNat * 7)).block, (ad.add (i.toNat * 7)).off + 3, none⟩ = some (.bool (rd_T63 xs i).f1.f0) ∧ w.cell? ⟨(ad.add (i.toNat * 7)).block, (ad.add (i.toNat * 7)).off + 4, none⟩ = some (.slice A4 (rd_T63 xs i).f1.f1.length c4) ∧ w.cell? ⟨(ad.add (i.toNat * 7)).block, (ad.add (i.toNat * 7)).off + 5, none⟩ = some (.int .u64 (rd_T63 xs i).f1.f2) ∧ w.cell? ⟨(ad.add (i.toNat * 7)).block, (ad.add (i.toNat * 7)).off + 6, none⟩ = some (.bool (rd_T63 xs i).f2) ∧ (rd_T63 xs i).f0.f1.length ≤ c1 ∧ (Kd.int .u8).C w A1 (rd_T63 xs i).f0.f1.length (rd_T63 xs i).f0.f1 ∧ (rd_T63 xs i).f1.f1.length ≤ c4 ∧ (Kd.int .u8).C w A4 (rd_T63 xs i).f1.f1.length (rd_T63 xs i).f1.f1 := by
  obtain ⟨ad, c, e, _, hK, hc0⟩ := Kd.C_get h z63 i h0 h1
  have hc : ∀ j u, c[j]? = some u → w.cell? (ad.add (i.toNat * 7 + j)) = some u := hc0
  obtain ⟨A1, c1, A4, c4, rfl, l1, g1, l4, g4⟩ := k63_open hK
  exact ⟨ad, A1, c1, A4, c4, e, hc 0 _ rfl, by rw [← add_field _ _ 1 (by omega)]; exact hc 1 _ rfl, by rw [← add_field _ _ 2 (by omega)]; exact hc 2 _ rfl, by rw [← add_field _ _ 3 (by omega)]; exact hc 3 _ rfl, by rw [← add_field _ _ 4 (by omega)]; exact hc 4 _ rfl, by rw [← add_field _ _ 5 (by omega)]; exact hc 5 _ rfl, by rw [← add_field _ _ 6 (by omega)]; exact hc 6 _ rfl, l1, g1, l4, g4⟩

end Go.Proofs.YtadhdimleabljaaQ.QR
