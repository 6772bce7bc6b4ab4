-- Lines that a program has printed for this claim: functions as plain Lean functions, and their walks.
import Derived.Test.YtpfmmbhbmdbmeaaGreatDoorProg
import Derived.Below
import Derived.Deep.Draws
import Derived.Deep.AppendLies
import Derived.Maps.AppendAt
import Derived.OwnWalk
import Derived.Laws.BytesArg
import Derived.Laws.MakeOwn
import Derived.Laws.OwnMore
import Derived.Deep.OwnRows
import Derived.Tactics
import Derived.Lib.ConvBytes
import Derived.Laws.Slices
import Derived.WalkKit
import Derived.KernelRfl
import Derived.RowKit3
import Derived.Deep.LoopGhost
import Derived.Deep.QuietTactic
import Derived.BigQuiet
import Derived.WideLaws
import Derived.Deep.DeepCutAuto
import Derived.Deep.CutBlock
import Derived.Deep.RegionHeld3
import Derived.Laws.Rows
import Derived.Lib.AppendStr
import Derived.ArgAppend
import Derived.Laws.IdiomCopy
import Derived.OrdersHeld
import Derived.Laws.BitsLemmas
import Derived.RowKit
import Derived.Test.YtpfmmbhbmdbmeaaGreatDoorWWords
import Derived.Test.YtpfmmbhbmdbmeaaGreatDoorWB
import Derived.Test.YtpfmmbhbmdbmeaaGreatDoorGX
import Derived.Test.YtpfmmbhbmdbmeaaGreatDoorBB
namespace Go.Proofs.YtpfmmbhbmdbmeaaGreatDoorQ.QL
open Go.RowKit Go.Proofs.YtpfmmbhbmdbmeaaGreatDoorQ.Ext Go.Proofs.YtpfmmbhbmdbmeaaGreatDoorW.PrintWords Go.Proofs.YtpfmmbhbmdbmeaaGreatDoorW.PrintLast Go.Proofs.YtpfmmbhbmdbmeaaGreatDoorW.PrintMore
attribute [local go_sem] max2_int min2_int max_two min_two max_three min_three max_four min_four   -- for this text's walks alone
set_option linter.unusedVariables false
set_option linter.unusedSimpArgs false



def errW : Option Int → Value
  | none => .nilIface
  | some c => .iface 0 (.int .i64 c)
theorem errW_none : errW none = .nilIface := rfl
theorem errW_some (c : Int) : errW (some c) = .iface 0 (.int .i64 c) := rfl

theorem info5 : (Tryz.prog.info? 5).map (fun i => (i.zero, i.size, i.bytes)) = some (some (.int .u8 0), 1, 1) := by kernel_rfl
theorem info31 : (Tryz.prog.info? 31).map (fun i => (i.zero, i.size, i.bytes)) = some (some (.agg #[(.slice none 0 0), (.slice none 0 0), (.int .u64 0), (.int .u8 0), (.int .u8 0)]), 5, 64) := by kernel_rfl
theorem info51 : (Tryz.prog.info? 51).map (fun i => (i.zero, i.size, i.bytes)) = some (some (.agg #[(.slice none 0 0), (.slice none 0 0), (.int .u64 0), (.int .u8 0), (.int .u8 0)]), 5, 64) := by kernel_rfl
-- the values' own types
/-! #### struct type 31 -/
structure S31 where
  f0 : (List Int)
  f1 : (List Int)
  f2 : Int
  f3 : Int
  f4 : Int
def z31 : S31 := ⟨([] : List Int), ([] : List Int), (0 : Int), (0 : Int), (0 : Int)⟩
def k31 : Kd S31 := Kd.iso (Kd.pair (Kd.slice 5 (Kd.int .u8)) (Kd.pair (Kd.slice 5 (Kd.int .u8)) (Kd.pair (Kd.int .u64) (Kd.pair (Kd.int .u8) (Kd.int .u8))))) (fun x : S31 => (x.f0, x.f1, x.f2, x.f3, x.f4))
theorem k31_heap : Kd.Heap k31 := Kd.heap_iso _ (Kd.heap_pair (Kd.heap_slice 5 (Kd.heap_int .u8)) (Kd.heap_pair (Kd.heap_slice 5 (Kd.heap_int .u8)) (Kd.heap_pair (Kd.heap_int .u64) (Kd.heap_pair (Kd.heap_int .u8) (Kd.heap_int .u8)))))
theorem k31_open {w : World} {x : S31} {cs : List Value} (h : k31.K w x cs) : ∃ A0 c0 A1 c1, cs = [.slice A0 x.f0.length c0, .slice A1 x.f1.length c1, .int .u64 x.f2, .int .u8 x.f3, .int .u8 x.f4] ∧ x.f0.length ≤ c0 ∧ (Kd.int .u8).C w A0 x.f0.length x.f0 ∧ x.f1.length ≤ c1 ∧ (Kd.int .u8).C w A1 x.f1.length x.f1 := by
  obtain ⟨_, _, rfl, ⟨A0, c0, rfl, l0, g0⟩, ⟨_, _, rfl, ⟨A1, c1, rfl, l1, g1⟩, ⟨_, _, rfl, rfl, ⟨_, _, rfl, rfl, rfl⟩⟩⟩⟩ := h
  exact ⟨A0, c0, A1, c1, rfl, l0, g0, l1, g1⟩
theorem k31_mk (w : World) (x : S31) {A0 : Option Addr} {c0 : Nat} (l0 : x.f0.length ≤ c0) (g0 : (Kd.int .u8).C w A0 x.f0.length x.f0) {A1 : Option Addr} {c1 : Nat} (l1 : x.f1.length ≤ c1) (g1 : (Kd.int .u8).C w A1 x.f1.length x.f1) : k31.K w x [.slice A0 x.f0.length c0, .slice A1 x.f1.length c1, .int .u64 x.f2, .int .u8 x.f3, .int .u8 x.f4] := ⟨[.slice A0 x.f0.length c0], [.slice A1 x.f1.length c1, .int .u64 x.f2, .int .u8 x.f3, .int .u8 x.f4], rfl, ⟨A0, c0, rfl, l0, g0⟩, ⟨[.slice A1 x.f1.length c1], [.int .u64 x.f2, .int .u8 x.f3, .int .u8 x.f4], rfl, ⟨A1, c1, rfl, l1, g1⟩, ⟨[.int .u64 x.f2], [.int .u8 x.f3, .int .u8 x.f4], rfl, rfl, ⟨[.int .u8 x.f3], [.int .u8 x.f4], rfl, rfl, rfl⟩⟩⟩⟩
theorem k31_openF {W : World} {ok : Nat → Prop} {x : S31} {cs : List Value} (h : Kd.FK k31 W ok x cs) : ∃ A0 c0 A1 c1, cs = [.slice A0 x.f0.length c0, .slice A1 x.f1.length c1, .int .u64 x.f2, .int .u8 x.f3, .int .u8 x.f4] ∧ x.f0.length ≤ c0 ∧ Kd.F (Kd.int .u8) W ok A0 x.f0.length x.f0 ∧ x.f1.length ≤ c1 ∧ Kd.F (Kd.int .u8) W ok A1 x.f1.length x.f1 := by
  obtain ⟨A0, c0, A1, c1, rfl, l0, _, l1, _⟩ := k31_open (Kd.FK_now h)
  exact ⟨A0, c0, A1, c1, rfl, l0, (fun W' hW => by obtain ⟨A0_, c0_, A1_, c1_, he, l0_, g0_, l1_, g1_⟩ := k31_open (h W' hW); injection (Option.some.inj (show some (Value.slice A0 x.f0.length c0) = some (Value.slice A0_ x.f0.length c0_) from congrArg (fun l => l[0]?) he)) with ha_ _ _; rw [ha_]; exact g0_), l1, (fun W' hW => by obtain ⟨A0_, c0_, A1_, c1_, he, l0_, g0_, l1_, g1_⟩ := k31_open (h W' hW); injection (Option.some.inj (show some (Value.slice A1 x.f1.length c1) = some (Value.slice A1_ x.f1.length c1_) from congrArg (fun l => l[1]?) he)) with ha_ _ _; rw [ha_]; exact g1_)⟩
theorem k31_mkF (W : World) (ok : Nat → Prop) (x : S31) {A0 : Option Addr} {c0 : Nat} (l0 : x.f0.length ≤ c0) (g0 : Kd.F (Kd.int .u8) W ok A0 x.f0.length x.f0) {A1 : Option Addr} {c1 : Nat} (l1 : x.f1.length ≤ c1) (g1 : Kd.F (Kd.int .u8) W ok A1 x.f1.length x.f1) : Kd.FK k31 W ok x [.slice A0 x.f0.length c0, .slice A1 x.f1.length c1, .int .u64 x.f2, .int .u8 x.f3, .int .u8 x.f4] := fun W2 hW => k31_mk W2 x l0 (g0 W2 hW) l1 (g1 W2 hW)
def rd_T31 (xs : List S31) (i : Int) : S31 := xs.getD i.toNat z31
theorem at_T31 {w : World} {A : Option Addr} {n : Nat} {xs : List S31} (h : Kd.C k31 w A n xs) (i : Int) (h0 : 0 ≤ i) (h1 : i < n) : ∃ ad A0 c0 A1 c1, A = some ad ∧ w.cell? (ad.add (i.toNat * 5)) = some (.slice A0 (rd_T31 xs i).f0.length c0) ∧ w.cell? ⟨(ad.add (i.toNat * 5)).block, (ad.add (i.toNat * 5)).off + 1, none⟩ = some (.slice A1 (rd_T31 xs i).f1.length c1) ∧ w.cell? ⟨(ad.add (i.toNat * 5)).block, (ad.add (i.toNat * 5)).off + 2, none⟩ = some (.int .u64 (rd_T31 xs i).f2) ∧ w.cell? ⟨(ad.add (i.toNat * 5)).block, (ad.add (i.toNat * 5)).off + 3, none⟩ = some (.int .u8 (rd_T31 xs i).f3) ∧ w.cell? ⟨(ad.add (i.toNat * 5)).block, (ad.add (i.toNat * 5)).off + 4, none⟩ = some (.int .u8 (rd_T31 xs i).f4) ∧ (rd_T31 xs i).f0.length ≤ c0 ∧ (Kd.int .u8).C w A0 (rd_T31 xs i).f0.length (rd_T31 xs i).f0 ∧ (rd_T31 xs i).f1.length ≤ c1 ∧ (Kd.int .u8).C w A1 (rd_T31 xs i).f1.length (rd_T31 xs i).f1 := by
  obtain ⟨ad, c, e, _, hK, hc0⟩ := Kd.C_get h z31 i h0 h1
  have hc : ∀ j u, c[j]? = some u → w.cell? (ad.add (i.toNat * 5 + j)) = some u := hc0
  obtain ⟨A0, c0, A1, c1, rfl, l0, g0, l1, g1⟩ := k31_open hK
  exact ⟨ad, A0, c0, A1, c1, e, hc 0 _ rfl, by rw [← add_field _ _ 1 (by omega)]; exact hc 1 _ rfl, by rw [← add_field _ _ 2 (by omega)]; exact hc 2 _ rfl, by rw [← add_field _ _ 3 (by omega)]; exact hc 3 _ rfl, by rw [← add_field _ _ 4 (by omega)]; exact hc 4 _ rfl, l0, g0, l1, g1⟩

/-! #### struct type 45 -/
structure S45 where
  f0 : (List S31)
  f1 : Bool
  f2 : Int
  f3 : Bool
def z45 : S45 := ⟨([] : List S31), false, (0 : Int), false⟩
def k45 : Kd S45 := Kd.iso (Kd.pair (Kd.slice 31 k31) (Kd.pair Kd.bool (Kd.pair (Kd.int .u64) Kd.bool))) (fun x : S45 => (x.f0, x.f1, x.f2, x.f3))
theorem k45_heap : Kd.Heap k45 := Kd.heap_iso _ (Kd.heap_pair (Kd.heap_slice 31 k31_heap) (Kd.heap_pair Kd.heap_bool (Kd.heap_pair (Kd.heap_int .u64) Kd.heap_bool)))
theorem k45_open {w : World} {x : S45} {cs : List Value} (h : k45.K w x cs) : ∃ A0 c0, cs = [.slice A0 x.f0.length c0, .bool x.f1, .int .u64 x.f2, .bool x.f3] ∧ x.f0.length ≤ c0 ∧ k31.C w A0 x.f0.length x.f0 := by
  obtain ⟨_, _, rfl, ⟨A0, c0, rfl, l0, g0⟩, ⟨_, _, rfl, rfl, ⟨_, _, rfl, rfl, rfl⟩⟩⟩ := h
  exact ⟨A0, c0, rfl, l0, g0⟩
theorem k45_openF {W : World} {ok : Nat → Prop} {x : S45} {cs : List Value} (h : Kd.FK k45 W ok x cs) : ∃ A0 c0, cs = [.slice A0 x.f0.length c0, .bool x.f1, .int .u64 x.f2, .bool x.f3] ∧ x.f0.length ≤ c0 ∧ Kd.F k31 W ok A0 x.f0.length x.f0 := by
  obtain ⟨A0, c0, rfl, l0, _⟩ := k45_open (Kd.FK_now h)
  exact ⟨A0, c0, rfl, l0, (fun W' hW => by obtain ⟨A0_, c0_, he, l0_, g0_⟩ := k45_open (h W' hW); injection (Option.some.inj (show some (Value.slice A0 x.f0.length c0) = some (Value.slice A0_ x.f0.length c0_) from congrArg (fun l => l[0]?) he)) with ha_ _ _; rw [ha_]; exact g0_)⟩
def rd_T45 (xs : List S45) (i : Int) : S45 := xs.getD i.toNat z45
theorem at_T45 {w : World} {A : Option Addr} {n : Nat} {xs : List S45} (h : Kd.C k45 w A n xs) (i : Int) (h0 : 0 ≤ i) (h1 : i < n) : ∃ ad A0 c0, A = some ad ∧ w.cell? (ad.add (i.toNat * 4)) = some (.slice A0 (rd_T45 xs i).f0.length c0) ∧ w.cell? ⟨(ad.add (i.toNat * 4)).block, (ad.add (i.toNat * 4)).off + 1, none⟩ = some (.bool (rd_T45 xs i).f1) ∧ w.cell? ⟨(ad.add (i.toNat * 4)).block, (ad.add (i.toNat * 4)).off + 2, none⟩ = some (.int .u64 (rd_T45 xs i).f2) ∧ w.cell? ⟨(ad.add (i.toNat * 4)).block, (ad.add (i.toNat * 4)).off + 3, none⟩ = some (.bool (rd_T45 xs i).f3) ∧ (rd_T45 xs i).f0.length ≤ c0 ∧ k31.C w A0 (rd_T45 xs i).f0.length (rd_T45 xs i).f0 := by
  obtain ⟨ad, c, e, _, hK, hc0⟩ := Kd.C_get h z45 i h0 h1
  have hc : ∀ j u, c[j]? = some u → w.cell? (ad.add (i.toNat * 4 + j)) = some u := hc0
  obtain ⟨A0, c0, rfl, l0, g0⟩ := k45_open hK
  exact ⟨ad, A0, c0, e, hc 0 _ rfl, by rw [← add_field _ _ 1 (by omega)]; exact hc 1 _ rfl, by rw [← add_field _ _ 2 (by omega)]; exact hc 2 _ rfl, by rw [← add_field _ _ 3 (by omega)]; exact hc 3 _ rfl, l0, g0⟩

/-! #### struct type 51 -/
structure S51 where
  f0 : (List Int)
  f1 : (List Int)
  f2 : Int
  f3 : Int
  f4 : Int
def z51 : S51 := ⟨([] : List Int), ([] : List Int), (0 : Int), (0 : Int), (0 : Int)⟩
def k51 : Kd S51 := Kd.iso (Kd.pair (Kd.slice 5 (Kd.int .u8)) (Kd.pair (Kd.slice 5 (Kd.int .u8)) (Kd.pair (Kd.int .u64) (Kd.pair (Kd.int .u8) (Kd.int .u8))))) (fun x : S51 => (x.f0, x.f1, x.f2, x.f3, x.f4))
theorem k51_open {w : World} {x : S51} {cs : List Value} (h : k51.K w x cs) : ∃ A0 c0 A1 c1, cs = [.slice A0 x.f0.length c0, .slice A1 x.f1.length c1, .int .u64 x.f2, .int .u8 x.f3, .int .u8 x.f4] ∧ x.f0.length ≤ c0 ∧ (Kd.int .u8).C w A0 x.f0.length x.f0 ∧ x.f1.length ≤ c1 ∧ (Kd.int .u8).C w A1 x.f1.length x.f1 := by
  obtain ⟨_, _, rfl, ⟨A0, c0, rfl, l0, g0⟩, ⟨_, _, rfl, ⟨A1, c1, rfl, l1, g1⟩, ⟨_, _, rfl, rfl, ⟨_, _, rfl, rfl, rfl⟩⟩⟩⟩ := h
  exact ⟨A0, c0, A1, c1, rfl, l0, g0, l1, g1⟩
theorem k51_mkM (w : World) (base : Nat) (ok : Nat → Prop) (x : S51) {v0 : Value} (g0 : (Kd.int .u8).R 5 w base ok v0 x.f0) {v1 : Value} (g1 : (Kd.int .u8).R 5 w base ok v1 x.f1) : k51.M w base ok x [v0, v1, .int .u64 x.f2, .int .u8 x.f3, .int .u8 x.f4] := ⟨[v0], [v1, .int .u64 x.f2, .int .u8 x.f3, .int .u8 x.f4], rfl, ⟨v0, rfl, g0⟩, ⟨[v1], [.int .u64 x.f2, .int .u8 x.f3, .int .u8 x.f4], rfl, ⟨v1, rfl, g1⟩, ⟨[.int .u64 x.f2], [.int .u8 x.f3, .int .u8 x.f4], rfl, rfl, ⟨[.int .u8 x.f3], [.int .u8 x.f4], rfl, rfl, rfl⟩⟩⟩⟩
def rd_T51 (xs : List S51) (i : Int) : S51 := xs.getD i.toNat z51
theorem at_T51 {w : World} {A : Option Addr} {n : Nat} {xs : List S51} (h : Kd.C k51 w A n xs) (i : Int) (h0 : 0 ≤ i) (h1 : i < n) : ∃ ad A0 c0 A1 c1, A = some ad ∧ w.cell? (ad.add (i.toNat * 5)) = some (.slice A0 (rd_T51 xs i).f0.length c0) ∧ w.cell? ⟨(ad.add (i.toNat * 5)).block, (ad.add (i.toNat * 5)).off + 1, none⟩ = some (.slice A1 (rd_T51 xs i).f1.length c1) ∧ w.cell? ⟨(ad.add (i.toNat * 5)).block, (ad.add (i.toNat * 5)).off + 2, none⟩ = some (.int .u64 (rd_T51 xs i).f2) ∧ w.cell? ⟨(ad.add (i.toNat * 5)).block, (ad.add (i.toNat * 5)).off + 3, none⟩ = some (.int .u8 (rd_T51 xs i).f3) ∧ w.cell? ⟨(ad.add (i.toNat * 5)).block, (ad.add (i.toNat * 5)).off + 4, none⟩ = some (.int .u8 (rd_T51 xs i).f4) ∧ (rd_T51 xs i).f0.length ≤ c0 ∧ (Kd.int .u8).C w A0 (rd_T51 xs i).f0.length (rd_T51 xs i).f0 ∧ (rd_T51 xs i).f1.length ≤ c1 ∧ (Kd.int .u8).C w A1 (rd_T51 xs i).f1.length (rd_T51 xs i).f1 := by
  obtain ⟨ad, c, e, _, hK, hc0⟩ := Kd.C_get h z51 i h0 h1
  have hc : ∀ j u, c[j]? = some u → w.cell? (ad.add (i.toNat * 5 + j)) = some u := hc0
  obtain ⟨A0, c0, A1, c1, rfl, l0, g0, l1, g1⟩ := k51_open hK
  exact ⟨ad, A0, c0, A1, c1, e, hc 0 _ rfl, by rw [← add_field _ _ 1 (by omega)]; exact hc 1 _ rfl, by rw [← add_field _ _ 2 (by omega)]; exact hc 2 _ rfl, by rw [← add_field _ _ 3 (by omega)]; exact hc 3 _ rfl, by rw [← add_field _ _ 4 (by omega)]; exact hc 4 _ rfl, l0, g0, l1, g1⟩

/-! #### struct type 60 -/
structure S60 where
  f0 : Int
  f1 : Int
  f2 : Int
def z60 : S60 := ⟨(0 : Int), (0 : Int), (0 : Int)⟩
def k60 : Kd S60 := Kd.iso (Kd.pair (Kd.int .u32) (Kd.pair (Kd.int .u32) (Kd.int .u32))) (fun x : S60 => (x.f0, x.f1, x.f2))
theorem k60_open {w : World} {x : S60} {cs : List Value} (h : k60.K w x cs) : cs = [.int .u32 x.f0, .int .u32 x.f1, .int .u32 x.f2] := by
  obtain ⟨_, _, rfl, rfl, ⟨_, _, rfl, rfl, rfl⟩⟩ := h
  exact rfl
theorem k60_mk (w : World) (x : S60)  : k60.K w x [.int .u32 x.f0, .int .u32 x.f1, .int .u32 x.f2] := ⟨[.int .u32 x.f0], [.int .u32 x.f1, .int .u32 x.f2], rfl, rfl, ⟨[.int .u32 x.f1], [.int .u32 x.f2], rfl, rfl, rfl⟩⟩
def rd_T60 (xs : List S60) (i : Int) : S60 := xs.getD i.toNat z60
theorem at_T60 {w : World} {A : Option Addr} {n : Nat} {xs : List S60} (h : Kd.C k60 w A n xs) (i : Int) (h0 : 0 ≤ i) (h1 : i < n) : ∃ ad , A = some ad ∧ w.cell? (ad.add (i.toNat * 3)) = some (.int .u32 (rd_T60 xs i).f0) ∧ w.cell? ⟨(ad.add (i.toNat * 3)).block, (ad.add (i.toNat * 3)).off + 1, none⟩ = some (.int .u32 (rd_T60 xs i).f1) ∧ w.cell? ⟨(ad.add (i.toNat * 3)).block, (ad.add (i.toNat * 3)).off + 2, none⟩ = some (.int .u32 (rd_T60 xs i).f2) := by
  obtain ⟨ad, c, e, _, hK, hc0⟩ := Kd.C_get h z60 i h0 h1
  have hc : ∀ j u, c[j]? = some u → w.cell? (ad.add (i.toNat * 3 + j)) = some u := hc0
  obtain rfl := k60_open hK
  exact ⟨ad, e, hc 0 _ rfl, by rw [← add_field _ _ 1 (by omega)]; exact hc 1 _ rfl, by rw [← add_field _ _ 2 (by omega)]; exact hc 2 _ rfl⟩

end Go.Proofs.YtpfmmbhbmdbmeaaGreatDoorQ.QL
