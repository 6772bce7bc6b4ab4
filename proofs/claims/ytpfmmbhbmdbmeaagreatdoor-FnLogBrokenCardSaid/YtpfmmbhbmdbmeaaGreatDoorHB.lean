/- A byte, and a number of as few bytes as it needs, of a reader that hashes. -/
import Derived.Test.YtpfmmbhbmdbmeaaGreatDoorHA
import Derived.LaidEql
namespace Go.Proofs.YtpfmmbhbmdbmeaaGreatDoor
open Go.RowKit
set_option linter.unusedVariables false
set_option linter.unusedSimpArgs false
set_option maxRecDepth 100000 in
theorem errU : Tryz.prog.underlying 169 = some (.pointer 171) := by kernel_rfl
set_option maxRecDepth 100000 in
theorem errInfo : (Tryz.prog.info? 169).map (·.comparable) = some true ∧ (Tryz.prog.info? 171).map (·.size) = some 1 := ⟨by kernel_rfl, by kernel_rfl⟩
set_option maxRecDepth 100000 in
/-- An error is equal to itself. -/
theorem eqErr (a : Addr) (w : World) : (binOp .eql 82 (.iface 169 (.pointer (some a))) (.iface 169 (.pointer (some a)))).run Tryz.prog w = .ok (.bool true) w := by
  obtain ⟨i, hi, hc⟩ := Option.map_eq_some_iff.1 errInfo.1
  obtain ⟨j, hj, _⟩ := Option.map_eq_some_iff.1 errInfo.2
  exact run_eql_iface_ptr_same w a Tryz.underlying82 errU hi hc hj
attribute [local go_sem] eqErr
theorem made_listH (z : Value) (c : Nat) : madeCells #[z] c = (List.replicate c z).toArray := by
  apply Array.ext
  · simp [madeCells]
  · intro i h1 h2
    simp [madeCells, Nat.mod_one]
theorem make_one (W : World) : (Instr.makeSlice 27 (.int .i64 1) (.int .i64 1)).run Tryz.prog W = .ok (.slice (some ⟨W.heap.size, 0, none⟩) 1 1) (W.alloc (.cells #[.int .u8 0] 5)) := by
  obtain ⟨i0, hi0, hz0, hz1, hz2⟩ := info_parts infoU8
  have := run_make (P := Tryz.prog) W 27 5 i0 (.int .u8 0) Tryz.underlying27 hi0 hz0 .i64 .i64 1 1 (by omega) (by omega) (by rw [hz2]; decide) (by decide)
  rw [hz1, Nat.mul_one] at this
  rw [this]
  have e : (Value.int .u8 0).cells = #[Value.int .u8 0] := rfl
  rw [e, made_listH]
  rfl
set_option maxRecDepth 100000 in
theorem hashByte_end (gt gb gc n c at' : Nat) (A : Option Addr) (l h : List Int) (te : TypeId) (pe : Value) (w : World) (r : HrS w gt gb gc n c at' A l h) (ha : at' = n) (hV : w.cell? ⟨0, 0, none⟩ = some (.iface te pe)) :
    Calls Tryz.prog 73 #[.pointer (some ⟨gt, 0, none⟩)] w (fun E w' => E = .returned (.tuple #[.int .u8 0, .iface te pe]) ∧ Frm [] w w') := by
  have R1 := Lib.hid (r.below ((Below.refl _ _).alloc (Nat.le_refl _) (.cells #[.int .u8 0] 5)))
  have HV : Hid ((w.alloc (.cells #[.int .u8 0] 5)).cell? ⟨0, 0, none⟩ = some (.iface te pe)) := cell_frm hV (Frm.alloc w _) (by simp)
  have HD : Hid (Blk (w.alloc (.cells #[.int .u8 0] 5)) w.heap.size 5 [.int .u8 0]) := Blk.new w _ _
  have HF : Hid (Frm [] w (w.alloc (.cells #[.int .u8 0] 5))) := Frm.alloc w _
  have hmk := make_one w
  clear r hV
  go_enter Tryz.func73, Tryz.ntmps73
  go_wp2_with fail
  clear hmk
  generalize w.alloc (.cells #[.int .u8 0] 5) = w1 at *
  generalize w.heap.size = D at *
  refine (hashRead_end gt gb gc n c at' 1 1 A _ l h te pe w1 R1.out ha HV.out).mono ?_
  rintro E w2 ⟨rfl, hf⟩
  have HF2 : Hid (Frm [] w w2) := HF.out.trans hf (fun i hi => by cases hi)
  have b0 := (HD.out.frm hf (by simp)).at_ (i := 0) rfl
  clear hf
  go_wp2
  go_ret2
  exact ⟨rfl, HF2.out⟩
set_option maxRecDepth 100000 in
theorem hashByte_some (gt gb gc n c at' : Nat) (A : Option Addr) (l h : List Int) (x : Int) (w : World) (r : HrS w gt gb gc n c at' A l h) (ha : at' < n) (hx : l[at']? = some x) (hh : h.length + 1 ≤ 1000000) :
    Calls Tryz.prog 73 #[.pointer (some ⟨gt, 0, none⟩)] w (fun E w' => E = .returned (.tuple #[.int .u8 x, .nilIface]) ∧ HrS w' gt gb gc n c (at' + 1) A l (h ++ [x]) ∧ Frm [gt, gb, gc] w w') := by
  have R1 := Lib.hid (r.below ((Below.refl _ _).alloc (Nat.le_refl _) (.cells #[.int .u8 0] 5)))
  have HD : Hid (Blk (w.alloc (.cells #[.int .u8 0] 5)) w.heap.size 5 [.int .u8 0]) := Blk.new w _ _
  have HF : Hid (Frm [] w (w.alloc (.cells #[.int .u8 0] 5))) := Frm.alloc w _
  have HDN : Hid (w.heap.size ≠ gt ∧ w.heap.size ≠ gb ∧ w.heap.size ≠ gc) := ⟨fun e => by have := r.t.lt; omega, fun e => by have := r.b.lt; omega, fun e => by have := r.k.lt; omega⟩
  have HAD : Hid (∀ g o, A = some ⟨g, o, none⟩ → 0 < n → g ≠ w.heap.size) := fun g o e h0 => by have := r.sl.lt e h0; omega
  have e1 : (l.drop at').take 1 = [x] := by
    have hi := List.getElem?_eq_some_iff.1 hx
    rw [← List.getElem_cons_drop hi.1, hi.2]
    rfl
  have HE := Lib.hid e1
  have hmin : Nat.min (n - at') 1 = 1 := Nat.min_eq_right (by omega)
  have HMN := Lib.hid hmin
  have hmk := make_one w
  clear r e1 hmin hx
  go_enter Tryz.func73, Tryz.ntmps73
  go_wp2_with fail
  clear hmk
  generalize w.alloc (.cells #[.int .u8 0] 5) = w1 at *
  generalize hws : w.heap.size = D at *
  have HWS := Lib.hid hws
  clear hws
  refine (hashRead_some gt gb gc D 0 5 1 1 n c at' 1 A _ [.int .u8 0] l h w1 R1.out ha HMN.out HD.out rfl (Nat.le_refl _) (by simp) (by omega) HDN.out HAD.out hh).mono ?_
  rintro E w2 ⟨rfl, hr2, hb2, hf⟩
  rw [HE.out] at hr2 hb2
  have HR := Lib.hid hr2
  have HF2 : Hid (Frm [gt, gb, gc] w w2) := (HF.out.mono (fun i hi => by cases hi)).trans hf (fun i hi => by
    rcases List.mem_cons.1 hi with rfl | hi
    · exact .inr (by have := HWS.out; omega)
    · exact .inl hi)
  have b0 : w2.cell? ⟨D, 0, none⟩ = some (.int .u8 x) := hb2.at_ rfl
  clear hf hr2 hb2
  go_wp2
  go_ret2
  exact ⟨rfl, HR.out, HF2.out⟩
end Go.Proofs.YtpfmmbhbmdbmeaaGreatDoor
