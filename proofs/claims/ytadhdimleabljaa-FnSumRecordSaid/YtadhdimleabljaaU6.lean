/- The record of a checksum: the thin package's contracts. -/
import Derived.Test.YtadhdimleabljaaU1
import Derived.Test.YtadhdimleabljaaGX
import Derived.Test.YtadhdimleabljaaGB
namespace Go.Proofs.Ytadhdimleabljaa
open Go.RowKit
set_option linter.unusedVariables false
set_option linter.unusedSimpArgs false
theorem marshal_any (g : Nat) (x : Int) (w : World) (hc0 : w.cell? ⟨g, 0, none⟩ = some (.int .i32 0)) (hc1 : w.cell? ⟨g, 1, none⟩ = some (.int .u64 x)) (h0 : 0 ≤ x) (h1 : Hid (x ≤ 18446744073709551615)) :
    Calls Try.prog 122 #[.pointer (some ⟨g, 0, none⟩)] w (Made w 5 (nums .u8 (sumR x))) := by
  by_cases hx : x = 0
  · subst hx
    exact marshal0_any g w hc0 hc1
  · exact marshal1_any g x w hc0 hc1 h0 h1 (by simp [hx])
theorem sumR_len (x : Int) : (sumR x).length ≤ 11 := by
  unfold sumR
  split
  · simp
  · have := vint_len 9 x
    rw [List.length_cons]
    omega
set_option maxRecDepth 100000 in
theorem sumRecord_any (x : Int) (w : World) (h0 : 0 ≤ x) (h1 : Hid (x ≤ 18446744073709551615)) :
    Calls Try.prog 70 #[.int .u64 x] w (Made w 5 (nums .u8 (sumR x))) := by
  have hl := sumR_len x
  go_enter Try.func70, Try.ntmps70
  go_wp2_with fail
  have hb := Blk.new w 127 [.int .i32 0, .int .u64 x]
  refine (marshal_any w.heap.size x _ (by rw [hb.cell]; rfl) (by rw [hb.cell]; rfl) h0 h1).mono ?_
  clear hb
  rintro E w1 ⟨v1, rfl, ho1, hb1⟩
  rw [nums_length] at ho1
  obtain ⟨A1, c1, rfl, hc1, hs1⟩ := own_sl ho1
  have HS1 := Lib.hid hs1
  have HB1 : Hid (Below w.heap.size w w1) := by
    rw [World.size_alloc] at hb1
    exact (bl_alloc (Below.refl _ _) _).trans (hb1.mono (by omega))
  clear ho1 hs1 hb1
  go_wp2_with fail
  refine (own_any A1 _ c1 (sumR x) _ HS1.out (by omega)).mono ?_
  intro E w2 h2
  obtain ⟨A2, c2, rfl, hc2, hs2, hb2, ho2⟩ := h2.sv
  clear h2
  go_wp2
  go_ret
  exact Made.mk' (by (repeat first | with_reducible exact Below.refl _ _ | with_reducible apply bl_drewN | with_reducible apply bl_drew | with_reducible apply bl_alloc | (with_reducible refine bl_trans ?_ (Hid.out (by assumption))))) hb2.out ho2.out
set_option maxRecDepth 100000 in
theorem unmarshal0_any (g t c : Nat) (A : Option Addr) (v0 v1 : Value) (w : World) (h : Blk w g t [v0, v1]) :
    Calls Try.prog 121 #[.pointer (some ⟨g, 0, none⟩), .slice A 0 c] w fun E w' => E = .returned .nilIface ∧ Wrote w g t [.int .i32 0, .int .u64 0] w' := by
  have q0 : w.cell? ⟨g, 0, none⟩ = some v0 := by rw [h.cell]; rfl
  have q1 : w.cell? ⟨g, 1, none⟩ = some v1 := by rw [h.cell]; rfl
  have f0 := h.frozen 0
  have f1 := h.frozen 1
  have H := Lib.hid h
  clear h
  go_enter Try.func121, Try.ntmps121
  go_wp2
  have HW : Hid (Wrote w g t [.int .i32 0, .int .u64 0] ((w.setCell ⟨g, 0, none⟩ (.int .i32 0)).setCell ⟨g, 1, none⟩ (.int .u64 0))) := (Wrote.sets H.out 0 _).trans (Wrote.sets (H.out.set_ 0 _) 1 _)
  clear H q0 q1 f0 f1
  refine wp_loop_rounds 1 ?_
  rw [rounds_succ]
  go_wp2
  go_ret
  exact ⟨rfl, HW.out⟩
set_option maxRecDepth 100000 in
theorem unmarshal1_any (g t n c : Nat) (A : Option Addr) (v0 v1 : Value) (x : Int) (w : World) (h : Blk w g t [v0, v1]) (hs : Sl w A n (nums .u8 (16 :: vint 9 x))) (hc : n ≤ c) (hA : ∀ b o, A = some ⟨b, o, none⟩ → b ≠ g) (hB : Byt (16 :: vint 9 x)) (h0 : 0 ≤ x) (h1 : Hid (x ≤ 18446744073709551615)) :
    Calls Try.prog 121 #[.pointer (some ⟨g, 0, none⟩), .slice A n c] w fun E w' => E = .returned .nilIface ∧ Wrote w g t [.int .i32 0, .int .u64 x] w' := by
  have q0 : w.cell? ⟨g, 0, none⟩ = some v0 := by rw [h.cell]; rfl
  have q1 : w.cell? ⟨g, 1, none⟩ = some v1 := by rw [h.cell]; rfl
  have f0 := h.frozen 0
  have f1 := h.frozen 1
  have H := Lib.hid h
  have HS := Lib.hid hs
  have HA := Lib.hid hA
  have hlen : (vint 9 x).length + 1 = n := by have := hs.1; rw [nums_length] at this; simpa using this
  have hv := vint_len 9 x
  have HN := Lib.hid (And.intro hlen hv)
  have hpos : 0 < n := by omega
  have hn : n ≤ 11 := by omega
  obtain ⟨gA, o, rfl⟩ := hs.addr hpos
  have hc1 : ¬ c = 1 := by omega
  have i1 : (1 : Int) ≤ (n : Int) := by omega
  obtain ⟨L, hL⟩ : ∃ L, L = (vint 9 x).length := ⟨_, rfl⟩
  have hLn : L = n - 1 := by omega
  have HL := Lib.hid hL
  have hL0 : 0 < L := by omega
  have u1 : uvarL (16 :: vint 9 x) 0 0 = (16, 1) := by simp [uvarL]
  have u2 : uvarL (vint 9 x) 0 0 = (x, ((vint 9 x).length : Int)) := by have := uvar_back x [] h0 h1.out; rwa [List.append_nil] at this
  have U1 := Lib.hid u1
  rw [← hL] at u2
  have U2 := Lib.hid u2
  clear h hs hA hlen hv u1 u2 hL
  go_enter Try.func121, Try.ntmps121
  go_wp2
  have HW : Hid (Wrote w g t [.int .i32 0, .int .u64 0] ((w.setCell ⟨g, 0, none⟩ (.int .i32 0)).setCell ⟨g, 1, none⟩ (.int .u64 0))) := (Wrote.sets H.out 0 _).trans (Wrote.sets (H.out.set_ 0 _) 1 _)
  generalize (w.setCell ⟨g, 0, none⟩ (.int .i32 0)).setCell ⟨g, 1, none⟩ (.int .u64 0) = w1 at *
  clear H q0 q1 f0 f1
  have HS1 := Lib.hid (sl_wrote' HW.out HA.out HS.out)
  refine wp_loop_rounds 2 ?_
  rw [rounds_succ]
  go_wp2_with fail
  refine (uvarint_any (some ⟨gA, o, none⟩) n c _ w1 HS1.out hB (by omega)).mono ?_
  rintro E w1' ⟨rfl, rfl⟩
  rw [U1.out]
  have hB2 : Byt (vint 9 x) := fun y hy => hB y (List.mem_cons_of_mem _ hy)
  have hs2 := HS1.out.drop (m := 1) (c := c) (by omega) hc
  rw [if_neg hc1, show (nums .u8 (16 :: vint 9 x)).drop 1 = nums .u8 (vint 9 x) from rfl] at hs2
  simp only [Option.map_some, add_none] at hs2
  have HS2 := Lib.hid hs2
  clear hs2
  go_wp2_with fail
  refine (uvarint_any (some ⟨gA, o + 1, none⟩) (n - 1) (c - 1) _ w1 HS2.out hB2 (by omega)).mono ?_
  rintro E w1' ⟨rfl, rfl⟩
  rw [U2.out]
  have q0 : w1.cell? ⟨g, 0, none⟩ = some (.int .i32 0) := by rw [HW.out.1.cell]; rfl
  have q1 : w1.cell? ⟨g, 1, none⟩ = some (.int .u64 0) := by rw [HW.out.1.cell]; rfl
  have f1 := HW.out.1.frozen 1
  have hl1 : (L : Int) ≤ ((n - 1 : Nat) : Int) := by omega
  have HF : Hid (Wrote w g t [.int .i32 0, .int .u64 x] (w1.setCell ⟨g, 1, none⟩ (.int .u64 x))) := HW.out.trans (Wrote.sets HW.out.1 1 _)
  have hz : n - 1 - L = 0 := by omega
  by_cases hcc : c - 1 = L
  · go_wp2_with fail
    rw [rounds_succ]
    go_wp2
    go_ret
    exact ⟨rfl, HF.out⟩
  · go_wp2_with fail
    rw [rounds_succ]
    go_wp2
    go_ret
    exact ⟨rfl, HF.out⟩
set_option maxRecDepth 100000 in
theorem readSum_any (A : Option Addr) (n c : Nat) (x : Int) (w : World) (hs : Sl w A n (nums .u8 (sumR x))) (h0 : 0 ≤ x) (h1 : Hid (x ≤ 18446744073709551615)) (hB : Byt (sumR x)) :
    Calls Try.prog 69 #[.slice A n c] w (Ret w (.tuple #[.int .u64 x, .bool true])) := by
  have HS := Lib.hid hs
  have hl := sumR_len x
  have hlen : (sumR x).length = n := by have := hs.1; rwa [nums_length] at this
  have HL := Lib.hid hlen
  clear hs hlen
  go_enter Try.func69, Try.ntmps69
  go_wp2_with fail
  have hb := Blk.new w 127 [.int .i32 0, .int .u64 0]
  refine (own_any A n c (sumR x) _ (HS.out.alloc _) (by have := HL.out; omega)).mono ?_
  rintro E w1 ⟨v1, rfl, ho1, hb1⟩
  rw [nums_length, HL.out] at ho1
  obtain ⟨A1, c1, rfl, hc1, hs1⟩ := own_sl ho1
  have hA1 : ∀ b o, A1 = some ⟨b, o, none⟩ → b ≠ w.heap.size := by
    intro b o e
    subst e
    have := (ho1.lt b rfl).1
    rw [World.size_alloc] at this
    omega
  have hb2 := hb.below hb1 hb.lt
  have HB1 : Hid (Below w.heap.size w w1) := by
    rw [World.size_alloc] at hb1
    exact (bl_alloc (Below.refl _ _) _).trans (hb1.mono (by omega))
  have hum : Calls Try.prog 121 #[.pointer (some ⟨w.heap.size, 0, none⟩), .slice A1 n c1] w1 fun E w' => E = .returned .nilIface ∧ Wrote w1 w.heap.size 127 [.int .i32 0, .int .u64 x] w' := by
    by_cases hx : x = 0
    · subst hx
      have : n = 0 := by have := HL.out; simp [sumR] at this; omega
      subst this
      exact unmarshal0_any w.heap.size _ c1 A1 _ _ w1 hb2
    · have e : sumR x = 16 :: vint 9 x := by unfold sumR; rw [if_neg hx]
      rw [e] at hs1 hB
      exact unmarshal1_any w.heap.size _ n c1 A1 _ _ x w1 hb2 hs1 hc1 hA1 hB h0 h1
  have HU := Lib.hid hum
  clear hb hb1 hb2 ho1 hs1 hA1 hum
  go_wp2_with fail
  refine HU.out.mono ?_
  rintro E w2 ⟨rfl, hw2⟩
  have q1 : w2.cell? ⟨w.heap.size, 1, none⟩ = some (.int .u64 x) := by rw [hw2.1.cell]; rfl
  have HB2 : Hid (Below w.heap.size w w2) := below_wrote HB1.out (Nat.le_refl _) HB1.out.size hw2
  clear hw2 HU
  go_wp2
  go_quiet (fail)
  go_wp2
  go_ret2
  exact ⟨rfl, bl_drewN HB2.out _⟩
end Go.Proofs.Ytadhdimleabljaa
namespace Go.Proofs.YtadhdimleabljaaQ.Ext
open Go.RowKit Go.Proofs.YtadhdimleabljaaW.PrintWords
set_option linter.unusedVariables false
def impl_SumRecord.f (a0 : Int) : Option (List Int) := if u64ok a0 = true then some (Ytadhdimleabljaa.sumR a0) else none
theorem impl_SumRecord.calls (a0 : Int) (r : List Int) (w : World) (h : impl_SumRecord.f a0 = some r) :
    Calls Try.prog 70 #[.int .u64 a0] w fun e w' => ∃ v0_ : Value, e = .returned (v0_) ∧ Kd.R (Kd.int .u8) 5 w' w.heap.size (fun _ => True) v0_ r ∧ Below w.heap.size w w' := by
  obtain ⟨h0, rfl⟩ := if_some h
  exact (Ytadhdimleabljaa.sumRecord_any a0 w (u64ok_of h0).1 (u64ok_of h0).2).mono fun e w' hm => made_R hm
/-- The number of a record. -/
def sumOf (l : List Int) : Int := match l with
  | [] => 0
  | _ :: r => (Ytadhdimleabljaa.uvarL r 0 0).1
def impl_ReadSumRecord.f (l0 : List Int) : Option (Int × Bool) := if l0 = Ytadhdimleabljaa.sumR (sumOf l0) ∧ u64ok (sumOf l0) = true ∧ bytb l0 = true then some (sumOf l0, true) else none
theorem impl_ReadSumRecord.calls (A0 : Option Addr) (c0 : Nat) (l0 : List Int) (r1 : Int) (r2 : Bool) (w : World) (hr0 : Kd.C (Kd.int .u8) w A0 l0.length l0) (hc0 : l0.length ≤ c0) (h : impl_ReadSumRecord.f l0 = some (r1, r2)) :
    Calls Try.prog 69 #[.slice A0 l0.length c0] w fun e w' => e = .returned (.tuple #[.int .u64 r1, .bool r2]) ∧ Below w.heap.size w w' := by
  obtain ⟨⟨h0, h1, h2⟩, h3⟩ := if_some h
  simp only [Prod.mk.injEq] at h3
  obtain ⟨rfl, rfl⟩ := h3
  have hs := sl_of_C hr0
  have hb := byt_of h2
  generalize hx : sumOf l0 = x at *
  clear hx
  subst h0
  exact (Ytadhdimleabljaa.readSum_any A0 _ c0 x w hs (u64ok_of h1).1 (u64ok_of h1).2 hb).mono fun e w' ⟨he, hb⟩ => ⟨he, hb⟩
end Go.Proofs.YtadhdimleabljaaQ.Ext
