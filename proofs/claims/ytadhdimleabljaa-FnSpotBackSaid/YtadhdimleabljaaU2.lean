/- Where a record lies, read from its bytes: contracts. -/
import Derived.Test.YtadhdimleabljaaGM
import Derived.Test.YtadhdimleabljaaN0
import Derived.BigRegion
import Derived.Test.YtadhdimleabljaaGX
import Derived.Test.YtadhdimleabljaaGB
namespace Go.Proofs.Ytadhdimleabljaa
open Go.RowKit
set_option linter.unusedVariables false
set_option linter.unusedSimpArgs false
set_option maxRecDepth 100000 in
theorem spotDecode_any (g t : Nat) (A : Option Addr) (n c : Nat) (l : List Int) (v0 v1 v2 : Value) (w : World) (h : Blk w g t [v0, v1, v2]) (hs : Sl w A n (nums .u8 l)) (hB : Byt l) (hn : n = 12) (hc : n ≤ c) :
    Calls Try.prog 142 #[.pointer (some ⟨g, 0, none⟩), .slice A n c] w fun E w' => E = .returned (.tuple #[]) ∧ Wrote w g t [.int .u32 (val4 l 0), .int .u32 (val4 l 4), .int .u32 (val4 l 8)] w' := by
  subst hn
  have H := Lib.hid h
  have HS := Lib.hid hs
  have hg := h.lt
  clear h hs
  go_enter Try.func142, Try.ntmps142
  go_wp2_with fail
  refine (bytesU32_any A 12 c l w HS.out hB (by omega)).mono ?_
  rintro E w1 ⟨v1', rfl, ho1, hb1⟩
  have hlen : (nums .u32 (leN l (12 / 4))).length = 3 := by rw [nums_length, leN_len]
  rw [hlen] at ho1
  obtain ⟨A1, c1, rfl, hc1, hs1⟩ := own_sl ho1
  obtain ⟨gl, o, rfl⟩ := hs1.addr (by omega)
  have hgl : gl ≠ g := by have := (ho1.lt gl rfl).1; omega
  have hgl2 : g ≠ gl := fun e => hgl e.symm
  have hcell : ∀ j u, (nums .u32 (leN l (12 / 4)))[j]? = some u → w1.cell? ⟨gl, o + j, none⟩ = some u := by
    obtain ⟨g', o', e1, hcc⟩ := hs1.2 (by omega)
    injection e1 with e1; injection e1 with e1 e2; subst e1 e2
    exact hcc
  have p0 : w1.cell? ⟨gl, o + 0, none⟩ = some (.int .u32 (val4 l 0)) := hcell 0 _ rfl
  have p1 : w1.cell? ⟨gl, o + 1, none⟩ = some (.int .u32 (val4 l 4)) := hcell 1 _ rfl
  have p2 : w1.cell? ⟨gl, o + 2, none⟩ = some (.int .u32 (val4 l 8)) := hcell 2 _ rfl
  rw [Nat.add_zero] at p0
  have hB1 := H.out.below hb1 H.out.lt
  have q0 : w1.cell? ⟨g, 0, none⟩ = some v0 := by rw [hB1.cell]; rfl
  have q1 : w1.cell? ⟨g, 1, none⟩ = some v1 := by rw [hB1.cell]; rfl
  have q2 : w1.cell? ⟨g, 2, none⟩ = some v2 := by rw [hB1.cell]; rfl
  have f0 := hB1.frozen 0
  have f1 := hB1.frozen 1
  have f2 := hB1.frozen 2
  have HB1 := Lib.hid hB1
  have HW1 : Hid (w.grownBy w1 (some g)) := grownBy_below hb1 g
  have n1 : (1 : Int) < ((3 : Nat) : Int) := by omega
  have n2 : (2 : Int) < ((3 : Nat) : Int) := by omega
  clear ho1 hs1 hcell hlen hB1 hb1
  go_wp2_with fail
  go_region
  have hw : Wrote w1 g t [.int .u32 (val4 l 0), .int .u32 (val4 l 4), .int .u32 (val4 l 8)] (((w1.setCell ⟨g, 0, none⟩ (.int .u32 (val4 l 0))).setCell ⟨g, 1, none⟩ (.int .u32 (val4 l 4))).setCell ⟨g, 2, none⟩ (.int .u32 (val4 l 8))).drew :=
    wrote_drew ((Wrote.sets HB1.out 0 _).trans ((Wrote.sets (HB1.out.set_ 0 _) 1 _).trans (Wrote.sets ((HB1.out.set_ 0 _).set_ 1 _) 2 _)))
  have HF : Hid (Wrote w g t [.int .u32 (val4 l 0), .int .u32 (val4 l 4), .int .u32 (val4 l 8)] (((w1.setCell ⟨g, 0, none⟩ (.int .u32 (val4 l 0))).setCell ⟨g, 1, none⟩ (.int .u32 (val4 l 4))).setCell ⟨g, 2, none⟩ (.int .u32 (val4 l 8))).drew) := ⟨hw.1, grownBy_then HW1.out hw.2 (.inl rfl)⟩
  clear hw
  go_wp2
  go_end0
  exact ⟨rfl, HF.out⟩
theorem below_own {w w1 w2 : World} {g t : Nat} {cs : List Value} (hb : Below w.heap.size w w1) (hg : w.heap.size ≤ g) (h : Wrote w1 g t cs w2) : Below w.heap.size w w2 := below_wrote hb hg hb.size h
set_option maxRecDepth 100000 in
theorem decodePlace_any (A : Option Addr) (c : Nat) (l : List Int) (w : World) (hs : Sl w A 12 (nums .u8 l)) (hB : Byt l) (hc : 12 ≤ c) :
    Calls Try.prog 100 #[.slice A 12 c] w (Ret w (.agg #[.int .u32 (val4 l 0), .int .u32 (val4 l 4), .int .u32 (val4 l 8)])) := by
  have HS := Lib.hid hs
  clear hs
  go_enter Try.func100, Try.ntmps100
  go_wp2_with fail
  have hr : Blk ((w.alloc (.cells #[.int .u32 0, .int .u32 0, .int .u32 0] 104)).alloc (.cells #[.int .u32 0, .int .u32 0, .int .u32 0] 147)) w.heap.size 104 [.int .u32 0, .int .u32 0, .int .u32 0] := (Blk.new w 104 [.int .u32 0, .int .u32 0, .int .u32 0]).alloc _
  have hp : Blk ((w.alloc (.cells #[.int .u32 0, .int .u32 0, .int .u32 0] 104)).alloc (.cells #[.int .u32 0, .int .u32 0, .int .u32 0] 147)) (w.heap.size + 1) 147 [.int .u32 0, .int .u32 0, .int .u32 0] := by
    have := Blk.new (w.alloc (.cells #[.int .u32 0, .int .u32 0, .int .u32 0] 104)) 147 [.int .u32 0, .int .u32 0, .int .u32 0]
    rwa [World.size_alloc] at this
  have HB : Hid (Below w.heap.size w ((w.alloc (.cells #[.int .u32 0, .int .u32 0, .int .u32 0] 104)).alloc (.cells #[.int .u32 0, .int .u32 0, .int .u32 0] 147))) := bl_alloc (bl_alloc (Below.refl _ _) _) _
  have HS1 := Lib.hid ((HS.out.alloc (.cells #[.int .u32 0, .int .u32 0, .int .u32 0] 104)).alloc (.cells #[.int .u32 0, .int .u32 0, .int .u32 0] 147))
  generalize (w.alloc (.cells #[.int .u32 0, .int .u32 0, .int .u32 0] 104)).alloc (.cells #[.int .u32 0, .int .u32 0, .int .u32 0] 147) = w0 at *
  have HR := Lib.hid hr
  have HP := Lib.hid hp
  clear hr hp
  refine (spotDecode_any (w.heap.size + 1) _ A 12 c l _ _ _ w0 HP.out HS1.out hB rfl hc).mono ?_
  rintro E w1 ⟨rfl, hw1⟩
  have hne : w.heap.size ≠ w.heap.size + 1 := by omega
  have hR1 := hw1.far_blk HR.out hne
  have p0 : w1.cell? ⟨w.heap.size + 1, 0, none⟩ = some (.int .u32 (val4 l 0)) := by rw [hw1.1.cell]; rfl
  have p1 : w1.cell? ⟨w.heap.size + 1, 1, none⟩ = some (.int .u32 (val4 l 4)) := by rw [hw1.1.cell]; rfl
  have p2 : w1.cell? ⟨w.heap.size + 1, 2, none⟩ = some (.int .u32 (val4 l 8)) := by rw [hw1.1.cell]; rfl
  have q0 : w1.cell? ⟨w.heap.size, 0, none⟩ = some (.int .u32 0) := by rw [hR1.cell]; rfl
  have q1 : w1.cell? ⟨w.heap.size, 1, none⟩ = some (.int .u32 0) := by rw [hR1.cell]; rfl
  have q2 : w1.cell? ⟨w.heap.size, 2, none⟩ = some (.int .u32 0) := by rw [hR1.cell]; rfl
  have f0 := hR1.frozen 0
  have f1 := hR1.frozen 1
  have f2 := hR1.frozen 2
  have HB1 : Hid (Below w.heap.size w w1) := below_own HB.out (by omega) hw1
  have hlt := hR1.lt
  clear hw1 hR1 HR HP HS1 HB
  go_wp2
  refine bodyPost_ret (v := .agg #[.int .u32 (val4 l 0), .int .u32 (val4 l 4), .int .u32 (val4 l 8)]) (by simp [results, Try.results100, go_sem, q0, q1, q2, f0, f1, f2]) rfl ⟨rfl, ?_⟩
  exact ((HB1.out.setCell (Nat.le_refl _) _).setCell (Nat.le_refl _) _).setCell (Nat.le_refl _) _
set_option maxRecDepth 100000 in
theorem decodeSpot_any (A : Option Addr) (c : Nat) (l : List Int) (w : World) (hs : Sl w A 12 (nums .u8 l)) (hB : Byt l) :
    Calls Try.prog 48 #[.slice A 12 c] w (Ret w (.agg #[.int .u32 (val4 l 0), .int .u32 (val4 l 4), .int .u32 (val4 l 8)])) := by
  have HS := Lib.hid hs
  have hl : l.length = 12 := by have := hs.1; rwa [nums_length] at this
  have HL := Lib.hid hl
  clear hs hl
  go_enter Try.func48, Try.ntmps48
  go_wp2_with fail
  refine (own_any A 12 c l _ (HS.out.alloc _) (by omega)).mono ?_
  rintro E w1 ⟨v1, rfl, ho1, hb1⟩
  rw [nums_length, HL.out] at ho1
  obtain ⟨A1, c1, rfl, hc1, hs1⟩ := own_sl ho1
  have hr := (Blk.new w 24 [.int .u32 0, .int .u32 0, .int .u32 0]).below hb1 (Blk.new w 24 [.int .u32 0, .int .u32 0, .int .u32 0]).lt
  have HR := Lib.hid hr
  have HB1 : Hid (Below w.heap.size w w1) := by
    rw [World.size_alloc] at hb1
    exact (bl_alloc (Below.refl _ _) _).trans (hb1.mono (by omega))
  have HS1 := Lib.hid hs1
  clear ho1 hs1 hr hb1
  go_wp2_with fail
  refine (decodePlace_any A1 c1 l w1 HS1.out hB hc1).mono ?_
  rintro E w2 ⟨rfl, hb2⟩
  have hR2 := HR.out.below hb2 HR.out.lt
  have HR2 := Lib.hid (hR2.alloc (.cells #[.int .u32 (val4 l 0), .int .u32 (val4 l 4), .int .u32 (val4 l 8)] 104))
  have HB2 : Hid (Below w.heap.size w w2) := bl_trans HB1.out hb2
  have q0 : w2.cell? ⟨w.heap.size, 0, none⟩ = some (.int .u32 0) := by rw [hR2.cell]; rfl
  have q1 : w2.cell? ⟨w.heap.size, 1, none⟩ = some (.int .u32 0) := by rw [hR2.cell]; rfl
  have q2 : w2.cell? ⟨w.heap.size, 2, none⟩ = some (.int .u32 0) := by rw [hR2.cell]; rfl
  have f0 := hR2.frozen 0
  have f1 := hR2.frozen 1
  have f2 := hR2.frozen 2
  have hlt := hR2.lt
  have hne : w.heap.size ≠ w2.heap.size := by omega
  have hne2 : w2.heap.size ≠ w.heap.size := by omega
  clear hb2 hR2 HR HB1 HS1
  go_wp2
  refine bodyPost_ret (v := .agg #[.int .u32 (val4 l 0), .int .u32 (val4 l 4), .int .u32 (val4 l 8)]) (by simp [results, Try.results48, go_sem, q0, q1, q2, f0, f1, f2, hne, hne2, hlt]) rfl ⟨rfl, ?_⟩
  have hfin : ∀ W, Below w.heap.size w W → Below w.heap.size w (((W.setCell ⟨w.heap.size, 0, none⟩ (.int .u32 (val4 l 0))).setCell ⟨w.heap.size, 1, none⟩ (.int .u32 (val4 l 4))).setCell ⟨w.heap.size, 2, none⟩ (.int .u32 (val4 l 8))) := fun W h => ((h.setCell (Nat.le_refl _) _).setCell (Nat.le_refl _) _).setCell (Nat.le_refl _) _
  first | exact hfin _ HB2.out | exact hfin _ (bl_alloc HB2.out _) | exact bl_alloc (hfin _ HB2.out) _
end Go.Proofs.Ytadhdimleabljaa
namespace Go.Proofs.YtadhdimleabljaaQ.Ext
open Go.RowKit Go.Proofs.YtadhdimleabljaaW.PrintWords
set_option linter.unusedVariables false
def impl_DecodeSpot.f (l0 : List Int) : Option (Int × Int × Int) := if l0.length = 12 ∧ bytb l0 = true then some (Ytadhdimleabljaa.val4 l0 0, Ytadhdimleabljaa.val4 l0 4, Ytadhdimleabljaa.val4 l0 8) else none
theorem impl_DecodeSpot.calls (A0 : Option Addr) (c0 : Nat) (l0 : List Int) (r1 : Int) (r2 : Int) (r3 : Int) (w : World) (hr0 : Kd.C (Kd.int .u8) w A0 l0.length l0) (hc0 : l0.length ≤ c0) (h : impl_DecodeSpot.f l0 = some (r1, r2, r3)) :
    Calls Try.prog 48 #[.slice A0 l0.length c0] w fun e w' => e = .returned (.agg #[.int .u32 r1, .int .u32 r2, .int .u32 r3]) ∧ Below w.heap.size w w' := by
  obtain ⟨⟨h0, h1⟩, h2⟩ := if_some h
  simp only [Prod.mk.injEq] at h2
  obtain ⟨rfl, rfl, rfl⟩ := h2
  have hs := sl_of_C hr0
  rw [h0] at hs ⊢
  exact (Ytadhdimleabljaa.decodeSpot_any A0 c0 l0 w hs (byt_of h1)).mono fun e w' ⟨he, hb⟩ => ⟨he, hb⟩
end Go.Proofs.YtadhdimleabljaaQ.Ext
