/- A range made wider by another one: contracts. -/
import Derived.Test.YtbbncbjdpopkiaaGB
import Derived.Test.YtbbncbjdpopkiaaGA
namespace Go.Proofs.Ytbbncbjdpopkiaa
open Go.RowKit
set_option linter.unusedVariables false
set_option linter.unusedSimpArgs false
theorem rangeKey_any (A B : Option Addr) (n c m d : Nat) (b : Bool) (w : World) : Calls Try.prog 27 #[.agg #[.slice A n c, .slice B m d, .bool b]] w (Ret w (.agg #[.slice A n c, .slice B m d, .bool b, .int .i64 0])) := by
  go_enter Try.func27, Try.ntmps27
  go_wp2_with fail
  refine bodyPost_ret (v := .agg #[.slice A n c, .slice B m d, .bool b, .int .i64 0]) (by simp [results, Try.results27, go_sem]) rfl ⟨rfl, ?_⟩
  exact bl_alloc (bl_alloc (Below.refl _ _) _) _
theorem isEmpty_any (A B : Option Addr) (n c m d : Nat) (b : Bool) (i : Int) (w : World) (h : 0 < n) : Calls Try.prog 36 #[.agg #[.slice A n c, .slice B m d, .bool b, .int .i64 i]] w (Ret w (.bool false)) := by
  have hz : ((n : Int) == 0) = false := by simp; omega
  go_enter Try.func36, Try.ntmps36
  go_wp2
  go_ret
  exact ⟨rfl, by (repeat first | with_reducible exact Below.refl _ _ | with_reducible apply bl_drewN | with_reducible apply bl_drew | with_reducible apply bl_alloc | (with_reducible refine bl_trans ?_ (Hid.out (by assumption))))⟩
/-- A range's bounds, and what a wider one's are. -/
def RCells (w : World) (g : Nat) (v0 v1 : Value) : Prop := Blk w g 65 [v0, v1, .bool false, .int .i64 0]
def ExtPost (w : World) (g : Nat) (x y : Int) (a1 b1 a2 b2 : Value) (E : Ending) (w' : World) : Prop :=
  E = .returned (.tuple #[]) ∧ RCells w' g (if x < 0 then b1 else a1) (if y > 0 then b2 else a2) ∧ w.grownBy w' (some g)
set_option maxRecDepth 100000 in
theorem extend1_any (g n1 c1 n2 c2 m1 d1 m2 d2 : Nat) (A1 A2 B1 B2 : Option Addr) (x y : Int) (w : World) (h : RCells w g (.slice A1 n1 c1) (.slice A2 n2 c2)) (hn1 : 0 < n1) (hn2 : 0 < n2) (hm1 : 0 < m1)
    (hx : ∀ W, Below w.heap.size w W → Calls Try.prog 37 #[.slice B1 m1 d1, .slice A1 n1 c1] W fun e w' => e = .returned (.int .i64 x) ∧ ∃ k, w' = W.drewN k)
    (hy : ∀ W : World, (∀ b < w.heap.size, b ≠ g → W.heap[b]? = w.heap[b]?) → Calls Try.prog 37 #[.slice B2 m2 d2, .slice A2 n2 c2] W fun e w' => e = .returned (.int .i64 y) ∧ ∃ k, w' = W.drewN k) :
    Calls Try.prog 28 #[.pointer (some ⟨g, 0, none⟩), .agg #[.slice B1 m1 d1, .slice B2 m2 d2, .bool false, .int .i64 0]] w (ExtPost w g x y (.slice A1 n1 c1) (.slice B1 m1 d1) (.slice A2 n2 c2) (.slice B2 m2 d2)) := by
  have H : Hid (Blk w g 65 [.slice A1 n1 c1, .slice A2 n2 c2, .bool false, .int .i64 0]) := h
  have hg := h.lt
  have HX := Lib.hid hx
  have HY := Lib.hid hy
  clear h hx hy
  have z1 : ((n1 : Int) == 0) = false := by simp; omega
  have z2 : ((n2 : Int) == 0) = false := by simp; omega
  go_enter Try.func28, Try.ntmps28
  go_wp2_with fail
  refine (isEmpty_any B1 B2 m1 d1 m2 d2 false 0 _ hm1).mono ?_
  rintro E w1 ⟨rfl, hb1⟩
  have hbx := (Blk.new w 65 [.slice B1 m1 d1, .slice B2 m2 d2, .bool false, .int .i64 0])
  have hB1 : Below w.heap.size w w1 := by
    have := hb1
    rw [World.size_alloc] at this
    exact (bl_alloc (Below.refl _ _) _).trans (this.mono (by omega))
  have HG1 := Lib.hid (H.out.below hB1 hg)
  have HX1 := Lib.hid (hbx.below hb1 hbx.lt)
  have HB1 := Lib.hid hB1
  clear hbx hb1 hB1
  have p0 : w1.cell? ⟨g, 0, none⟩ = some (.slice A1 n1 c1) := by rw [HG1.out.cell]; rfl
  have p1 : w1.cell? ⟨g, 1, none⟩ = some (.slice A2 n2 c2) := by rw [HG1.out.cell]; rfl
  have p2 : w1.cell? ⟨g, 2, none⟩ = some (.bool false) := by rw [HG1.out.cell]; rfl
  have p3 : w1.cell? ⟨g, 3, none⟩ = some (.int .i64 0) := by rw [HG1.out.cell]; rfl
  go_wp2_with fail
  refine (isEmpty_any A1 A2 n1 c1 n2 c2 false 0 _ hn1).mono ?_
  rintro E w2 ⟨rfl, hb2⟩
  have HG2 := Lib.hid (HG1.out.below hb2 HG1.out.lt)
  have HX2 := Lib.hid (HX1.out.below hb2 HX1.out.lt)
  have HB2 : Hid (Below w.heap.size w w2) := bl_trans HB1.out hb2
  clear hb2 p0 p1 p2 p3
  have p0 : w2.cell? ⟨g, 0, none⟩ = some (.slice A1 n1 c1) := by rw [HG2.out.cell]; rfl
  have p1 : w2.cell? ⟨g, 1, none⟩ = some (.slice A2 n2 c2) := by rw [HG2.out.cell]; rfl
  have r0 : w2.cell? ⟨w.heap.size, 0, none⟩ = some (.slice B1 m1 d1) := by rw [HX2.out.cell]; rfl
  have r1 : w2.cell? ⟨w.heap.size, 1, none⟩ = some (.slice B2 m2 d2) := by rw [HX2.out.cell]; rfl
  go_wp2_with fail
  go_quiet ((go_at_call 37; exact Calls.quiet_of (HX.out _ (bl_drewN HB2.out _))))
  have hgne : w.heap.size ≠ g := by omega
  by_cases hxx : x < 0
  · skip
    have hf0 := HG2.out.frozen 0
    go_wp2_with fail
    have HG3 : Hid (Blk ((w2.drewN nq).setCell ⟨g, 0, none⟩ (.slice B1 m1 d1)) g 65 [.slice B1 m1 d1, .slice A2 n2 c2, .bool false, .int .i64 0]) := HG2.out.set_ 0 _
    have HX3 : Hid (Blk ((w2.drewN nq).setCell ⟨g, 0, none⟩ (.slice B1 m1 d1)) w.heap.size 65 [.slice B1 m1 d1, .slice B2 m2 d2, .bool false, .int .i64 0]) := HX2.out.far (p := ⟨g, 0, none⟩) hgne _
    have HW3 : Hid (w.grownBy ((w2.drewN nq).setCell ⟨g, 0, none⟩ (.slice B1 m1 d1)) (some g)) := grownBy_then (grownBy_below (bl_drewN HB2.out nq) g) (Wrote.sets (w := w2.drewN nq) HG2.out 0 _).2 (.inl rfl)
    clear p0 p1 r0 r1 hf0 HG2 HX2 HB2
    have s1 : ((w2.drewN nq).setCell ⟨g, 0, none⟩ (.slice B1 m1 d1)).cell? ⟨g, 1, none⟩ = some (.slice A2 n2 c2) := by rw [HG3.out.cell]; rfl
    have t1 : ((w2.drewN nq).setCell ⟨g, 0, none⟩ (.slice B1 m1 d1)).cell? ⟨w.heap.size, 1, none⟩ = some (.slice B2 m2 d2) := by rw [HX3.out.cell]; rfl
    have t2 : ((w2.drewN nq).setCell ⟨g, 0, none⟩ (.slice B1 m1 d1)).cell? ⟨w.heap.size, 2, none⟩ = some (.bool false) := by rw [HX3.out.cell]; rfl
    have sf := HG3.out.frozen 1
    generalize (w2.drewN nq).setCell ⟨g, 0, none⟩ (.slice B1 m1 d1) = w3 at *
    go_quiet ((go_at_call 37; exact Calls.quiet_of (HY.out _ (fun b hb hne => HW3.out.block b hb (fun e => hne (by injection e))))))
    by_cases hyy : y > 0
    · go_wp2
      go_end0
      unfold ExtPost
      rw [if_pos (by omega), if_pos (by omega)]
      refine ⟨rfl, HG3.out.set_ 1 _, ?_⟩
      exact grownBy_then (b := w3.drewN nq) ⟨HW3.out.os, HW3.out.tape, HW3.out.output, HW3.out.size, HW3.out.block⟩ (Wrote.sets (w := w3.drewN nq) HG3.out 1 _).2 (.inl rfl)
    · go_wp2
      go_end0
      unfold ExtPost
      rw [if_pos (by omega), if_neg (by omega)]
      exact ⟨rfl, HG3.out, HW3.out.os, HW3.out.tape, HW3.out.output, HW3.out.size, HW3.out.block⟩
  · skip
    go_wp2_with fail
    have HG3 : Hid (Blk (w2.drewN nq) g 65 [.slice A1 n1 c1, .slice A2 n2 c2, .bool false, .int .i64 0]) := HG2.out
    have HX3 : Hid (Blk (w2.drewN nq) w.heap.size 65 [.slice B1 m1 d1, .slice B2 m2 d2, .bool false, .int .i64 0]) := HX2.out
    have HW3 : Hid (w.grownBy (w2.drewN nq) (some g)) := grownBy_below (bl_drewN HB2.out _) g
    clear p0 p1 r0 r1 HG2 HX2 HB2
    have s1 : (w2.drewN nq).cell? ⟨g, 1, none⟩ = some (.slice A2 n2 c2) := by rw [HG3.out.cell]; rfl
    have t1 : (w2.drewN nq).cell? ⟨w.heap.size, 1, none⟩ = some (.slice B2 m2 d2) := by rw [HX3.out.cell]; rfl
    have t2 : (w2.drewN nq).cell? ⟨w.heap.size, 2, none⟩ = some (.bool false) := by rw [HX3.out.cell]; rfl
    have sf := HG3.out.frozen 1
    generalize w2.drewN nq = w3 at *
    go_quiet ((go_at_call 37; exact Calls.quiet_of (HY.out _ (fun b hb hne => HW3.out.block b hb (fun e => hne (by injection e))))))
    by_cases hyy : y > 0
    · go_wp2
      go_end0
      unfold ExtPost
      rw [if_neg (by omega), if_pos (by omega)]
      refine ⟨rfl, HG3.out.set_ 1 _, ?_⟩
      exact grownBy_then (b := w3.drewN nq) ⟨HW3.out.os, HW3.out.tape, HW3.out.output, HW3.out.size, HW3.out.block⟩ (Wrote.sets (w := w3.drewN nq) HG3.out 1 _).2 (.inl rfl)
    · go_wp2
      go_end0
      unfold ExtPost
      rw [if_neg (by omega), if_neg (by omega)]
      exact ⟨rfl, HG3.out, HW3.out.os, HW3.out.tape, HW3.out.output, HW3.out.size, HW3.out.block⟩
end Go.Proofs.Ytbbncbjdpopkiaa
