/- A range made wider by another one: the package's function. -/
import Derived.Test.YtbbncbjdpopkiaaU3
namespace Go.Proofs.Ytbbncbjdpopkiaa
open Go.RowKit
set_option linter.unusedVariables false
set_option linter.unusedSimpArgs false
theorem sl_same {w W : World} {A : Option Addr} {n : Nat} {vs : List Value} (h : Sl w A n vs) (hh : ∀ b, b < w.heap.size → W.heap[b]? = w.heap[b]?) : Sl W A n vs := by
  refine ⟨h.1, fun hn => ?_⟩
  obtain ⟨g, o, e, hc⟩ := h.2 hn
  refine ⟨g, o, e, fun j u hj => ?_⟩
  have hq := hc j u hj
  have hl := World.block_lt_of_cell? w _ hq
  have := hh g hl
  rw [← hq]
  simp [World.cell?, this]
def widerV (x y : Int) (a1 b1 a2 b2 : Value) : Value := .agg #[if x < 0 then b1 else a1, if y > 0 then b2 else a2, .bool false]
set_option maxRecDepth 100000 in
theorem extend2_any (n1 c1 n2 c2 m1 d1 m2 d2 : Nat) (A1 A2 B1 B2 : Option Addr) (p1 p2 q1 q2 : List Int) (w : World)
    (s1 : Sl w A1 n1 (nums .u8 p1)) (s2 : Sl w A2 n2 (nums .u8 p2)) (s3 : Sl w B1 m1 (nums .u8 q1)) (s4 : Sl w B2 m2 (nums .u8 q2)) (h1 : Byt p1) (h2 : Byt p2) (h3 : Byt q1) (h4 : Byt q2)
    (k1 : 8 ≤ n1 ∧ n1 ≤ c1 ∧ n1 ≤ 1000000) (k2 : 8 ≤ n2 ∧ n2 ≤ c2 ∧ n2 ≤ 1000000) (k3 : 8 ≤ m1 ∧ m1 ≤ d1 ∧ m1 ≤ 1000000) (k4 : 8 ≤ m2 ∧ m2 ≤ d2 ∧ m2 ≤ 1000000) :
    Calls Try.prog 18 #[.agg #[.slice A1 n1 c1, .slice A2 n2 c2, .bool false], .agg #[.slice B1 m1 d1, .slice B2 m2 d2, .bool false]] w
      (Ret w (widerV (cmpKeys q1 p1) (cmpKeys q2 p2) (.slice A1 n1 c1) (.slice B1 m1 d1) (.slice A2 n2 c2) (.slice B2 m2 d2))) := by
  have S1 := Lib.hid s1
  have S2 := Lib.hid s2
  have S3 := Lib.hid s3
  have S4 := Lib.hid s4
  clear s1 s2 s3 s4
  go_enter Try.func18, Try.ntmps18
  go_wp2_with fail
  have HB0 : Hid (Below w.heap.size w (((w.alloc (.cells #[.slice A1 n1 c1, .slice A2 n2 c2, .bool false] 45)).alloc (.cells #[.slice B1 m1 d1, .slice B2 m2 d2, .bool false] 45)).alloc (.cells #[.slice none 0 0, .slice none 0 0, .bool false] 45))) := bl_alloc (bl_alloc (bl_alloc (Below.refl _ _) _) _) _
  have hr : Blk (((w.alloc (.cells #[.slice A1 n1 c1, .slice A2 n2 c2, .bool false] 45)).alloc (.cells #[.slice B1 m1 d1, .slice B2 m2 d2, .bool false] 45)).alloc (.cells #[.slice none 0 0, .slice none 0 0, .bool false] 45)) (w.heap.size + 1 + 1) 45 [.slice none 0 0, .slice none 0 0, .bool false] := by
    have := Blk.new ((w.alloc (.cells #[.slice A1 n1 c1, .slice A2 n2 c2, .bool false] 45)).alloc (.cells #[.slice B1 m1 d1, .slice B2 m2 d2, .bool false] 45)) 45 [.slice none 0 0, .slice none 0 0, .bool false]
    rwa [World.size_alloc, World.size_alloc] at this
  have hq : Blk (((w.alloc (.cells #[.slice A1 n1 c1, .slice A2 n2 c2, .bool false] 45)).alloc (.cells #[.slice B1 m1 d1, .slice B2 m2 d2, .bool false] 45)).alloc (.cells #[.slice none 0 0, .slice none 0 0, .bool false] 45)) (w.heap.size + 1) 45 [.slice B1 m1 d1, .slice B2 m2 d2, .bool false] := by
    have := (Blk.new (w.alloc (.cells #[.slice A1 n1 c1, .slice A2 n2 c2, .bool false] 45)) 45 [.slice B1 m1 d1, .slice B2 m2 d2, .bool false]).alloc (.cells #[.slice none 0 0, .slice none 0 0, .bool false] 45)
    rwa [World.size_alloc] at this
  generalize ((w.alloc (.cells #[.slice A1 n1 c1, .slice A2 n2 c2, .bool false] 45)).alloc (.cells #[.slice B1 m1 d1, .slice B2 m2 d2, .bool false] 45)).alloc (.cells #[.slice none 0 0, .slice none 0 0, .bool false] 45) = w0 at *
  refine (rangeKey_any A1 A2 n1 c1 n2 c2 false _).mono ?_
  rintro E w1 ⟨rfl, hb1⟩
  have HR1 := Lib.hid (hr.below hb1 hr.lt)
  have hq1 := hq.below hb1 hq.lt
  have HB1 : Hid (Below w.heap.size w w1) := bl_trans HB0.out hb1
  clear hr hq hb1 HB0
  have u0 : w1.cell? ⟨w.heap.size + 1, 0, none⟩ = some (.slice B1 m1 d1) := by rw [hq1.cell]; rfl
  have u1 : w1.cell? ⟨w.heap.size + 1, 1, none⟩ = some (.slice B2 m2 d2) := by rw [hq1.cell]; rfl
  have u2 : w1.cell? ⟨w.heap.size + 1, 2, none⟩ = some (.bool false) := by rw [hq1.cell]; rfl
  have hlt := hq1.lt
  have hne : ¬ w.heap.size + 1 = w1.heap.size := by omega
  clear hq1
  go_wp2_with fail
  have hg := Blk.new w1 65 [.slice A1 n1 c1, .slice A2 n2 c2, .bool false, .int .i64 0]
  have hR1 := HR1.out.alloc (.cells #[.slice A1 n1 c1, .slice A2 n2 c2, .bool false, .int .i64 0] 65)
  refine (rangeKey_any B1 B2 m1 d1 m2 d2 false _).mono ?_
  rintro E w2 ⟨rfl, hb2⟩
  have HG2 := Lib.hid (hg.below hb2 hg.lt)
  have HR2 := Lib.hid (hR1.below hb2 hR1.lt)
  have HB2 : Hid (Below w.heap.size w w2) := bl_trans (bl_alloc HB1.out _) hb2
  have hge : w.heap.size + 1 + 1 < w1.heap.size := HR1.out.lt
  clear hg hR1 hb2 u0 u1 u2 hlt hne
  go_wp2_with fail
  obtain ⟨Aa, na, ca, hva⟩ : ∃ Aa na ca, (if cmpKeys q1 p1 < 0 then Value.slice B1 m1 d1 else .slice A1 n1 c1) = Value.slice Aa na ca := by split <;> exact ⟨_, _, _, rfl⟩
  obtain ⟨Ab, nb, cb, hvb⟩ : ∃ Ab nb cb, (if cmpKeys q2 p2 > 0 then Value.slice B2 m2 d2 else .slice A2 n2 c2) = Value.slice Ab nb cb := by split <;> exact ⟨_, _, _, rfl⟩
  have hold : ∀ W : World, (∀ b < w2.heap.size, b ≠ w1.heap.size → W.heap[b]? = w2.heap[b]?) → ∀ b, b < w.heap.size → W.heap[b]? = w.heap[b]? := by
    intro W hW b hb
    have := HB2.out.size
    rw [hW b (by omega) (by omega), HB2.out.block b hb]
  refine (extend1_any w1.heap.size n1 c1 n2 c2 m1 d1 m2 d2 A1 A2 B1 B2 (cmpKeys q1 p1) (cmpKeys q2 p2) w2 HG2.out (by omega) (by omega) (by omega)
    (fun W hW => compareKeys_any B1 A1 m1 n1 d1 c1 q1 p1 W (S3.out.below (bl_trans HB2.out hW)) (S1.out.below (bl_trans HB2.out hW)) h3 h1 k3.1 k1.1 k3.2.1 k1.2.1 k3.2.2 k1.2.2)
    (fun W hW => compareKeys_any B2 A2 m2 n2 d2 c2 q2 p2 W (sl_same S4.out (hold W hW)) (sl_same S2.out (hold W hW)) h4 h2 k4.1 k2.1 k4.2.1 k2.2.1 k4.2.2 k2.2.2)).mono ?_
  rintro E w3 ⟨rfl, hG3, hw3⟩
  rw [hva, hvb] at hG3
  unfold RCells at hG3
  have HV : Hid (Value.agg #[.slice Aa na ca, .slice Ab nb cb, .bool false] = widerV (cmpKeys q1 p1) (cmpKeys q2 p2) (.slice A1 n1 c1) (.slice B1 m1 d1) (.slice A2 n2 c2) (.slice B2 m2 d2)) := by
    show _ = _
    unfold widerV
    rw [hva, hvb]
  have HB3 : Hid (Below w.heap.size w w3) := by
    have hz := HB2.out.size
    exact ⟨by rw [hw3.os, HB2.out.os], by rw [hw3.tape]; exact HB2.out.tape, by rw [hw3.output]; exact HB2.out.output, Nat.le_trans hz hw3.size, fun k hk => by rw [hw3.block k (by omega) (fun e => by injection e; omega), HB2.out.block k hk]⟩
  have hR3 : Blk w3 (w.heap.size + 1 + 1) 45 [.slice none 0 0, .slice none 0 0, .bool false] := Wrote.far_blk ⟨hG3, hw3⟩ HR2.out (by omega)
  have p0 : w3.cell? ⟨w1.heap.size, 0, none⟩ = some (.slice Aa na ca) := by rw [hG3.cell]; rfl
  have p1 : w3.cell? ⟨w1.heap.size, 1, none⟩ = some (.slice Ab nb cb) := by rw [hG3.cell]; rfl
  have p2 : w3.cell? ⟨w1.heap.size, 2, none⟩ = some (.bool false) := by rw [hG3.cell]; rfl
  have q0 : w3.cell? ⟨w.heap.size + 1 + 1, 0, none⟩ = some (.slice none 0 0) := by rw [hR3.cell]; rfl
  have q1 : w3.cell? ⟨w.heap.size + 1 + 1, 1, none⟩ = some (.slice none 0 0) := by rw [hR3.cell]; rfl
  have q2 : w3.cell? ⟨w.heap.size + 1 + 1, 2, none⟩ = some (.bool false) := by rw [hR3.cell]; rfl
  have f0 := hR3.frozen 0
  have f1 := hR3.frozen 1
  have f2 := hR3.frozen 2
  have hlt := hR3.lt
  have hne : w.heap.size + 1 + 1 ≠ w1.heap.size := by omega
  have hne2 : w1.heap.size ≠ w.heap.size + 1 + 1 := by omega
  clear hold hG3 hw3 hR3 HB2 HR2 HG2 HR1 HB1 hva hvb
  go_wp2
  refine bodyPost_ret (v := .agg #[.slice Aa na ca, .slice Ab nb cb, .bool false]) (by simp [results, Try.results18, go_sem, q0, q1, q2, f0, f1, f2]) rfl ⟨by rw [← HV.out], ?_⟩
  have hz : w.heap.size ≤ w.heap.size + 1 + 1 := by omega
  exact ((HB3.out.setCell hz _).setCell hz _).setCell hz _
end Go.Proofs.Ytbbncbjdpopkiaa
