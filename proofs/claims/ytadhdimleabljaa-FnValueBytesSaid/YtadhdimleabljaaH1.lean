/- Heads of records: contracts. -/
import Derived.Test.YtadhdimleabljaaS1
import Derived.BigRegion
import Derived.IntWalk
namespace Go.Proofs.Ytadhdimleabljaa
open Go.RowKit
set_option linter.unusedVariables false
set_option linter.unusedSimpArgs false
/-- A head's bytes. -/
def headB (k d e m u : Int) : List Int := [m, u] ++ (vint 9 k ++ (vint 9 d ++ vint 9 e))
theorem vint_len5 (x : Int) (h : x ≤ 4294967295) : ∀ k : Nat, (vint (k + 4) x).length ≤ 5 := by
  intro k
  unfold vint
  split
  · simp
  unfold vint
  split
  · simp
  unfold vint
  split
  · simp
  unfold vint
  split
  · simp
  rw [vint_small _ _ (by omega)]
  simp
theorem wrote_drew {w w' : World} {g t : Nat} {cs : List Value} (h : Wrote w g t cs w') : Wrote w g t cs w'.drew := ⟨h.1, h.2.os, h.2.tape, h.2.output, h.2.size, h.2.block⟩
theorem wrote_from {w w' : World} {g t : Nat} {cs : List Value} (h : Wrote w.drew g t cs w') : Wrote w g t cs w' := ⟨h.1, h.2.os, h.2.tape, h.2.output, h.2.size, h.2.block⟩
/-- A piece written behind those before it. -/
theorem wrote_more {w w1 w2 : World} {g t off : Nat} {cs a b : List Value} (h : Wrote w g t (splice cs 0 a) w1) (k : Wrote w1.drew g t (splice (splice cs 0 a) off b) w2) (ho : off = a.length) (hf : a.length + b.length ≤ cs.length) : Wrote w g t (splice cs 0 (a ++ b)) w2 := by
  have := h.trans (wrote_from k)
  rwa [splice_splice _ _ _ _ _ (by omega) (by omega)] at this
theorem cell_wrote {w w' : World} {g t b i : Nat} {cs : List Value} {v : Value} (h : Wrote w g t cs w') (hne : b ≠ g) (hq : w.cell? ⟨b, i, none⟩ = some v) : w'.cell? ⟨b, i, none⟩ = some v := by
  have hl := World.block_lt_of_cell? w _ hq
  have := h.2.block b hl (fun e => hne (by injection e))
  rw [← hq]
  simp [World.cell?, this]
theorem u32_64 {x : Int} (h : x ≤ 4294967295) : Hid (x ≤ 18446744073709551615) := Int.le_trans h (by decide)
theorem grownBy_below {w w0 : World} (h : Below w.heap.size w w0) (g : Nat) : w.grownBy w0 (some g) := ⟨h.os, h.tape, h.output, h.size, fun k hk _ => h.block k hk⟩
set_option maxRecDepth 100000 in
theorem headEncode_any (g c t : Nat) (n : Nat) (k d e m u : Int) (cs : List Value) (w : World) (h : Blk w g t cs) (hn : 22 ≤ n) (hc : n ≤ c) (hfit : n ≤ cs.length)
    (hk0 : 0 ≤ k) (hk : k ≤ 4294967295) (hd0 : 0 ≤ d) (hd : d ≤ 4294967295) (he0 : 0 ≤ e) (he : Hid (e ≤ 18446744073709551615)) :
    Calls Try.prog 139 #[.agg #[.int .u32 k, .int .u32 d, .int .u64 e, .int .u8 m, .int .u8 u], .slice (some ⟨g, 0, none⟩) n c] w fun E w' =>
      E = .returned (.int .i64 (headB k d e m u).length) ∧ Wrote w g t (splice cs 0 (nums .u8 (headB k d e m u))) w' := by
  have H : Hid (Blk w g t cs) := h
  have hg := h.lt
  have K64 := u32_64 hk
  have D64 := u32_64 hd
  clear h
  go_enter Try.func139, Try.ntmps139
  go_wp2_with fail
  have h1 := blk_new w (.cells #[.int .u32 k, .int .u32 d, .int .u64 e, .int .u8 m, .int .u8 u] 152)
  have HB : Hid (Below w.heap.size w (w.alloc (.cells #[.int .u32 k, .int .u32 d, .int .u64 e, .int .u8 m, .int .u8 u] 152))) := bl_alloc (Below.refl _ _) _
  have hK0 : Blk (w.alloc (.cells #[.int .u32 k, .int .u32 d, .int .u64 e, .int .u8 m, .int .u8 u] 152)) g t cs := H.out.alloc _
  generalize w.alloc (.cells #[.int .u32 k, .int .u32 d, .int .u64 e, .int .u8 m, .int .u8 u] 152) = w0 at *
  have q0 := cell_blk h1 0 (.int .u32 k) rfl
  have q1 := cell_blk h1 1 (.int .u32 d) rfl
  have q2 := cell_blk h1 2 (.int .u64 e) rfl
  have q3 := cell_blk h1 3 (.int .u8 m) rfl
  have q4 := cell_blk h1 4 (.int .u8 u) rfl
  have hc0 : w0.cell? ⟨g, 0, none⟩ = some cs[0] := by rw [hK0.cell, List.getElem?_eq_getElem]
  have hc1 : w0.cell? ⟨g, 1, none⟩ = some cs[1] := by rw [hK0.cell, List.getElem?_eq_getElem]
  have hf0 := hK0.frozen 0
  have hf1 := hK0.frozen 1
  have hne : w.heap.size ≠ g := by omega
  have hne2 : g ≠ w.heap.size := by omega
  have HK0 := Lib.hid hK0
  clear h1 hK0
  go_region
  have hW1 : Wrote w0 g t (splice cs 0 [.int .u8 m, .int .u8 u]) ((w0.setCell ⟨g, 0, none⟩ (.int .u8 m)).setCell ⟨g, 1, none⟩ (.int .u8 u)).drew := by
    have hs := splice_two cs 0 (.int .u8 m) (.int .u8 u) (by omega)
    have := (Wrote.sets HK0.out 0 (.int .u8 m)).trans (Wrote.sets (HK0.out.set_ 0 (.int .u8 m)) 1 (.int .u8 u))
    rw [hs] at this
    exact wrote_drew this
  have HW1 := Lib.hid hW1
  generalize ((w0.setCell ⟨g, 0, none⟩ (.int .u8 m)).setCell ⟨g, 1, none⟩ (.int .u8 u)).drew = w1 at *
  have p0 := cell_wrote hW1 hne q0
  have p1 := cell_wrote hW1 hne q1
  have p2 := cell_wrote hW1 hne q2
  clear hW1 q0 q1 q2 q3 q4 hc0 hc1 hf0 hf1
  obtain ⟨lk1, lk5⟩ : 1 ≤ (vint 9 k).length ∧ (vint 9 k).length ≤ 5 := ⟨(vint_len 9 k).1, vint_len5 k hk 5⟩
  obtain ⟨ld1, ld5⟩ : 1 ≤ (vint 9 d).length ∧ (vint 9 d).length ≤ 5 := ⟨(vint_len 9 d).1, vint_len5 d hd 5⟩
  obtain ⟨le1, le5⟩ : 1 ≤ (vint 9 e).length ∧ (vint 9 e).length ≤ 10 := vint_len 9 e
  obtain ⟨i1, hi1⟩ : ∃ i1, i1 = 2 + (vint 9 k).length := ⟨_, rfl⟩
  obtain ⟨i2, hi2⟩ : ∃ i2, i2 = i1 + (vint 9 d).length := ⟨_, rfl⟩
  obtain ⟨i3, hi3⟩ : ∃ i3, i3 = i2 + (vint 9 e).length := ⟨_, rfl⟩
  have s1 : IntKind.i64.wrap (2 + ((vint 9 k).length : Int)) = (i1 : Int) := by rw [IntWalk.i64_in _ (by omega)]; omega
  have s2 : IntKind.i64.wrap ((i1 : Int) + ((vint 9 d).length : Int)) = (i2 : Int) := by rw [IntWalk.i64_in _ (by omega)]; omega
  have s3 : IntKind.i64.wrap ((i2 : Int) + ((vint 9 e).length : Int)) = (i3 : Int) := by rw [IntWalk.i64_in _ (by omega)]; omega
  have b1 : i1 ≤ 7 := by omega
  have b2 : i2 ≤ 12 := by omega
  have b3 : i3 ≤ 22 := by omega
  have c1 : ¬ c = 2 := by omega
  have c2 : ¬ c = i1 := by omega
  have c3 : ¬ c = i2 := by omega
  have c4 : i1 ≤ n := by omega
  have c5 : i2 ≤ n := by omega
  have c6 : (2 : Int) ≤ (n : Int) := by omega
  have z1 : (vint 9 k).length ≤ n - 2 := by omega
  have z2 : (vint 9 d).length ≤ n - i1 := by omega
  have z3 : (vint 9 e).length ≤ n - i2 := by omega
  have f1 : 2 + (n - 2) ≤ (splice cs 0 [Value.int .u8 m, Value.int .u8 u]).length := by rw [splice_len _ _ _ (by simp; omega)]; omega
  have HI := Lib.hid (And.intro hi1 (And.intro hi2 hi3))
  have LK := Lib.hid (And.intro lk1 (And.intro ld1 le1))
  clear hi1 hi2 hi3 lk1 ld1 le1
  go_wp2_with fail
  go_region_with (go_at_call 102; rw [wrapU64 k hk0 K64.out]; refine (pubPut_any g 2 (n - 2) (c - 2) t k _ _ (wrote_drew HW1.out).1 z1 f1 hk0 K64).mono ?_; rintro e w2 ⟨rfl, hw2⟩; have HW2 := Lib.hid hw2; clear hw2)
  have HV2 : Hid (Wrote w0 g t (splice cs 0 ([.int .u8 m, .int .u8 u] ++ nums .u8 (vint 9 k))) w2) := wrote_more HW1.out HW2.out rfl (by rw [nums_length]; simp; omega)
  have r1 := cell_wrote (wrote_from HW2.out) hne p1
  have r2 := cell_wrote (wrote_from HW2.out) hne p2
  have f2 : i1 + (n - i1) ≤ (splice cs 0 ([Value.int .u8 m, .int .u8 u] ++ nums .u8 (vint 9 k))).length := by rw [splice_len _ _ _ (by rw [List.length_append, nums_length]; simp; omega)]; omega
  clear p0 p1 p2 HW2
  go_wp2_with fail
  go_region_with (go_at_call 102; rw [wrapU64 d hd0 D64.out]; refine (pubPut_any g i1 (n - i1) (c - i1) t d _ _ (wrote_drew HV2.out).1 z2 f2 hd0 D64).mono ?_; rintro e w3 ⟨rfl, hw3⟩; have HW3 := Lib.hid hw3; clear hw3)
  have HV3 : Hid (Wrote w0 g t (splice cs 0 (([.int .u8 m, .int .u8 u] ++ nums .u8 (vint 9 k)) ++ nums .u8 (vint 9 d))) w3) := wrote_more HV2.out HW3.out (by rw [List.length_append, nums_length]; simp; have := HI.out; omega) (by rw [List.length_append, nums_length, nums_length]; simp; omega)
  have t2 := cell_wrote (wrote_from HW3.out) hne r2
  have f3 : i2 + (n - i2) ≤ (splice cs 0 (([Value.int .u8 m, .int .u8 u] ++ nums .u8 (vint 9 k)) ++ nums .u8 (vint 9 d))).length := by rw [splice_len _ _ _ (by rw [List.length_append, List.length_append, nums_length, nums_length]; simp; omega)]; omega
  clear r1 r2 HW3
  go_wp2_with fail
  go_region_with (go_at_call 102; refine (pubPut_any g i2 (n - i2) (c - i2) t e _ _ (wrote_drew HV3.out).1 z3 f3 he0 he).mono ?_; rintro e w4 ⟨rfl, hw4⟩; have HW4 := Lib.hid hw4; clear hw4)
  have HV4 : Hid (Wrote w0 g t (splice cs 0 ((([.int .u8 m, .int .u8 u] ++ nums .u8 (vint 9 k)) ++ nums .u8 (vint 9 d)) ++ nums .u8 (vint 9 e))) w4) := wrote_more HV3.out HW4.out (by simp only [List.length_append, nums_length]; simp; have := HI.out; omega) (by simp only [List.length_append, nums_length]; simp; omega)
  clear t2 HW4
  go_wp2
  go_ret
  refine ⟨?_, ?_⟩
  · have := HI.out
    have e1 : (headB k d e m u).length = i3 := by simp [headB]; omega
    rw [e1]
    rfl
  · have e2 : nums .u8 (headB k d e m u) = (([.int .u8 m, .int .u8 u] ++ nums .u8 (vint 9 k)) ++ nums .u8 (vint 9 d)) ++ nums .u8 (vint 9 e) := by simp [headB, nums]
    rw [e2]
    exact ⟨HV4.out.1, grownBy_then (grownBy_below HB.out g) HV4.out.2 (.inl rfl)⟩
/-- A call that hands back bytes that it has made. -/
def Gave (w : World) (l : List Int) (e : Ending) (w' : World) : Prop := ∃ A c, e = .returned (.slice A l.length c) ∧ l.length ≤ c ∧ Hid (Sl w' A l.length (nums .u8 l)) ∧ Hid (Below w.heap.size w w')
theorem headB_len (k d e m u : Int) (hk : k ≤ 4294967295) (hd : d ≤ 4294967295) : 5 ≤ (headB k d e m u).length ∧ (headB k d e m u).length ≤ 22 := by
  have h1 := vint_len 9 k
  have h2 := vint_len 9 d
  have h3 := vint_len 9 e
  have h4 : (vint 9 k).length ≤ 5 := vint_len5 k hk 5
  have h5 : (vint 9 d).length ≤ 5 := vint_len5 d hd 5
  simp only [headB, List.length_append, List.length_cons, List.length_nil]
  omega
end Go.Proofs.Ytadhdimleabljaa
