/- Numbers of 16, 32 and 64 bits in bytes. -/
import Derived.Test.YtadhdimleabljaaGX
import Derived.Test.YtadhdimleabljaaGB
namespace Go.Proofs.Ytadhdimleabljaa
open Go.RowKit
set_option linter.unusedVariables false
set_option linter.unusedSimpArgs false
theorem arr2 : Try.prog.arrayLen 161 = 2 := by kernel_rfl
theorem arr4 : Try.prog.arrayLen 163 = 4 := by kernel_rfl
theorem arr8 : Try.prog.arrayLen 165 = 8 := by kernel_rfl
theorem gave_blk {w w1 : World} {t : Nat} {l : List Int} {cs : List Value} (hl : l.length = cs.length) (hb : Below w.heap.size w w1) (h : Blk w1 w.heap.size t (splice cs 0 (nums .u8 l))) : Gave w l (.returned (.slice (some ⟨w.heap.size, 0, none⟩) l.length l.length)) w1 := by
  rw [splice_zero _ _ (by rw [nums_length]; exact hl)] at h
  have := h.sl (off := 0) (n := l.length) (by rw [nums_length]; omega)
  rw [List.drop_zero, List.take_of_length_le (by rw [nums_length]; omega)] at this
  exact ⟨_, _, rfl, Nat.le_refl _, this, hb⟩
set_option maxRecDepth 100000 in
theorem u16Bytes_any (v : Int) (w : World) (h0 : 0 ≤ v) (h1 : v ≤ 65535) : Calls Try.prog 114 #[.int .u16 v] w (Gave w (be16 v)) := by
  have hB : Blk (w.alloc (.cells (List.replicate 2 (Value.int .u8 0)).toArray 161)) w.heap.size 161 (List.replicate 2 (Value.int .u8 0)) := Blk.new _ _ _
  have HB := Lib.hid hB
  have ha := arr2
  clear hB
  go_enter Try.func114, Try.ntmps114
  go_wp2_with fail
  refine (put16_any w.heap.size 0 2 2 161 v _ _ HB.out (by omega) (by simp) h0 h1).mono ?_
  rintro E w1 ⟨rfl, hw1⟩
  have HW := Lib.hid hw1
  clear hw1 HB
  go_wp2
  go_ret
  exact gave_blk (by simp [be16]) (below_wrote (bl_alloc (Below.refl _ _) _) (Nat.le_refl _) (by simp) HW.out) HW.out.1
set_option maxRecDepth 100000 in
theorem u32Bytes1_any (v : Int) (w : World) (h0 : 0 ≤ v) (h1 : v ≤ 4294967295) : Calls Try.prog 115 #[.int .u32 v] w (Gave w (be32 v)) := by
  have hB : Blk (w.alloc (.cells (List.replicate 4 (Value.int .u8 0)).toArray 163)) w.heap.size 163 (List.replicate 4 (Value.int .u8 0)) := Blk.new _ _ _
  have HB := Lib.hid hB
  have ha := arr4
  clear hB
  go_enter Try.func115, Try.ntmps115
  go_wp2_with fail
  refine (put32_any w.heap.size 0 4 4 163 v _ _ HB.out (by omega) (by omega) (by simp) h0 h1).mono ?_
  rintro E w1 ⟨rfl, hw1⟩
  have HW := Lib.hid hw1
  clear hw1 HB
  go_wp2
  go_ret
  exact gave_blk (by simp [be32, be16]) (below_wrote (bl_alloc (Below.refl _ _) _) (Nat.le_refl _) (by simp) HW.out) HW.out.1
set_option maxRecDepth 100000 in
theorem u64Bytes1_any (v : Int) (w : World) (h0 : 0 ≤ v) (h1 : Hid (v ≤ 18446744073709551615)) : Calls Try.prog 116 #[.int .u64 v] w (Gave w (be64 v)) := by
  have hB : Blk (w.alloc (.cells (List.replicate 8 (Value.int .u8 0)).toArray 165)) w.heap.size 165 (List.replicate 8 (Value.int .u8 0)) := Blk.new _ _ _
  have HB := Lib.hid hB
  have ha := arr8
  clear hB
  go_enter Try.func116, Try.ntmps116
  go_wp2_with fail
  refine (put64_any w.heap.size 0 8 8 165 v _ _ HB.out (by omega) (by omega) (by simp) h0 h1).mono ?_
  rintro E w1 ⟨rfl, hw1⟩
  have HW := Lib.hid hw1
  clear hw1 HB
  go_wp2
  go_ret
  exact gave_blk (by simp [be64, be32, be16]) (below_wrote (bl_alloc (Below.refl _ _) _) (Nat.le_refl _) (by simp) HW.out) HW.out.1
theorem own_gave {w w1 : World} {l : List Int} {f : Nat} (hl : l.length ≤ 1000000) {E : Ending} (h : Gave w l E w1) : ∃ A c, E = .returned (.slice A l.length c) ∧ Calls Try.prog 89 #[.slice A l.length c] w1 (Made w 5 (nums .u8 l)) := by
  obtain ⟨A1, c1, rfl, hc1, hs1, hb1⟩ := h
  refine ⟨A1, c1, rfl, (own_any A1 _ c1 l _ hs1.out (by omega)).mono ?_⟩
  intro E w2 h2
  obtain ⟨A2, c2, rfl, hc2, hs2, hb2, ho2⟩ := h2.sv
  exact Made.mk' (by (repeat first | with_reducible exact Below.refl _ _ | with_reducible apply bl_drewN | with_reducible apply bl_drew | with_reducible apply bl_alloc | (with_reducible refine bl_trans ?_ (Hid.out (by assumption))))) hb2.out ho2.out
theorem number16_any (v : Int) (w : World) (h0 : 0 ≤ v) (h1 : v ≤ 65535) : Calls Try.prog 61 #[.int .u16 v] w (Made w 5 (nums .u8 (be16 v))) := by
  go_enter Try.func61, Try.ntmps61
  go_wp2_with fail
  refine (u16Bytes_any v _ h0 h1).mono ?_
  intro E w1 h
  obtain ⟨A1, c1, rfl, hk⟩ := own_gave (f := 0) (by simp [be16]) h
  go_wp2_with fail
  refine hk.mono ?_
  rintro E w2 ⟨v2, rfl, ho, hb⟩
  go_wp2
  go_ret
  exact ⟨v2, rfl, ho, hb⟩
theorem number32_any (v : Int) (w : World) (h0 : 0 ≤ v) (h1 : v ≤ 4294967295) : Calls Try.prog 62 #[.int .u32 v] w (Made w 5 (nums .u8 (be32 v))) := by
  go_enter Try.func62, Try.ntmps62
  go_wp2_with fail
  refine (u32Bytes1_any v _ h0 h1).mono ?_
  intro E w1 h
  obtain ⟨A1, c1, rfl, hk⟩ := own_gave (f := 0) (by simp [be32, be16]) h
  go_wp2_with fail
  refine hk.mono ?_
  rintro E w2 ⟨v2, rfl, ho, hb⟩
  go_wp2
  go_ret
  exact ⟨v2, rfl, ho, hb⟩
theorem number64_any (v : Int) (w : World) (h0 : 0 ≤ v) (h1 : Hid (v ≤ 18446744073709551615)) : Calls Try.prog 63 #[.int .u64 v] w (Made w 5 (nums .u8 (be64 v))) := by
  go_enter Try.func63, Try.ntmps63
  go_wp2_with fail
  refine (u64Bytes1_any v _ h0 h1).mono ?_
  intro E w1 h
  obtain ⟨A1, c1, rfl, hk⟩ := own_gave (f := 0) (by simp [be64, be32, be16]) h
  go_wp2_with fail
  refine hk.mono ?_
  rintro E w2 ⟨v2, rfl, ho, hb⟩
  go_wp2
  go_ret
  exact ⟨v2, rfl, ho, hb⟩
end Go.Proofs.Ytadhdimleabljaa
namespace Go.Proofs.YtadhdimleabljaaQ.Ext
open Go.RowKit Go.Proofs.YtadhdimleabljaaW.PrintWords
set_option linter.unusedVariables false
def impl_Number16.f (a0 : Int) : Option (List Int) := if 0 ≤ a0 ∧ a0 ≤ 65535 then some (Ytadhdimleabljaa.be16 a0) else none
theorem impl_Number16.calls (a0 : Int) (r : List Int) (w : World) (h : impl_Number16.f a0 = some r) :
    Calls Try.prog 61 #[.int .u16 a0] w fun e w' => ∃ v0_ : Value, e = .returned (v0_) ∧ Kd.R (Kd.int .u8) 5 w' w.heap.size (fun _ => True) v0_ r ∧ Below w.heap.size w w' := by
  obtain ⟨⟨h0, h1⟩, rfl⟩ := if_some h
  exact (Ytadhdimleabljaa.number16_any a0 w h0 h1).mono fun e w' hm => made_R hm
def impl_Number32.f (a0 : Int) : Option (List Int) := if 0 ≤ a0 ∧ a0 ≤ 4294967295 then some (Ytadhdimleabljaa.be32 a0) else none
theorem impl_Number32.calls (a0 : Int) (r : List Int) (w : World) (h : impl_Number32.f a0 = some r) :
    Calls Try.prog 62 #[.int .u32 a0] w fun e w' => ∃ v0_ : Value, e = .returned (v0_) ∧ Kd.R (Kd.int .u8) 5 w' w.heap.size (fun _ => True) v0_ r ∧ Below w.heap.size w w' := by
  obtain ⟨⟨h0, h1⟩, rfl⟩ := if_some h
  exact (Ytadhdimleabljaa.number32_any a0 w h0 h1).mono fun e w' hm => made_R hm
def impl_Number64.f (a0 : Int) : Option (List Int) := if u64ok a0 = true then some (Ytadhdimleabljaa.be64 a0) else none
theorem impl_Number64.calls (a0 : Int) (r : List Int) (w : World) (h : impl_Number64.f a0 = some r) :
    Calls Try.prog 63 #[.int .u64 a0] w fun e w' => ∃ v0_ : Value, e = .returned (v0_) ∧ Kd.R (Kd.int .u8) 5 w' w.heap.size (fun _ => True) v0_ r ∧ Below w.heap.size w w' := by
  obtain ⟨h0, rfl⟩ := if_some h
  exact (Ytadhdimleabljaa.number64_any a0 w (u64ok_of h0).1 (u64ok_of h0).2).mono fun e w' hm => made_R hm
end Go.Proofs.YtadhdimleabljaaQ.Ext
