/- Contracts: numbers in a fixed number of bytes, keys with versions. -/
import Derived.Test.YtadhdimleabljaaC1
namespace Go.Proofs.Ytadhdimleabljaa
open Go.RowKit
set_option linter.unusedVariables false
set_option linter.unusedSimpArgs false

/-- Numbers in two, four and eight bytes, the highest one first. -/
def be16 (v : Int) : List Int := [v / 256, v % 256]
def be32 (v : Int) : List Int := be16 (v / 65536) ++ be16 (v % 65536)
def be64 (v : Int) : List Int := be32 (v / 4294967296) ++ be32 (v % 4294967296)

theorem put16_any (g off n c t : Nat) (v : Int) (cs : List Value) (w : World) (h : Blk w g t cs) (h2 : 2 ≤ n) (hc : off + 2 ≤ cs.length) (hv : 0 ≤ v) (hv2 : v ≤ 65535) :
    Calls Try.prog 151 #[.slice (some ⟨g, off, none⟩) n c, .int .u16 v] w fun e w' => e = .returned (.tuple #[]) ∧
      Wrote w g t (splice cs off (nums .u8 (be16 v))) w' := by
  have hc0 : w.cell? ⟨g, off, none⟩ = some cs[off] := by rw [h.cell, List.getElem?_eq_getElem]
  have hc1 : w.cell? ⟨g, off + 1, none⟩ = some cs[off + 1] := by rw [h.cell, List.getElem?_eq_getElem]
  have hf0 := h.frozen off
  have hf1 := h.frozen (off + 1)
  have H : Hid (Blk w g t cs) := h
  clear h
  go_enter Try.func151, Try.ntmps151
  go_wp2
  go_end0
  have hs := splice_two cs off (.int .u8 (v / 256)) (.int .u8 (v % 256)) hc
  exact ⟨rfl, by simp only [nums, be16, List.map_cons, List.map_nil]; rw [← hs]; exact (Wrote.sets H.out _ _).trans (Wrote.sets (H.out.set_ _ _) _ _)⟩

theorem put32_any (g off n c t : Nat) (v : Int) (cs : List Value) (w : World) (h : Blk w g t cs) (h2 : 4 ≤ n) (h3 : n ≤ c) (hc : off + 4 ≤ cs.length) (hv : 0 ≤ v) (hv2 : v ≤ 4294967295) :
    Calls Try.prog 152 #[.slice (some ⟨g, off, none⟩) n c, .int .u32 v] w fun e w' => e = .returned (.tuple #[]) ∧
      Wrote w g t (splice cs off (nums .u8 (be32 v))) w' := by
  have H : Hid (Blk w g t cs) := h
  clear h
  go_enter Try.func152, Try.ntmps152
  go_wp2_with fail
  refine (put16_any g off n c t _ cs w H.out (by omega) (by omega) (by omega) (by omega)).mono ?_
  rintro e w1 ⟨rfl, h1⟩
  have H1 := Lib.hid h1
  clear h1
  go_wp2_with fail
  rw [IntKind.wrap_u16]
  refine (put16_any g (off + 2) 2 (c - 2) t _ _ w1 H1.out.1 (by omega) (by rw [splice_len _ _ _ (by simp [nums, be16]; omega)]; omega) (by omega) (by omega)).mono ?_
  rintro e w2 ⟨rfl, h2⟩
  have H2 := Lib.hid h2
  clear h2
  go_wp2
  go_end0
  refine ⟨rfl, ?_⟩
  have := H1.out.trans H2.out
  rw [splice_splice _ _ _ _ _ (by simp [nums, be16]) (by simp [nums, be16]; omega), ← nums_append] at this
  exact this

theorem put64_any (g off n c t : Nat) (v : Int) (cs : List Value) (w : World) (h : Blk w g t cs) (h2 : 8 ≤ n) (h3 : n ≤ c) (hc : off + 8 ≤ cs.length) (hv : 0 ≤ v) (hv2 : Hid (v ≤ 18446744073709551615)) :
    Calls Try.prog 137 #[.slice (some ⟨g, off, none⟩) n c, .int .u64 v] w fun e w' => e = .returned (.tuple #[]) ∧
      Wrote w g t (splice cs off (nums .u8 (be64 v))) w' := by
  have H : Hid (Blk w g t cs) := h
  clear h
  go_enter Try.func137, Try.ntmps137
  go_wp2_with fail
  rw [show v / 4294967296 % 4294967296 = v / 4294967296 from by have := hv2.out; omega]
  refine (put32_any g off n c t _ cs w H.out (by omega) (by omega) (by omega) (by omega) (by have := hv2.out; omega)).mono ?_
  rintro e w1 ⟨rfl, h1⟩
  have H1 := Lib.hid h1
  clear h1
  go_wp2_with fail
  refine (put32_any g (off + 4) 4 (c - 4) t _ _ w1 H1.out.1 (by omega) (by omega) (by rw [splice_len _ _ _ (by simp [nums, be16, be32]; omega)]; omega) (by omega) (by omega)).mono ?_
  rintro e w2 ⟨rfl, h2⟩
  have H2 := Lib.hid h2
  clear h2
  go_wp2
  go_end0
  refine ⟨rfl, ?_⟩
  have := H1.out.trans H2.out
  rw [splice_splice _ _ _ _ _ (by simp [nums, be16, be32]) (by simp [nums, be16, be32]; omega), ← nums_append] at this
  exact this

/-- A key with a version, in bytes. -/
def keyB (l : List Int) (ts : Int) : List Int := l ++ be64 (18446744073709551615 - ts)
theorem be64_len (v : Int) : (be64 v).length = 8 := rfl
theorem wrapU64 (x : Int) (h0 : 0 ≤ x) (h1 : x ≤ 18446744073709551615) : IntKind.u64.wrap x = x := by
  simp only [IntKind.wrap, IntKind.bits, IntKind.signed]
  simp
  omega
theorem sizeU8 : (Try.prog.info? 5).map (·.size) = some 1 := by kernel_rfl
set_option maxRecDepth 100000 in
theorem keyWithTs_any (A : Option Addr) (n c : Nat) (l : List Int) (ts : Int) (w : World) (h : Sl w A n (nums .u8 l)) (hn : n ≤ 1000000000) (hv : 0 ≤ ts) (hv2 : Hid (ts ≤ 18446744073709551615)) :
    Calls Try.prog 90 #[.slice A n c, .int .u64 ts] w (Made w 5 (nums .u8 (keyB l ts))) := by
  have hlen : l.length = n := by have := h.1; rw [nums_length] at this; exact this
  have Hl := Lib.hid hlen
  clear hlen
  obtain ⟨i0, hi0, hz0, hz1, hz2⟩ := info_parts infoU8
  go_enter Try.func90, Try.ntmps90
  go_wp2_with (first | (at_make; refine wpList_make_full _ rfl (.tmp 8) (.tmp 8) 26 rfl w.heap.size 5 i0 (.int .u8 0) 1 Try.underlying26 hi0 hz0 hz1 .i64 .i64 _ _ (n + 8) rfl rfl (by omega) (by omega) (by rw [hz2]; omega) (by simp [maxLen]; omega) (Nat.le_refl _) ?_; intro w1 hown1 hg1; obtain ⟨g, cur, hA1, hgb, hblk, hnc, hcl, hct⟩ := own_blk hown1 (by omega); injection hA1 with hA1; injection hA1 with hA1 _; subst hA1; have HG1 := Lib.hid hg1; have HB1 : Hid (Blk w1 w.heap.size 5 cur) := hblk; have HC1 := Lib.hid hcl; clear hown1 hg1 hblk hcl hct hi0 hz0 hz1 hz2) | (show wpList _ _ _ (Oper.mk (some 12) _ _ _ _ _ :: _) _ _; go_loud (refine wpList_copy_blk rfl (.tmp 10) (.tmp 11) 26 26 rfl 5 Try.underlying26 sizeU8 A _ w.heap.size 0 (n + 8) (n + 8) n c 5 cur (nums .u8 l) rfl (fun _ => rfl) rfl HB1.out ?c1 ?c2 (nums_one _ _) n (Nat.min_eq_left (by omega)) ?_; (case c1 => exact h.below ((Below.refl _ _).grown HG1.out (Nat.le_refl _) (by simp))); (case c2 => have := HC1.out; omega); intro w2 hw2; have HW2 := Lib.hid hw2; clear hw2)) | fail)
  rw [wrapU64 (18446744073709551615 - ts) (by have := hv2.out; omega) (by omega)]
  refine (put64_any w.heap.size n 8 8 5 _ _ w2 HW2.out.1 (by omega) (by omega) ?d1 (by have := hv2.out; omega) (by show _ ≤ _; omega)).mono ?_
  case d1 => rw [splice_len _ _ _ (by rw [List.length_take, nums_length, Hl.out]; have := HC1.out; omega)]; have := HC1.out; omega
  rintro e w3 ⟨rfl, h3⟩
  have H3 := Lib.hid h3
  clear h3
  go_wp2
  go_ret
  have hw := HW2.out.trans H3.out
  have e1 : (nums .u8 l).take (n + 8) = nums .u8 l := List.take_of_length_le (by rw [nums_length, Hl.out]; omega)
  rw [e1, splice_splice _ _ _ _ _ (by rw [nums_length, Hl.out]; omega) (by rw [nums_length, Hl.out, nums_length, be64_len]; have := HC1.out; omega), ← nums_append] at hw
  have hk : (keyB l ts).length = n + 8 := by rw [keyB, List.length_append, Hl.out, be64_len]
  rw [splice_zero _ _ (by rw [nums_length]; have := HC1.out; simp [be64_len]; have := Hl.out; omega)] at hw
  refine ⟨_, rfl, ?_, ?_⟩
  · have ho := blk_own (base := w.heap.size) (n := n + 8) (c := n + 8) hw.1 (Nat.le_refl _) (Nat.le_refl _) (by rw [nums_length]; exact hk) (by omega)
    rw [List.take_of_length_le (by rw [nums_length]; exact Nat.le_of_eq hk)] at ho
    rw [nums_length, hk]
    exact ho
  · exact below_wrote ((Below.refl _ _).grown HG1.out (Nat.le_refl _) (by simp)) (Nat.le_refl _) HG1.out.size hw
end Go.Proofs.Ytadhdimleabljaa
