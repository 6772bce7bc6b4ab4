/- Filters of hashes: the thin package. -/
import Derived.Test.YtadhdimleabljaaU5
import Derived.Test.YtadhdimleabljaaN0
namespace Go.Proofs.Ytadhdimleabljaa
open Go.RowKit
set_option linter.unusedVariables false
set_option linter.unusedSimpArgs false
theorem below_app0f {w w1 : World} {t : Nat} (h : (w.alloc (.cells #[] t)).grownBy w1 (Value.ownBlock (.slice (some ⟨w.heap.size, 0, none⟩) 0 0))) : Hid (Below w.heap.size w w1) :=
  Below.grown (bl_alloc (Below.refl _ _) _) h (by simp) (fun k hk => by simp [Value.ownBlock] at hk; omega)
theorem filterL_len (nb K : Nat) (l : List Int) : (filterL nb K l).length = nb + 1 := by unfold filterL; rw [List.length_set]; unfold filt; rw [fold_len]; simp
theorem nbOf_le (n b : Nat) (hn : n ≤ 300) (h1 : b ≤ 30) : 8 ≤ nbOf n b ∧ nbOf n b ≤ 1125 := by
  have hM : n * b ≤ 9000 := by have := Nat.mul_le_mul hn h1; omega
  unfold nbOf
  generalize n * b = M at *
  split <;> omega
theorem newFilter_any (A : Option Addr) (n c : Nat) (l : List Int) (b : Nat) (w : World) (h : Sl w A n (nums .u32 l)) (hwf : ∀ x ∈ l, 0 ≤ x ∧ x ≤ 4294967295) (hn : n ≤ 300) (h0 : 1 ≤ b) (h1 : b ≤ 30) :
    Calls Try.prog 126 #[.slice A n c, .int .i64 b] w (Gave w (filterL (nbOf n b) (kOf b) l)) := by
  go_enter Try.func126, Try.ntmps126
  go_wp2_with fail
  refine (appendFilter_any A n c l b w h hwf hn h0 h1).mono ?_
  rintro E w1 ⟨A1, c1, rfl, hc1, hs1, hb1⟩
  have HS := Lib.hid hs1
  have HB := Lib.hid hb1
  clear hs1 hb1 h hwf
  go_wp2
  go_ret
  exact ⟨A1, c1, rfl, hc1, HS.out, HB.out⟩
theorem filterOf_any (A : Option Addr) (n c : Nat) (l : List Int) (b : Nat) (w : World) (h : Sl w A n (nums .u32 l)) (hwf : ∀ x ∈ l, 0 ≤ x ∧ x ≤ 4294967295) (hn : n ≤ 300) (h0 : 1 ≤ b) (h1 : b ≤ 30) :
    Calls Try.prog 76 #[.slice A n c, .int .i64 b] w (Made w 5 (nums .u8 (filterL (nbOf n b) (kOf b) l))) := by
  have hll : l.length = n := by have := h.1; rwa [nums_length] at this
  have H := Lib.hid h
  have HW := Lib.hid hwf
  have HL := Lib.hid hll
  clear h hwf hll
  go_enter Try.func76, Try.ntmps76
  go_wp2_with (at_builtin; refine wpList_append_sl _ rfl (.tmp 5) (.tmp 6) 40 rfl w.heap.size 22 (.int .u32 0) 4 Try.underlying40 infoU32 rfl (.slice (some ⟨w.heap.size, 0, none⟩) 0 0) 0 [] rfl (World.ownsRow_made w #[] 0 (Nat.le_refl _) (by simp [maxLen]) rfl) A n c (nums .u32 l) rfl (H.out.alloc _) (nums_one _ _) (by omega) (by omega) (by simp) ?_; intro v1 w1 hown1 hg1 hat1)
  have hb1 : Hid (Below w.heap.size w w1) := below_app0f hg1
  obtain ⟨A1, c1, rfl, hc1, hs1⟩ := own_sl hown1
  rw [Nat.zero_add, List.nil_append] at hs1
  rw [Nat.zero_add] at hc1 ⊢
  have HS1 := Lib.hid hs1
  clear hs1 hown1 hg1 hat1
  go_wp2_with fail
  refine (newFilter_any A1 n c1 l b w1 HS1.out HW.out hn h0 h1).mono ?_
  rintro E w2 ⟨A2, c2, rfl, hc2, hs2, hb2⟩
  have HS2 := Lib.hid hs2
  have HB2 := Lib.hid hb2
  clear hs2 hb2
  have hlen := filterL_len (nbOf n b) (kOf b) l
  have hle := nbOf_le n b hn h1
  have hlen2 : (filterL (nbOf n b) (kOf b) l).length ≤ 1126 := by omega
  have HLL := Lib.hid hlen2
  clear hlen hle hlen2
  go_wp2_with fail
  refine (own_any A2 _ c2 _ w2 HS2.out (by have := HLL.out; omega)).mono ?_
  intro E w3 h3
  obtain ⟨A3, c3, rfl, hc3, hs3, hb3, ho3⟩ := h3.sv
  clear h3
  go_wp2
  go_ret
  exact Made.mk' (hb1.out.trans (HB2.out.mono hb1.out.size)) hb3.out ho3.out
end Go.Proofs.Ytadhdimleabljaa
