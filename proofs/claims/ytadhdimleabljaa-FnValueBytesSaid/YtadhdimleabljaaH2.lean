/- Heads of records: more contracts. -/
import Derived.Test.YtadhdimleabljaaH1
namespace Go.Proofs.Ytadhdimleabljaa
open Go.RowKit
set_option linter.unusedVariables false
set_option linter.unusedSimpArgs false
theorem Made.of_gave {w w1 w2 : World} {l : List Int} {A : Option Addr} {c : Nat} (hb : Below w.heap.size w w1) (h : Made w1 5 (nums .u8 l) (.returned (.slice A l.length c)) w2) : Made w 5 (nums .u8 l) (.returned (.slice A l.length c)) w2 := by
  obtain ⟨v, e, ho, hb2⟩ := h
  injection e with e
  subst e
  exact ⟨_, rfl, own_weaken' ho hb.size, hb.trans (hb2.mono hb.size)⟩
theorem arr22 : Try.prog.arrayLen 150 = 22 := by kernel_rfl
set_option maxRecDepth 100000 in
theorem encodeHeader_any (k d e m u : Int) (w : World)
    (hk0 : 0 ≤ k) (hk : k ≤ 4294967295) (hd0 : 0 ≤ d) (hd : d ≤ 4294967295) (he0 : 0 ≤ e) (he : Hid (e ≤ 18446744073709551615)) :
    Calls Try.prog 92 #[.int .u32 k, .int .u32 d, .int .u64 e, .int .u8 m, .int .u8 u] w (Gave w (headB k d e m u)) := by
  have hL := headB_len k d e m u hk hd
  obtain ⟨hL1, hL2⟩ := hL
  have hB : Blk (w.alloc (.cells (List.replicate 22 (Value.int .u8 0)).toArray 150)) w.heap.size 150 (List.replicate 22 (Value.int .u8 0)) := Blk.new _ _ _
  have HB := Lib.hid hB
  clear hB
  go_enter Try.func92, Try.ntmps92
  go_wp2_with fail
  refine (headEncode_any w.heap.size 22 150 22 k d e m u _ _ HB.out (by omega) (by omega) (by simp) hk0 hk hd0 hd he0 he).mono ?_
  rintro E w1 ⟨rfl, hw1⟩
  have HW := Lib.hid hw1
  clear hw1 HB
  have ha : (headB k d e m u).length ≤ Try.prog.arrayLen 150 := by rw [arr22]; exact hL2
  have ha2 : ((headB k d e m u).length : Int) ≤ ((Try.prog.arrayLen 150 : Nat) : Int) := by omega
  have ha3 : ((headB k d e m u).length : Int) ≤ 22 := by omega
  go_wp2
  go_ret
  have hs : Sl w1 (some ⟨w.heap.size, 0, none⟩) (headB k d e m u).length (nums .u8 (headB k d e m u)) := by
    have := HW.out.1.sl (off := 0) (n := (headB k d e m u).length) (by rw [splice_len _ _ _ (by rw [nums_length]; simp; omega)]; simp; omega)
    rw [List.drop_zero, splice, List.take_zero, List.nil_append, List.take_append_of_le_length (by rw [nums_length]; omega), List.take_of_length_le (by rw [nums_length]; omega)] at this
    exact this
  exact ⟨_, _, rfl, hL2, hs, below_wrote (bl_alloc (Below.refl _ _) _) (Nat.le_refl _) (by simp) HW.out⟩
theorem encodeHead_any (k d e m u : Int) (w : World)
    (hk0 : 0 ≤ k) (hk : k ≤ 4294967295) (hd0 : 0 ≤ d) (hd : d ≤ 4294967295) (he0 : 0 ≤ e) (he : Hid (e ≤ 18446744073709551615)) :
    Calls Try.prog 35 #[.agg #[.int .u32 k, .int .u32 d, .int .u64 e, .int .u8 m, .int .u8 u]] w (Made w 5 (nums .u8 (headB k d e m u))) := by
  have hL := headB_len k d e m u hk hd
  obtain ⟨hL1, hL2⟩ := hL
  go_enter Try.func35, Try.ntmps35
  go_wp2_with fail
  refine (encodeHeader_any k d e m u _ hk0 hk hd0 hd he0 he).mono ?_
  rintro E w1 ⟨A1, c1, rfl, hc1, hs1, hb1⟩
  go_wp2_with fail
  refine (own_any A1 _ c1 (headB k d e m u) _ hs1.out (by omega)).mono ?_
  intro E w2 h2
  obtain ⟨A2, c2, rfl, hc2, hs2, hb2, ho2⟩ := h2.sv
  clear h2
  go_wp2
  go_ret
  exact Made.mk' (by (repeat first | with_reducible exact Below.refl _ _ | with_reducible apply bl_drewN | with_reducible apply bl_drew | with_reducible apply bl_alloc | (with_reducible refine bl_trans ?_ (Hid.out (by assumption))))) hb2.out ho2.out
end Go.Proofs.Ytadhdimleabljaa
