/- Lists of numbers of 32 bits: the law. -/
import Derived.Test.YtadhdimleabljaaN0
namespace Go.Proofs.Ytadhdimleabljaa
open Go.RowKit
set_option linter.unusedVariables false
set_option linter.unusedSimpArgs false
theorem le32s_append (a b : List Int) : le32s (a ++ b) = le32s a ++ le32s b := by simp [le32s]
theorem getD_mid (p r : List Int) (i : Nat) : (p ++ r).getD (p.length + i) 0 = r.getD i 0 := by
  rw [List.getD_eq_getElem?_getD, List.getD_eq_getElem?_getD, List.getElem?_append_right (by omega), Nat.add_sub_cancel_left]
theorem val4_mid (p r : List Int) (x : Int) (h0 : 0 ≤ x) (h1 : x ≤ 4294967295) : val4 (p ++ (le32 x ++ r)) p.length = x := by
  have e0 := getD_mid p (le32 x ++ r) 0
  have e1 := getD_mid p (le32 x ++ r) 1
  have e2 := getD_mid p (le32 x ++ r) 2
  have e3 := getD_mid p (le32 x ++ r) 3
  rw [Nat.add_zero] at e0
  rw [val4, e0, e1, e2, e3]
  simp [le32]
  omega
theorem leN_take (l : List Int) (hl : ∀ x ∈ l, 0 ≤ x ∧ x ≤ 4294967295) : ∀ j, j ≤ l.length → leN (le32s l) j = l.take j := by
  intro j
  induction j with
  | zero => intro _; rfl
  | succ j ih =>
    intro hj
    rw [leN, ih (by omega), List.take_succ_eq_append_getElem (by omega)]
    congr 1
    have hx := hl l[j] (List.getElem_mem ..)
    have e : le32s l = le32s (l.take j) ++ (le32 l[j] ++ le32s (l.drop (j + 1))) := by
      have e1 : l = l.take j ++ (l[j] :: l.drop (j + 1)) := by rw [← List.drop_eq_getElem_cons]; exact (List.take_append_drop j l).symm
      conv => lhs; rw [e1]
      rw [le32s_append]
      congr 1
    have hlen : (le32s (l.take j)).length = 4 * j := by rw [le32s_len, List.length_take]; omega
    rw [e, ← hlen, val4_mid _ _ _ hx.1 hx.2]
theorem leN_back (l : List Int) (hl : ∀ x ∈ l, 0 ≤ x ∧ x ≤ 4294967295) : leN (le32s l) l.length = l := by
  rw [leN_take l hl _ (Nat.le_refl _), List.take_length]
theorem byt_le32s (l : List Int) : Byt (le32s l) := by
  intro x hx
  simp only [le32s, List.mem_flatten, List.mem_map] at hx
  obtain ⟨y, ⟨z, _, rfl⟩, hy⟩ := hx
  simp [le32] at hy
  rcases hy with rfl | rfl | rfl | rfl <;> omega
theorem below_app0' {w w1 : World} {t : Nat} (h : (w.alloc (.cells #[] t)).grownBy w1 (Value.ownBlock (.slice (some ⟨w.heap.size, 0, none⟩) 0 0))) : Hid (Below w.heap.size w w1) :=
  Below.grown (bl_alloc (Below.refl _ _) _) h (by simp) (fun k hk => by simp [Value.ownBlock] at hk; omega)
theorem numbers32_any (A : Option Addr) (n c : Nat) (l : List Int) (w : World) (h : Sl w A n (nums .u32 l)) (hn : n ≤ 100000) :
    Calls Try.prog 39 #[.slice A n c] w (Made w 5 (nums .u8 (le32s l))) := by
  have H := Lib.hid h
  have hlen : l.length = n := by have := h.1; rwa [nums_length] at this
  have hl2 := le32s_len l
  have HL := Lib.hid (And.intro hlen hl2)
  clear h hlen hl2
  go_enter Try.func39, Try.ntmps39
  go_wp2_with (at_builtin; refine wpList_append_sl _ rfl (.tmp 3) (.tmp 4) 40 rfl w.heap.size 22 (.int .u32 0) 4 Try.underlying40 infoU32 rfl (.slice (some ⟨w.heap.size, 0, none⟩) 0 0) 0 [] rfl (World.ownsRow_made w #[] 0 (Nat.le_refl _) (by simp [maxLen]) rfl) A n c (nums .u32 l) rfl (H.out.alloc _) (nums_one _ _) (by omega) (by omega) (by simp) ?_; intro v1 w1 hown1 hg1 hat1)
  have hb1 : Hid (Below w.heap.size w w1) := below_app0' hg1
  obtain ⟨A1, c1, rfl, hc1, hs1⟩ := own_sl hown1
  rw [Nat.zero_add, List.nil_append] at hs1
  rw [Nat.zero_add] at hc1 ⊢
  have HS1 := Lib.hid hs1
  clear hs1 hown1 hg1 hat1
  go_wp2_with fail
  refine (u32Bytes_any A1 n c1 l w1 HS1.out (by omega)).mono ?_
  intro E w2 h2
  obtain ⟨A2, c2, rfl, hc2, hs2, hb2, ho2⟩ := h2.sv
  clear h2 ho2
  go_wp2_with fail
  refine (own_any A2 _ c2 (le32s l) w2 hs2.out (by have := HL.out; omega)).mono ?_
  intro E w3 h3
  obtain ⟨A3, c3, rfl, hc3, hs3, hb3, ho3⟩ := h3.sv
  clear h3
  go_wp2
  go_ret
  exact Made.mk' (by (repeat first | with_reducible exact Below.refl _ _ | with_reducible apply bl_drewN | with_reducible apply bl_drew | with_reducible apply bl_alloc | (with_reducible refine bl_trans ?_ (Hid.out (by assumption))))) hb3.out ho3.out
theorem own_below {w w1 : World} {base e s n : Nat} {v : Value} {xs : List Value} (h : w.ownsRow base e s v n xs) (hb : Below w.heap.size w w1) : w1.ownsRow base e s v n xs := by
  obtain ⟨h1, h2⟩ := h
  refine ⟨h1, ?_⟩
  rcases h2 with h2 | ⟨g, cap, cur, e1, hg, hh, r⟩
  · exact .inl h2
  · exact .inr ⟨g, cap, cur, e1, hg, blk_below hh hb, r⟩
theorem own_slH {w : World} {base e n : Nat} {v : Value} {xs : List Value} (h : w.ownsRow base e 1 v n xs) : ∃ A c, v = .slice A n c ∧ n ≤ c ∧ Hid (Sl w A n xs) := own_sl h
theorem readList32_any (A : Option Addr) (n c : Nat) (l : List Int) (w : World) (h : Sl w A n (nums .u8 l)) (hB : Byt l) (hn : n ≤ 1000000) :
    Calls Try.prog 40 #[.slice A n c] w (Made w 22 (nums .u32 (leN l (n / 4)))) := by
  have H := Lib.hid h
  have HB := Lib.hid hB
  have hlen : l.length = n := by have := h.1; rwa [nums_length] at this
  clear h hB
  subst hlen
  have hll := leN_len l (l.length / 4)
  have HLL := Lib.hid hll
  clear hll
  have hrow := World.ownsRow_made (e := 22) (size := 1) (base := w.heap.size) w #[] 0 (Nat.le_refl _) (by simp [maxLen]) rfl
  have HR := Lib.hid hrow
  clear hrow
  go_enter Try.func40, Try.ntmps40
  go_wp2_with fail
  refine (own_any A _ c l _ (H.out.alloc _) (by omega)).mono ?_
  intro E w1 h1
  obtain ⟨A1, c1, rfl, hc1, hs1, hb1, ho1⟩ := h1.sv
  clear h1 ho1
  go_wp2_with fail
  refine (bytesU32_any A1 _ c1 l w1 hs1.out HB.out (by omega)).mono ?_
  rintro E w2 ⟨v2, rfl, ho2, hb2⟩
  rw [nums_length, HLL.out] at ho2
  obtain ⟨A2, c2, rfl, hc2, hs2⟩ := own_slH ho2
  have HB2 := Lib.hid hb2
  have HR2 := Lib.hid (own_below (own_below HR.out hb1.out) hb2)
  have hbw : Hid (Below w.heap.size w w2) := by show Below _ _ _; (repeat first | with_reducible exact Below.refl _ _ | with_reducible apply bl_drewN | with_reducible apply bl_drew | with_reducible apply bl_alloc | (with_reducible refine bl_trans ?_ (Hid.out (by assumption))))
  clear ho2 hb2
  go_wp2_with (at_builtin; refine wpList_append_sl _ rfl (.tmp 3) (.tmp 6) 40 rfl w.heap.size 22 (.int .u32 0) 4 Try.underlying40 infoU32 rfl (.slice (some ⟨w.heap.size, 0, none⟩) 0 0) 0 [] rfl HR2.out A2 (l.length / 4) c2 (nums .u32 (leN l (l.length / 4))) rfl hs2.out (nums_one _ _) (by omega) (by omega) (by have := hbw.out.size; omega) ?_; intro v3 w3 hown3 hg3 hat3)
  go_ret
  rw [Nat.zero_add, List.nil_append] at hown3
  exact ⟨v3, rfl, by rw [nums_length, HLL.out]; exact hown3, below_app0 hbw.out HR2.out hg3⟩
end Go.Proofs.Ytadhdimleabljaa
