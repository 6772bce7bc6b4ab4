/- Lists of numbers of 64 bits: the law. -/
import Derived.Test.YtadhdimleabljaaN4
namespace Go.Proofs.Ytadhdimleabljaa
open Go.RowKit
set_option linter.unusedVariables false
set_option linter.unusedSimpArgs false
theorem numbers64_any (A : Option Addr) (n c : Nat) (l : List Int) (w : World) (h : Sl w A n (nums .u64 l)) (hw : ∀ x ∈ l, 0 ≤ x) (hn : n ≤ 100000) :
    Calls Try.prog 46 #[.slice A n c] w (Made w 5 (nums .u8 (le64s l))) := by
  have H := Lib.hid h
  have hlen : l.length = n := by have := h.1; rwa [nums_length] at this
  have hl2 := le64s_len l
  have HL := Lib.hid (And.intro hlen hl2)
  have HW := Lib.hid hw
  clear h hlen hl2 hw
  go_enter Try.func46, Try.ntmps46
  go_wp2_with (at_builtin; refine wpList_append_sl _ rfl (.tmp 3) (.tmp 4) 52 rfl w.heap.size 27 (.int .u64 0) 8 Try.underlying52 infoU64 rfl (.slice (some ⟨w.heap.size, 0, none⟩) 0 0) 0 [] rfl (World.ownsRow_made w #[] 0 (Nat.le_refl _) (by simp [maxLen]) rfl) A n c (nums .u64 l) rfl (H.out.alloc _) (nums_one _ _) (by omega) (by omega) (by simp) ?_; intro v1 w1 hown1 hg1 hat1)
  have hb1 : Hid (Below w.heap.size w w1) := below_app0' hg1
  obtain ⟨A1, c1, rfl, hc1, hs1⟩ := own_sl hown1
  rw [Nat.zero_add, List.nil_append] at hs1
  rw [Nat.zero_add] at hc1 ⊢
  have HS1 := Lib.hid hs1
  clear hs1 hown1 hg1 hat1
  go_wp2_with fail
  refine (u64Bytes_any A1 n c1 l w1 HS1.out HW.out (by omega)).mono ?_
  intro E w2 h2
  obtain ⟨A2, c2, rfl, hc2, hs2, hb2, ho2⟩ := h2.sv
  clear h2 ho2
  go_wp2_with fail
  refine (own_any A2 _ c2 (le64s l) w2 hs2.out (by have := HL.out; omega)).mono ?_
  intro E w3 h3
  obtain ⟨A3, c3, rfl, hc3, hs3, hb3, ho3⟩ := h3.sv
  clear h3
  go_wp2
  go_ret
  exact Made.mk' (by (repeat first | with_reducible exact Below.refl _ _ | with_reducible apply bl_drewN | with_reducible apply bl_drew | with_reducible apply bl_alloc | (with_reducible refine bl_trans ?_ (Hid.out (by assumption))))) hb3.out ho3.out
theorem readList64_any (A : Option Addr) (n c : Nat) (l : List Int) (w : World) (h : Sl w A n (nums .u8 l)) (hB : Byt l) (hn : n ≤ 1000000) :
    Calls Try.prog 47 #[.slice A n c] w (Made w 27 (nums .u64 (leN8 l (n / 8)))) := by
  have H := Lib.hid h
  have HB := Lib.hid hB
  have hlen : l.length = n := by have := h.1; rwa [nums_length] at this
  clear h hB
  subst hlen
  have hll := leN8_len l (l.length / 8)
  have HLL := Lib.hid hll
  clear hll
  have hrow := World.ownsRow_made (e := 27) (size := 1) (base := w.heap.size) w #[] 0 (Nat.le_refl _) (by simp [maxLen]) rfl
  have HR := Lib.hid hrow
  clear hrow
  go_enter Try.func47, Try.ntmps47
  go_wp2_with fail
  refine (own_any A _ c l _ (H.out.alloc _) (by omega)).mono ?_
  intro E w1 h1
  obtain ⟨A1, c1, rfl, hc1, hs1, hb1, ho1⟩ := h1.sv
  clear h1 ho1
  go_wp2_with fail
  refine (bytesU64_any A1 _ c1 l w1 hs1.out HB.out (by omega)).mono ?_
  rintro E w2 ⟨v2, rfl, ho2, hb2⟩
  rw [nums_length, HLL.out] at ho2
  obtain ⟨A2, c2, rfl, hc2, hs2⟩ := own_slH ho2
  have HB2 := Lib.hid hb2
  have HR2 := Lib.hid (own_below (own_below HR.out hb1.out) hb2)
  have hbw : Hid (Below w.heap.size w w2) := by show Below _ _ _; (repeat first | with_reducible exact Below.refl _ _ | with_reducible apply bl_drewN | with_reducible apply bl_drew | with_reducible apply bl_alloc | (with_reducible refine bl_trans ?_ (Hid.out (by assumption))))
  clear ho2 hb2
  go_wp2_with (at_builtin; refine wpList_append_sl _ rfl (.tmp 3) (.tmp 6) 52 rfl w.heap.size 27 (.int .u64 0) 8 Try.underlying52 infoU64 rfl (.slice (some ⟨w.heap.size, 0, none⟩) 0 0) 0 [] rfl HR2.out A2 (l.length / 8) c2 (nums .u64 (leN8 l (l.length / 8))) rfl hs2.out (nums_one _ _) (by omega) (by omega) (by have := hbw.out.size; omega) ?_; intro v3 w3 hown3 hg3 hat3)
  go_ret
  rw [Nat.zero_add, List.nil_append] at hown3
  exact ⟨v3, rfl, by rw [nums_length, HLL.out]; exact hown3, below_app0 hbw.out HR2.out hg3⟩
set_option maxRecDepth 100000 in
theorem numbersList64_walk (A : Option Addr) (n c : Nat) (l : List Int) (w : World) (h : Sl w A n (nums .u64 l)) (hc : n ≤ c) (hw : ∀ x ∈ l, (Lit.int .u64 x).wf = true) :
    Calls Try.prog 10 #[.slice A n c] w (Holds w) := by
  have HI : Hid (∀ x ∈ l, 0 ≤ x ∧ x ≤ 18446744073709551615) := fun x hx => ⟨(wf64 (hw x hx)).1, (wf64 (hw x hx)).2.out⟩
  clear hw
  have hlen : l.length = n := by have := h.1; rwa [nums_length] at this
  have Hl := Lib.hid hlen
  have H := Lib.hid h
  clear h hlen
  by_cases h1 : 2147483647 < n
  · go_enter Try.func10, Try.ntmps10
    go_wp2
    go_ret
    exact ⟨rfl, Below.refl _ _⟩
  by_cases h2 : 300 < n
  · go_enter Try.func10, Try.ntmps10
    go_wp2
    go_ret
    exact ⟨rfl, Below.refl _ _⟩
  go_enter Try.func10, Try.ntmps10
  go_wp2
  go_loopg [3, 5, 19] n (fun q v3 v5 v19 wr => ∃ (i : Nat) (A3 : Option Addr) (c3 : Nat), v3 = .slice A3 (8 * i) c3 ∧ 8 * i ≤ c3 ∧ v19 = .int .i64 i ∧ i ≤ n ∧ Hid (i + q = n) ∧ Hid (Sl wr A3 (8 * i) (nums .u8 (le64s (l.take i)))) ∧ Hid (Below w.heap.size w wr))
  case atStart => exact ⟨0, _, 0, rfl, by omega, rfl, by omega, by simp [Hid], Sl.nil _ _, bl_alloc (Below.refl _ _) _⟩
  case round =>
    obtain ⟨i, A3, c3, rfl, hc3, rfl, hi, hq, hs3, hb⟩ := hrel
    by_cases hin : i < n
    · obtain ⟨g, o, x, rfl, hl, hcell⟩ := (H.out.below hb.out).num hin
      have hx := HI.out x (List.mem_of_getElem? hl.out)
      have hx0 := hx.1
      clear hx
      have hlt : (le64s (l.take i)).length = 8 * i := by rw [le64s_len, List.length_take, Hl.out]; omega
      have HLT := Lib.hid hlt
      clear hlt
      go_wp2_with fail
      refine (low_any x 8 wr hx0 (by omega)).mono ?_
      intro E w1 h1
      obtain ⟨A1, c1, rfl, hc1, hs1, hb1, ho1⟩ := h1.sv
      clear h1 ho1
      go_wp2_with fail
      have hsj : Hid (Sls (w1.alloc (.cells #[.slice A3 (8 * i) c3, .slice A1 (lowL x 8).length c1] 26)) (some ⟨w1.heap.size, 0, none⟩) 2 [le64s (l.take i), lowL x 8]) := sls_two _ _ _ _ _ _ (SV.mk' (hs3.out.below hb1.out) hc3) (SV.mk' hs1.out hc1)
      have hL : (le64s (l.take i) ++ lowL x 8).length = 8 * (i + 1) := by rw [List.length_append, HLT.out, lowL_len]; omega
      refine (join_any _ 2 2 [le64s (l.take i), lowL x 8] _ hsj.out (by omega) ?d1).mono ?_
      case d1 => show _ ≤ _; simp; rw [HLT.out, lowL_len]; omega
      intro E w2 h2
      have e1 : [le64s (l.take i), lowL x 8].flatten = le64s (l.take i) ++ lowL x 8 := by simp
      rw [e1] at h2
      clear e1
      obtain ⟨A2, c2, rfl, hc2, hs2, hb2, ho2⟩ := h2.sv
      rw [hL] at hs2 hc2 ⊢
      clear h2 ho2 hL
      have hb3 : Hid (Below w.heap.size w w2) := by show Below _ _ _; (repeat first | with_reducible exact Below.refl _ _ | with_reducible apply bl_drewN | with_reducible apply bl_drew | with_reducible apply bl_alloc | (with_reducible refine bl_trans ?_ (Hid.out (by assumption))))
      go_wp2
      cases gk with
      | zero => exact absurd hq.out (by omega)
      | succ k1 =>
        go_roundg k1
        case measure => omega
        case rel =>
          refine ⟨i + 1, A2, c2, rfl, hc2, by go_num, by omega, by have := hq.out; show _ = _; omega, ?_, hb3⟩
          obtain ⟨g1, rfl⟩ := List.getElem?_eq_some_iff.1 hl.out
          rw [List.take_succ_eq_append_getElem g1, le64s_snoc]
          exact hs2
    · obtain rfl : i = n := by omega
      have htk : l.take i = l := List.take_of_length_le (by have := Hl.out; omega)
      rw [htk] at hs3
      have hl4 : (le64s l).length = 8 * i := by rw [le64s_len, Hl.out]
      have hbk : leN8 (le64s l) (8 * i / 8) = l := by rw [show 8 * i / 8 = l.length by have := Hl.out; omega]; exact leN8_back l HI.out
      have HL4 := Lib.hid (And.intro hl4 hbk)
      clear htk hl4 hbk
      go_wp2_with fail
      refine (numbers64_any A i c l wr (H.out.below hb.out) (fun x hx => (HI.out x hx).1) (by omega)).mono ?_
      intro E w1 h1
      obtain ⟨A4, c4, rfl, hc4, hs4, hb4, ho4⟩ := h1.sv
      rw [HL4.out.1] at hs4 hc4 ⊢
      clear h1 ho4
      go_wp2_with fail
      refine (readList64_any A4 (8 * i) c4 (le64s l) w1 hs4.out (byt_le64s l) (by omega)).mono ?_
      rintro E w2 ⟨v2, rfl, ho2, hb2⟩
      rw [HL4.out.2, nums_length, Hl.out] at ho2
      obtain ⟨A5, c5, rfl, hc5, hs5⟩ := own_slH ho2
      have HB2 := Lib.hid hb2
      clear ho2 hb2
      go_wp2_with fail
      have hbb : Hid (Below wr.heap.size wr w2) := by show Below _ _ _; (repeat first | with_reducible exact Below.refl _ _ | with_reducible apply bl_drewN | with_reducible apply bl_drew | with_reducible apply bl_alloc | (with_reducible refine bl_trans ?_ (Hid.out (by assumption))))
      refine (sameBytes_any A4 A3 _ _ c4 c3 (le64s l) (le64s l) _ (hs4.out.below HB2.out) (hs3.out.below hbb.out) (by omega) (by omega)).mono ?_
      rintro E w3 ⟨rfl, ⟨j, rfl⟩⟩
      rw [decide_eq_true (rfl : le64s l = le64s l)]
      have H5 := Lib.hid (hs5.out.drewN j)
      have HW : Hid (Below w.heap.size w (w2.drewN j)) := by show Below _ _ _; (repeat first | with_reducible exact Below.refl _ _ | with_reducible apply bl_drewN | with_reducible apply bl_drew | with_reducible apply bl_alloc | (with_reducible refine bl_trans ?_ (Hid.out (by assumption))))
      generalize w2.drewN j = w3 at *
      go_wp2
      have HA := Lib.hid (H.out.below HW.out)
      have H1 : Hid (Sl (w3.alloc (.cells #[.int .u64 1] 27)) (some ⟨w3.heap.size, 0, none⟩) 1 (nums .u64 [1])) := sl_one w3 (.int .u64 1) 27
      go_loopg [8, 9, 46] i (fun q v8 v9 v46 wr2 => ∃ k : Nat, v46 = .int .i64 k ∧ k ≤ i ∧ Hid (k + q = i) ∧ w3 = wr2)
      case atStart => exact ⟨0, rfl, by omega, by simp [Hid], rfl⟩
      case round =>
        obtain ⟨k, rfl, hk, hqk, rfl⟩ := hrel
        by_cases hki : k < i
        · obtain ⟨g, o, x, rfl, hlx, hcx⟩ := HA.out.num hki
          obtain ⟨g', o', y, rfl, hly, hcy⟩ := H5.out.num hki
          obtain rfl : x = y := by have := hlx.out; rw [hly.out] at this; injection this with this; exact this.symm
          go_wp2
          cases gk with
          | zero => exact absurd hqk.out (by omega)
          | succ k1 =>
            go_roundg k1
            case measure => omega
            case rel => exact ⟨k + 1, by go_num, by omega, by have := hqk.out; show _ = _; omega, rfl⟩
        · go_wp2_with fail
          refine (numbers64_any (some ⟨w3.heap.size, 0, none⟩) 1 1 [1] _ H1.out (by simp) (by omega)).mono ?_
          intro E w4 h4
          obtain ⟨A6, c6, rfl, hc6, hs6, hb6, ho6⟩ := h4.sv
          have e4 : (le64s [1]).length = 8 := by rw [le64s_len]; rfl
          rw [e4] at hs6 hc6 ⊢
          clear h4 ho6 e4
          go_wp2
          go_ret
          exact ⟨by simp, by (repeat first | with_reducible exact Below.refl _ _ | with_reducible apply bl_drewN | with_reducible apply bl_drew | with_reducible apply bl_alloc | (with_reducible refine bl_trans ?_ (Hid.out (by assumption))))⟩
end Go.Proofs.Ytadhdimleabljaa
