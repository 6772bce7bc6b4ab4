/- Lists of numbers of 32 bits: the law's walk. -/
import Derived.Test.YtadhdimleabljaaN1
namespace Go.Proofs.Ytadhdimleabljaa
open Go.RowKit
set_option linter.unusedVariables false
set_option linter.unusedSimpArgs false
theorem u32_64'' {x : Int} (h : x ≤ 4294967295) : Hid (x ≤ 18446744073709551615) := Int.le_trans h (by decide)
theorem numbersList32_walk (A : Option Addr) (n c : Nat) (l : List Int) (w : World) (h : Sl w A n (nums .u32 l)) (hc : n ≤ c) (hw : ∀ x ∈ l, (Lit.int .u32 x).wf = true) :
    Calls Try.prog 7 #[.slice A n c] w (Holds w) := by
  have HI : Hid (∀ x ∈ l, 0 ≤ x ∧ x ≤ 4294967295) := fun x hx => by
    have := hw x hx
    simp [Lit.wf, IntKind.min, IntKind.max, IntKind.bits, IntKind.signed] at this
    omega
  clear hw
  have hlen : l.length = n := by have := h.1; rwa [nums_length] at this
  have Hl := Lib.hid hlen
  have H := Lib.hid h
  clear h hlen
  by_cases h1 : 2147483647 < n
  · go_enter Try.func7, Try.ntmps7
    go_wp2
    go_ret
    exact ⟨rfl, Below.refl _ _⟩
  by_cases h2 : 300 < n
  · go_enter Try.func7, Try.ntmps7
    go_wp2
    go_ret
    exact ⟨rfl, Below.refl _ _⟩
  go_enter Try.func7, Try.ntmps7
  go_wp2
  go_loopg [3, 5, 19] n (fun q v3 v5 v19 wr => ∃ (i : Nat) (A3 : Option Addr) (c3 : Nat), v3 = .slice A3 (4 * i) c3 ∧ 4 * i ≤ c3 ∧ v19 = .int .i64 i ∧ i ≤ n ∧ Hid (i + q = n) ∧ Hid (Sl wr A3 (4 * i) (nums .u8 (le32s (l.take i)))) ∧ Hid (Below w.heap.size w wr))
  case atStart => exact ⟨0, _, 0, rfl, by omega, rfl, by omega, by simp [Hid], Sl.nil _ _, bl_alloc (Below.refl _ _) _⟩
  case round =>
    obtain ⟨i, A3, c3, rfl, hc3, rfl, hi, hq, hs3, hb⟩ := hrel
    by_cases hin : i < n
    · obtain ⟨g, o, x, rfl, hl, hcell⟩ := (H.out.below hb.out).num hin
      have hx := HI.out x (List.mem_of_getElem? hl.out)
      obtain ⟨hx0, hx1⟩ := hx
      have hwx : IntKind.u64.wrap x = x := wrapU64 x hx0 (u32_64'' hx1).out
      have hlt : (le32s (l.take i)).length = 4 * i := by rw [le32s_len, List.length_take, Hl.out]; omega
      have HLT := Lib.hid hlt
      clear hlt
      go_wp2_with fail
      refine (low_any x 4 wr hx0 (by omega)).mono ?_
      intro E w1 h1
      rw [lowL_four] at h1
      obtain ⟨A1, c1, rfl, hc1, hs1, hb1, ho1⟩ := h1.sv
      clear h1 ho1
      go_wp2_with fail
      have hsj : Hid (Sls (w1.alloc (.cells #[.slice A3 (4 * i) c3, .slice A1 (le32 x).length c1] 26)) (some ⟨w1.heap.size, 0, none⟩) 2 [le32s (l.take i), le32 x]) := sls_two _ _ _ _ _ _ (SV.mk' (hs3.out.below hb1.out) hc3) (SV.mk' hs1.out hc1)
      have hL : (le32s (l.take i) ++ le32 x).length = 4 * (i + 1) := by rw [List.length_append, HLT.out]; rfl
      refine (join_any _ 2 2 [le32s (l.take i), le32 x] _ hsj.out (by omega) ?d1).mono ?_
      case d1 => show _ ≤ _; simp; rw [HLT.out]; simp [le32]; omega
      intro E w2 h2
      have e1 : [le32s (l.take i), le32 x].flatten = le32s (l.take i) ++ le32 x := by simp
      rw [e1] at h2
      clear e1
      obtain ⟨A2, c2, rfl, hc2, hs2, hb2, ho2⟩ := h2.sv
      rw [hL] at hs2 hc2 ⊢
      clear h2 ho2 hL
      have hb3 : Hid (Below w.heap.size w w2) := by show Below _ _ _; (repeat first | with_reducible exact Below.refl _ _ | with_reducible apply bl_drewN | with_reducible apply bl_drew | with_reducible apply bl_alloc | (with_reducible refine bl_trans ?_ (Hid.out (by assumption))))
      go_wp2
      cases gk with
      | zero => exact absurd hq.out (by omega)
      | succ k1 =>
        go_roundg k1
        case measure => omega
        case rel =>
          refine ⟨i + 1, A2, c2, rfl, hc2, by go_num, by omega, by have := hq.out; show _ = _; omega, ?_, hb3⟩
          obtain ⟨g1, rfl⟩ := List.getElem?_eq_some_iff.1 hl.out
          rw [List.take_succ_eq_append_getElem g1, le32s_snoc]
          exact hs2
    · obtain rfl : i = n := by omega
      have htk : l.take i = l := List.take_of_length_le (by have := Hl.out; omega)
      rw [htk] at hs3
      have hl4 : (le32s l).length = 4 * i := by rw [le32s_len, Hl.out]
      have hbk : leN (le32s l) (4 * i / 4) = l := by rw [show 4 * i / 4 = l.length by have := Hl.out; omega]; exact leN_back l HI.out
      have HL4 := Lib.hid (And.intro hl4 hbk)
      clear htk hl4 hbk
      go_wp2_with fail
      refine (numbers32_any A i c l wr (H.out.below hb.out) (by omega)).mono ?_
      intro E w1 h1
      obtain ⟨A4, c4, rfl, hc4, hs4, hb4, ho4⟩ := h1.sv
      rw [HL4.out.1] at hs4 hc4 ⊢
      clear h1 ho4
      go_wp2_with fail
      refine (readList32_any A4 (4 * i) c4 (le32s l) w1 hs4.out (byt_le32s l) (by omega)).mono ?_
      rintro E w2 ⟨v2, rfl, ho2, hb2⟩
      rw [HL4.out.2, nums_length, Hl.out] at ho2
      obtain ⟨A5, c5, rfl, hc5, hs5⟩ := own_slH ho2
      have HB2 := Lib.hid hb2
      clear ho2 hb2
      go_wp2_with fail
      have hbb : Hid (Below wr.heap.size wr w2) := by show Below _ _ _; (repeat first | with_reducible exact Below.refl _ _ | with_reducible apply bl_drewN | with_reducible apply bl_drew | with_reducible apply bl_alloc | (with_reducible refine bl_trans ?_ (Hid.out (by assumption))))
      refine (sameBytes_any A4 A3 _ _ c4 c3 (le32s l) (le32s l) _ (hs4.out.below HB2.out) (hs3.out.below hbb.out) (by omega) (by omega)).mono ?_
      rintro E w3 ⟨rfl, ⟨j, rfl⟩⟩
      rw [decide_eq_true (rfl : le32s l = le32s l)]
      have H5 := Lib.hid (hs5.out.drewN j)
      have HW : Hid (Below w.heap.size w (w2.drewN j)) := by show Below _ _ _; (repeat first | with_reducible exact Below.refl _ _ | with_reducible apply bl_drewN | with_reducible apply bl_drew | with_reducible apply bl_alloc | (with_reducible refine bl_trans ?_ (Hid.out (by assumption))))
      generalize w2.drewN j = w3 at *
      go_wp2
      have HA := Lib.hid (H.out.below HW.out)
      have H1 : Hid (Sl (w3.alloc (.cells #[.int .u32 1] 22)) (some ⟨w3.heap.size, 0, none⟩) 1 (nums .u32 [1])) := sl_one w3 (.int .u32 1) 22
      go_loopg [8, 9, 47] i (fun q v8 v9 v47 wr2 => ∃ k : Nat, v47 = .int .i64 k ∧ k ≤ i ∧ Hid (k + q = i) ∧ w3 = wr2)
      case atStart => exact ⟨0, rfl, by omega, by simp [Hid], rfl⟩
      case round =>
        obtain ⟨k, rfl, hk, hqk, rfl⟩ := hrel
        by_cases hki : k < i
        · obtain ⟨g, o, x, rfl, hlx, hcx⟩ := HA.out.num hki
          obtain ⟨g', o', y, rfl, hly, hcy⟩ := H5.out.num hki
          obtain rfl : x = y := by have := hlx.out; rw [hly.out] at this; injection this with this; exact this.symm
          go_wp2
          cases gk with
          | zero => exact absurd hqk.out (by omega)
          | succ k1 =>
            go_roundg k1
            case measure => omega
            case rel => exact ⟨k + 1, by go_num, by omega, by have := hqk.out; show _ = _; omega, rfl⟩
        · go_wp2_with fail
          refine (numbers32_any (some ⟨w3.heap.size, 0, none⟩) 1 1 [1] _ H1.out (by omega)).mono ?_
          intro E w4 h4
          obtain ⟨A6, c6, rfl, hc6, hs6, hb6, ho6⟩ := h4.sv
          have e4 : (le32s [1]).length = 4 := by rw [le32s_len]; rfl
          rw [e4] at hs6 hc6 ⊢
          clear h4 ho6 e4
          go_wp2
          go_ret
          exact ⟨by simp, by (repeat first | with_reducible exact Below.refl _ _ | with_reducible apply bl_drewN | with_reducible apply bl_drew | with_reducible apply bl_alloc | (with_reducible refine bl_trans ?_ (Hid.out (by assumption))))⟩
end Go.Proofs.Ytadhdimleabljaa
