/- A byte that is changed changes the checksum: the law's walk. -/
import Derived.Test.YtbbncbjdpopkiaaDoorG2
import Derived.Test.YtbbncbjdpopkiaaDoorGA
namespace Go.Proofs.YtbbncbjdpopkiaaDoor
open Go.RowKit
set_option linter.unusedVariables false
set_option linter.unusedSimpArgs false
theorem nums_set (k : IntKind) (l : List Int) (i : Nat) (y : Int) : (nums k l).set i (.int k y) = nums k (l.set i y) := by
  unfold nums
  rw [List.map_set]
/-- A byte of an own row, set. -/
theorem sl_own_set {w : World} {base e n : Nat} {g c : Nat} {xs : List Value} (h : w.ownsRow base e 1 (.slice (some ⟨g, 0, none⟩) n c) n xs) (i : Nat) (u : Value) : Sl (w.setCell ⟨g, i, none⟩ u) (some ⟨g, 0, none⟩) n (xs.set i u) := by
  have hs := own_sl h
  obtain ⟨A, d, e1, _, hs⟩ := hs
  injection e1 with e1 _ _
  subst e1
  refine ⟨by rw [List.length_set]; exact hs.1, fun hn => ⟨g, 0, rfl, fun j v hv => ?_⟩⟩
  obtain ⟨g', o', e2, hc⟩ := hs.2 hn
  obtain ⟨rfl, rfl⟩ : g = g' ∧ 0 = o' := by injection e2 with e2; injection e2 with a b; exact ⟨a, b⟩
  rw [Nat.zero_add]
  by_cases hj : j = i
  · subst hj
    have hjl : j < xs.length := by
      have := (List.getElem?_eq_some_iff.1 hv).1
      rwa [List.length_set] at this
    rw [List.getElem?_set_self hjl] at hv
    have h0 := hc j _ (List.getElem?_eq_getElem hjl)
    rw [Nat.zero_add] at h0
    exact (World.cell?_setCell_same _ _ u h0).trans hv
  · rw [List.getElem?_set_ne (Ne.symm hj)] at hv
    have h0 := hc j _ hv
    rw [Nat.zero_add] at h0
    refine Eq.trans (World.cell?_setCell_other _ _ _ u (fun h => hj ?_)) h0
    injection h with _ h _
    exact h.symm
set_option maxRecDepth 100000 in
theorem sumOther_walk (A : Option Addr) (n c : Nat) (l : List Int) (at' by' : Int) (w : World) (h : Sl w A n (nums .u8 l)) (hc : n ≤ c) (hw : ∀ x ∈ l, (Lit.int .u8 x).wf = true) (ha : (Lit.int .i64 at').wf = true) (hb : (Lit.int .u8 by').wf = true) (hG : GErr w) :
    Calls Tryd.prog 4 #[.slice A n c, .int .i64 at', .int .u8 by'] w (Holds w) := by
  have HP : Hid (Byt l) := Byt.of_wf hw
  clear hw
  have hlen : l.length = n := by have := h.1; rwa [nums_length] at this
  have Hl := Lib.hid hlen
  clear hlen
  have H : Hid (Sl w A n (nums .u8 l)) := h
  have HG := Lib.hid hG
  clear h hG
  have HB8 : Hid (0 ≤ by' ∧ by' ≤ 255) := bounds_u8 hb
  clear ha hb
  by_cases h1 : 2147483647 < n
  · go_enter Tryd.func4, Tryd.ntmps4
    go_wp2
    go_ret
    exact ⟨rfl, Below.refl _ _⟩
  have hj : Hid (Sls (w.alloc (.cells #[.slice A n c] 22)) (some ⟨w.heap.size, 0, none⟩) 1 [l]) := sls_one _ _ _ _ (SV.mk' H.out hc)
  by_cases h2 : n ≤ 300
  · have hf : ([l].all fun l => decide (l.length ≤ 300)) = true := by simp [Hl.out, h2]
    by_cases h3 : at' < 0
    · go_enter Tryd.func4, Tryd.ntmps4
      go_wp2_with fail
      refine (few_any _ 1 1 [l] _ hj.out (by omega)).mono ?_
      rintro e w1 ⟨rfl, rfl⟩
      rw [hf]
      clear hf
      go_wp2
      go_ret
      exact ⟨rfl, by (repeat first | with_reducible exact Below.refl _ _ | with_reducible apply bl_drewN | with_reducible apply bl_drew | with_reducible apply bl_alloc | (with_reducible refine bl_trans ?_ (Hid.out (by assumption))))⟩
    by_cases h4 : (n : Int) ≤ at'
    · go_enter Tryd.func4, Tryd.ntmps4
      go_wp2_with fail
      refine (few_any _ 1 1 [l] _ hj.out (by omega)).mono ?_
      rintro e w1 ⟨rfl, rfl⟩
      rw [hf]
      clear hf
      go_wp2
      go_ret
      exact ⟨rfl, by (repeat first | with_reducible exact Below.refl _ _ | with_reducible apply bl_drewN | with_reducible apply bl_drew | with_reducible apply bl_alloc | (with_reducible refine bl_trans ?_ (Hid.out (by assumption))))⟩
    obtain ⟨i, hi⟩ := Int.eq_ofNat_of_zero_le (show 0 ≤ at' by omega)
    subst hi
    by_cases h5 : by' = 0
    · subst h5
      go_enter Tryd.func4, Tryd.ntmps4
      go_wp2_with fail
      refine (few_any _ 1 1 [l] _ hj.out (by omega)).mono ?_
      rintro e w1 ⟨rfl, rfl⟩
      rw [hf]
      clear hf
      go_wp2
      go_ret
      exact ⟨rfl, by (repeat first | with_reducible exact Below.refl _ _ | with_reducible apply bl_drewN | with_reducible apply bl_drew | with_reducible apply bl_alloc | (with_reducible refine bl_trans ?_ (Hid.out (by assumption))))⟩
    have hA : decide ((i : Int) < 0) = false := by simp
    have hB : decide (n ≤ i) = false := by simp; omega
    have hC : (by' == 0) = false := by simp [h5]
    go_enter Tryd.func4, Tryd.ntmps4
    go_wp2_with fail
    refine (few_any _ 1 1 [l] _ hj.out (by omega)).mono ?_
    rintro e w1 ⟨rfl, rfl⟩
    rw [hf]
    clear hf
    go_wp2_with fail
    have hj2 : Hid (Sls ((w.alloc (.cells #[.slice A n c] 22)).alloc (.cells #[.slice A n c] 22)) (some ⟨(w.alloc (.cells #[.slice A n c] 22)).heap.size, 0, none⟩) 1 [l]) := sls_one _ _ _ _ (SV.mk' (H.out.alloc _) hc)
    rw [World.size_alloc] at hj2
    have HB1 : Hid (Below w.heap.size w ((w.alloc (.cells #[.slice A n c] 22)).alloc (.cells #[.slice A n c] 22))) := ((Below.refl _ w).alloc (Nat.le_refl _) _).alloc (by simp) _
    clear hj
    generalize (w.alloc (.cells #[.slice A n c] 22)).alloc (.cells #[.slice A n c] 22) = w1 at *
    refine (join_any _ 1 1 [l] w1 hj2.out (by omega) (by show [l].flatten.length ≤ 100000000; simp [Hl.out]; omega)).mono ?_
    intro e w3 h3'
    have hfl : [l].flatten = l := by simp
    rw [hfl] at h3'
    obtain ⟨A3, c3, rfl, hc3, hs3, hb3, ho3⟩ := h3'.sv
    clear h3' hfl hj2
    have hil : i < l.length := by rw [Hl.out]; omega
    have hsz := HB1.out.size
    obtain ⟨g3, rfl, hg3, cur, hh3⟩ : ∃ g, A3 = some ⟨g, 0, none⟩ ∧ w.heap.size ≤ g ∧ ∃ cur, w3.heap[g]? = some (.cells cur 5 (0, 0)) := by
      rcases ho3.out.2 with ⟨h, h0⟩ | ⟨g, cap, cur, h, hg, hh, _⟩
      · omega
      · injection h with h _ _
        exact ⟨g, h, by omega, cur, hh⟩
    obtain ⟨x, hx⟩ : ∃ x, l[i]? = some x := ⟨_, List.getElem?_eq_getElem hil⟩
    have hx8 : 0 ≤ x ∧ x ≤ 255 := HP.out x (List.mem_of_getElem? hx)
    have q3 : w3.cell? ⟨g3, i, none⟩ = some (.int .u8 x) := by
      obtain ⟨g', o', e2, hcell⟩ := hs3.out.2 (by omega)
      obtain ⟨rfl, rfl⟩ : g3 = g' ∧ 0 = o' := by injection e2 with e2; injection e2 with a b; exact ⟨a, b⟩
      have := hcell i (.int .u8 x) (by simp [nums, hx])
      rwa [Nat.zero_add] at this
    have f3 : w3.frozen? ⟨g3, i, none⟩ = false := by simp [World.frozen?, hh3]
    obtain ⟨y, hy⟩ : ∃ y, IntKind.u8.wrap (x + by') = y := ⟨_, rfl⟩
    have hy8 : (0 ≤ y ∧ y ≤ 255) ∧ y ≠ x := by
      have := HB8.out
      have e : IntKind.u8.wrap (x + by') = (x + by') % 256 := by rfl
      rw [e] at hy
      omega
    have hBy : Byt (l.set i y) := by
      intro z hz
      rcases List.mem_or_eq_of_mem_set hz with h | h
      · exact HP.out z h
      · exact h ▸ hy8.1
    have hne : decide (crcOut (l.set i y) = crcOut l) = false := by
      simp only [decide_eq_false_iff_not]
      exact fun h => hy8.2 (crcOut_set l HP.out i x y hx hy8.1 h)
    have hne2 := Lib.hid hne
    clear hne hy8 hx8 hx
    have HS4 : Hid (Sl (w3.setCell ⟨g3, i, none⟩ (.int .u8 y)) (some ⟨g3, 0, none⟩) l.length (nums .u8 (l.set i y))) := by
      have := sl_own_set ho3.out i (.int .u8 y)
      rwa [nums_set] at this
    have HB4 : Hid (Below w.heap.size w (w3.setCell ⟨g3, i, none⟩ (.int .u8 y))) := (HB1.out.trans (hb3.out.mono hsz)).setCell hg3 _
    clear ho3 hs3 hb3 hsz HB1 hh3
    go_wp2_with fail
    clear q3 f3 hy
    generalize w3.setCell ⟨g3, i, none⟩ (.int .u8 y) = w4 at *
    have H4 := Lib.hid (H.out.below HB4.out)
    have HG4 := Lib.hid (HG.out.below HB4.out)
    clear H HG
    refine (sum_any A n c l w4 H4.out HP.out (by omega)).mono ?_
    rintro e w5 ⟨rfl, hb5⟩
    have HB5 := Lib.hid hb5
    have H5 := Lib.hid (H4.out.below hb5)
    have HG5 := Lib.hid (HG4.out.below hb5)
    have HS5 := Lib.hid (HS4.out.below hb5)
    clear hb5 H4 HG4 HS4
    go_wp2_with fail
    refine (checkSum_any A n c l (crcOut l) w5 H5.out HP.out (by omega) HG5.out).mono ?_
    rintro e w6 ⟨rfl, hb6⟩
    have HB6 := Lib.hid hb6
    have H6 := Lib.hid (H5.out.below hb6)
    have HG6 := Lib.hid (HG5.out.below hb6)
    have HS6 := Lib.hid (HS5.out.below hb6)
    clear hb6 H5 HG5 HS5
    rw [show decide (crcOut l = crcOut l) = true from by simp]
    go_wp2_with fail
    refine (sum_any A n c l w6 H6.out HP.out (by omega)).mono ?_
    rintro e w7 ⟨rfl, hb7⟩
    have HB7 := Lib.hid hb7
    have HG7 := Lib.hid (HG6.out.below hb7)
    have HS7 := Lib.hid (HS6.out.below hb7)
    clear hb7 H6 HG6 HS6
    go_wp2_with fail
    refine (checkSum_any (some ⟨g3, 0, none⟩) l.length c3 (l.set i y) (crcOut l) w7 HS7.out hBy (by rw [Hl.out]; omega) HG7.out).mono ?_
    rintro e w8 ⟨rfl, hb8⟩
    have HB8' := Lib.hid hb8
    clear hb8 HG7 HS7
    rw [hne2.out]
    go_wp2
    go_ret
    exact ⟨rfl, by (repeat first | with_reducible exact Below.refl _ _ | with_reducible apply bl_drewN | with_reducible apply bl_drew | with_reducible apply bl_alloc | (with_reducible refine bl_trans ?_ (Hid.out (by assumption))))⟩
  · go_enter Tryd.func4, Tryd.ntmps4
    go_wp2_with fail
    refine (few_any _ 1 1 [l] _ hj.out (by omega)).mono ?_
    rintro e w1 ⟨rfl, rfl⟩
    have hf : ([l].all fun l => decide (l.length ≤ 300)) = false := by simp [Hl.out]; omega
    rw [hf]
    clear hf
    go_wp2
    go_ret
    exact ⟨rfl, by (repeat first | with_reducible exact Below.refl _ _ | with_reducible apply bl_drewN | with_reducible apply bl_drew | with_reducible apply bl_alloc | (with_reducible refine bl_trans ?_ (Hid.out (by assumption))))⟩
end Go.Proofs.YtbbncbjdpopkiaaDoor
