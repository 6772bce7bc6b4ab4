/- A checksum looked at: the laws. -/
import Derived.Test.YtbbncbjdpopkiaaDoorG2
import Derived.Test.YtbbncbjdpopkiaaDoorGA
namespace Go.Proofs.YtbbncbjdpopkiaaDoor
open Go.RowKit
set_option linter.unusedVariables false
set_option linter.unusedSimpArgs false
set_option maxRecDepth 100000 in
theorem sumCheck_walk (A : Option Addr) (n c : Nat) (l : List Int) (s : Int) (w : World) (h : Sl w A n (nums .u8 l)) (hc : n ≤ c) (hw : ∀ x ∈ l, (Lit.int .u8 x).wf = true) (hs : (Lit.int .u64 s).wf = true) (hG : GErr w) :
    Calls Tryd.prog 3 #[.slice A n c, .int .u64 s] w (Holds w) := by
  have HP : Hid (Byt l) := Byt.of_wf hw
  have hr := crcOut_in l HP.out
  obtain ⟨r0, r1⟩ := hr
  have hwr : IntKind.u64.wrap (crcOut l) = crcOut l := wrapU64 _ r0 (u32_64' r1).out
  clear hw
  have hlen : l.length = n := by have := h.1; rwa [nums_length] at this
  have Hl := Lib.hid hlen
  clear hlen
  have H : Hid (Sl w A n (nums .u8 l)) := h
  have HG := Lib.hid hG
  clear h hG
  by_cases h1 : 2147483647 < n
  · go_enter Tryd.func3, Tryd.ntmps3
    go_wp2
    go_ret
    exact ⟨rfl, Below.refl _ _⟩
  have hj : Hid (Sls (w.alloc (.cells #[.slice A n c] 22)) (some ⟨w.heap.size, 0, none⟩) 1 [l]) := sls_one _ _ _ _ (SV.mk' H.out hc)
  by_cases h2 : n ≤ 300
  · have hf : ([l].all fun l => decide (l.length ≤ 300)) = true := by simp [Hl.out, h2]
    by_cases he : s = crcOut l
    · subst he
      go_enter Tryd.func3, Tryd.ntmps3
      go_wp2_with fail
      refine (few_any _ 1 1 [l] _ hj.out (by omega)).mono ?_
      rintro e w1 ⟨rfl, rfl⟩
      rw [hf]
      clear hf
      go_wp2_with fail
      refine (specCastagnoli_any A n c l _ (H.out.alloc _) HP.out (by omega)).mono ?_
      rintro e w3 ⟨rfl, rfl⟩
      have HB1 : Hid (Below w.heap.size w (w.alloc (.cells #[.slice A n c] 22))) := (Below.refl _ w).alloc (Nat.le_refl _) _
      have HG1 : Hid (GErr (w.alloc (.cells #[.slice A n c] 22))) := HG.out.below HB1.out
      have H1 : Hid (Sl (w.alloc (.cells #[.slice A n c] 22)) A n (nums .u8 l)) := H.out.alloc _
      clear hj HG H
      generalize w.alloc (.cells #[.slice A n c] 22) = w1 at *
      go_wp2_with fail
      refine (checkSum_any A n c l (crcOut l) w1 H1.out HP.out (by omega) HG1.out).mono ?_
      rintro e w2 ⟨rfl, hb2⟩
      have HB2 := Lib.hid hb2
      have HG2 := Lib.hid (HG1.out.below hb2)
      have H2 := Lib.hid (H1.out.below hb2)
      clear hb2 HG1 H1
      rw [show decide (crcOut l = crcOut l) = true from by simp]
      go_wp2_with fail
      refine (checkSum_any A n c l (crcOut l) w2 H2.out HP.out (by omega) HG2.out).mono ?_
      rintro e w3 ⟨rfl, hb3⟩
      have HB3 := Lib.hid hb3
      clear hb3 HG2 H2
      have hd : decide (crcOut l = crcOut l) = true := by simp
      rw [hd]
      clear hd
      go_wp2
      go_ret
      exact ⟨by simp, by (repeat first | with_reducible exact Below.refl _ _ | with_reducible apply bl_drewN | with_reducible apply bl_drew | with_reducible apply bl_alloc | (with_reducible refine bl_trans ?_ (Hid.out (by assumption))))⟩
    · go_enter Tryd.func3, Tryd.ntmps3
      go_wp2_with fail
      refine (few_any _ 1 1 [l] _ hj.out (by omega)).mono ?_
      rintro e w1 ⟨rfl, rfl⟩
      rw [hf]
      clear hf
      go_wp2_with fail
      refine (specCastagnoli_any A n c l _ (H.out.alloc _) HP.out (by omega)).mono ?_
      rintro e w3 ⟨rfl, rfl⟩
      have HB1 : Hid (Below w.heap.size w (w.alloc (.cells #[.slice A n c] 22))) := (Below.refl _ w).alloc (Nat.le_refl _) _
      have HG1 : Hid (GErr (w.alloc (.cells #[.slice A n c] 22))) := HG.out.below HB1.out
      have H1 : Hid (Sl (w.alloc (.cells #[.slice A n c] 22)) A n (nums .u8 l)) := H.out.alloc _
      clear hj HG H
      generalize w.alloc (.cells #[.slice A n c] 22) = w1 at *
      go_wp2_with fail
      refine (checkSum_any A n c l (crcOut l) w1 H1.out HP.out (by omega) HG1.out).mono ?_
      rintro e w2 ⟨rfl, hb2⟩
      have HB2 := Lib.hid hb2
      have HG2 := Lib.hid (HG1.out.below hb2)
      have H2 := Lib.hid (H1.out.below hb2)
      clear hb2 HG1 H1
      rw [show decide (crcOut l = crcOut l) = true from by simp]
      go_wp2_with fail
      refine (checkSum_any A n c l s w2 H2.out HP.out (by omega) HG2.out).mono ?_
      rintro e w3 ⟨rfl, hb3⟩
      have HB3 := Lib.hid hb3
      clear hb3 HG2 H2
      have hd : decide (crcOut l = s) = false := by simp; exact fun h => he h.symm
      rw [hd]
      clear hd
      go_wp2
      go_ret
      exact ⟨by simp [he], by (repeat first | with_reducible exact Below.refl _ _ | with_reducible apply bl_drewN | with_reducible apply bl_drew | with_reducible apply bl_alloc | (with_reducible refine bl_trans ?_ (Hid.out (by assumption))))⟩
  · go_enter Tryd.func3, Tryd.ntmps3
    go_wp2_with fail
    refine (few_any _ 1 1 [l] _ hj.out (by omega)).mono ?_
    rintro e w1 ⟨rfl, rfl⟩
    have hf : ([l].all fun l => decide (l.length ≤ 300)) = false := by simp [Hl.out]; omega
    rw [hf]
    clear hf
    go_wp2
    go_ret
    exact ⟨rfl, by (repeat first | with_reducible exact Below.refl _ _ | with_reducible apply bl_drewN | with_reducible apply bl_drew | with_reducible apply bl_alloc | (with_reducible refine bl_trans ?_ (Hid.out (by assumption))))⟩
end Go.Proofs.YtbbncbjdpopkiaaDoor
