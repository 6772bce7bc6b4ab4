/- Numbers of 16, 32 and 64 bits in bytes. -/
import Derived.Test.YtpfmmbhbmdbmeaaDoorGX
import Derived.Test.YtpfmmbhbmdbmeaaDoorGB
namespace Go.Proofs.YtpfmmbhbmdbmeaaDoor
open Go.RowKit
set_option linter.unusedVariables false
set_option linter.unusedSimpArgs false
theorem arr4 : Tryd.prog.arrayLen 85 = 4 := by kernel_rfl
theorem arr8 : Tryd.prog.arrayLen 92 = 8 := by kernel_rfl
theorem gave_blk {w w1 : World} {t : Nat} {l : List Int} {cs : List Value} (hl : l.length = cs.length) (hb : Below w.heap.size w w1) (h : Blk w1 w.heap.size t (splice cs 0 (nums .u8 l))) : Gave w l (.returned (.slice (some ⟨w.heap.size, 0, none⟩) l.length l.length)) w1 := by
  rw [splice_zero _ _ (by rw [nums_length]; exact hl)] at h
  have := h.sl (off := 0) (n := l.length) (by rw [nums_length]; omega)
  rw [List.drop_zero, List.take_of_length_le (by rw [nums_length]; omega)] at this
  exact ⟨_, _, rfl, Nat.le_refl _, this, hb⟩
set_option maxRecDepth 100000 in
theorem u32Bytes1_any (v : Int) (w : World) (h0 : 0 ≤ v) (h1 : v ≤ 4294967295) : Calls Tryd.prog 28 #[.int .u32 v] w (Gave w (be32 v)) := by
  have hB : Blk (w.alloc (.cells (List.replicate 4 (Value.int .u8 0)).toArray 85)) w.heap.size 85 (List.replicate 4 (Value.int .u8 0)) := Blk.new _ _ _
  have HB := Lib.hid hB
  have ha := arr4
  clear hB
  go_enter Tryd.func28, Tryd.ntmps28
  go_wp2_with fail
  refine (put32_any w.heap.size 0 4 4 85 v _ _ HB.out (by omega) (by omega) (by simp) h0 h1).mono ?_
  rintro E w1 ⟨rfl, hw1⟩
  have HW := Lib.hid hw1
  clear hw1 HB
  go_wp2
  go_ret
  exact gave_blk (by simp [be32, be16]) (below_wrote (bl_alloc (Below.refl _ _) _) (Nat.le_refl _) (by simp) HW.out) HW.out.1
theorem own_gave {w w1 : World} {l : List Int} {f : Nat} (hl : l.length ≤ 1000000) {E : Ending} (h : Gave w l E w1) : ∃ A c, E = .returned (.slice A l.length c) ∧ Calls Tryd.prog 17 #[.slice A l.length c] w1 (Made w 5 (nums .u8 l)) := by
  obtain ⟨A1, c1, rfl, hc1, hs1, hb1⟩ := h
  refine ⟨A1, c1, rfl, (own_any A1 _ c1 l _ hs1.out (by omega)).mono ?_⟩
  intro E w2 h2
  obtain ⟨A2, c2, rfl, hc2, hs2, hb2, ho2⟩ := h2.sv
  exact Made.mk' (by (repeat first | with_reducible exact Below.refl _ _ | with_reducible apply bl_drewN | with_reducible apply bl_drew | with_reducible apply bl_alloc | (with_reducible refine bl_trans ?_ (Hid.out (by assumption))))) hb2.out ho2.out
end Go.Proofs.YtpfmmbhbmdbmeaaDoor
namespace Go.Proofs.YtpfmmbhbmdbmeaaDoorQ.Ext
open Go.RowKit Go.Proofs.YtpfmmbhbmdbmeaaDoorW.PrintWords
set_option linter.unusedVariables false
end Go.Proofs.YtpfmmbhbmdbmeaaDoorQ.Ext
