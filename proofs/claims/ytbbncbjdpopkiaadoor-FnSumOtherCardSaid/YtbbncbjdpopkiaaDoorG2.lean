/- A checksum looked at: the thin package's word. -/
import Derived.Test.YtbbncbjdpopkiaaDoorG1
import Derived.Test.YtbbncbjdpopkiaaDoorG0
namespace Go.Proofs.YtbbncbjdpopkiaaDoor
open Go.RowKit
set_option linter.unusedVariables false
set_option linter.unusedSimpArgs false
set_option maxRecDepth 100000 in
theorem checkSum_any (A : Option Addr) (n c : Nat) (l : List Int) (s : Int) (w : World) (h : Sl w A n (nums .u8 l)) (hB : Byt l) (hn : n ≤ 1000000) (hG : GErr w) :
    Calls Tryd.prog 11 #[.slice A n c, .int .u64 s] w (Ret w (.bool (decide (crcOut l = s)))) := by
  have hlen : l.length = n := by have := h.1; rwa [nums_length] at this
  subst hlen
  have HG := Lib.hid hG
  clear hG
  go_enter Tryd.func11, Tryd.ntmps11
  go_wp2_with fail
  refine (own_any A _ c l w h (by omega)).mono ?_
  intro E w1 h1
  obtain ⟨A1, c1, rfl, hc1, hs1, hb1, ho1⟩ := h1.sv
  clear h1 ho1 h
  go_wp2_with fail
  have hk := Blk.new w1 59 [.int .i32 0, .int .u64 s]
  have hG1 : GErr (w1.alloc (.cells #[.int .i32 0, .int .u64 s] 59)) := (HG.out.below hb1.out).below ((Below.refl _ w1).alloc (Nat.le_refl _) _)
  refine (verify_any A1 _ c1 w1.heap.size l s _ (hs1.out.alloc _) hB hn hk hG1).mono ?_
  rintro E w2 ⟨⟨v, rfl, hv1, hv2⟩, hb2⟩
  have HB2 := Lib.hid hb2
  clear hb2 hk hG1
  by_cases he : crcOut l = s
  · obtain rfl := hv1 he
    go_wp2
    go_ret
    exact ⟨by simp [he], by (repeat first | with_reducible exact Below.refl _ _ | with_reducible apply bl_drewN | with_reducible apply bl_drew | with_reducible apply bl_alloc | (with_reducible refine bl_trans ?_ (Hid.out (by assumption))))⟩
  · obtain ⟨t, p, rfl⟩ := hv2 he
    go_wp2
    go_ret
    exact ⟨by simp [he], by (repeat first | with_reducible exact Below.refl _ _ | with_reducible apply bl_drewN | with_reducible apply bl_drew | with_reducible apply bl_alloc | (with_reducible refine bl_trans ?_ (Hid.out (by assumption))))⟩
end Go.Proofs.YtbbncbjdpopkiaaDoor
