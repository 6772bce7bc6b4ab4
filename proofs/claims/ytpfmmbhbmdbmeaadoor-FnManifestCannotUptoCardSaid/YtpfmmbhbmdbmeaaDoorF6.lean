/- Changes in bytes: the thin package's word. -/
import Derived.Test.YtpfmmbhbmdbmeaaDoorF3
namespace Go.Proofs.YtpfmmbhbmdbmeaaDoor
open Go.RowKit
set_option linter.unusedVariables false
set_option linter.unusedSimpArgs false
theorem Ptrs.alloc {w : World} {b : Nat} {gs : List Nat} {l : List Chg} (h : Ptrs w b gs l) (o : Obj) : Ptrs (w.alloc o) b gs l :=
  ⟨h.1, fun j g c hj hc => ⟨(h.2 j g c hj hc).1, (h.2 j g c hj hc).2.alloc o⟩⟩
set_option maxRecDepth 100000 in
theorem encodeChanges_any (A : Option Addr) (n c : Nat) (l : List Chg) (w : World) (h : Slc w A n l) (hok : ∀ c ∈ l, Chg.ok c) (hn : n ≤ 1000) :
    Calls Tryd.prog 14 #[.slice A n c] w (Made w 5 (nums .u8 (chgsB l))) := by
  have HK : Hid (∀ c ∈ l, Chg.ok c) := hok
  have hnl : l.length = n := h.1
  have hll := chgsB_len l
  have hz : (chgsB l).length ≤ 77000 := by omega
  clear hok hll
  go_enter Tryd.func14, Tryd.ntmps14
  go_wp2_with fail
  refine (givenChanges_any A n c l w h (by omega)).mono ?_
  rintro E w1 ⟨v, gs, rfl, ho, hp, hb⟩
  obtain ⟨A1, c1, rfl, hc1, hs1⟩ := own_sl ho
  have HS1 := Lib.hid hs1
  have HP1 := Lib.hid hp
  have HB1 := Lib.hid hb
  clear ho hs1 hp hb h
  go_wp2_with fail
  refine (marshal_any w.heap.size w1.heap.size (.pointer none) A1 n c1 gs l _ (HS1.out.alloc _) (by have := (Blk.new w1 63 [.slice A1 n c1]).cell 0; exact this) (HP1.out.alloc _) HK.out hn).mono ?_
  intro E w2 h2
  obtain ⟨A2, c2, rfl, hc2, hs2, hb2, ho2⟩ := h2.sv
  clear h2
  go_wp2_with fail
  refine (own_any A2 _ c2 (chgsB l) w2 hs2.out (by omega)).mono ?_
  intro E w3 h3
  obtain ⟨A3, c3, rfl, hc3, hs3, hb3, ho3⟩ := h3.sv
  clear h3
  go_wp2
  go_ret
  refine Made.mk' ?_ hb3.out ho3.out
  (repeat first | with_reducible exact Below.refl _ _ | with_reducible apply bl_drewN | with_reducible apply bl_drew | with_reducible apply bl_alloc | (with_reducible refine bl_trans ?_ (Hid.out (by assumption))))
end Go.Proofs.YtpfmmbhbmdbmeaaDoor
