/- A record in bytes: EncodeEntry and the thin package. -/
import Derived.Test.YtbbncbjdpopkiaaDoorB6
import Derived.Test.YtbbncbjdpopkiaaDoorQG1
namespace Go.Proofs.YtbbncbjdpopkiaaDoor
open Go.RowKit
open Go.Proofs.YtbbncbjdpopkiaaDoorQ.Ext (sl_of_C C_of_sl own_of_R R_of_own)
set_option linter.unusedVariables false
set_option linter.unusedSimpArgs false
theorem recB_len (m u e : Int) (l1 l2 : List Int) (h1 : l1.length ≤ 100000) (h2 : l2.length ≤ 100000) : (recB m u e l1 l2).length = (headB l1.length l2.length e m u).length + l1.length + l2.length + 4 ∧ (recB m u e l1 l2).length ≤ 200026 := by
  have := headB_len (l1.length : Int) (l2.length : Int) e m u (by omega) (by omega)
  have h3 : (recB m u e l1 l2).length = (headB l1.length l2.length e m u).length + l1.length + l2.length + 4 := by
    unfold recB recP
    simp [be32, be16]
    omega
  exact ⟨h3, by omega⟩
set_option maxRecDepth 100000 in
theorem encEntry_any (n1 c1 n2 c2 : Nat) (A1 A2 : Option Addr) (m u e : Int) (l1 l2 : List Int) (w : World)
    (hs1 : Sl w A1 n1 (nums .u8 l1)) (hs2 : Sl w A2 n2 (nums .u8 l2)) 
    (hn1 : n1 ≤ 100000) (hn2 : n2 ≤ 100000) (hb1 : Byt l1) (hb2 : Byt l2) (he0 : 0 ≤ e) (he1 : Hid (e ≤ 18446744073709551615)) (hm : In8 m) (hu : In8 u) :
    Calls Tryd.prog 38 #[.agg #[.slice A1 n1 c1, .slice A2 n2 c2, .int .u64 e, .int .u8 m, .int .u8 u]] w (Made w 5 (nums .u8 (recB m u e l1 l2))) := by
  have HS1 := Lib.hid hs1
  have HS2 := Lib.hid hs2
  have hlow : ∀ {A : Option Addr} {n : Nat} {xs : List Value}, Sl w A n xs → 0 < n → ∀ x o, A = some ⟨x, o, none⟩ → x < w.heap.size := by
    intro A n xs h h0 x o ex
    obtain ⟨v, hv⟩ : ∃ v, xs[0]? = some v := ⟨_, List.getElem?_eq_getElem (by rw [h.1]; exact h0)⟩
    obtain ⟨g, o', e', hc⟩ := h.2 h0
    rw [ex] at e'; injection e' with e'; injection e' with e1 _; subst e1
    exact World.block_lt_of_cell? w _ (hc 0 v hv)
  have HA := Lib.hid (And.intro (hlow HS1.out) (hlow HS2.out))
  clear hlow
  clear hs1 hs2
  go_enter Tryd.func38, Tryd.ntmps38
  go_wp2_with fail
  have z1 : (w.alloc (.cells #[.slice A1 n1 c1, .slice A2 n2 c2, .int .u64 e, .int .u8 m, .int .u8 u] 72)).heap.size = w.heap.size + 1 := by rw [World.size_alloc]
  have z3 : (((w.alloc (.cells #[.slice A1 n1 c1, .slice A2 n2 c2, .int .u64 e, .int .u8 m, .int .u8 u] 72)).alloc (.cells #[.slice none 0 0, .int .i64 0, .int .i8 0] 94)).alloc (.cells #[.slice none 0 0, .string { data := #[] }, .int .u32 0, .int .u32 0] 101)).heap.size = w.heap.size + 3 := by rw [World.size_alloc, World.size_alloc, World.size_alloc]
  have hb : Buf (w.heap.size + 1) (w.heap.size + 1) [] ((((w.alloc (.cells #[.slice A1 n1 c1, .slice A2 n2 c2, .int .u64 e, .int .u8 m, .int .u8 u] 72)).alloc (.cells #[.slice none 0 0, .int .i64 0, .int .i8 0] 94)).alloc (.cells #[.slice none 0 0, .string { data := #[] }, .int .u32 0, .int .u32 0] 101)).alloc (.cells #[.slice A1 n1 c1, .slice A2 n2 c2, .int .u64 e, .int .u64 0, .int .u32 0, .int .u8 u, .int .u8 m, .int .i64 0, .int .i64 0] 105)) := by
    have := ((buf_zero (w.alloc (.cells #[.slice A1 n1 c1, .slice A2 n2 c2, .int .u64 e, .int .u8 m, .int .u8 u] 72))).alloc (.cells #[.slice none 0 0, .string { data := #[] }, .int .u32 0, .int .u32 0] 101)).alloc (.cells #[.slice A1 n1 c1, .slice A2 n2 c2, .int .u64 e, .int .u64 0, .int .u32 0, .int .u8 u, .int .u8 m, .int .i64 0, .int .i64 0] 105)
    rw [z1] at this
    exact this
  have he : Blk ((((w.alloc (.cells #[.slice A1 n1 c1, .slice A2 n2 c2, .int .u64 e, .int .u8 m, .int .u8 u] 72)).alloc (.cells #[.slice none 0 0, .int .i64 0, .int .i8 0] 94)).alloc (.cells #[.slice none 0 0, .string { data := #[] }, .int .u32 0, .int .u32 0] 101)).alloc (.cells #[.slice A1 n1 c1, .slice A2 n2 c2, .int .u64 e, .int .u64 0, .int .u32 0, .int .u8 u, .int .u8 m, .int .i64 0, .int .i64 0] 105)) (w.heap.size + 1 + 1 + 1) 105 [.slice A1 n1 c1, .slice A2 n2 c2, .int .u64 e, .int .u64 0, .int .u32 0, .int .u8 u, .int .u8 m, .int .i64 0, .int .i64 0] := by
    have := Blk.new (((w.alloc (.cells #[.slice A1 n1 c1, .slice A2 n2 c2, .int .u64 e, .int .u8 m, .int .u8 u] 72)).alloc (.cells #[.slice none 0 0, .int .i64 0, .int .i8 0] 94)).alloc (.cells #[.slice none 0 0, .string { data := #[] }, .int .u32 0, .int .u32 0] 101)) 105 [.slice A1 n1 c1, .slice A2 n2 c2, .int .u64 e, .int .u64 0, .int .u32 0, .int .u8 u, .int .u8 m, .int .i64 0, .int .i64 0]
    rw [z3] at this
    exact this
  have hbl : Below w.heap.size w ((((w.alloc (.cells #[.slice A1 n1 c1, .slice A2 n2 c2, .int .u64 e, .int .u8 m, .int .u8 u] 72)).alloc (.cells #[.slice none 0 0, .int .i64 0, .int .i8 0] 94)).alloc (.cells #[.slice none 0 0, .string { data := #[] }, .int .u32 0, .int .u32 0] 101)).alloc (.cells #[.slice A1 n1 c1, .slice A2 n2 c2, .int .u64 e, .int .u64 0, .int .u32 0, .int .u8 u, .int .u8 m, .int .i64 0, .int .i64 0] 105)) := bl_alloc (bl_alloc (bl_alloc (bl_alloc (Below.refl _ _) _) _) _) _
  have hz : w.heap.size + 1 ≤ ((((w.alloc (.cells #[.slice A1 n1 c1, .slice A2 n2 c2, .int .u64 e, .int .u8 m, .int .u8 u] 72)).alloc (.cells #[.slice none 0 0, .int .i64 0, .int .i8 0] 94)).alloc (.cells #[.slice none 0 0, .string { data := #[] }, .int .u32 0, .int .u32 0] 101)).alloc (.cells #[.slice A1 n1 c1, .slice A2 n2 c2, .int .u64 e, .int .u64 0, .int .u32 0, .int .u8 u, .int .u8 m, .int .i64 0, .int .i64 0] 105)).heap.size := by rw [World.size_alloc, z3]; omega
  have HBL := Lib.hid hbl
  have HZ := Lib.hid hz
  have HBu := Lib.hid hb
  have HEn := Lib.hid he
  clear z1 z3 hb he hbl hz
  generalize ((((w.alloc (.cells #[.slice A1 n1 c1, .slice A2 n2 c2, .int .u64 e, .int .u8 m, .int .u8 u] 72)).alloc (.cells #[.slice none 0 0, .int .i64 0, .int .i8 0] 94)).alloc (.cells #[.slice none 0 0, .string { data := #[] }, .int .u32 0, .int .u32 0] 101)).alloc (.cells #[.slice A1 n1 c1, .slice A2 n2 c2, .int .u64 e, .int .u64 0, .int .u32 0, .int .u8 u, .int .u8 m, .int .i64 0, .int .i64 0] 105)) = w4 at *
  refine (encodeEntry_any (w.heap.size + 1) (w.heap.size + 1) (w.heap.size + 1 + 1 + 1) _ n1 c1 n2 c2 A1 A2 m u e 0 l1 l2 _ _ _ _ w4 HEn.out HBu.out (by omega) HZ.out (HS1.out.below HBL.out) (HS2.out.below HBL.out) (fun h0 x o ex => by have := HA.out.1 h0 x o ex; omega) (fun h0 x o ex => by have := HA.out.2 h0 x o ex; omega) hn1 hn2 hb1 hb2 he0 he1 hm hu).mono ?_
  rintro E w5 ⟨⟨N, rfl⟩, hb5, hl5⟩
  have HB5 := Lib.hid hb5
  have HL5 : Hid (Below w.heap.size w w5) := HBL.out.trans (hl5.mono (by omega))
  clear hb5 hl5
  go_wp2_with fail
  refine (bufBytes_any (w.heap.size + 1) (w.heap.size + 1) _ w5 HB5.out).mono ?_
  rintro E w6 ⟨v6, rfl, ho6, j, rfl⟩
  have HO6 := Lib.hid ho6
  clear ho6
  go_wp2
  go_ret
  exact ⟨_, rfl, by rw [nums_length]; exact own_weaken' HO6.out (by omega), bl_drewN HL5.out j⟩
theorem givenRec_any (n1 c1 n2 c2 : Nat) (A1 A2 : Option Addr) (m u e : Int) (l1 l2 : List Int) (w : World) (hs1 : Sl w A1 n1 (nums .u8 l1)) (hs2 : Sl w A2 n2 (nums .u8 l2)) (hc1 : n1 ≤ c1) (hc2 : n2 ≤ c2) (hn1 : n1 ≤ 100000) (hn2 : n2 ≤ 100000) :
    Calls Tryd.prog 39 #[.agg #[.slice A1 n1 c1, .slice A2 n2 c2, .int .u64 e, .int .u8 m, .int .u8 u]] w fun E w' => ∃ v1 v2, E = .returned (.agg #[v1, v2, .int .u64 e, .int .u8 m, .int .u8 u]) ∧ w'.ownsRow w.heap.size 5 1 v1 n1 (nums .u8 l1) ∧ w'.ownsRow w.heap.size 5 1 v2 n2 (nums .u8 l2) ∧ Below w.heap.size w w' := by
  have h1 : l1.length = n1 := by have := hs1.1; rwa [nums_length] at this
  have h2 : l2.length = n2 := by have := hs2.1; rwa [nums_length] at this
  subst h1 h2
  have := Go.Proofs.YtbbncbjdpopkiaaDoorQ.QG.impl_givenRec.calls A1 c1 l1 A2 c2 l2 e m u l1 l2 e m u w (C_of_sl hs1 (by omega)) hc1 (C_of_sl hs2 (by omega)) hc2 (by
    unfold Go.Proofs.YtbbncbjdpopkiaaDoorQ.QG.impl_givenRec.f Go.Proofs.YtbbncbjdpopkiaaDoorQ.Ext.impl_own.f
    rw [if_pos (by omega), if_pos (by omega)]
    rfl)
  exact this.mono fun E w' ⟨v1, v2, he, ho1, ho2, hb⟩ => ⟨v1, v2, he, own_of_R ho1, own_of_R ho2, hb⟩
set_option maxRecDepth 100000 in
theorem encodeRec_any (n1 c1 n2 c2 : Nat) (A1 A2 : Option Addr) (m u e : Int) (l1 l2 : List Int) (w : World) (hs1 : Sl w A1 n1 (nums .u8 l1)) (hs2 : Sl w A2 n2 (nums .u8 l2)) (hc1 : n1 ≤ c1) (hc2 : n2 ≤ c2)
    (hn1 : n1 ≤ 100000) (hn2 : n2 ≤ 100000) (hb1 : Byt l1) (hb2 : Byt l2) (he0 : 0 ≤ e) (he1 : Hid (e ≤ 18446744073709551615)) (hm : In8 m) (hu : In8 u) :
    Calls Tryd.prog 20 #[.agg #[.slice A1 n1 c1, .slice A2 n2 c2, .int .u64 e, .int .u8 m, .int .u8 u]] w (Made w 5 (nums .u8 (recB m u e l1 l2))) := by
  have hl1 : l1.length = n1 := by have := hs1.1; rwa [nums_length] at this
  have hl2 : l2.length = n2 := by have := hs2.1; rwa [nums_length] at this
  have HR := Lib.hid (recB_len m u e l1 l2 (by omega) (by omega))
  have HS1 := Lib.hid hs1
  have HS2 := Lib.hid hs2
  clear hs1 hs2
  go_enter Tryd.func20, Tryd.ntmps20
  go_wp2_with fail
  refine (givenRec_any n1 c1 n2 c2 A1 A2 m u e l1 l2 _ (HS1.out.alloc _) (HS2.out.alloc _) hc1 hc2 hn1 hn2).mono ?_
  rintro E w1 ⟨v1, v2, rfl, ho1, ho2, hb1'⟩
  have hb1' : Below w.heap.size w w1 := by rw [World.size_alloc] at hb1'; exact (bl_alloc (Below.refl _ _) _).trans (hb1'.mono (by omega))
  obtain ⟨B1, d1, rfl, hd1, hr1⟩ := own_sl ho1
  obtain ⟨B2, d2, rfl, hd2, hr2⟩ := own_sl ho2
  have HBL := Lib.hid hb1'
  clear ho1 ho2 hb1'
  go_wp2_with fail
  refine (encEntry_any n1 d1 n2 d2 B1 B2 m u e l1 l2 w1 hr1 hr2 hn1 hn2 hb1 hb2 he0 he1 hm hu).mono ?_
  intro E w2 h2
  obtain ⟨A2', c2', rfl, hc2', hs2', hb2', ho2'⟩ := h2.sv
  clear h2
  go_wp2_with fail
  refine (own_any A2' _ c2' (recB m u e l1 l2) w2 hs2'.out (by have := HR.out.2; omega)).mono ?_
  intro E w3 h3
  obtain ⟨A3, c3, rfl, hc3, hs3, hb3, ho3⟩ := h3.sv
  clear h3
  go_wp2
  go_ret
  exact Made.mk' (bl_trans HBL.out hb2'.out) hb3.out ho3.out
end Go.Proofs.YtbbncbjdpopkiaaDoor
