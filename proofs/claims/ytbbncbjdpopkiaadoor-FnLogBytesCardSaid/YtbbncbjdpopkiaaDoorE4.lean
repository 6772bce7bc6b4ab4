/- Values in bytes: the thin package's contracts. -/
import Derived.Test.YtbbncbjdpopkiaaDoorGE
import Derived.Test.YtbbncbjdpopkiaaDoorGB
import Derived.Test.YtbbncbjdpopkiaaDoorQV
namespace Go.Proofs.YtbbncbjdpopkiaaDoor
open Go.RowKit
open Go.Proofs.YtbbncbjdpopkiaaDoorQ.Ext (sl_of_C C_of_sl own_of_R R_of_own)
open Go.Proofs.YtbbncbjdpopkiaaDoorW.PrintWords (Kd)
set_option linter.unusedVariables false
set_option linter.unusedSimpArgs false
theorem own_set {w : World} {base e s n : Nat} {v : Value} {xs : List Value} (h : w.ownsRow base e s v n xs) {p : Addr} (hp : p.block < base) (u : Value) : (w.setCell p u).ownsRow base e s v n xs :=
  Go.Proofs.YtbbncbjdpopkiaaDoorW.PrintWords.own_move h (fun k hk => Below.heap_setCell w p u k (by have := (h.lt k hk).1; omega))
/-- A value of the package: its data lie in new memory. -/
theorem structOf_any (m u e : Int) (A : Option Addr) (n c : Nat) (l : List Int) (w : World) (h : Sl w A n (nums .u8 l)) (hc : n ≤ c) (hn : n ≤ 1000000) :
    Calls Tryd.prog 31 #[.agg #[.int .u8 m, .int .u8 u, .int .u64 e, .slice A n c]] w fun E w' => ∃ v, E = .returned (.agg #[.int .u8 m, .int .u8 u, .int .u64 e, v, .int .u64 0]) ∧ w'.ownsRow w.heap.size 5 1 v n (nums .u8 l) ∧ Below w.heap.size w w' := by
  have hl : l.length = n := by have := h.1; rwa [nums_length] at this
  subst hl
  have := Go.Proofs.YtbbncbjdpopkiaaDoorQ.QV.impl_structOf.calls m u e A c l m u e l 0 w (C_of_sl h (by omega)) hc (by
    unfold Go.Proofs.YtbbncbjdpopkiaaDoorQ.QV.impl_structOf.f Go.Proofs.YtbbncbjdpopkiaaDoorQ.Ext.impl_own.f
    rw [if_pos (by omega)]
    rfl)
  exact this.mono fun E w' ⟨v, he, hr, hb⟩ => ⟨v, he, own_of_R hr, hb⟩
set_option maxRecDepth 100000 in
theorem encodeValue_any (m u e : Int) (A : Option Addr) (n c : Nat) (l : List Int) (w : World) (h : Sl w A n (nums .u8 l)) (hc : n ≤ c) (hn : n ≤ 1000000) (he0 : 0 ≤ e) (he : Hid (e ≤ 18446744073709551615)) :
    Calls Tryd.prog 15 #[.agg #[.int .u8 m, .int .u8 u, .int .u64 e, .slice A n c]] w fun E w' => ∃ v, E = .returned (.tuple #[v, .int .u32 (valB m u e l).length]) ∧ w'.ownsRow w.heap.size 5 1 v (valB m u e l).length (nums .u8 (valB m u e l)) ∧ Below w.heap.size w w' := by
  have hlen : l.length = n := by have := h.1; rwa [nums_length] at this
  have hL := valB_len m u e l
  have hv := vint_len 9 e
  have H := Lib.hid h
  have HL := Lib.hid (And.intro hlen (And.intro hL hv))
  clear h hlen hL hv
  obtain ⟨i0, hi0, hz0, hz1, hz2⟩ := info_parts infoU8
  go_enter Tryd.func15, Tryd.ntmps15
  go_wp2_with fail
  refine (structOf_any m u e A n c l _ (H.out.alloc _) hc hn).mono ?_
  rintro E w1 ⟨v1, rfl, ho1, hb1⟩
  obtain ⟨A1, c1, rfl, hc1, hs1⟩ := own_sl ho1
  have HO1 := Lib.hid ho1
  have HB1 := Lib.hid hb1
  have HS1 := Lib.hid hs1
  clear ho1 hb1 hs1
  go_wp2_with fail
  have hbx : Blk (w1.alloc (.cells #[.int .u8 m, .int .u8 u, .int .u64 e, .slice A1 n c1, .int .u64 0] 62)) w1.heap.size 62 [.int .u8 m, .int .u8 u, .int .u64 e, .slice A1 n c1, .int .u64 0] := Blk.new _ _ _
  have hAx : ∀ b o, A1 = some ⟨b, o, none⟩ → b < w1.heap.size := by
    intro b o hb
    subst hb
    exact (HO1.out.lt b rfl).2
  have HAX := Lib.hid hAx
  have HBX := Lib.hid hbx
  have HS2 := Lib.hid (HS1.out.alloc (.cells #[.int .u8 m, .int .u8 u, .int .u64 e, .slice A1 n c1, .int .u64 0] 62))
  have HB2 : Hid (Below w.heap.size w (w1.alloc (.cells #[.int .u8 m, .int .u8 u, .int .u64 e, .slice A1 n c1, .int .u64 0] 62))) := by
    have := HB1.out
    rw [World.size_alloc] at this
    exact bl_alloc ((bl_alloc (Below.refl _ _) _).trans (this.mono (by omega))) _
  have HZ : Hid (w1.heap.size < (w1.alloc (.cells #[.int .u8 m, .int .u8 u, .int .u64 e, .slice A1 n c1, .int .u64 0] 62)).heap.size) := by show _ < _; rw [World.size_alloc]; omega
  clear hbx hAx HO1 HB1 HS1
  generalize w1.alloc (.cells #[.int .u8 m, .int .u8 u, .int .u64 e, .slice A1 n c1, .int .u64 0] 62) = w2 at *
  generalize hgx : w1.heap.size = gx at *
  clear hgx
  refine (encodedSize_any gx e A1 n c1 w2 (by rw [HBX.out.cell]; rfl) (by rw [HBX.out.cell]; rfl) hn he0 he).mono ?_
  rintro E w2' ⟨rfl, rfl⟩
  obtain ⟨N, hN⟩ : ∃ N : Nat, N = 2 + (vint 9 e).length + n := ⟨_, rfl⟩
  rw [← hN]
  have hN1 : 3 ≤ N ∧ N ≤ 2000000 := by have := HL.out; omega
  obtain ⟨hN1, hN2⟩ := hN1
  have HN := Lib.hid hN
  clear hN
  go_wp2_with (at_make; refine wpList_make_full _ rfl (.tmp 9) (.tmp 9) 22 rfl w2.heap.size 5 i0 (.int .u8 0) 1 Tryd.underlying22 hi0 hz0 hz1 .u32 .u32 _ _ N rfl rfl (by omega) (by omega) (by rw [hz2]; omega) (by simp [maxLen]; omega) (Nat.le_refl _) ?_; intro w3 hown1 hg1)
  obtain ⟨g2, cur, hA1, hgb, hblk, hnc, hcl, hct⟩ := own_blk hown1 (by omega)
  injection hA1 with hA1
  injection hA1 with hA1 _
  have HA1 := Lib.hid hA1
  rw [hA1]
  have hgl : gx < g2 := by have := HZ.out; omega
  have hne : gx ≠ g2 := by omega
  have hG : Below w2.heap.size w2 w3 := (Below.refl _ _).grown hg1 (Nat.le_refl _) (by simp)
  have hbx : Blk w3 gx 62 [.int .u8 m, .int .u8 u, .int .u64 e, .slice A1 n c1, .int .u64 0] := HBX.out.below hG HZ.out
  have hs3 : Sl w3 A1 n (nums .u8 l) := HS2.out.below hG
  have hax : ∀ b o, A1 = some ⟨b, o, none⟩ → b ≠ g2 := fun b o hb => by have := HAX.out b o hb; omega
  have HB3 : Hid (Below w.heap.size w w3) := bl_trans HB2.out hG
  have HCL := Lib.hid hcl
  have HGE : Hid (w.heap.size ≤ g2) := by show _ ≤ _; have := HB2.out.size; omega
  have hfit : N ≤ cur.length := by omega
  clear hA1 hgb hnc hcl hct hown1 hg1 hG HBX HS2 hi0 hz0 hz1 hz2
  refine (valEncode_any gx g2 N N 5 n c1 m u e 0 A1 l cur w3 hbx hs3 hblk hne hax HN.out (Nat.le_refl _) hfit hn he0 he).mono ?_
  rintro E w4 ⟨rfl, hw4⟩
  have q2 := cell_wrote hw4 hne (show w3.cell? ⟨gx, 2, none⟩ = some (.int .u64 e) by rw [hbx.cell]; rfl)
  have q3 := cell_wrote hw4 hne (show w3.cell? ⟨gx, 3, none⟩ = some (.slice A1 n c1) by rw [hbx.cell]; rfl)
  have HW4 := Lib.hid hw4
  have hES : ∀ k, Calls Tryd.prog 32 #[.pointer (some ⟨gx, 0, none⟩)] (w4.drewN k) fun E w' => E = .returned (.int .u32 (N : Int)) ∧ w' = w4.drewN k := by
    intro k
    rw [HN.out]
    exact (encodedSize_any gx e A1 n c1 (w4.drewN k) q2 q3 hn he0 he).mono fun _ _ ⟨h1, h2⟩ => ⟨h1, h2.symm⟩
  have HES := Lib.hid hES
  have hwN : IntKind.i64.wrap (N : Int) = (N : Int) := IntWalk.i64_in _ (by omega)
  clear hw4 hbx hs3 hblk hax q2 q3 hES
  go_wp2_with fail
  go_quiet ((go_at_call 32; exact Calls.quiet_of_same (HES.out _)))
  go_wp2
  go_ret2
  have hNL : (valB m u e l).length = N := by have := HL.out; have := HN.out; omega
  have hcs : splice cur 0 (nums .u8 (valB m u e l)) = nums .u8 (valB m u e l) := splice_zero _ _ (by rw [nums_length, hNL]; exact HCL.out.symm)
  have hw := HW4.out
  rw [hcs] at hw
  refine ⟨.slice (some ⟨g2, 0, none⟩) N N, ?_, ?_, ?_⟩
  · rw [hNL]; rfl
  · have hb : Blk (w4.drewN nq) g2 5 (nums .u8 (valB m u e l)) := hw.1
    have := blk_own (base := w.heap.size) (n := N) (c := N) hb HGE.out (Nat.le_refl _) (by rw [nums_length, hNL]) (by omega)
    rw [List.take_of_length_le (by rw [nums_length, hNL]; omega)] at this
    rw [hNL]
    exact this
  · exact bl_drewN (below_wrote HB3.out HGE.out HB3.out.size hw) _
end Go.Proofs.YtbbncbjdpopkiaaDoor
