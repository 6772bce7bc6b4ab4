/- A record read from bytes: DecodeEntry and the thin package. -/
import Derived.Test.YtbbncbjdpopkiaaDoorD1
namespace Go.Proofs.YtbbncbjdpopkiaaDoor
open Go.RowKit
open Go.Proofs.YtbbncbjdpopkiaaDoorQ.Ext (sl_of_C C_of_sl own_of_R R_of_own)
set_option linter.unusedVariables false
set_option linter.unusedSimpArgs false
theorem R_of_own' {w : World} {base e : Nat} {k : IntKind} {v : Value} {l : List Int} {ok : Nat → Prop} (h : w.ownsRow base e 1 v l.length (nums k l)) (hk : ∀ b, v.ownBlock = some b → ok b) : Go.Proofs.YtbbncbjdpopkiaaDoorW.PrintWords.Kd.R (Go.Proofs.YtbbncbjdpopkiaaDoorW.PrintWords.Kd.int k) e w base ok v l := by
  obtain ⟨_, inner, ho, hr, hp⟩ := R_of_own h
  exact ⟨hk, inner, ho, hr, hp⟩
theorem sl_set {w : World} {g o n b i : Nat} {u : Value} {xs : List Value} (hne : g ≠ b) (h : Sl w (some ⟨g, o, none⟩) n xs) : Sl (w.setCell ⟨b, i, none⟩ u) (some ⟨g, o, none⟩) n xs :=
  ⟨h.1, fun hn => by
    obtain ⟨g', o', e, hc⟩ := h.2 hn
    injection e with e; injection e with e1 e2; subst e1 e2
    exact ⟨_, _, rfl, fun j v hv => by rw [World.cell?_setCell_far w _ _ u (fun e => hne e.symm)]; exact hc j v hv⟩⟩
set_option maxRecDepth 100000 in
theorem decEntry_any (g2 o n c : Nat) (e m u : Int) (l1 l2 rest : List Int) (w : World) (hs : Sl w (some ⟨g2, o, none⟩) n (nums .u8 (headB l1.length l2.length e m u ++ (l1 ++ (l2 ++ rest))))) (hc : n ≤ c) (hn : n ≤ 1000000)
    (hb : Byt (headB l1.length l2.length e m u ++ (l1 ++ (l2 ++ rest)))) (h1 : l1.length ≤ 100000) (h2 : l2.length ≤ 100000) (hrest : 0 < rest.length) (he0 : 0 ≤ e) (he : Hid (e ≤ 18446744073709551615)) :
    Calls Tryd.prog 47 #[.slice (some ⟨g2, o, none⟩) n c] w fun E w' => ∃ A1 c1 A2 c2, E = .returned (.agg #[.slice A1 l1.length c1, .slice A2 l2.length c2, .int .u64 e, .int .u8 m, .int .u8 u]) ∧
      l1.length ≤ c1 ∧ l2.length ≤ c2 ∧ Sl w' A1 l1.length (nums .u8 l1) ∧ Sl w' A2 l2.length (nums .u8 l2) ∧ Below w.heap.size w w' := by
  have HS := Lib.hid hs
  clear hs
  go_enter Tryd.func47, Tryd.ntmps47
  go_wp2_with fail
  have hk0 : Blk ((w.alloc (.cells #[.slice none 0 0, .slice none 0 0, .int .u64 0, .int .u8 0, .int .u8 0] 72)).alloc (.cells #[.slice none 0 0, .string { data := #[] }, .int .u32 0, .int .u32 0] 101)) w.heap.size 72 [.slice none 0 0, .slice none 0 0, .int .u64 0, .int .u8 0, .int .u8 0] := (Blk.new w 72 [.slice none 0 0, .slice none 0 0, .int .u64 0, .int .u8 0, .int .u8 0]).alloc _
  have HK0 := Lib.hid hk0
  have HL1 : Hid (Below w.heap.size w ((w.alloc (.cells #[.slice none 0 0, .slice none 0 0, .int .u64 0, .int .u8 0, .int .u8 0] 72)).alloc (.cells #[.slice none 0 0, .string { data := #[] }, .int .u32 0, .int .u32 0] 101))) := bl_alloc (bl_alloc (Below.refl _ _) _) _
  clear hk0
  generalize ((w.alloc (.cells #[.slice none 0 0, .slice none 0 0, .int .u64 0, .int .u8 0, .int .u8 0] 72)).alloc (.cells #[.slice none 0 0, .string { data := #[] }, .int .u32 0, .int .u32 0] 101)) = w1 at *
  refine (decodeEntry_any (w.heap.size + 1) g2 o n c e m u 0 l1 l2 rest w1 (HS.out.below HL1.out) hc hn hb h1 h2 hrest he0 he).mono ?_
  rintro E w2 ⟨ge, o1, c1, o2, c2, rfl, hge, hk, hc1, hc2, hs1, hs2, hgl, hbl⟩
  have HL2 : Hid (Below w.heap.size w w2) := bl_trans HL1.out hbl
  have HK2 : Hid (Blk w2 w.heap.size 72 [.slice none 0 0, .slice none 0 0, .int .u64 0, .int .u8 0, .int .u8 0]) := HK0.out.below hbl HK0.out.lt
  have hne2 : g2 ≠ w.heap.size := by
    have : g2 < w.heap.size := by
      obtain ⟨g', o', ex, hcx⟩ := HS.out.2 (by have := HS.out.1; rw [nums_length, List.length_append, List.length_append, List.length_append] at this; omega)
      injection ex with ex; injection ex with ex _; subst ex
      obtain ⟨v, hv⟩ : ∃ v, (nums .u8 (headB l1.length l2.length e m u ++ (l1 ++ (l2 ++ rest))))[0]? = some v := ⟨_, List.getElem?_eq_getElem (by rw [nums_length, List.length_append, List.length_append, List.length_append]; omega)⟩
      exact World.block_lt_of_cell? w _ (hcx 0 v hv)
    omega
  have HS1 := Lib.hid hs1
  have HS2 := Lib.hid hs2
  have HGE : Hid (w.heap.size < ge) := Nat.lt_of_lt_of_le HK0.out.lt hge
  have r0 : w2.cell? ⟨ge, 0, none⟩ = some (.slice (some ⟨g2, o1, none⟩) l1.length c1) := by rw [hk.cell]; rfl
  have r1 : w2.cell? ⟨ge, 1, none⟩ = some (.slice (some ⟨g2, o2, none⟩) l2.length c2) := by rw [hk.cell]; rfl
  have r2 : w2.cell? ⟨ge, 2, none⟩ = some (.int .u64 e) := by rw [hk.cell]; rfl
  have r5 : w2.cell? ⟨ge, 5, none⟩ = some (.int .u8 u) := by rw [hk.cell]; rfl
  have r6 : w2.cell? ⟨ge, 6, none⟩ = some (.int .u8 m) := by rw [hk.cell]; rfl
  clear hge hk hs1 hs2 hbl HK0 HL1
  go_wp2_with fail
  go_still_tail 21, (by kernel_rfl)
  change wpList _ _ _ _ _ w2.drew
  have p0 : w2.drew.cell? ⟨w.heap.size, 0, none⟩ = some (.slice none 0 0) := by rw [HK2.out.drew.cell]; rfl
  have p1 : w2.drew.cell? ⟨w.heap.size, 1, none⟩ = some (.slice none 0 0) := by rw [HK2.out.drew.cell]; rfl
  have p2 : w2.drew.cell? ⟨w.heap.size, 2, none⟩ = some (.int .u64 0) := by rw [HK2.out.drew.cell]; rfl
  have p3 : w2.drew.cell? ⟨w.heap.size, 3, none⟩ = some (.int .u8 0) := by rw [HK2.out.drew.cell]; rfl
  have p4 : w2.drew.cell? ⟨w.heap.size, 4, none⟩ = some (.int .u8 0) := by rw [HK2.out.drew.cell]; rfl
  have f0 := HK2.out.drew.frozen 0
  have f1 := HK2.out.drew.frozen 1
  have f2 := HK2.out.drew.frozen 2
  have f3 := HK2.out.drew.frozen 3
  have f4 := HK2.out.drew.frozen 4
  have hlt := HK2.out.lt
  have HBD : Hid (Below w.heap.size w w2.drew) := bl_drew HL2.out
  have HSD1 : Hid (Sl w2.drew (some ⟨g2, o1, none⟩) l1.length (nums .u8 l1)) := HS1.out
  have HSD2 : Hid (Sl w2.drew (some ⟨g2, o2, none⟩) l2.length (nums .u8 l2)) := HS2.out
  clear HL2 HS1 HS2 HK2 r0 r1 r2 r5 r6
  generalize w2.drew = w3 at *
  go_wp2_with fail
  refine bodyPost_ret (v := .agg #[.slice (some ⟨g2, o1, none⟩) l1.length c1, .slice (some ⟨g2, o2, none⟩) l2.length c2, .int .u64 e, .int .u8 m, .int .u8 u]) (by simp [results, Tryd.results47, go_sem, p0, p1, p2, p3, p4, f0, f1, f2, f3, f4]) rfl ⟨_, _, _, _, rfl, hc1, hc2, ?_, ?_, ((((HBD.out.setCell (Nat.le_refl _) _).setCell (Nat.le_refl _) _).setCell (Nat.le_refl _) _).setCell (Nat.le_refl _) _).setCell (Nat.le_refl _) _⟩
  · exact sl_set hne2 (sl_set hne2 (sl_set hne2 (sl_set hne2 (sl_set hne2 HSD1.out))))
  · exact sl_set hne2 (sl_set hne2 (sl_set hne2 (sl_set hne2 (sl_set hne2 HSD2.out))))
theorem recOf_any (n1 c1 n2 c2 : Nat) (A1 A2 : Option Addr) (m u e : Int) (l1 l2 : List Int) (w : World) (hs1 : Sl w A1 n1 (nums .u8 l1)) (hs2 : Sl w A2 n2 (nums .u8 l2)) (hc1 : n1 ≤ c1) (hc2 : n2 ≤ c2) (hn1 : n1 ≤ 100000) (hn2 : n2 ≤ 100000) :
    Calls Tryd.prog 46 #[.agg #[.slice A1 n1 c1, .slice A2 n2 c2, .int .u64 e, .int .u8 m, .int .u8 u]] w fun E w' => ∃ v1 v2, E = .returned (.agg #[v1, v2, .int .u64 e, .int .u8 m, .int .u8 u]) ∧
      Go.Proofs.YtbbncbjdpopkiaaDoorW.PrintWords.Kd.R (Go.Proofs.YtbbncbjdpopkiaaDoorW.PrintWords.Kd.int .u8) 5 w' w.heap.size (fun k_ => some k_ ≠ v2.ownBlock) v1 l1 ∧ Go.Proofs.YtbbncbjdpopkiaaDoorW.PrintWords.Kd.R (Go.Proofs.YtbbncbjdpopkiaaDoorW.PrintWords.Kd.int .u8) 5 w' w.heap.size (fun k_ => some k_ ≠ v1.ownBlock) v2 l2 ∧ Below w.heap.size w w' := by
  have h1 : l1.length = n1 := by have := hs1.1; rwa [nums_length] at this
  have h2 : l2.length = n2 := by have := hs2.1; rwa [nums_length] at this
  subst h1 h2
  have := Go.Proofs.YtbbncbjdpopkiaaDoorQ.QG.impl_recOf.calls A1 c1 l1 A2 c2 l2 e m u l1 l2 e m u w (C_of_sl hs1 (by omega)) hc1 (C_of_sl hs2 (by omega)) hc2 (by
    unfold Go.Proofs.YtbbncbjdpopkiaaDoorQ.QG.impl_recOf.f Go.Proofs.YtbbncbjdpopkiaaDoorQ.Ext.impl_own.f
    rw [if_pos (by omega), if_pos (by omega)]
    rfl)
  exact this.mono fun E w' h => h
set_option maxRecDepth 100000 in
theorem decodeRec_any (A : Option Addr) (n c : Nat) (e m u : Int) (l1 l2 rest : List Int) (w : World) (hs : Sl w A n (nums .u8 (headB l1.length l2.length e m u ++ (l1 ++ (l2 ++ rest))))) (hn : n ≤ 1000000)
    (hb : Byt (headB l1.length l2.length e m u ++ (l1 ++ (l2 ++ rest)))) (h1 : l1.length ≤ 100000) (h2 : l2.length ≤ 100000) (hrest : 0 < rest.length) (he0 : 0 ≤ e) (he : Hid (e ≤ 18446744073709551615)) :
    Calls Tryd.prog 27 #[.slice A n c] w fun E w' => ∃ v1 v2, E = .returned (.agg #[v1, v2, .int .u64 e, .int .u8 m, .int .u8 u]) ∧
      Go.Proofs.YtbbncbjdpopkiaaDoorW.PrintWords.Kd.R (Go.Proofs.YtbbncbjdpopkiaaDoorW.PrintWords.Kd.int .u8) 5 w' w.heap.size (fun k_ => some k_ ≠ v2.ownBlock) v1 l1 ∧ Go.Proofs.YtbbncbjdpopkiaaDoorW.PrintWords.Kd.R (Go.Proofs.YtbbncbjdpopkiaaDoorW.PrintWords.Kd.int .u8) 5 w' w.heap.size (fun k_ => some k_ ≠ v1.ownBlock) v2 l2 ∧ Below w.heap.size w w' := by
  have HS := Lib.hid hs
  have hpos : 0 < n := by have := hs.1; rw [nums_length, List.length_append, List.length_append, List.length_append] at this; omega
  clear hs
  go_enter Tryd.func27, Tryd.ntmps27
  go_wp2_with fail
  have HK0 := Lib.hid (Blk.new w 40 [.slice none 0 0, .slice none 0 0, .int .u64 0, .int .u8 0, .int .u8 0])
  have HB0 : Hid (Below w.heap.size w (w.alloc (.cells #[.slice none 0 0, .slice none 0 0, .int .u64 0, .int .u8 0, .int .u8 0] 40))) := (Below.refl _ _).alloc (Nat.le_refl _) _
  have HS0 := Lib.hid (HS.out.alloc (.cells #[.slice none 0 0, .slice none 0 0, .int .u64 0, .int .u8 0, .int .u8 0] 40))
  generalize w.alloc (.cells #[.slice none 0 0, .slice none 0 0, .int .u64 0, .int .u8 0, .int .u8 0] 40) = w0 at *
  refine (own_ptr A n c _ w0 HS0.out (by omega)).mono ?_
  rintro E w1 ⟨g1, d1, rfl, hd1, ho1, hb1⟩
  obtain ⟨A1, c1, e1, hc1, hs1⟩ := own_sl ho1
  injection e1 with e1 _ e3
  subst e1 e3
  have HS1 := Lib.hid hs1
  have HB1 := Lib.hid (bl_trans HB0.out hb1)
  have HK1 := Lib.hid (HK0.out.below hb1 HK0.out.lt)
  clear ho1 hs1 hb1 HK0 HB0 HS0
  go_wp2_with fail
  refine (decEntry_any g1 0 n d1 e m u l1 l2 rest w1 HS1.out hd1 hn hb h1 h2 hrest he0 he).mono ?_
  rintro E w2 ⟨A2, c2, A3, c3, rfl, hc2, hc3, hs2, hs3, hb2⟩
  have HS2 := Lib.hid hs2
  have HS3 := Lib.hid hs3
  have HB2 := Lib.hid (bl_trans HB1.out hb2)
  have HK2 := Lib.hid (HK1.out.below hb2 HK1.out.lt)
  clear hs2 hs3 hb2 HK1 HB1 HS1
  go_wp2_with fail
  refine (recOf_any _ c2 _ c3 A2 A3 m u e l1 l2 w2 HS2.out HS3.out hc2 hc3 h1 h2).mono ?_
  rintro E w3 ⟨v1, v2, rfl, hr1, hr2, hb3⟩
  have HR1 := Lib.hid (own_of_R hr1)
  have HR2 := Lib.hid (own_of_R hr2)
  obtain ⟨B1, e1, rfl, hd1, -⟩ := own_sl HR1.out
  obtain ⟨B2, e2, rfl, hd2, -⟩ := own_sl HR2.out
  have HO := Lib.hid (And.intro hr1.1 hr2.1)
  have HB3 := Lib.hid (bl_trans HB2.out hb3)
  have HK3 := Lib.hid (HK2.out.below hb3 HK2.out.lt)
  have hlt := HK2.out.lt
  clear hr1 hr2 hb3 HK2 HB2
  have p0 : w3.cell? ⟨w.heap.size, 0, none⟩ = some (.slice none 0 0) := by rw [HK3.out.cell]; rfl
  have p1 : w3.cell? ⟨w.heap.size, 1, none⟩ = some (.slice none 0 0) := by rw [HK3.out.cell]; rfl
  have p2 : w3.cell? ⟨w.heap.size, 2, none⟩ = some (.int .u64 0) := by rw [HK3.out.cell]; rfl
  have p3 : w3.cell? ⟨w.heap.size, 3, none⟩ = some (.int .u8 0) := by rw [HK3.out.cell]; rfl
  have p4 : w3.cell? ⟨w.heap.size, 4, none⟩ = some (.int .u8 0) := by rw [HK3.out.cell]; rfl
  have f0 := HK3.out.frozen 0
  have f1 := HK3.out.frozen 1
  have f2 := HK3.out.frozen 2
  have f3 := HK3.out.frozen 3
  have f4 := HK3.out.frozen 4
  clear HK3
  go_wp2_with fail
  refine bodyPost_ret (v := .agg #[.slice B1 l1.length e1, .slice B2 l2.length e2, .int .u64 e, .int .u8 m, .int .u8 u]) (by simp [results, Tryd.results27, go_sem, p0, p1, p2, p3, p4, f0, f1, f2, f3, f4]) rfl ⟨_, _, rfl, ?_, ?_, ((((HB3.out.setCell (Nat.le_refl _) _).setCell (Nat.le_refl _) _).setCell (Nat.le_refl _) _).setCell (Nat.le_refl _) _).setCell (Nat.le_refl _) _⟩
  · exact R_of_own' (own_weaken' (own_set (own_set (own_set (own_set (own_set HR1.out hlt _) hlt _) hlt _) hlt _) hlt _) (Nat.le_of_lt hlt)) HO.out.1
  · exact R_of_own' (own_weaken' (own_set (own_set (own_set (own_set (own_set HR2.out hlt _) hlt _) hlt _) hlt _) hlt _) (Nat.le_of_lt hlt)) HO.out.2
end Go.Proofs.YtbbncbjdpopkiaaDoor
