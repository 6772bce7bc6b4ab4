/- impl.placeOf of an iterator of one direction over a skip list. -/
import Derived.Test.YtanmgkpgfmkobaaK1
import Derived.Handy
namespace Go.Proofs.Ytanmgkpgfmkobaa
open Go.RowKit
set_option linter.unusedVariables false
set_option linter.unusedSimpArgs false
def PofP (pl : Bool × Ent) (w : World) (E : Ending) (w' : World) : Prop := ∃ p : PR, E = .returned (.agg p.cells.toArray) ∧ p.pl = pl ∧ PlB w.heap.size w' p ∧ Below w.heap.size w w'
theorem put7 {w w' : World} {b : Nat} (h : Below b w w') (v0 v1 v2 v3 v4 v5 v6 : Value) : Below b w (((((((w'.setCell ⟨b, 0, none⟩ v0).setCell ⟨b, 1, none⟩ v1).setCell ⟨b, 2, none⟩ v2).setCell ⟨b, 3, none⟩ v3).setCell ⟨b, 4, none⟩ v4).setCell ⟨b, 5, none⟩ v5).setCell ⟨b, 6, none⟩ v6) :=
  ((((((h.setCell (Nat.le_refl _) _).setCell (Nat.le_refl _) _).setCell (Nat.le_refl _) _).setCell (Nat.le_refl _) _).setCell (Nat.le_refl _) _).setCell (Nat.le_refl _) _).setCell (Nat.le_refl _) _
theorem frm7 (w : World) (b : Nat) (v0 v1 v2 v3 v4 v5 v6 : Value) : Frm [b] w (((((((w.setCell ⟨b, 0, none⟩ v0).setCell ⟨b, 1, none⟩ v1).setCell ⟨b, 2, none⟩ v2).setCell ⟨b, 3, none⟩ v3).setCell ⟨b, 4, none⟩ v4).setCell ⟨b, 5, none⟩ v5).setCell ⟨b, 6, none⟩ v6) :=
  (((((((Frm.refl [b] w).andSet _ _ (.inl (by simp))).andSet _ _ (.inl (by simp))).andSet _ _ (.inl (by simp))).andSet _ _ (.inl (by simp))).andSet _ _ (.inl (by simp))).andSet _ _ (.inl (by simp))).andSet _ _ (.inl (by simp))
set_option maxRecDepth 100000 in
set_option maxHeartbeats 2000000 in
theorem placeOf_out (gu g gi B : Nat) (s : SkA) (back : Bool) (w : World) (h : UniS w gu g gi s (.pointer none) back) (ok : SkOk g B s) :
    Calls Try.prog 92 #[.iface 112 (.pointer (some ⟨gu, 0, none⟩))] w (PofP (false, zeroE) w) := by
  have HW := Lib.hid (h.alloc ok (.cells #[.bool false, .slice none 0 0, .int .u64 0, .int .u8 0, .int .u8 0, .int .u64 0, .slice none 0 0] 82))
  have HR : Hid (Blk (w.alloc (.cells #[.bool false, .slice none 0 0, .int .u64 0, .int .u8 0, .int .u8 0, .int .u64 0, .slice none 0 0] 82)) w.heap.size 82 [.bool false, .slice none 0 0, .int .u64 0, .int .u8 0, .int .u8 0, .int .u64 0, .slice none 0 0]) := Blk.new w _ _
  have HB : Hid (Below w.heap.size w (w.alloc (.cells #[.bool false, .slice none 0 0, .int .u64 0, .int .u8 0, .int .u8 0, .int .u64 0, .slice none 0 0] 82))) := (Below.refl w.heap.size w).alloc (Nat.le_refl _) _
  clear h ok
  go_enter Try.func92, Try.ntmps92
  go_wp2_with fail
  generalize w.alloc (.cells #[.bool false, .slice none 0 0, .int .u64 0, .int .u8 0, .int .u8 0, .int .u64 0, .slice none 0 0] 82) = w0 at *
  refine (uValid gu g gi s back none false w0 HW.out (.inl ⟨rfl, rfl⟩)).mono ?_
  rintro E w1 ⟨rfl, rfl⟩
  have r0 := HR.out.at_ (i := 0) rfl
  have r1 := HR.out.at_ (i := 1) rfl
  have r2 := HR.out.at_ (i := 2) rfl
  have r3 := HR.out.at_ (i := 3) rfl
  have r4 := HR.out.at_ (i := 4) rfl
  have r5 := HR.out.at_ (i := 5) rfl
  have r6 := HR.out.at_ (i := 6) rfl
  have z0 := HR.out.frozen 0
  have z1 := HR.out.frozen 1
  have z2 := HR.out.frozen 2
  have z3 := HR.out.frozen 3
  have z4 := HR.out.frozen 4
  have z5 := HR.out.frozen 5
  have z6 := HR.out.frozen 6
  go_wp2
  refine bodyPost_ret (v := .agg #[.bool false, .slice none 0 0, .int .u64 0, .int .u8 0, .int .u8 0, .int .u64 0, .slice none 0 0]) (by simp [results, Try.results92, go_sem, r0, r1, r2, r3, r4, r5, r6, z0, z1, z2, z3, z4, z5, z6]) rfl ?_
  exact ⟨⟨false, zeroR⟩, rfl, rfl, PlB.zero _ _, put7 HB.out _ _ _ _ _ _ _⟩
set_option maxRecDepth 100000 in
set_option maxHeartbeats 2000000 in
theorem placeOf_in (gu g gi B : Nat) (s : SkA) (back : Bool) (j : Nat) (dd : Nd) (w : World) (h : UniS w gu g gi s (.pointer (some ⟨dd.blk, 0, none⟩)) back) (ok : SkOk g B s) (hj : s.ns[j]? = some dd) :
    Calls Try.prog 92 #[.iface 112 (.pointer (some ⟨gu, 0, none⟩))] w (PofP (true, dd.e) w) := by
  have hita := Lib.hid (h.alloc ok (.cells #[.bool false, .slice none 0 0, .int .u64 0, .int .u8 0, .int .u8 0, .int .u64 0, .slice none 0 0] 82))
  have HZ : Hid (Blk (w.alloc (.cells #[.bool false, .slice none 0 0, .int .u64 0, .int .u8 0, .int .u8 0, .int .u64 0, .slice none 0 0] 82)) w.heap.size 82 [.bool false, .slice none 0 0, .int .u64 0, .int .u8 0, .int .u8 0, .int .u64 0, .slice none 0 0]) := Blk.new w _ _
  have hba : Hid (Below w.heap.size w (w.alloc (.cells #[.bool false, .slice none 0 0, .int .u64 0, .int .u8 0, .int .u8 0, .int .u64 0, .slice none 0 0] 82))) := (Below.refl w.heap.size w).alloc (Nat.le_refl _) _
  have OK := Lib.hid ok
  have HD := Lib.hid hj
  obtain ⟨hko, hnd⟩ := ok_key ok hj
  have HE := Lib.hid (ok.ent dd (List.mem_of_getElem? hj))
  clear h ok hj
  go_enter Try.func92, Try.ntmps92
  go_wp2_with fail
  generalize w.alloc (.cells #[.bool false, .slice none 0 0, .int .u64 0, .int .u8 0, .int .u8 0, .int .u64 0, .slice none 0 0] 82) = wa at *
  obtain ⟨g11, hg11⟩ : ∃ x, x = w.heap.size := ⟨_, rfl⟩
  rw [← hg11] at HZ hba ⊢
  have HG11 := Lib.hid hg11
  clear hg11
  refine (uValid gu g gi s back (some ⟨dd.blk, 0, none⟩) true wa hita.out (.inr ⟨⟨_, rfl⟩, rfl⟩)).mono ?_
  rintro E w1 ⟨rfl, rfl⟩
  go_wp2_with fail
  refine (uKey gu g gi B s back j dd wa hita.out OK.out HD.out).mono ?_
  rintro E wk ⟨rfl, nx, rfl⟩
  replace hita : Hid (UniS (wa.drewN nx) gu g gi s (.pointer (some ⟨dd.blk, 0, none⟩)) back) := hita.out.drewN nx
  replace hba : Hid (Below g11 w (wa.drewN nx)) := bel_drewN hba.out nx
  replace HZ : Hid (Blk (wa.drewN nx) g11 82 [.bool false, .slice none 0 0, .int .u64 0, .int .u8 0, .int .u8 0, .int .u64 0, .slice none 0 0]) := HZ.out.drewN nx
  generalize wa.drewN nx = wk at *
  have hkl := dd.key_len
  have hks := Lib.hid (nodeKey_sl hita.out.it.st OK.out j dd HD.out)
  have hkl2 : Hid (dd.key.length - 8 = dd.e.k.length) := by show _ = _; omega
  have hkt : Hid (Sl wk (some ⟨s.gb, dd.ko, none⟩) (dd.key.length - 8) (nums .u8 dd.e.k)) := by
    have := hks.out.take (m := dd.key.length - 8) (by omega)
    rw [hkl2.out] at this ⊢
    rwa [← nums_take, keyB, List.take_left' rfl] at this
  have h8 : 8 ≤ dd.key.length := by omega
  have hcp : dd.key.length ≤ 1048576 - dd.ko := by omega
  have hkn : dd.key.length ≤ 1000000 := by omega
  clear hkl
  go_wp2_with fail
  refine (parseKey_any (some ⟨s.gb, dd.ko, none⟩) dd.key.length (1048576 - dd.ko) wk h8 hcp hkn).mono ?_
  rintro E w1 ⟨rfl, rfl⟩
  go_wp2_with fail
  refine (own_any (some ⟨s.gb, dd.ko, none⟩) (dd.key.length - 8) (1048576 - dd.ko) dd.e.k wk hkt.out (by omega)).mono ?_
  intro E wx h2; obtain ⟨A2, c2, rfl, hc2, hs2, hb2, ho2⟩ := h2.sv
  have hst2 : Hid (SlB g11 wx A2 dd.e.k.length) := SlB.of_own ho2.out (by have := hba.out.size; rw [← HG11.out] at this; exact this)
  replace hita : Hid (UniS wx gu g gi s (.pointer (some ⟨dd.blk, 0, none⟩)) back) := hita.out.bel OK.out hb2.out
  replace HZ : Hid (Blk wx g11 82 [.bool false, .slice none 0 0, .int .u64 0, .int .u8 0, .int .u8 0, .int .u64 0, .slice none 0 0]) := HZ.out.frm (Frm.of_below hb2.out) (by simp)
  replace hba : Hid (Below g11 w wx) := hba.out.trans (hb2.out.mono (by have := hba.out.size; rw [← HG11.out] at this; exact this))
  clear h2 ho2 hb2 hkt hks
  have hks := Lib.hid (nodeKey_sl hita.out.it.st OK.out j dd HD.out)
  have hkp := HE.out.kpos
  have hv0' := HE.out.v0
  go_wp2_with fail
  refine (parseTs_any (some ⟨s.gb, dd.ko, none⟩) dd.key.length (1048576 - dd.ko) dd.e.k dd.e.v wx hks.out hcp hkp hkn hv0' HE.out.v1).mono ?_
  rintro E wk2 ⟨rfl, nx2, rfl⟩
  replace hita : Hid (UniS (wx.drewN nx2) gu g gi s (.pointer (some ⟨dd.blk, 0, none⟩)) back) := hita.out.drewN nx2
  replace hba : Hid (Below g11 w (wx.drewN nx2)) := bel_drewN hba.out nx2
  replace HZ : Hid (Blk (wx.drewN nx2) g11 82 [.bool false, .slice none 0 0, .int .u64 0, .int .u8 0, .int .u8 0, .int .u64 0, .slice none 0 0]) := HZ.out.drewN nx2
  replace hs2 : Hid (Sl (wx.drewN nx2) A2 dd.e.k.length (nums .u8 dd.e.k)) := hs2.out
  replace hst2 : Hid (SlB g11 (wx.drewN nx2) A2 dd.e.k.length) := hst2.out.frm ((Frm.refl [] _).drewN nx2) (fun i hi => by cases hi)
  clear hks
  generalize wx.drewN nx2 = wk2 at *
  go_wp2_with fail
  refine (uValue gu g gi B s back j dd wk2 hita.out OK.out HD.out).mono ?_
  rintro E wv ⟨A4, c4, rfl, hc4, hs4, hb4⟩
  have HS4 := Lib.hid hs4
  replace hs2 : Hid (Sl wv A2 dd.e.k.length (nums .u8 dd.e.k)) := hs2.out.below hb4
  replace hst2 : Hid (SlB g11 wv A2 dd.e.k.length) := hst2.out.frm (Frm.of_below hb4) (fun i hi => by cases hi)
  replace HZ : Hid (Blk wv g11 82 [.bool false, .slice none 0 0, .int .u64 0, .int .u8 0, .int .u8 0, .int .u64 0, .slice none 0 0]) := HZ.out.frm (Frm.of_below hb4) (by simp)
  replace hba : Hid (Below g11 w wv) := hba.out.trans (hb4.mono (by have := hba.out.size; rw [← HG11.out] at this; exact this))
  clear hs4 hb4 hita
  have hdl := HE.out.dlen
  go_wp2_with fail
  refine (valueOf_any dd.e.m dd.e.u dd.e.x 0 A4 dd.e.d.length c4 dd.e.d wv HS4.out hc4 (by omega)).mono ?_
  rintro E wf ⟨v7, rfl, ho7, hb7⟩; obtain ⟨A7, c7, hv7, hc7, hs7⟩ := own_sl ho7; subst hv7
  have hst7 : Hid (SlB g11 wf A7 dd.e.d.length) := SlB.of_own ho7 (by have := hba.out.size; rw [← HG11.out] at this; exact this)
  have HS7 := Lib.hid hs7
  replace HZ : Hid (Blk wf g11 82 [.bool false, .slice none 0 0, .int .u64 0, .int .u8 0, .int .u8 0, .int .u64 0, .slice none 0 0]) := HZ.out.frm (Frm.of_below hb7) (by simp)
  replace hs2 : Hid (Sl wf A2 dd.e.k.length (nums .u8 dd.e.k)) := hs2.out.below hb7
  replace hst2 : Hid (SlB g11 wf A2 dd.e.k.length) := hst2.out.frm (Frm.of_below hb7) (fun i hi => by cases hi)
  replace hba : Hid (Below g11 w wf) := hba.out.trans (hb7.mono (by have := hba.out.size; rw [← HG11.out] at this; exact this))
  clear ho7 hs7 hb7 HS4
  have r0 := HZ.out.at_ (i := 0) rfl
  have r1 := HZ.out.at_ (i := 1) rfl
  have r2 := HZ.out.at_ (i := 2) rfl
  have r3 := HZ.out.at_ (i := 3) rfl
  have r4 := HZ.out.at_ (i := 4) rfl
  have r5 := HZ.out.at_ (i := 5) rfl
  have r6 := HZ.out.at_ (i := 6) rfl
  have z0 := HZ.out.frozen 0
  have z1 := HZ.out.frozen 1
  have z2 := HZ.out.frozen 2
  have z3 := HZ.out.frozen 3
  have z4 := HZ.out.frozen 4
  have z5 := HZ.out.frozen 5
  have z6 := HZ.out.frozen 6
  go_wp2
  refine bodyPost_ret (v := .agg #[.bool true, .slice A2 dd.e.k.length c2, .int .u64 dd.e.v, .int .u8 dd.e.m, .int .u8 dd.e.u, .int .u64 dd.e.x, .slice A7 dd.e.d.length c7]) (by simp [results, Try.results92, go_sem, r0, r1, r2, r3, r4, r5, r6, z0, z1, z2, z3, z4, z5, z6]) rfl ?_
  have hf := frm7 wf g11 (.bool true) (.slice A2 dd.e.k.length c2) (.int .u64 dd.e.v) (.int .u8 dd.e.m) (.int .u8 dd.e.u) (.int .u64 dd.e.x) (.slice A7 dd.e.d.length c7)
  refine ⟨⟨true, ⟨A2, dd.e.k.length, c2, A7, dd.e.d.length, c7, dd.e⟩⟩, rfl, rfl, ?_, ?_⟩
  · rw [← HG11.out]
    exact ⟨⟨hs2.out.over hst2.out HZ.out (by decide) hf, HS7.out.over hst7.out HZ.out (by decide) hf, hc2, hc7⟩, hst2.out.over HZ.out (by decide) hf, hst7.out.over HZ.out (by decide) hf⟩
  · rw [← HG11.out]
    exact put7 hba.out _ _ _ _ _ _ _
theorem placeOf_any (gu g gi B : Nat) (s : SkA) (back : Bool) (a : Int) (w : World) (h : UniS w gu g gi s (itV s a) back) (ok : SkOk g B s) :
    Calls Try.prog 92 #[.iface 112 (.pointer (some ⟨gu, 0, none⟩))] w (PofP (plE (s.ns.map Nd.e) a) w) := by
  by_cases hb : 0 ≤ a ∧ a < (s.ns.length : Int)
  · obtain ⟨j, dd, rfl, hd, hv⟩ := itV_in (s := s) hb.1 hb.2
    rw [hv] at h
    rw [plE_in (e := dd.e) (by rw [List.getElem?_map, hd]; rfl)]
    exact placeOf_in gu g gi B s back j dd w h ok hd
  · rw [itV_out hb] at h
    rw [plE_out (by rw [List.length_map]; exact hb)]
    exact placeOf_out gu g gi B s back w h ok
end Go.Proofs.Ytanmgkpgfmkobaa
