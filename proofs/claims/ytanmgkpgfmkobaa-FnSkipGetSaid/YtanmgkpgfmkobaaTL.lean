/- What is found in a skip list behind entries have been put into it. -/
import Derived.Test.YtanmgkpgfmkobaaTK
import Derived.Test.YtanmgkpgfmkobaaWMore
namespace Go.Proofs.Ytanmgkpgfmkobaa
open Go.RowKit
set_option linter.unusedVariables false
set_option linter.unusedSimpArgs false
def FoundP (e : Ent) (w : World) (E : Ending) (w' : World) : Prop := ∃ A c, E = .returned (.tuple #[.agg #[.int .u8 e.m, .int .u8 e.u, .int .u64 e.x, .slice A e.d.length c], .int .u64 e.v]) ∧ e.d.length ≤ c ∧ Sl w' A e.d.length (nums .u8 e.d) ∧ Below w.heap.size w w'
theorem found_len {l : List Ent} (h : ∀ e ∈ l, EntOk e) (k : List Int) (v : Int) : (foundE l k v).d.length ≤ 300 := by
  unfold foundE
  cases hj : l[posE l k v]? with
  | none => simp [zeroE]
  | some e =>
    show (if k = e.k then e else zeroE).d.length ≤ 300
    split
    · exact (h e (List.mem_of_getElem? hj)).dlen
    · simp [zeroE]
set_option maxRecDepth 100000 in
set_option maxHeartbeats 400000 in
theorem found_any (A P K : Option Addr) (n c m d nk ck : Nat) (rs : List Int) (l : List Ent) (k : List Int) (v : Int) (w : World) (ha : Sl w A n (nums .u32 rs)) (hn1 : 1 ≤ n) (hn2 : n ≤ 1000000) (hp : Sle w P m l) (hm : m ≤ 80) (hok : ∀ e ∈ l, EntOk e) (hk : Sl w K nk (nums .u8 k)) (hkb : Byt k) (hnk : nk ≤ 300) (hv0 : 0 ≤ v) (hv1 : Hid (v ≤ 18446744073709551615)) :
    Calls Try.prog 16 #[.slice A n c, .slice P m d, .slice K nk ck, .int .u64 v] w (FoundP (foundE (putsE l) k v) w) := by
  have HP := Lib.hid (hp.below ((Below.refl w.heap.size w).alloc (Nat.le_refl _) (.cells #[.int .u8 0, .int .u8 0, .int .u64 0, .slice none 0 0] 30)))
  have HOK := Lib.hid hok
  have HAS := Lib.hid (ha.alloc (.cells #[.int .u8 0, .int .u8 0, .int .u64 0, .slice none 0 0] 30))
  have HK := Lib.hid (hk.alloc (.cells #[.int .u8 0, .int .u8 0, .int .u64 0, .slice none 0 0] 30))
  have HKB := Lib.hid (bytKey hkb hv0 hv1)
  have hkl : k.length = nk := by have := hk.1; rwa [nums_length] at this
  subst hkl
  have HRES := Lib.hid (Blk.new w 30 [.int .u8 0, .int .u8 0, .int .u64 0, .slice none 0 0])
  have HBE : Hid (Below w.heap.size w (w.alloc (.cells #[.int .u8 0, .int .u8 0, .int .u64 0, .slice none 0 0] 30))) := (Below.refl w.heap.size w).alloc (Nat.le_refl _) _
  have HSZ : Hid (w.heap.size < (w.alloc (.cells #[.int .u8 0, .int .u8 0, .int .u64 0, .slice none 0 0] 30)).heap.size) := by show _ < _; simp
  clear hp hok ha hk hkb
  go_enter Try.func16, Try.ntmps16
  go_wp2_with fail
  generalize w.alloc (.cells #[.int .u8 0, .int .u8 0, .int .u64 0, .slice none 0 0] 30) = w0 at *
  generalize hgr : w.heap.size = gr at *
  have HGR := Lib.hid hgr
  clear hgr
  refine (skips_any A P n c m d rs l w0 HAS.out hn1 hn2 HP.out hm HOK.out).mono ?_
  rintro E w1 ⟨g, s, rfl, hst, hokk, hfull, hns, href, hbel⟩
  have HR := Lib.hid (And.intro hst (And.intro hokk (And.intro hfull (And.intro hns hbel))))
  have hk1 := Lib.hid (HK.out.below hbel)
  have hres1 := Lib.hid (HRES.out.frm (Frm.of_below hbel) (by simp))
  have hsz1 : Hid (gr < w1.heap.size) := by have := HSZ.out; have := hbel.size; show _ < _; omega
  have hbe1 : Hid (Below gr w w1) := HBE.out.trans (hbel.mono (Nat.le_of_lt HSZ.out))
  clear hst hokk hfull hns href hbel HK HRES HSZ HBE HAS HP
  go_wp2_with fail
  refine (own_any K k.length ck k w1 hk1.out (by omega)).mono ?_
  intro E w2 h2; obtain ⟨A2, c2, rfl, hc2, hs2, hb2, ho2⟩ := h2.sv
  have hst2 : Hid (SkSt w2 g s) := HR.out.1.frm HR.out.2.1 (Frm.of_below hb2.out) (fun b hb => by cases hb)
  have hres2 := Lib.hid (hres1.out.frm (Frm.of_below hb2.out) (by simp))
  have hbe2 : Hid (Below gr w w2) := hbe1.out.trans (hb2.out.mono (Nat.le_of_lt hsz1.out))
  have hsz2 : Hid (gr < w2.heap.size) := by have := hsz1.out; have := hb2.out.size; show _ < _; omega
  clear h2 ho2 hk1 hres1 hbe1 hb2
  go_wp2_with fail
  refine (keyWithTs_any A2 k.length c2 k v w2 hs2.out (by omega) hv0 hv1).mono ?_
  intro E w3 h3; obtain ⟨A3, c3, rfl, hc3, hs3, hb3, ho3⟩ := h3.sv
  have hst3 : Hid (SkSt w3 g s) := hst2.out.frm HR.out.2.1 (Frm.of_below hb3.out) (fun b hb => by cases hb)
  have hres3 := Lib.hid (hres2.out.frm (Frm.of_below hb3.out) (by simp))
  have hbe3 : Hid (Below gr w w3) := hbe2.out.trans (hb3.out.mono (Nat.le_of_lt hsz2.out))
  have hsz3 : Hid (gr < w3.heap.size) := by have := hsz2.out; have := hb3.out.size; show _ < _; omega
  clear h3 ho3 hs2 hst2 hres2 hbe2 hb3
  go_wp2_with fail
  refine (get_skl g w0.heap.size s A3 (keyB k v).length c3 k v w3 hst3.out HR.out.2.1 HR.out.2.2.1 hs3.out hc3 HKB.out (by rw [keyB_len]; omega)).mono ?_
  rintro E w4 ⟨A4, c4, rfl, hc4, hs4, hb4⟩
  have hlen : (foundE (s.ns.map Nd.e) k v).d.length ≤ 300 := found_len (fun e he => by
    obtain ⟨dd, hd, rfl⟩ := List.mem_map.1 he
    exact HR.out.2.1.ent dd hd) k v
  rw [HR.out.2.2.2.1] at hlen hc4 hs4 ⊢
  have hres4 := Lib.hid (hres3.out.frm (Frm.of_below hb4) (by simp))
  have hbe4 : Hid (Below gr w w4) := hbe3.out.trans (hb4.mono (Nat.le_of_lt hsz3.out))
  have hsz4 : Hid (gr < w4.heap.size) := by have := hsz3.out; have := hb4.size; show _ < _; omega
  have HS4 := Lib.hid hs4
  clear hs4 hs3 hst3 hres3 hbe3 hb4 hsz1 hsz2 hsz3 HR
  generalize foundE (putsE l) k v = e at *
  clear HOK HKB
  go_wp2_with fail
  have hx : Blk (w4.alloc (.cells #[.int .u8 e.m, .int .u8 e.u, .int .u64 e.x, .slice A4 e.d.length c4, .int .u64 e.v] 72)) w4.heap.size 72 [.int .u8 e.m, .int .u8 e.u, .int .u64 e.x, .slice A4 e.d.length c4, .int .u64 e.v] := Blk.new _ _ _
  have hr5 := Lib.hid (hres4.out.alloc (.cells #[.int .u8 e.m, .int .u8 e.u, .int .u64 e.x, .slice A4 e.d.length c4, .int .u64 e.v] 72))
  have hb5 : Hid (Below gr w (w4.alloc (.cells #[.int .u8 e.m, .int .u8 e.u, .int .u64 e.x, .slice A4 e.d.length c4, .int .u64 e.v] 72))) := hbe4.out.alloc (Nat.le_of_lt hsz4.out) _
  have hs5 := Lib.hid (HS4.out.alloc (.cells #[.int .u8 e.m, .int .u8 e.u, .int .u64 e.x, .slice A4 e.d.length c4, .int .u64 e.v] 72))
  have hz5 : Hid (gr < (w4.alloc (.cells #[.int .u8 e.m, .int .u8 e.u, .int .u64 e.x, .slice A4 e.d.length c4, .int .u64 e.v] 72)).heap.size) := by have := hsz4.out; show _ < _; rw [World.size_alloc]; omega
  have hgv : Hid (w4.heap.size ≠ gr) := by have := hsz4.out; show _ ≠ _; omega
  clear hres4 hbe4 hsz4 HS4
  generalize w4.alloc (.cells #[.int .u8 e.m, .int .u8 e.u, .int .u64 e.x, .slice A4 e.d.length c4, .int .u64 e.v] 72) = w5 at *
  generalize w4.heap.size = gv at *
  refine Go.Proofs.YtanmgkpgfmkobaaW.PrintLast.start_ (n := 6) (S := fun w' => w'.cell? ⟨gv, 0, none⟩ = some (.int .u8 e.m) ∧ w'.cell? ⟨gv, 1, none⟩ = some (.int .u8 e.u) ∧ w'.cell? ⟨gv, 2, none⟩ = some (.int .u64 e.x) ∧ w'.cell? ⟨gv, 3, none⟩ = some (.slice A4 e.d.length c4) ∧ w'.cell? ⟨gv, 4, none⟩ = some (.int .u64 e.v)) (ds := []) #[false, false, false, false, false, false] (by kernel_rfl) rfl rfl (⟨hx.at_ rfl, hx.at_ rfl, hx.at_ rfl, hx.at_ rfl, hx.at_ rfl⟩) (fun hHeld => ?_)
  replace hr5 : Hid (Blk w5.drew gr 30 [.int .u8 0, .int .u8 0, .int .u64 0, .slice none 0 0]) := hr5.out.drewN 1
  replace hb5 : Hid (Below gr w w5.drew) := hb5.out.drew
  replace hs5 : Hid (Sl w5.drew A4 e.d.length (nums .u8 e.d)) := hs5.out
  replace hz5 : Hid (gr < w5.drew.heap.size) := hz5.out
  clear hx
  generalize w5.drew = wb at *
  refine Go.Proofs.YtanmgkpgfmkobaaW.PrintLast.take_ (i := 0) (N := some 19) (v := ?_) (a' := ?_) #[true, false, false, false, false, false] rfl rfl (by kernel_rfl) (fun _ _ _ h => h) (Or.inl ⟨by rfl, ?_⟩) hHeld ?_ ?_
  rotate_left
  · rintro w' ⟨h0, h1, h2, h3, h4⟩
    go_simp
    with_reducible rfl
  rotate_left
  · simp only [Act.put, List.setIfInBounds_toArray, List.set_cons_zero, List.set_cons_succ, Go.Proofs.YtanmgkpgfmkobaaW.PrintLast.i64_w, Go.Proofs.YtanmgkpgfmkobaaW.PrintLast.i32_w]
    rfl
  refine Go.Proofs.YtanmgkpgfmkobaaW.PrintLast.pure_ (i := 2) (N := some 21) (v := ?_) (a' := ?_) #[true, false, true, false, false, false] rfl rfl (by kernel_rfl) (fun _ _ _ h => h) (Or.inl ⟨by rfl, ?_⟩) ?_ ?_
  rotate_left
  · intro w'
    go_simp
    with_reducible rfl
  rotate_left
  · simp only [Act.put, List.setIfInBounds_toArray, List.set_cons_zero, List.set_cons_succ, Go.Proofs.YtanmgkpgfmkobaaW.PrintLast.i64_w, Go.Proofs.YtanmgkpgfmkobaaW.PrintLast.i32_w]
    rfl
  refine Go.Proofs.YtanmgkpgfmkobaaW.PrintLast.take_ (i := 3) (N := some 22) (v := ?_) (a' := ?_) #[true, false, true, true, false, false] rfl rfl (by kernel_rfl) (fun _ _ _ h => h) (Or.inl ⟨by rfl, ?_⟩) hHeld ?_ ?_
  rotate_left
  · rintro w' ⟨h0, h1, h2, h3, h4⟩
    go_simp
    with_reducible rfl
  rotate_left
  · simp only [Act.put, List.setIfInBounds_toArray, List.set_cons_zero, List.set_cons_succ, Go.Proofs.YtanmgkpgfmkobaaW.PrintLast.i64_w, Go.Proofs.YtanmgkpgfmkobaaW.PrintLast.i32_w]
    rfl
  refine Go.Proofs.YtanmgkpgfmkobaaW.PrintLast.one_ (i := 1) (N := some 20) #[true, true, true, true, false, false] rfl rfl (by kernel_rfl) (by decide) (fun K hK => ?_)
  refine Go.Proofs.YtanmgkpgfmkobaaW.PrintLast.goes_ Try.func37 (by kernel_rfl) rfl #[.agg #[.int .u8 e.m, .int .u8 e.u, .int .u64 e.x, .slice A4 e.d.length c4, .int .u64 e.v]] (by rfl) rfl rfl (by (try simp only [List.map_toArray, List.map_cons, List.map_nil]); first | done | rfl) ?_
  refine (valueOf_any e.m e.u e.x e.v A4 e.d.length c4 e.d wb hs5.out hc4 (by omega)).mono ?_
  rintro E wx ⟨v7, rfl, ho7, hbo7⟩; obtain ⟨A7, c7, hv7, hc7, hs7⟩ := own_sl ho7; subst hv7; refine ⟨_, rfl, ?_⟩
  have hbo := Lib.hid hbo7
  refine hK.out _ _ (⟨cell_bel hHeld.1 hbo.out, cell_bel hHeld.2.1 hbo.out, cell_bel hHeld.2.2.1 hbo.out, cell_bel hHeld.2.2.2.1 hbo.out, cell_bel hHeld.2.2.2.2 hbo.out⟩) (fun hHeld => ?_)
  clear hK K
  refine Go.Proofs.YtanmgkpgfmkobaaW.PrintLast.norm_ (a' := ?_) ?_ ?_
  rotate_left
  · show Act.put _ (some 20) _ = _
    simp only [Act.put, List.setIfInBounds_toArray, List.set_cons_zero, List.set_cons_succ, Go.Proofs.YtanmgkpgfmkobaaW.PrintLast.i64_w, Go.Proofs.YtanmgkpgfmkobaaW.PrintLast.i32_w]
    rfl
  have hr6 := hr5.out.frm (Frm.of_below hbo.out) (by simp)
  have hb6 : Hid (Below gr w wx) := hb5.out.trans (hbo.out.mono (Nat.le_of_lt hz5.out))
  have HGV := Lib.hid (And.intro (hs7) (ho7))
  have hA7 : Hid (∀ b oo, A7 = some ⟨b, oo, none⟩ → b ≠ gr) := fun b oo e => by
    subst e
    have := (ho7.lt b rfl).1
    have := hz5.out
    omega
  have HS7 := Lib.hid hs7
  clear hs7 ho7 hbo hbo7 hr5 hb5 hs5 hz5
  have q0 := hr6.at_ (i := 0) rfl
  have q1 := hr6.at_ (i := 1) rfl
  have q2 := hr6.at_ (i := 2) rfl
  have q3 := hr6.at_ (i := 3) rfl
  have f0 := hr6.frozen 0
  have f1 := hr6.frozen 1
  have f2 := hr6.frozen 2
  have f3 := hr6.frozen 3
  have hne := hgv.out
  have hne2 : gr ≠ gv := fun e => hgv.out e.symm
  refine Go.Proofs.YtanmgkpgfmkobaaW.PrintLast.one_ (i := 4) (N := none) #[true, true, true, true, true, false] rfl rfl (by kernel_rfl) (by decide) (fun K hK => ?_)
  refine Go.Proofs.YtanmgkpgfmkobaaW.PrintLast.skip_ (w1 := (((wx.setCell ⟨gr, 0, none⟩ (.int .u8 e.m)).setCell ⟨gr, 1, none⟩ (.int .u8 e.u)).setCell ⟨gr, 2, none⟩ (.int .u64 e.x)).setCell ⟨gr, 3, none⟩ (.slice A7 e.d.length c7)) (by rfl) rfl ?_ ?_
  · simp [go_sem, q0, q1, q2, q3, f0, f1, f2, f3]
  have hw7 : Frm [gr] wx ((((wx.setCell ⟨gr, 0, none⟩ (.int .u8 e.m)).setCell ⟨gr, 1, none⟩ (.int .u8 e.u)).setCell ⟨gr, 2, none⟩ (.int .u64 e.x)).setCell ⟨gr, 3, none⟩ (.slice A7 e.d.length c7)) := ((((Frm.refl _ wx).andSet _ _ (.inl (by simp))).andSet _ _ (.inl (by simp))).andSet _ _ (.inl (by simp))).andSet _ _ (.inl (by simp))
  have hb7 : Hid (Below gr w ((((wx.setCell ⟨gr, 0, none⟩ (.int .u8 e.m)).setCell ⟨gr, 1, none⟩ (.int .u8 e.u)).setCell ⟨gr, 2, none⟩ (.int .u64 e.x)).setCell ⟨gr, 3, none⟩ (.slice A7 e.d.length c7))) := (((hb6.out.setCell (Nat.le_refl _) _).setCell (Nat.le_refl _) _).setCell (Nat.le_refl _) _).setCell (Nat.le_refl _) _
  have hr7 : Blk ((((wx.setCell ⟨gr, 0, none⟩ (.int .u8 e.m)).setCell ⟨gr, 1, none⟩ (.int .u8 e.u)).setCell ⟨gr, 2, none⟩ (.int .u64 e.x)).setCell ⟨gr, 3, none⟩ (.slice A7 e.d.length c7)) gr 30 [.int .u8 e.m, .int .u8 e.u, .int .u64 e.x, .slice A7 e.d.length c7] := (((hr6.set_ 0 _).set_ 1 _).set_ 2 _).set_ 3 _
  have hs8 := Lib.hid (HS7.out.frm hw7 (fun b o e => by have := hA7.out b o e; simpa using this))
  have hn7 : gv ∉ [gr] := by simpa using hne
  have hh7 := And.intro (cell_frm hHeld.1 hw7 hn7) (And.intro (cell_frm hHeld.2.1 hw7 hn7) (And.intro (cell_frm hHeld.2.2.1 hw7 hn7) (And.intro (cell_frm hHeld.2.2.2.1 hw7 hn7) (cell_frm hHeld.2.2.2.2 hw7 hn7))))
  refine hK.out _ _ (hh7) (fun hHeld => ?_)
  clear hK K
  clear hh7 hn7 q0 q1 q2 q3 f0 f1 f2 f3 hHeld HS7 hw7 hb6 hr6 HGV
  generalize (((wx.setCell ⟨gr, 0, none⟩ (.int .u8 e.m)).setCell ⟨gr, 1, none⟩ (.int .u8 e.u)).setCell ⟨gr, 2, none⟩ (.int .u64 e.x)).setCell ⟨gr, 3, none⟩ (.slice A7 e.d.length c7) = wy at *
  refine Go.Proofs.YtanmgkpgfmkobaaW.PrintLast.pure_ (i := 5) (N := some 9) (v := ?_) (a' := ?_) #[true, true, true, true, true, true] rfl rfl (by kernel_rfl) (fun _ _ _ h => h) (Or.inl ⟨by rfl, ?_⟩) ?_ ?_
  rotate_left
  · intro w'
    go_simp
    with_reducible rfl
  rotate_left
  · simp only [Act.put, List.setIfInBounds_toArray, List.set_cons_zero, List.set_cons_succ, Go.Proofs.YtanmgkpgfmkobaaW.PrintLast.i64_w, Go.Proofs.YtanmgkpgfmkobaaW.PrintLast.i32_w]
    rfl
  refine Go.Proofs.YtanmgkpgfmkobaaW.PrintLast.done_ (by kernel_rfl) ?_
  have q0 := hr7.at_ (i := 0) rfl
  have q1 := hr7.at_ (i := 1) rfl
  have q2 := hr7.at_ (i := 2) rfl
  have q3 := hr7.at_ (i := 3) rfl
  have f0 := hr7.frozen 0
  have f1 := hr7.frozen 1
  have f2 := hr7.frozen 2
  have f3 := hr7.frozen 3
  clear hr7
  go_wp2
  refine bodyPost_ret (v := .tuple #[.agg #[.int .u8 e.m, .int .u8 e.u, .int .u64 e.x, .slice A7 e.d.length c7], .int .u64 e.v]) (by simp [results, Try.results16, go_sem, q0, q1, q2, q3, f0, f1, f2, f3]) rfl ?_
  show FoundP _ _ _ _
  exact ⟨A7, c7, rfl, hc7, hs8.out, HGR.out ▸ hb7.out⟩
end Go.Proofs.Ytanmgkpgfmkobaa
