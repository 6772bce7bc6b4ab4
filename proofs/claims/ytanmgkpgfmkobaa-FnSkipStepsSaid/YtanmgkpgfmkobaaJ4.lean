/- impl.RunList: an iterator over a skip list takes steps. -/
import Derived.Test.YtanmgkpgfmkobaaJ2
import Derived.Test.YtanmgkpgfmkobaaGJ
namespace Go.Proofs.Ytanmgkpgfmkobaa
open Go.Proofs.YtanmgkpgfmkobaaW.PrintLast
open Go.RowKit
set_option linter.unusedVariables false
set_option linter.unusedSimpArgs false
def RunLP (l : List Ent) (ats : List Int) (w : World) (E : Ending) (w' : World) : Prop := ∃ A c ps, E = .returned (.slice A ps.length c) ∧ Prs w' A ps ∧ ps.map PR.pl = ats.map (plE l) ∧ ps.length ≤ c ∧ Below w.heap.size w w'
set_option maxRecDepth 100000 in
set_option maxHeartbeats 4000000 in
theorem runList_any (A P AS : Option Addr) (n c m d ns cs : Nat) (hs : List Int) (l : List Ent) (ss : List SR) (atz : List Int) (w : World) (ha : Sl w A n (nums .u32 hs)) (hn1 : 1 ≤ n) (hn2 : n ≤ 1000000) (hp : Sle w P m l) (hm : m ≤ 80) (hok : ∀ e ∈ l, EntOk e)
    (hS : Srs w AS ss) (hsl : ss.length = ns) (hns : ns ≤ 1000000) (hsk : ∀ s ∈ ss, StOk s) (hw : walkE (putsE l) (-1) (ss.map SR.s) = some atz) :
    Calls Try.prog 22 #[.slice A n c, .slice P m d, .slice AS ns cs] w (RunLP (putsE l) atz w) := by
  have HS := Lib.hid hS
  have HSL := Lib.hid hsl
  have HSK := Lib.hid hsk
  have HW := Lib.hid hw
  have HA := Lib.hid ha
  have HP := Lib.hid hp
  have HOK := Lib.hid hok
  clear hS hsl hsk hw ha hp hok
  go_enter Try.func22, Try.ntmps22
  go_wp2_with fail
  refine (skips_any A P n c m d hs l w HA.out hn1 hn2 HP.out hm HOK.out).mono ?_
  rintro E w1 ⟨g, s, rfl, hst, hokk, hfull, hns1, href, hbel⟩
  have HR := Lib.hid (And.intro hst (And.intro hokk (And.intro hfull (And.intro hns1 (And.intro href hbel)))))
  clear hst hokk hfull hns1 href hbel HA HP HOK
  go_wp2_with fail
  refine (newIterator_skl g _ s w1 HR.out.1 HR.out.2.1 HR.out.2.2.2.2.1).mono ?_
  rintro E w2 ⟨rfl, hit, hf⟩
  obtain ⟨S, hSe⟩ : ∃ S, S = s.at_ref 2 := ⟨_, rfl⟩
  rw [← hSe] at hit
  have OK : Hid (SkOk g w.heap.size S) := by rw [hSe]; exact HR.out.2.1.reref 2
  have HF : Hid (Full S) := by rw [hSe]; exact HR.out.2.2.1
  have HNS : Hid (S.ns.map Nd.e = putsE l) := by rw [hSe]; exact HR.out.2.2.2.1
  have HREF : Hid (S.ref = 2) := by rw [hSe]; rfl
  have HB2 : Hid (Below w.heap.size w w2) := HR.out.2.2.2.2.2.trans (hf.below HR.out.2.2.2.2.2.size (fun i hi => by rw [List.mem_singleton] at hi; subst hi; exact HR.out.2.1.base _ (by simp)))
  have HIT0 : Hid (ItS w2 g w1.heap.size S (itV S (-1))) := hit
  have HGB : Hid (w.heap.size ≤ w1.heap.size) := HR.out.2.2.2.2.2.size
  have HLT := Lib.hid (hit.below OK.out)
  clear hSe hit hf HR
  generalize w1.heap.size = gi at *
  obtain ⟨bz, hbz⟩ : ∃ bz, bz = w2.heap.size := ⟨_, rfl⟩
  rw [← hbz] at HLT
  have HBZ := Lib.hid hbz
  clear hbz
  go_wp2
  go_loopg [8, 20] ns (fun f v8 v20 wr => ∃ (i c8 : Nat) (a : Int) (A8 : Option Addr) (ps : List PR) (ats : List Int), v8 = .slice A8 i c8 ∧ v20 = .int .i64 i ∧ i ≤ ns ∧ Hid (i + f = ns) ∧ Hid (wr.ownsRow bz 82 7 (.slice A8 i c8) i (flatP ps)) ∧ Hid (ps.length = i)
    ∧ Hid (ps.map PR.pl = ats.map (plE (putsE l))) ∧ Hid (walkE (putsE l) (-1) (ss.map SR.s) = (walkE (putsE l) a ((ss.map SR.s).drop i)).map fun m => ats ++ m) ∧ Hid (∀ p ∈ ps, PlB bz wr p) ∧ Hid (ItS wr g gi S (itV S a)) ∧ Hid (Below w.heap.size w wr) ∧ Hid (bz ≤ wr.heap.size))
  case atStart =>
    refine ⟨0, 0, -1, _, [], [], rfl, rfl, Nat.zero_le _, by simp [Hid], World.ownsRow_made w2 #[] 0 (by rw [HBZ.out]; exact Nat.le_refl _) (by simp [maxLen]) rfl, rfl, rfl, ?_, fun p hp => (by cases hp), HIT0.out.frm OK.out (Frm.alloc _ _) (fun b hb => by cases hb) (by simp), HB2.out.alloc HB2.out.size _, by rw [HBZ.out]; exact Nat.le_trans (Nat.le_succ _) (Nat.le_of_eq (World.size_alloc _ _).symm)⟩
    show _ = (walkE _ _ _).map _
    simp
  case round =>
    clear HIT0 HB2
    obtain ⟨i, c8, a, A8, ps, ats, rfl, rfl, hin, hf, hO, hpl, hmap, hwk, hps, hit, hbw, hbzr⟩ := hrel
    by_cases hlt : i < ns
    · obtain ⟨q, hq⟩ : ∃ q, ss[i]? = some q := ⟨_, List.getElem?_eq_getElem (by have := HSL.out; omega)⟩
      have HQ := Lib.hid hq
      have hSr := HS.out.below hbw.out
      obtain ⟨gs, os, hAe⟩ := hSr.addr (by have := HSL.out; omega)
      subst hAe
      have ca : ∀ j v, q.cells[j]? = some v → wr.cell? ⟨gs, os + i * 3 + j, none⟩ = some v := fun j v hj => hSr.at_ hq hj
      have b0 := ca 0 _ rfl
      have b1 := ca 1 _ rfl
      have b2 := ca 2 _ rfl
      rw [Nat.add_zero] at b0
      have hqi := hSr.each q (List.mem_of_getElem? hq)
      have hnk := SR.nk_eq hqi
      have HQI := Lib.hid hqi
      have HQN := Lib.hid (HSK.out q (List.mem_of_getElem? hq))
      clear hSr hq ca hqi
      obtain ⟨KS, nk, ck, ⟨kd, k, v⟩⟩ := q
      replace hnk : k.length = nk := hnk
      subst hnk
      replace HQI : Hid (Sl wr KS k.length (nums .u8 k)) := HQI.out.key
      have HKB : Hid (Byt (keyB k v)) := bytKey HQN.out.kb HQN.out.v0 HQN.out.v1
      have hv0 : 0 ≤ v := HQN.out.v0
      have hv1 : Hid (v ≤ 18446744073709551615) := HQN.out.v1
      have hk1000 : k.length ≤ 900 := HQN.out.nk
      replace HQ : Hid (ss[i]? = some ⟨KS, k.length, ck, ⟨kd, k, v⟩⟩) := HQ.out
      replace b0 : wr.cell? ⟨gs, os + i * 3, none⟩ = some (.int .i64 kd) := b0
      replace b1 : wr.cell? ⟨gs, os + i * 3 + 1, none⟩ = some (.slice KS k.length ck) := b1
      replace b2 : wr.cell? ⟨gs, os + i * 3 + 2, none⟩ = some (.int .u64 v) := b2
      have HST : Hid ((ss.map SR.s)[i]? = some ⟨kd, k, v⟩) := by show _ = _; rw [List.getElem?_map, HQ.out]; rfl
      obtain ⟨b, hb⟩ : ∃ b, moveE (putsE l) a ⟨kd, k, v⟩ = some b := by
        cases hmv : moveE (putsE l) a ⟨kd, k, v⟩ with
        | some b => exact ⟨b, rfl⟩
        | none =>
          have := walkE_no hwk.out HST.out hmv
          rw [HW.out] at this
          cases this
      have HWK := Lib.hid (walkE_on hwk.out HST.out hb)
      have HLE : Hid (S.ns.length = (putsE l).length) := by show _ = _; rw [← HNS.out, List.length_map]
      have HMV := Lib.hid hb
      have HX : Hid (Blk (wr.alloc (.cells #[.int .i64 kd, .slice KS k.length ck, .int .u64 v] 78)) wr.heap.size 78 [.int .i64 kd, .slice KS k.length ck, .int .u64 v]) := Blk.new wr _ _
      have HIT : Hid (ItS (wr.alloc (.cells #[.int .i64 kd, .slice KS k.length ck, .int .u64 v] 78)) g gi S (itV S a)) := hit.out.frm OK.out (Frm.alloc _ _) (fun b hb => by cases hb) (by simp)
      have HKx : Hid (Sl (wr.alloc (.cells #[.int .i64 kd, .slice KS k.length ck, .int .u64 v] 78)) KS k.length (nums .u8 k)) := HQI.out.alloc _
      have HF9 : Hid (Frm [gi] wr (wr.alloc (.cells #[.int .i64 kd, .slice KS k.length ck, .int .u64 v] 78))) := (Frm.refl _ _).andAlloc _
      have HG10 : Hid (wr.heap.size ≠ gi) := by have := hit.out.it.lt; show _ ≠ _; omega
      clear hb hwk HST HQN HQI
      go_upto_block 2 with fail
      generalize wr.alloc (.cells #[.int .i64 kd, .slice KS k.length ck, .int .u64 v] 78) = w9 at *
      obtain ⟨g10, hg10⟩ : ∃ x, x = wr.heap.size := ⟨_, rfl⟩
      rw [← hg10] at HX HG10 ⊢
      have HG10E := Lib.hid hg10
      clear hg10 b0 b1 b2 HQ
      have y0 := HX.out.at_ (i := 0) rfl
      have y1 := HX.out.at_ (i := 1) rfl
      have y2 := HX.out.at_ (i := 2) rfl
      go_cut [] (fun wx => Hid (ItS wx g gi S (itV S b)) ∧ Hid (Frm [gi] w9 wx))
      case first =>
        by_cases k0 : kd = 0
        · subst k0
          obtain rfl := mv0 HMV.out
          go_wp2_with fail
          refine (seekFirst_skl g gi _ S (itV S a) w9 HIT.out OK.out HF.out).mono ?_
          rintro E wx ⟨rfl, hit2, hf2⟩
          have h2 := Lib.hid (And.intro hit2 hf2)
          clear hit2 hf2
          go_wp2_with fail
          go_meet
          exact ⟨h2.out.1, h2.out.2⟩
        have f0 : (kd == 0) = false := by simp [k0]
        by_cases k1 : kd = 1
        · subst k1
          obtain rfl := mv1 HMV.out
          clear f0
          go_wp2_with fail
          refine (seekLast_it g gi _ S (itV S a) w9 HIT.out OK.out HF.out).mono ?_
          rintro E wx ⟨rfl, hit2, hf2⟩
          rw [itV_bef _ (Nat.le_refl _), HLE.out] at hit2
          have h2 := Lib.hid (And.intro hit2 hf2)
          clear hit2 hf2
          go_wp2_with fail
          go_meet
          exact ⟨h2.out.1, h2.out.2⟩
        have f1 : (kd == 1) = false := by simp [k1]
        by_cases k2 : kd = 2
        · subst k2
          obtain ⟨ha0, ha1, rfl⟩ := mv2 HMV.out
          obtain ⟨j, dd, rfl, hd, hv⟩ := itV_in (s := S) ha0 (by rw [HLE.out]; exact ha1)
          have HD := Lib.hid hd
          replace HIT : Hid (ItS w9 g gi S (.pointer (some ⟨dd.blk, 0, none⟩))) := by rw [← hv]; exact HIT.out
          clear f0 f1 ha0 ha1 hd hv
          go_wp2_with fail
          refine (next_it g gi _ S j dd w9 HIT.out OK.out HF.out HD.out).mono ?_
          rintro E wx ⟨rfl, hit2, hf2⟩
          rw [← itV_nat] at hit2
          have h2 := Lib.hid (And.intro hit2 hf2)
          clear hit2 hf2
          go_wp2_with fail
          go_meet
          exact ⟨h2.out.1, h2.out.2⟩
        have f2 : (kd == 2) = false := by simp [k2]
        by_cases k3 : kd = 3
        · subst k3
          obtain ⟨ha0, ha1, rfl⟩ := mv3 HMV.out
          obtain ⟨j, dd, rfl, hd, hv⟩ := itV_in (s := S) ha0 (by rw [HLE.out]; exact ha1)
          have HD := Lib.hid hd
          have hjl : j ≤ S.ns.length := Nat.le_of_lt (List.getElem?_eq_some_iff.1 hd).1
          replace HIT : Hid (ItS w9 g gi S (.pointer (some ⟨dd.blk, 0, none⟩))) := by rw [← hv]; exact HIT.out
          clear f0 f1 f2 ha0 ha1 hd hv
          go_wp2_with fail
          refine (prev_it g gi _ S j dd w9 HIT.out OK.out HF.out HD.out).mono ?_
          rintro E wx ⟨rfl, hit2, hf2⟩
          rw [itV_bef _ hjl] at hit2
          have h2 := Lib.hid (And.intro hit2 hf2)
          clear hit2 hf2
          go_wp2_with fail
          go_meet
          exact ⟨h2.out.1, h2.out.2⟩
        have f3 : (kd == 3) = false := by simp [k3]
        by_cases k4 : kd = 4
        · subst k4
          obtain rfl := mv4 HMV.out
          clear f0 f1 f2 f3
          go_wp2
          refine start_ (n := 8) (S := fun w' => w'.cell? ⟨g10, 1, none⟩ = some (.slice KS k.length ck) ∧ w'.cell? ⟨g10, 2, none⟩ = some (.int .u64 v)) (ds := []) #[ff,ff,ff,ff,ff,ff,ff,ff] (by kernel_rfl) rfl rfl (⟨y1, y2⟩) (fun hHeld => ?_)
          have hit : Hid (ItS w9.drew g gi S (itV S a)) := HIT.out.drewN 1
          have hks : Hid (Sl w9.drew KS k.length (nums .u8 k)) := HKx.out
          have hfr : Hid (Frm [gi] w9 w9.drew) := (Frm.refl _ _).drew
          have hgi : Hid (gi < w9.drew.heap.size) := HIT.out.it.lt
          clear y0 y1 y2
          generalize w9.drew = wd at *
          refine pure_ (i := 0) (N := some 44) (v := ?_) (a' := ?_) #[tt,ff,ff,ff,ff,ff,ff,ff] rfl rfl (by kernel_rfl) (fun _ _ _ h => h) (Or.inl ⟨by rfl, ?_⟩) ?_ ?_; rotate_left; (intro w'; go_simp; with_reducible rfl); rotate_left; (simp only [Act.put, List.setIfInBounds_toArray, List.set_cons_zero, List.set_cons_succ, i64_w, i32_w]; rfl)
          refine pure_ (i := 1) (N := some 45) (v := ?_) (a' := ?_) #[tt,tt,ff,ff,ff,ff,ff,ff] rfl rfl (by kernel_rfl) (fun _ _ _ h => h) (Or.inl ⟨by rfl, ?_⟩) ?_ ?_; rotate_left; (intro w'; go_simp; with_reducible rfl); rotate_left; (simp only [Act.put, List.setIfInBounds_toArray, List.set_cons_zero, List.set_cons_succ, i64_w, i32_w]; rfl)
          refine take_ (i := 2) (N := some 46) (v := ?_) (a' := ?_) #[tt,tt,tt,ff,ff,ff,ff,ff] rfl rfl (by kernel_rfl) (fun _ _ _ h => h) (Or.inl ⟨by rfl, ?_⟩) hHeld ?_ ?_; rotate_left; (rintro w' ⟨h0, h1⟩; go_simp; with_reducible rfl); rotate_left; (simp only [Act.put, List.setIfInBounds_toArray, List.set_cons_zero, List.set_cons_succ, i64_w, i32_w]; rfl)
          refine pure_ (i := 4) (N := some 48) (v := ?_) (a' := ?_) #[tt,tt,tt,ff,tt,ff,ff,ff] rfl rfl (by kernel_rfl) (fun _ _ _ h => h) (Or.inl ⟨by rfl, ?_⟩) ?_ ?_; rotate_left; (intro w'; go_simp; with_reducible rfl); rotate_left; (simp only [Act.put, List.setIfInBounds_toArray, List.set_cons_zero, List.set_cons_succ, i64_w, i32_w]; rfl)
          refine take_ (i := 5) (N := some 49) (v := ?_) (a' := ?_) #[tt,tt,tt,ff,tt,tt,ff,ff] rfl rfl (by kernel_rfl) (fun _ _ _ h => h) (Or.inl ⟨by rfl, ?_⟩) hHeld ?_ ?_; rotate_left; (rintro w' ⟨h0, h1⟩; go_simp; with_reducible rfl); rotate_left; (simp only [Act.put, List.setIfInBounds_toArray, List.set_cons_zero, List.set_cons_succ, i64_w, i32_w]; rfl)
          refine one_ (i := 3) (N := some 47) #[tt,tt,tt,tt,tt,tt,ff,ff] rfl rfl (by kernel_rfl) (by decide) (fun K hK => ?_); refine goes_ Try.func36 (by kernel_rfl) rfl #[.slice KS k.length ck] (by rfl) rfl rfl (by (try simp only [List.map_toArray, List.map_cons, List.map_nil]); first | done | rfl) ?_
          refine (own_any KS k.length ck k wd hks.out (by omega)).mono ?_
          intro E wx h2; obtain ⟨A2, c2, rfl, hc2, hs2, hb2, ho2⟩ := h2.sv; refine ⟨_, rfl, ?_⟩
          refine hK.out _ _ (⟨cell_bel hHeld.1 hb2.out, cell_bel hHeld.2 hb2.out⟩) (fun hHeld => ?_); clear hK K; refine norm_ (a' := ?_) ?_ ?_; rotate_left; (show Act.put _ (some 47) _ = _; simp only [Act.put, List.setIfInBounds_toArray, List.set_cons_zero, List.set_cons_succ, i64_w, i32_w]; rfl)
          replace hit : Hid (ItS wx g gi S (itV S a)) := hit.out.frm OK.out (Frm.of_below hb2.out) (fun b hb => by cases hb) (by simp)
          replace hfr : Hid (Frm [gi] w9 wx) := hfr.out.andBelow hb2.out
          clear h2 ho2 hb2 hks
          refine one_ (i := 6) (N := some 50) #[tt,tt,tt,tt,tt,tt,tt,ff] rfl rfl (by kernel_rfl) (by decide) (fun K hK => ?_); refine goes_ Try.func35 (by kernel_rfl) rfl #[.slice A2 k.length c2, .int .u64 v] (by rfl) rfl rfl (by (try simp only [List.map_toArray, List.map_cons, List.map_nil]); first | done | rfl) ?_
          refine (keyWithTs_any A2 k.length c2 k v wx hs2.out (by omega) hv0 hv1).mono ?_
          intro E wy h3; obtain ⟨A3, c3, rfl, hc3, hs3, hb3, ho3⟩ := h3.sv; refine ⟨_, rfl, ?_⟩
          refine hK.out _ _ (⟨cell_bel hHeld.1 hb3.out, cell_bel hHeld.2 hb3.out⟩) (fun hHeld => ?_); clear hK K; refine norm_ (a' := ?_) ?_ ?_; rotate_left; (show Act.put _ (some 50) _ = _; simp only [Act.put, List.setIfInBounds_toArray, List.set_cons_zero, List.set_cons_succ, i64_w, i32_w]; rfl)
          replace hit : Hid (ItS wy g gi S (itV S a)) := hit.out.frm OK.out (Frm.of_below hb3.out) (fun b hb => by cases hb) (by simp)
          replace hfr : Hid (Frm [gi] w9 wy) := hfr.out.andBelow hb3.out
          clear h3 ho3 hb3 hs2
          refine one_ (i := 7) (N := some 51) #[tt,tt,tt,tt,tt,tt,tt,tt] rfl rfl (by kernel_rfl) (by decide) (fun K hK => ?_); refine goes_ Try.func46 (by kernel_rfl) rfl #[.pointer (some ⟨gi, 0, none⟩), .slice A3 (keyB k v).length c3] (by rfl) rfl rfl (by (try simp only [List.map_toArray, List.map_cons, List.map_nil]); first | done | rfl) ?_
          refine (seek_it g gi _ S (itV S a) A3 (keyB k v).length c3 k v wy hit.out OK.out HF.out hs3.out hc3 HKB.out (by rw [keyB_len]; omega)).mono ?_
          rintro E wz ⟨rfl, hit4, hf4⟩; refine ⟨_, rfl, ?_⟩
          have hng : g10 ∉ [gi] := fun hm => HG10.out (List.mem_singleton.1 hm)
          refine hK.out _ _ (⟨cell_frm hHeld.1 hf4 hng, cell_frm hHeld.2 hf4 hng⟩) (fun hHeld => ?_); clear hK K; refine norm_ (a' := ?_) ?_ ?_; rotate_left; (show Act.put _ (some 51) _ = _; simp only [Act.put, List.setIfInBounds_toArray, List.set_cons_zero, List.set_cons_succ, i64_w, i32_w]; rfl)
          have hfz : Hid (Frm [gi] w9 wz) := hfr.out.trans hf4 (fun i hi => .inl hi)
          have hitz : Hid (ItS wz g gi S (ndP S (S.pos k v))) := hit4
          clear hit4 hf4 hit hfr hs3 hHeld
          refine done_ (by kernel_rfl) ?_
          have hitf : Hid (ItS wz g gi S (itV S ((posE (putsE l) k v : Nat) : Int))) := by show ItS _ _ _ _ _; rw [← HNS.out, ← itV_seek]; exact hitz.out
          clear hitz
          go_wp2_with fail
          go_meet
          exact ⟨hitf.out, hfz.out⟩
        have f4 : (kd == 4) = false := by simp [k4]
        by_cases k5 : kd = 5
        · subst k5
          obtain rfl := mv5 HMV.out
          clear f0 f1 f2 f3 f4
          go_wp2
          refine start_ (n := 8) (S := fun w' => w'.cell? ⟨g10, 1, none⟩ = some (.slice KS k.length ck) ∧ w'.cell? ⟨g10, 2, none⟩ = some (.int .u64 v)) (ds := []) #[ff,ff,ff,ff,ff,ff,ff,ff] (by kernel_rfl) rfl rfl (⟨y1, y2⟩) (fun hHeld => ?_)
          have hit : Hid (ItS w9.drew g gi S (itV S a)) := HIT.out.drewN 1
          have hks : Hid (Sl w9.drew KS k.length (nums .u8 k)) := HKx.out
          have hfr : Hid (Frm [gi] w9 w9.drew) := (Frm.refl _ _).drew
          have hgi : Hid (gi < w9.drew.heap.size) := HIT.out.it.lt
          clear y0 y1 y2
          generalize w9.drew = wd at *
          refine pure_ (i := 0) (N := some 54) (v := ?_) (a' := ?_) #[tt,ff,ff,ff,ff,ff,ff,ff] rfl rfl (by kernel_rfl) (fun _ _ _ h => h) (Or.inl ⟨by rfl, ?_⟩) ?_ ?_; rotate_left; (intro w'; go_simp; with_reducible rfl); rotate_left; (simp only [Act.put, List.setIfInBounds_toArray, List.set_cons_zero, List.set_cons_succ, i64_w, i32_w]; rfl)
          refine pure_ (i := 1) (N := some 55) (v := ?_) (a' := ?_) #[tt,tt,ff,ff,ff,ff,ff,ff] rfl rfl (by kernel_rfl) (fun _ _ _ h => h) (Or.inl ⟨by rfl, ?_⟩) ?_ ?_; rotate_left; (intro w'; go_simp; with_reducible rfl); rotate_left; (simp only [Act.put, List.setIfInBounds_toArray, List.set_cons_zero, List.set_cons_succ, i64_w, i32_w]; rfl)
          refine take_ (i := 2) (N := some 56) (v := ?_) (a' := ?_) #[tt,tt,tt,ff,ff,ff,ff,ff] rfl rfl (by kernel_rfl) (fun _ _ _ h => h) (Or.inl ⟨by rfl, ?_⟩) hHeld ?_ ?_; rotate_left; (rintro w' ⟨h0, h1⟩; go_simp; with_reducible rfl); rotate_left; (simp only [Act.put, List.setIfInBounds_toArray, List.set_cons_zero, List.set_cons_succ, i64_w, i32_w]; rfl)
          refine pure_ (i := 4) (N := some 58) (v := ?_) (a' := ?_) #[tt,tt,tt,ff,tt,ff,ff,ff] rfl rfl (by kernel_rfl) (fun _ _ _ h => h) (Or.inl ⟨by rfl, ?_⟩) ?_ ?_; rotate_left; (intro w'; go_simp; with_reducible rfl); rotate_left; (simp only [Act.put, List.setIfInBounds_toArray, List.set_cons_zero, List.set_cons_succ, i64_w, i32_w]; rfl)
          refine take_ (i := 5) (N := some 59) (v := ?_) (a' := ?_) #[tt,tt,tt,ff,tt,tt,ff,ff] rfl rfl (by kernel_rfl) (fun _ _ _ h => h) (Or.inl ⟨by rfl, ?_⟩) hHeld ?_ ?_; rotate_left; (rintro w' ⟨h0, h1⟩; go_simp; with_reducible rfl); rotate_left; (simp only [Act.put, List.setIfInBounds_toArray, List.set_cons_zero, List.set_cons_succ, i64_w, i32_w]; rfl)
          refine one_ (i := 3) (N := some 57) #[tt,tt,tt,tt,tt,tt,ff,ff] rfl rfl (by kernel_rfl) (by decide) (fun K hK => ?_); refine goes_ Try.func36 (by kernel_rfl) rfl #[.slice KS k.length ck] (by rfl) rfl rfl (by (try simp only [List.map_toArray, List.map_cons, List.map_nil]); first | done | rfl) ?_
          refine (own_any KS k.length ck k wd hks.out (by omega)).mono ?_
          intro E wx h2; obtain ⟨A2, c2, rfl, hc2, hs2, hb2, ho2⟩ := h2.sv; refine ⟨_, rfl, ?_⟩
          refine hK.out _ _ (⟨cell_bel hHeld.1 hb2.out, cell_bel hHeld.2 hb2.out⟩) (fun hHeld => ?_); clear hK K; refine norm_ (a' := ?_) ?_ ?_; rotate_left; (show Act.put _ (some 57) _ = _; simp only [Act.put, List.setIfInBounds_toArray, List.set_cons_zero, List.set_cons_succ, i64_w, i32_w]; rfl)
          replace hit : Hid (ItS wx g gi S (itV S a)) := hit.out.frm OK.out (Frm.of_below hb2.out) (fun b hb => by cases hb) (by simp)
          replace hfr : Hid (Frm [gi] w9 wx) := hfr.out.andBelow hb2.out
          clear h2 ho2 hb2 hks
          refine one_ (i := 6) (N := some 60) #[tt,tt,tt,tt,tt,tt,tt,ff] rfl rfl (by kernel_rfl) (by decide) (fun K hK => ?_); refine goes_ Try.func35 (by kernel_rfl) rfl #[.slice A2 k.length c2, .int .u64 v] (by rfl) rfl rfl (by (try simp only [List.map_toArray, List.map_cons, List.map_nil]); first | done | rfl) ?_
          refine (keyWithTs_any A2 k.length c2 k v wx hs2.out (by omega) hv0 hv1).mono ?_
          intro E wy h3; obtain ⟨A3, c3, rfl, hc3, hs3, hb3, ho3⟩ := h3.sv; refine ⟨_, rfl, ?_⟩
          refine hK.out _ _ (⟨cell_bel hHeld.1 hb3.out, cell_bel hHeld.2 hb3.out⟩) (fun hHeld => ?_); clear hK K; refine norm_ (a' := ?_) ?_ ?_; rotate_left; (show Act.put _ (some 60) _ = _; simp only [Act.put, List.setIfInBounds_toArray, List.set_cons_zero, List.set_cons_succ, i64_w, i32_w]; rfl)
          replace hit : Hid (ItS wy g gi S (itV S a)) := hit.out.frm OK.out (Frm.of_below hb3.out) (fun b hb => by cases hb) (by simp)
          replace hfr : Hid (Frm [gi] w9 wy) := hfr.out.andBelow hb3.out
          clear h3 ho3 hb3 hs2
          refine one_ (i := 7) (N := some 61) #[tt,tt,tt,tt,tt,tt,tt,tt] rfl rfl (by kernel_rfl) (by decide) (fun K hK => ?_); refine goes_ Try.func47 (by kernel_rfl) rfl #[.pointer (some ⟨gi, 0, none⟩), .slice A3 (keyB k v).length c3] (by rfl) rfl rfl (by (try simp only [List.map_toArray, List.map_cons, List.map_nil]); first | done | rfl) ?_
          refine (seekBack_it g gi _ S (itV S a) A3 (keyB k v).length c3 k v wy hit.out OK.out HF.out hs3.out hc3 HKB.out (by rw [keyB_len]; omega)).mono ?_
          rintro E wz ⟨rfl, hit4, hf4⟩; refine ⟨_, rfl, ?_⟩
          have hng : g10 ∉ [gi] := fun hm => HG10.out (List.mem_singleton.1 hm)
          refine hK.out _ _ (⟨cell_frm hHeld.1 hf4 hng, cell_frm hHeld.2 hf4 hng⟩) (fun hHeld => ?_); clear hK K; refine norm_ (a' := ?_) ?_ ?_; rotate_left; (show Act.put _ (some 61) _ = _; simp only [Act.put, List.setIfInBounds_toArray, List.set_cons_zero, List.set_cons_succ, i64_w, i32_w]; rfl)
          have hfz : Hid (Frm [gi] w9 wz) := hfr.out.trans hf4 (fun i hi => .inl hi)
          have hitz : Hid (ItS wz g gi S (backV S k v)) := hit4
          clear hit4 hf4 hit hfr hs3 hHeld
          refine done_ (by kernel_rfl) ?_
          have hitf : Hid (ItS wz g gi S (itV S (backE (putsE l) k v))) := by show ItS _ _ _ _ _; rw [← HNS.out, ← itV_back]; exact hitz.out
          clear hitz
          go_wp2_with fail
          go_meet
          exact ⟨hitf.out, hfz.out⟩
        exact (mvNo HMV.out k0 k1 k4 k5 k2 k3).elim
      case rest =>
        obtain ⟨hit2, hf2⟩ := hcut
        have hfr : Hid (Frm [gi] wr wc) := HF9.out.trans hf2.out (fun i hi => .inl hi)
        have HGL : Hid (∀ i ∈ [gi], i < bz ∨ wr.heap.size ≤ i) := fun i hi => by rw [List.mem_singleton] at hi; subst hi; exact .inl HLT.out.it
        have HSc : Hid (wr.heap.size ≤ wc.heap.size) := hfr.out.size
        clear y0 y1 y2 HX HKx HF9 HIT hf2 HMV hit HG10 HG10E
        obtain ⟨gkO, rfl⟩ : ∃ x, gk = x + 1 := ⟨gk - 1, by have := hf.out; omega⟩
        by_cases hb : 0 ≤ b ∧ b < (S.ns.length : Int)
        · obtain ⟨j, dd, rfl, hd, hv⟩ := itV_in (s := S) hb.1 hb.2
          have HD := Lib.hid hd
          obtain ⟨hko, hnd⟩ := ok_key OK.out hd
          have HE := Lib.hid (OK.out.ent dd (List.mem_of_getElem? hd))
          have HPE : Hid ((putsE l)[j]? = some dd.e) := by show _ = _; rw [← HNS.out, List.getElem?_map, hd]; rfl
          have hitk : Hid (ItS wc g gi S (.pointer (some ⟨dd.blk, 0, none⟩))) := by rw [← hv]; exact hit2.out
          have HV := Lib.hid hv
          have hita : Hid (ItS (wc.alloc (.cells #[.bool false, .slice none 0 0, .int .u64 0, .int .u8 0, .int .u8 0, .int .u64 0, .slice none 0 0] 82)) g gi S (.pointer (some ⟨dd.blk, 0, none⟩))) := hitk.out.frm OK.out (Frm.alloc _ _) (fun b hb => by cases hb) (by simp)
          have hfa : Hid (Frm [gi] wr (wc.alloc (.cells #[.bool false, .slice none 0 0, .int .u64 0, .int .u8 0, .int .u8 0, .int .u64 0, .slice none 0 0] 82))) := hfr.out.andAlloc _
          have HZ : Hid (Blk (wc.alloc (.cells #[.bool false, .slice none 0 0, .int .u64 0, .int .u8 0, .int .u8 0, .int .u64 0, .slice none 0 0] 82)) wc.heap.size 82 [.bool false, .slice none 0 0, .int .u64 0, .int .u8 0, .int .u8 0, .int .u64 0, .slice none 0 0]) := Blk.new wc _ _
          have HG11 : Hid (wr.heap.size ≤ wc.heap.size) := hfr.out.size
          clear hd hv hb hit2 hitk hfr
          go_wp2_with fail
          generalize wc.alloc (.cells #[.bool false, .slice none 0 0, .int .u64 0, .int .u8 0, .int .u8 0, .int .u64 0, .slice none 0 0] 82) = wa at *
          generalize wc.heap.size = g11 at *
          refine (valid_skl g gi S (some ⟨dd.blk, 0, none⟩) true wa (hita.out.it.at_ rfl) (.inr ⟨⟨_, rfl⟩, rfl⟩)).mono ?_
          rintro E w1 ⟨rfl, rfl⟩
          go_wp2_with fail
          refine (key_it g gi _ S j dd wa hita.out OK.out HD.out).mono ?_
          rintro E wk ⟨rfl, nx, rfl⟩
          replace hita : Hid (ItS (wa.drewN nx) g gi S (.pointer (some ⟨dd.blk, 0, none⟩))) := hita.out.drewN nx
          replace hfa : Hid (Frm [gi] wr (wa.drewN nx)) := hfa.out.drewN nx
          replace HZ : Hid (Blk (wa.drewN nx) g11 82 [.bool false, .slice none 0 0, .int .u64 0, .int .u8 0, .int .u8 0, .int .u64 0, .slice none 0 0]) := HZ.out.drewN nx
          generalize wa.drewN nx = wk at *
          have hkl := dd.key_len
          have hks := Lib.hid (nodeKey_sl hita.out.st OK.out j dd HD.out)
          have hkl2 : Hid (dd.key.length - 8 = dd.e.k.length) := by show _ = _; omega
          have hkt : Hid (Sl wk (some ⟨S.gb, dd.ko, none⟩) (dd.key.length - 8) (nums .u8 dd.e.k)) := by
            have := hks.out.take (m := dd.key.length - 8) (by omega)
            rw [hkl2.out] at this ⊢
            rwa [← nums_take, keyB, List.take_left' rfl] at this
          have h8 : 8 ≤ dd.key.length := by omega
          have hcp : dd.key.length ≤ 1048576 - dd.ko := by omega
          have hkn : dd.key.length ≤ 1000000 := by omega
          clear hkl
          go_wp2_with fail
          refine (parseKey_any (some ⟨S.gb, dd.ko, none⟩) dd.key.length (1048576 - dd.ko) wk h8 hcp hkn).mono ?_
          rintro E w1 ⟨rfl, rfl⟩
          go_wp2_with fail
          refine (own_any (some ⟨S.gb, dd.ko, none⟩) (dd.key.length - 8) (1048576 - dd.ko) dd.e.k wk hkt.out (by omega)).mono ?_
          intro E wx h2; obtain ⟨A2, c2, rfl, hc2, hs2, hb2, ho2⟩ := h2.sv
          have hst2 : Hid (SlB bz wx A2 dd.e.k.length) := SlB.of_own ho2.out (Nat.le_trans hbzr.out hfa.out.size)
          replace hita : Hid (ItS wx g gi S (.pointer (some ⟨dd.blk, 0, none⟩))) := hita.out.frm OK.out (Frm.of_below hb2.out) (fun b hb => by cases hb) (by simp)
          replace hfa : Hid (Frm [gi] wr wx) := hfa.out.andBelow hb2.out
          replace HZ : Hid (Blk wx g11 82 [.bool false, .slice none 0 0, .int .u64 0, .int .u8 0, .int .u8 0, .int .u64 0, .slice none 0 0]) := HZ.out.frm (Frm.of_below hb2.out) (by simp)
          clear h2 ho2 hb2 hkt hks
          have hks := Lib.hid (nodeKey_sl hita.out.st OK.out j dd HD.out)
          have hkp := HE.out.kpos
          have hv0' := HE.out.v0
          go_wp2_with fail
          refine (parseTs_any (some ⟨S.gb, dd.ko, none⟩) dd.key.length (1048576 - dd.ko) dd.e.k dd.e.v wx hks.out hcp hkp hkn hv0' HE.out.v1).mono ?_
          rintro E wk2 ⟨rfl, nx2, rfl⟩
          replace hita : Hid (ItS (wx.drewN nx2) g gi S (.pointer (some ⟨dd.blk, 0, none⟩))) := hita.out.drewN nx2
          replace hfa : Hid (Frm [gi] wr (wx.drewN nx2)) := hfa.out.drewN nx2
          replace HZ : Hid (Blk (wx.drewN nx2) g11 82 [.bool false, .slice none 0 0, .int .u64 0, .int .u8 0, .int .u8 0, .int .u64 0, .slice none 0 0]) := HZ.out.drewN nx2
          replace hs2 : Hid (Sl (wx.drewN nx2) A2 dd.e.k.length (nums .u8 dd.e.k)) := hs2.out
          replace hst2 : Hid (SlB bz (wx.drewN nx2) A2 dd.e.k.length) := hst2.out.frm ((Frm.refl [] _).drewN nx2) (fun i hi => by cases hi)
          clear hks
          generalize wx.drewN nx2 = wk2 at *
          go_wp2_with fail
          refine (value_it g gi _ S j dd wk2 hita.out OK.out HD.out).mono ?_
          rintro E wv ⟨A4, c4, rfl, hc4, hs4, hb4, _⟩
          have HS4 := Lib.hid hs4
          replace hita : Hid (ItS wv g gi S (.pointer (some ⟨dd.blk, 0, none⟩))) := hita.out.frm OK.out (Frm.of_below hb4) (fun b hb => by cases hb) (by simp)
          replace hfa : Hid (Frm [gi] wr wv) := hfa.out.andBelow hb4
          replace HZ : Hid (Blk wv g11 82 [.bool false, .slice none 0 0, .int .u64 0, .int .u8 0, .int .u8 0, .int .u64 0, .slice none 0 0]) := HZ.out.frm (Frm.of_below hb4) (by simp)
          replace hs2 : Hid (Sl wv A2 dd.e.k.length (nums .u8 dd.e.k)) := hs2.out.below hb4
          replace hst2 : Hid (SlB bz wv A2 dd.e.k.length) := hst2.out.frm (Frm.of_below hb4) (fun i hi => by cases hi)
          clear hs4 hb4
          have hdl := HE.out.dlen
          go_wp2_with fail
          refine (valueOf_any dd.e.m dd.e.u dd.e.x 0 A4 dd.e.d.length c4 dd.e.d wv HS4.out hc4 (by omega)).mono ?_
          rintro E wf ⟨v7, rfl, ho7, hb7⟩; obtain ⟨A7, c7, hv7, hc7, hs7⟩ := own_sl ho7; subst hv7
          have hst7 : Hid (SlB bz wf A7 dd.e.d.length) := SlB.of_own ho7 (Nat.le_trans hbzr.out hfa.out.size)
          have HS7 := Lib.hid hs7
          replace hita : Hid (ItS wf g gi S (.pointer (some ⟨dd.blk, 0, none⟩))) := hita.out.frm OK.out (Frm.of_below hb7) (fun b hb => by cases hb) (by simp)
          replace hfa : Hid (Frm [gi] wr wf) := hfa.out.andBelow hb7
          replace HZ : Hid (Blk wf g11 82 [.bool false, .slice none 0 0, .int .u64 0, .int .u8 0, .int .u8 0, .int .u64 0, .slice none 0 0]) := HZ.out.frm (Frm.of_below hb7) (by simp)
          replace hs2 : Hid (Sl wf A2 dd.e.k.length (nums .u8 dd.e.k)) := hs2.out.below hb7
          replace hst2 : Hid (SlB bz wf A2 dd.e.k.length) := hst2.out.frm (Frm.of_below hb7) (fun i hi => by cases hi)
          clear ho7 hs7 hb7 HS4
          have z0 := HZ.out.at_ (i := 0) rfl
          have z1 := HZ.out.at_ (i := 1) rfl
          have z2 := HZ.out.at_ (i := 2) rfl
          have z3 := HZ.out.at_ (i := 3) rfl
          have z4 := HZ.out.at_ (i := 4) rfl
          have z5 := HZ.out.at_ (i := 5) rfl
          have z6 := HZ.out.at_ (i := 6) rfl
          have x0 := HZ.out.frozen 0
          have x1 := HZ.out.frozen 1
          have x2 := HZ.out.frozen 2
          have x3 := HZ.out.frozen 3
          have x4 := HZ.out.frozen 4
          have x5 := HZ.out.frozen 5
          have x6 := HZ.out.frozen 6
          go_upto_region 23 with fail
          have HBp : Hid (Blk (((((((wf.setCell ⟨g11, 0, none⟩ (.bool true)).setCell ⟨g11, 1, none⟩ (.slice A2 dd.e.k.length c2)).setCell ⟨g11, 2, none⟩ (.int .u64 dd.e.v)).setCell ⟨g11, 3, none⟩ (.int .u8 dd.e.m)).setCell ⟨g11, 4, none⟩ (.int .u8 dd.e.u)).setCell ⟨g11, 5, none⟩ (.int .u64 dd.e.x)).setCell ⟨g11, 6, none⟩ (.slice A7 dd.e.d.length c7)) g11 82 (PR.cells ⟨true, ⟨A2, dd.e.k.length, c2, A7, dd.e.d.length, c7, dd.e⟩⟩)) := ((((((HZ.out.set_ 0 _).set_ 1 _).set_ 2 _).set_ 3 _).set_ 4 _).set_ 5 _).set_ 6 _
          have hf11 : Hid (Frm [g11] wf (((((((wf.setCell ⟨g11, 0, none⟩ (.bool true)).setCell ⟨g11, 1, none⟩ (.slice A2 dd.e.k.length c2)).setCell ⟨g11, 2, none⟩ (.int .u64 dd.e.v)).setCell ⟨g11, 3, none⟩ (.int .u8 dd.e.m)).setCell ⟨g11, 4, none⟩ (.int .u8 dd.e.u)).setCell ⟨g11, 5, none⟩ (.int .u64 dd.e.x)).setCell ⟨g11, 6, none⟩ (.slice A7 dd.e.d.length c7))) := (((((((Frm.refl [g11] wf).andSet _ _ (.inl (by simp))).andSet _ _ (.inl (by simp))).andSet _ _ (.inl (by simp))).andSet _ _ (.inl (by simp))).andSet _ _ (.inl (by simp))).andSet _ _ (.inl (by simp))).andSet _ _ (.inl (by simp))
          have hfy : Hid (Frm [gi] wr (((((((wf.setCell ⟨g11, 0, none⟩ (.bool true)).setCell ⟨g11, 1, none⟩ (.slice A2 dd.e.k.length c2)).setCell ⟨g11, 2, none⟩ (.int .u64 dd.e.v)).setCell ⟨g11, 3, none⟩ (.int .u8 dd.e.m)).setCell ⟨g11, 4, none⟩ (.int .u8 dd.e.u)).setCell ⟨g11, 5, none⟩ (.int .u64 dd.e.x)).setCell ⟨g11, 6, none⟩ (.slice A7 dd.e.d.length c7))) := ((((((hfa.out.andSet _ _ (.inr HG11.out)).andSet _ _ (.inr HG11.out)).andSet _ _ (.inr HG11.out)).andSet _ _ (.inr HG11.out)).andSet _ _ (.inr HG11.out)).andSet _ _ (.inr HG11.out)).andSet _ _ (.inr HG11.out)
          clear z0 z1 z2 z3 z4 z5 z6 x0 x1 x2 x3 x4 x5 x6
          generalize (((((((wf.setCell ⟨g11, 0, none⟩ (.bool true)).setCell ⟨g11, 1, none⟩ (.slice A2 dd.e.k.length c2)).setCell ⟨g11, 2, none⟩ (.int .u64 dd.e.v)).setCell ⟨g11, 3, none⟩ (.int .u8 dd.e.m)).setCell ⟨g11, 4, none⟩ (.int .u8 dd.e.u)).setCell ⟨g11, 5, none⟩ (.int .u64 dd.e.x)).setCell ⟨g11, 6, none⟩ (.slice A7 dd.e.d.length c7)) = wy at *
          have hity : Hid (ItS wy g gi S (.pointer (some ⟨dd.blk, 0, none⟩))) := hita.out.over OK.out HLT.out (Nat.le_trans hbzr.out HG11.out) hf11.out
          have hply : Hid (PlB bz wy ⟨true, ⟨A2, dd.e.k.length, c2, A7, dd.e.d.length, c7, dd.e⟩⟩) := ⟨⟨hs2.out.over hst2.out HZ.out (by decide) hf11.out, HS7.out.over hst7.out HZ.out (by decide) hf11.out, hc2, hc7⟩, hst2.out.over HZ.out (by decide) hf11.out, hst7.out.over HZ.out (by decide) hf11.out⟩
          clear HZ hita hfa hf11 hs2 HS7 hst2 hst7
          have q0 := HBp.out.at_ (i := 0) rfl
          have q1 := HBp.out.at_ (i := 1) rfl
          have q2 := HBp.out.at_ (i := 2) rfl
          have q3 := HBp.out.at_ (i := 3) rfl
          have q4 := HBp.out.at_ (i := 4) rfl
          have q5 := HBp.out.at_ (i := 5) rfl
          have q6 := HBp.out.at_ (i := 6) rfl
          have HOy := Lib.hid (own_frm hO.out hfy.out HGL.out)
          have HBy : Hid (Below w.heap.size w wy) := hbw.out.trans (hfy.out.below hbw.out.size (fun i hi => by rw [List.mem_singleton] at hi; subst hi; exact HGB.out))
          have hbzy : Hid (bz ≤ wy.heap.size) := Nat.le_trans hbzr.out hfy.out.size
          go_wp2_with (at_builtin; refine wpList_append_pl rfl (.tmp 77) (.tmp 79) rfl bz (.slice A8 i c8) i (flatP ps) rfl (HOy.out.alloc _) _ 1 1 (PR.cells ⟨true, ⟨A2, dd.e.k.length, c2, A7, dd.e.d.length, c7, dd.e⟩⟩) rfl (one_sl wy ⟨true, ⟨A2, dd.e.k.length, c2, A7, dd.e.d.length, c7, dd.e⟩⟩) (PR.one _) (by omega) ?cx ?_; (case cx => rw [World.size_alloc]; have := hbzy.out; omega); intro v80 w3 ho3 hg3 hat3; obtain ⟨A3, c3, hv3, hc3, hs3, hA3⟩ := own_pl ho3; subst hv3; have HO3 := Lib.hid ho3; have HG3 := Lib.hid hg3; clear ho3 hg3 hat3 hs3 hA3)
          go_roundg gkO
          case measure => omega
          case rel =>
            refine ⟨i + 1, c3, (j : Int), A3, ps ++ [⟨true, ⟨A2, dd.e.k.length, c2, A7, dd.e.d.length, c7, dd.e⟩⟩], ats ++ [(j : Int)], rfl, by go_num, by omega, by have := hf.out; show _ = _; omega, ?_, by show _ = _; rw [List.length_append, hpl.out]; rfl, (by exact plN_app (p := ⟨true, ⟨A2, dd.e.k.length, c2, A7, dd.e.d.length, c7, dd.e⟩⟩) hmap.out (plE_in HPE.out).symm), HWK.out, ?_, ?_, ?_, ?_⟩
            · show World.ownsRow _ _ _ _ _ _ _
              rw [flatP_snoc]
              exact HO3.out
            · intro q hq
              rcases List.mem_append.1 hq with h | h
              · exact (((hps.out q h).frm hfy.out HGL.out).frm (Frm.alloc _ _) (fun i hi => by cases hi)).grown (HOy.out.alloc _) HG3.out
              · rw [List.mem_singleton] at h
                subst h
                exact (PlB.frm hply.out (Frm.alloc _ _) (fun i hi => by cases hi)).grown (HOy.out.alloc _) HG3.out
            · show ItS _ _ _ _ _
              rw [HV.out]
              exact (hity.out.frm OK.out (Frm.alloc _ _) (fun b hb => by cases hb) (by simp)).grown OK.out HLT.out (HOy.out.alloc _) HG3.out
            · exact (HBy.out.alloc HBy.out.size _).grown HG3.out (by rw [World.size_alloc]; have := HBy.out.size; omega) (fun k' e => Nat.le_trans (Nat.le_trans HGB.out (Nat.le_of_lt HLT.out.it)) (HOy.out.lt k' e).1)
            · exact Nat.le_trans hbzy.out (Nat.le_trans (Nat.le_trans (Nat.le_succ _) (Nat.le_of_eq (World.size_alloc _ _).symm)) HG3.out.size)
        · have hv := itV_out hb
          have HPE : Hid (plE (putsE l) b = (false, zeroE)) := plE_out (by rw [← HLE.out]; exact hb)
          have hitk : Hid (ItS wc g gi S (.pointer none)) := by rw [← hv]; exact hit2.out
          have HV := Lib.hid hv
          have hity : Hid (ItS (wc.alloc (.cells #[.bool false, .slice none 0 0, .int .u64 0, .int .u8 0, .int .u8 0, .int .u64 0, .slice none 0 0] 82)) g gi S (.pointer none)) := hitk.out.frm OK.out (Frm.alloc _ _) (fun b hb => by cases hb) (by simp)
          have hfy : Hid (Frm [gi] wr (wc.alloc (.cells #[.bool false, .slice none 0 0, .int .u64 0, .int .u8 0, .int .u8 0, .int .u64 0, .slice none 0 0] 82))) := hfr.out.andAlloc _
          have HBp : Hid (Blk (wc.alloc (.cells #[.bool false, .slice none 0 0, .int .u64 0, .int .u8 0, .int .u8 0, .int .u64 0, .slice none 0 0] 82)) wc.heap.size 82 (PR.cells ⟨false, zeroR⟩)) := Blk.new wc _ _
          clear hv hb hit2 hitk hfr
          go_wp2_with fail
          generalize wc.alloc (.cells #[.bool false, .slice none 0 0, .int .u64 0, .int .u8 0, .int .u8 0, .int .u64 0, .slice none 0 0] 82) = wy at *
          generalize wc.heap.size = g11 at *
          refine (valid_skl g gi S none false wy (hity.out.it.at_ rfl) (.inl ⟨rfl, rfl⟩)).mono ?_
          rintro E w1 ⟨rfl, rfl⟩
          have q0 := HBp.out.at_ (i := 0) rfl
          have q1 := HBp.out.at_ (i := 1) rfl
          have q2 := HBp.out.at_ (i := 2) rfl
          have q3 := HBp.out.at_ (i := 3) rfl
          have q4 := HBp.out.at_ (i := 4) rfl
          have q5 := HBp.out.at_ (i := 5) rfl
          have q6 := HBp.out.at_ (i := 6) rfl
          have HOy := Lib.hid (own_frm hO.out hfy.out HGL.out)
          have HBy : Hid (Below w.heap.size w wy) := hbw.out.trans (hfy.out.below hbw.out.size (fun i hi => by rw [List.mem_singleton] at hi; subst hi; exact HGB.out))
          have hbzy : Hid (bz ≤ wy.heap.size) := Nat.le_trans hbzr.out hfy.out.size
          go_wp2_with (at_builtin; refine wpList_append_pl rfl (.tmp 77) (.tmp 79) rfl bz (.slice A8 i c8) i (flatP ps) rfl (HOy.out.alloc _) _ 1 1 (PR.cells ⟨false, zeroR⟩) rfl (one_sl wy ⟨false, zeroR⟩) (PR.one _) (by omega) ?cx ?_; (case cx => rw [World.size_alloc]; have := hbzy.out; omega); intro v80 w3 ho3 hg3 hat3; obtain ⟨A3, c3, hv3, hc3, hs3, hA3⟩ := own_pl ho3; subst hv3; have HO3 := Lib.hid ho3; have HG3 := Lib.hid hg3; clear ho3 hg3 hat3 hs3 hA3)
          go_roundg gkO
          case measure => omega
          case rel =>
            refine ⟨i + 1, c3, b, A3, ps ++ [⟨false, zeroR⟩], ats ++ [b], rfl, by go_num, by omega, by have := hf.out; show _ = _; omega, ?_, by show _ = _; rw [List.length_append, hpl.out]; rfl, (by exact plN_app (p := ⟨false, zeroR⟩) hmap.out HPE.out.symm), HWK.out, ?_, ?_, ?_, ?_⟩
            · show World.ownsRow _ _ _ _ _ _ _
              rw [flatP_snoc]
              exact HO3.out
            · intro q hq
              rcases List.mem_append.1 hq with h | h
              · exact (((hps.out q h).frm hfy.out HGL.out).frm (Frm.alloc _ _) (fun i hi => by cases hi)).grown (HOy.out.alloc _) HG3.out
              · rw [List.mem_singleton] at h
                subst h
                exact (PlB.frm (PlB.zero bz wy) (Frm.alloc _ _) (fun i hi => by cases hi)).grown (HOy.out.alloc _) HG3.out
            · show ItS _ _ _ _ _
              rw [HV.out]
              exact (hity.out.frm OK.out (Frm.alloc _ _) (fun b hb => by cases hb) (by simp)).grown OK.out HLT.out (HOy.out.alloc _) HG3.out
            · exact (HBy.out.alloc HBy.out.size _).grown HG3.out (by rw [World.size_alloc]; have := HBy.out.size; omega) (fun k' e => Nat.le_trans (Nat.le_trans HGB.out (Nat.le_of_lt HLT.out.it)) (HOy.out.lt k' e).1)
            · exact Nat.le_trans hbzy.out (Nat.le_trans (Nat.le_trans (Nat.le_succ _) (Nat.le_of_eq (World.size_alloc _ _).symm)) HG3.out.size)
    · have hie : i = ns := by omega
      have HIE := Lib.hid hie
      clear hie
      have hge : ¬ ((i : Int) < (ns : Int)) := by omega
      have hfin : Hid (ats = atz) := by
        have := walkE_end hwk.out (by rw [List.length_map, HSL.out, HIE.out]; exact Nat.le_refl _)
        rw [HW.out] at this
        injection this with this
        exact this.symm
      clear hwk
      go_wp2_with fail
      refine (close_it g gi S (itV S a) wr hit.out HREF.out).mono ?_
      rintro E w3 ⟨rfl, hf3⟩
      have hg3 : ∀ i ∈ [g], i < bz ∨ wr.heap.size ≤ i := fun i hi => by rw [List.mem_singleton] at hi; subst hi; exact .inl (HLT.out.blk _ (by simp [blksOf]))
      have HO3 := Lib.hid (own_frm hO.out hf3 hg3)
      have HP3 : Hid (∀ p ∈ ps, PlB bz w3 p) := fun p hp => (hps.out p hp).frm hf3 hg3
      have HB3 : Hid (Below w.heap.size w w3) := hbw.out.trans (hf3.below hbw.out.size (fun i hi => by rw [List.mem_singleton] at hi; subst hi; exact OK.out.base _ (by simp)))
      obtain ⟨A9, c9, hv9, hc9, hs9, hA9⟩ := own_pl HO3.out
      injection hv9 with hv1 hv2 hv3
      subst hv1
      subst hv3
      have HS9 := Lib.hid hs9
      clear hs9 hA9 hO hf3 hg3 hv2
      go_wp2
      go_ret
      refine ⟨A8, c8, ps, ?_, ⟨?_, fun p hp => (HP3.out p hp).in_⟩, by rw [← hfin.out]; exact hmap.out, by rw [hpl.out]; exact hc9, HB3.out⟩
      · show Ending.returned (.slice A8 i c8) = _
        rw [hpl.out]
      · rw [hpl.out]
        exact HS9.out
end Go.Proofs.Ytanmgkpgfmkobaa
