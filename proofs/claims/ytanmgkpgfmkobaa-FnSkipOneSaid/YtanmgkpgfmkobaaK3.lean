/- impl.run: an iterator of one direction takes steps. -/
import Derived.Test.YtanmgkpgfmkobaaK2
namespace Go.Proofs.Ytanmgkpgfmkobaa
open Go.Proofs.YtanmgkpgfmkobaaW.PrintLast
open Go.RowKit
set_option linter.unusedVariables false
set_option linter.unusedSimpArgs false
/-- A step of one direction as one of both. -/
def kap (back : Bool) (kd : Int) : Int := if kd = 0 then (bif back then 1 else 0) else if kd = 2 then (bif back then 5 else 4) else if kd = 1 then (bif back then 3 else 2) else 9
def uniE (back : Bool) (s : StE) : StE := ⟨kap back s.kind, s.k, s.v⟩
theorem mu0 {l : List Ent} {a b v : Int} {k : List Int} {back : Bool} (h : moveE l a (uniE back ⟨0, k, v⟩) = some b) : b = bif back then (l.length : Int) - 1 else ((0 : Nat) : Int) := by
  cases back
  · exact mv0 h
  · exact mv1 h
theorem mu1 {l : List Ent} {a b v : Int} {k : List Int} {back : Bool} (h : moveE l a (uniE back ⟨1, k, v⟩) = some b) : 0 ≤ a ∧ a < l.length ∧ b = bif back then a - 1 else a + 1 := by
  cases back
  · exact mv2 h
  · exact mv3 h
theorem mu2 {l : List Ent} {a b v : Int} {k : List Int} {back : Bool} (h : moveE l a (uniE back ⟨2, k, v⟩) = some b) : b = bif back then backE l k v else ((posE l k v : Nat) : Int) := by
  cases back
  · exact mv4 h
  · exact mv5 h
theorem kap_no (back : Bool) {kd : Int} (k0 : ¬ kd = 0) (k1 : ¬ kd = 1) (k2 : ¬ kd = 2) : kap back kd = 9 := by
  unfold kap
  rw [if_neg k0, if_neg k2, if_neg k1]
theorem muNo {l : List Ent} {a b v kd : Int} {k : List Int} {back : Bool} (h : moveE l a (uniE back ⟨kd, k, v⟩) = some b) (k0 : ¬ kd = 0) (k1 : ¬ kd = 1) (k2 : ¬ kd = 2) : False := by
  unfold uniE at h
  rw [show kap back (StE.mk kd k v).kind = 9 from kap_no back k0 k1 k2] at h
  exact mvNo h (by decide) (by decide) (by decide) (by decide) (by decide) (by decide)
theorem PlB.mono {B C : Nat} {w : World} {p : PR} (h : PlB C w p) (hB : B ≤ C) : PlB B w p := ⟨h.in_, fun b o e hn => ⟨Nat.le_trans hB (h.key b o e hn).1, (h.key b o e hn).2⟩, fun b o e hn => ⟨Nat.le_trans hB (h.dat b o e hn).1, (h.dat b o e hn).2⟩⟩
def RunQ (l : List Ent) (ats : List Int) (g gi : Nat) (w : World) (E : Ending) (w' : World) : Prop := ∃ A c ps, E = .returned (.slice A ps.length c) ∧ Prs w' A ps ∧ ps.map PR.pl = ats.map (plE l) ∧ ps.length ≤ c ∧ Frm [gi, g] w w'
set_option maxRecDepth 100000 in
set_option maxHeartbeats 4000000 in
theorem run_uni (gu g gi B ns cs : Nat) (AS : Option Addr) (S : SkA) (back : Bool) (l : List Ent) (ss : List SR) (atz : List Int) (w0 w : World) (h : UniS w gu g gi S (itV S (-1)) back) (ok : SkOk g B S) (hf : Full S) (hnl : S.ns.map Nd.e = l) (hr : S.ref = 2)
    (hS : Srs w0 AS ss) (hb0 : Below w0.heap.size w0 w) (hgi : w0.heap.size ≤ gi) (hsl : ss.length = ns) (hns : ns ≤ 1000000) (hsk : ∀ s ∈ ss, StOk s) (hw : walkE l (-1) (ss.map fun s => uniE back s.s) = some atz) :
    Calls Try.prog 63 #[.iface 112 (.pointer (some ⟨gu, 0, none⟩)), .slice AS ns cs] w (RunQ l atz g gi w) := by
  have HS := Lib.hid hS
  have HSL := Lib.hid hsl
  have HSK := Lib.hid hsk
  have HW := Lib.hid hw
  have HIT0 := Lib.hid h
  have OK := Lib.hid ok
  have HF := Lib.hid hf
  have HNS := Lib.hid hnl
  have HREF := Lib.hid hr
  have HLT := Lib.hid (h.it.below ok)
  have HGU : Hid (gu < w.heap.size) := h.un.lt
  have HB0 := Lib.hid hb0
  have HGI := Lib.hid hgi
  clear hb0 hgi hS hsl hsk hw h ok hf hnl hr
  go_enter Try.func63, Try.ntmps63
  go_wp2
  go_loopg [5, 11] ns (fun f v5 v11 wr => ∃ (i c8 : Nat) (a : Int) (A8 : Option Addr) (ps : List PR) (ats : List Int), v5 = .slice A8 i c8 ∧ v11 = .int .i64 i ∧ i ≤ ns ∧ Hid (i + f = ns) ∧ Hid (wr.ownsRow w.heap.size 82 7 (.slice A8 i c8) i (flatP ps)) ∧ Hid (ps.length = i)
    ∧ Hid (ps.map PR.pl = ats.map (plE l)) ∧ Hid (walkE l (-1) (ss.map fun s => uniE back s.s) = (walkE l a ((ss.map fun s => uniE back s.s).drop i)).map fun m => ats ++ m) ∧ Hid (∀ p ∈ ps, PlB w.heap.size wr p) ∧ Hid (UniS wr gu g gi S (itV S a) back) ∧ Hid (Frm [gi] w wr))
  case atStart =>
    refine ⟨0, 0, -1, _, [], [], rfl, rfl, Nat.zero_le _, by simp [Hid], World.ownsRow_made w #[] 0 (Nat.le_refl _) (by simp [maxLen]) rfl, rfl, rfl, ?_, fun p hp => (by cases hp), HIT0.out.alloc OK.out _, (Frm.refl _ _).andAlloc _⟩
    show _ = (walkE _ _ _).map _
    simp
  case round =>
    clear HIT0
    obtain ⟨i, c8, a, A8, ps, ats, rfl, rfl, hin, hf, hO, hpl, hmap, hwk, hps, hit, hbw⟩ := hrel
    have hSr := Lib.hid (HS.out.below (HB0.out.trans (hbw.out.below HB0.out.size (fun x hx => by rw [List.mem_singleton] at hx; subst hx; exact HGI.out))))
    by_cases hlt : i < ns
    · obtain ⟨q, hq⟩ : ∃ q, ss[i]? = some q := ⟨_, List.getElem?_eq_getElem (by have := HSL.out; omega)⟩
      have HQ := Lib.hid hq
      obtain ⟨gs, os, hAe⟩ := hSr.out.addr (by have := HSL.out; omega)
      subst hAe
      have ca : ∀ j v, q.cells[j]? = some v → wr.cell? ⟨gs, os + i * 3 + j, none⟩ = some v := fun j v hj => hSr.out.at_ hq hj
      have b0 := ca 0 _ rfl
      have b1 := ca 1 _ rfl
      have b2 := ca 2 _ rfl
      rw [Nat.add_zero] at b0
      have hqi := hSr.out.each q (List.mem_of_getElem? hq)
      have hnk := SR.nk_eq hqi
      have HQI := Lib.hid hqi
      have HQN := Lib.hid (HSK.out q (List.mem_of_getElem? hq))
      clear hq ca hqi hSr
      obtain ⟨KS, nk, ck, ⟨kd, k, v⟩⟩ := q
      replace hnk : k.length = nk := hnk
      subst hnk
      replace HQI : Hid (Sl wr KS k.length (nums .u8 k)) := HQI.out.key
      have HKB : Hid (Byt (keyB k v)) := bytKey HQN.out.kb HQN.out.v0 HQN.out.v1
      have hv0 : 0 ≤ v := HQN.out.v0
      have hv1 : Hid (v ≤ 18446744073709551615) := HQN.out.v1
      have hk1000 : k.length ≤ 900 := HQN.out.nk
      replace HQ : Hid (ss[i]? = some ⟨KS, k.length, ck, ⟨kd, k, v⟩⟩) := HQ.out
      replace b0 : wr.cell? ⟨gs, os + i * 3, none⟩ = some (.int .i64 kd) := b0
      replace b1 : wr.cell? ⟨gs, os + i * 3 + 1, none⟩ = some (.slice KS k.length ck) := b1
      replace b2 : wr.cell? ⟨gs, os + i * 3 + 2, none⟩ = some (.int .u64 v) := b2
      have HST : Hid ((ss.map fun s => uniE back s.s)[i]? = some (uniE back ⟨kd, k, v⟩)) := by show _ = _; rw [List.getElem?_map, HQ.out]; rfl
      obtain ⟨b, hb⟩ : ∃ b, moveE l a (uniE back ⟨kd, k, v⟩) = some b := by
        cases hmv : moveE l a (uniE back ⟨kd, k, v⟩) with
        | some b => exact ⟨b, rfl⟩
        | none =>
          have := walkE_no hwk.out HST.out hmv
          rw [HW.out] at this
          cases this
      have HWK := Lib.hid (walkE_on hwk.out HST.out hb)
      have HLE : Hid (S.ns.length = l.length) := by show _ = _; rw [← HNS.out, List.length_map]
      have HMV := Lib.hid hb
      have HX : Hid (Blk (wr.alloc (.cells #[.int .i64 kd, .slice KS k.length ck, .int .u64 v] 78)) wr.heap.size 78 [.int .i64 kd, .slice KS k.length ck, .int .u64 v]) := Blk.new wr _ _
      have HIT : Hid (UniS (wr.alloc (.cells #[.int .i64 kd, .slice KS k.length ck, .int .u64 v] 78)) gu g gi S (itV S a) back) := hit.out.alloc OK.out _
      have HKx : Hid (Sl (wr.alloc (.cells #[.int .i64 kd, .slice KS k.length ck, .int .u64 v] 78)) KS k.length (nums .u8 k)) := HQI.out.alloc _
      have HF9 : Hid (Frm [gi] wr (wr.alloc (.cells #[.int .i64 kd, .slice KS k.length ck, .int .u64 v] 78))) := (Frm.refl _ _).andAlloc _
      have HG10 : Hid (wr.heap.size ≠ gi) := by have := hit.out.it.it.lt; show _ ≠ _; omega
      clear hb hwk HST HQN HQI
      go_upto_block 2 with fail
      generalize wr.alloc (.cells #[.int .i64 kd, .slice KS k.length ck, .int .u64 v] 78) = w9 at *
      obtain ⟨g10, hg10⟩ : ∃ x, x = wr.heap.size := ⟨_, rfl⟩
      rw [← hg10] at HX HG10 ⊢
      clear hg10 b0 b1 b2 HQ
      have y0 := HX.out.at_ (i := 0) rfl
      have y1 := HX.out.at_ (i := 1) rfl
      have y2 := HX.out.at_ (i := 2) rfl
      go_cut [] (fun wx => Hid (UniS wx gu g gi S (itV S b) back) ∧ Hid (Frm [gi] w9 wx))
      case first =>
        by_cases k0 : kd = 0
        · subst k0
          obtain rfl := mu0 HMV.out
          go_wp2_with fail
          refine (uRewind gu g gi B S back w9 HIT.out OK.out HF.out).mono ?_
          rintro E wx ⟨rfl, hit2, hf2⟩
          rw [HLE.out] at hit2
          have h2 := Lib.hid (And.intro hit2 hf2)
          clear hit2 hf2
          go_wp2_with fail
          go_meet
          exact ⟨h2.out.1, h2.out.2⟩
        have f0 : (kd == 0) = false := by simp [k0]
        by_cases k1 : kd = 1
        · subst k1
          obtain ⟨ha0, ha1, hbe⟩ := mu1 HMV.out
          obtain ⟨j, dd, rfl, hd, hv⟩ := itV_in (s := S) ha0 (by rw [HLE.out]; exact ha1)
          have HD := Lib.hid hd
          have HBE : Hid ((bif back then (j : Int) - 1 else ((j + 1 : Nat) : Int)) = b) := by show _ = _; rw [hbe]; cases back <;> rfl
          replace HIT : Hid (UniS w9 gu g gi S (.pointer (some ⟨dd.blk, 0, none⟩)) back) := by rw [← hv]; exact HIT.out
          clear f0 ha0 ha1 hd hv hbe
          go_wp2_with fail
          refine (uNext gu g gi B S back j dd w9 HIT.out OK.out HF.out HD.out).mono ?_
          rintro E wx ⟨rfl, hit2, hf2⟩
          rw [HBE.out] at hit2
          have h2 := Lib.hid (And.intro hit2 hf2)
          clear hit2 hf2
          go_wp2_with fail
          go_meet
          exact ⟨h2.out.1, h2.out.2⟩
        have f1 : (kd == 1) = false := by simp [k1]
        by_cases k2 : kd = 2
        · subst k2
          obtain rfl := mu2 HMV.out
          clear f0 f1
          go_wp2_with fail
          refine start_ (n := 11) (S := fun w' => w'.cell? ⟨g10, 1, none⟩ = some (.slice KS k.length ck) ∧ w'.cell? ⟨g10, 2, none⟩ = some (.int .u64 v)) (ds := []) #[ff,ff,ff,ff,ff,ff,ff,ff,ff,ff,ff] (by kernel_rfl) rfl rfl (⟨y1, y2⟩) (fun hHeld => ?_)
          have hit : Hid (UniS w9.drew gu g gi S (itV S a) back) := HIT.out.drewN 1
          have hks : Hid (Sl w9.drew KS k.length (nums .u8 k)) := HKx.out
          have hfr : Hid (Frm [gi] w9 w9.drew) := (Frm.refl _ _).drew
          clear y0 y1 y2
          generalize w9.drew = wd at *
          refine pure_ (i := 0) (N := some 27) (v := ?_) (a' := ?_) #[tt,ff,ff,ff,ff,ff,ff,ff,ff,ff,ff] rfl rfl (by kernel_rfl) (fun _ _ _ h => h) (Or.inl ⟨by rfl, ?_⟩) ?_ ?_; rotate_left; (intro w'; go_simp; with_reducible rfl); rotate_left; (simp only [Act.put, List.setIfInBounds_toArray, List.set_cons_zero, List.set_cons_succ, i64_w, i32_w]; rfl)
          refine pure_ (i := 1) (N := some 28) (v := ?_) (a' := ?_) #[tt,tt,ff,ff,ff,ff,ff,ff,ff,ff,ff] rfl rfl (by kernel_rfl) (fun _ _ _ h => h) (Or.inl ⟨by rfl, ?_⟩) ?_ ?_; rotate_left; (intro w'; go_simp; with_reducible rfl); rotate_left; (simp only [Act.put, List.setIfInBounds_toArray, List.set_cons_zero, List.set_cons_succ, i64_w, i32_w]; rfl)
          refine take_ (i := 2) (N := some 29) (v := ?_) (a' := ?_) #[tt,tt,tt,ff,ff,ff,ff,ff,ff,ff,ff] rfl rfl (by kernel_rfl) (fun _ _ _ h => h) (Or.inl ⟨by rfl, ?_⟩) hHeld ?_ ?_; rotate_left; (rintro w' ⟨h0, h1⟩; go_simp; with_reducible rfl); rotate_left; (simp only [Act.put, List.setIfInBounds_toArray, List.set_cons_zero, List.set_cons_succ, i64_w, i32_w]; rfl)
          refine pure_ (i := 4) (N := some 31) (v := ?_) (a' := ?_) #[tt,tt,tt,ff,tt,ff,ff,ff,ff,ff,ff] rfl rfl (by kernel_rfl) (fun _ _ _ h => h) (Or.inl ⟨by rfl, ?_⟩) ?_ ?_; rotate_left; (intro w'; go_simp; with_reducible rfl); rotate_left; (simp only [Act.put, List.setIfInBounds_toArray, List.set_cons_zero, List.set_cons_succ, i64_w, i32_w]; rfl)
          refine take_ (i := 5) (N := some 32) (v := ?_) (a' := ?_) #[tt,tt,tt,ff,tt,tt,ff,ff,ff,ff,ff] rfl rfl (by kernel_rfl) (fun _ _ _ h => h) (Or.inl ⟨by rfl, ?_⟩) hHeld ?_ ?_; rotate_left; (rintro w' ⟨h0, h1⟩; go_simp; with_reducible rfl); rotate_left; (simp only [Act.put, List.setIfInBounds_toArray, List.set_cons_zero, List.set_cons_succ, i64_w, i32_w]; rfl)
          refine pure_ (i := 7) (N := some 34) (v := .func (.method "Seek") #[.iface 112 (.pointer (some ⟨gu, 0, none⟩))] #[]) (a' := ?_) #[tt,tt,tt,ff,tt,tt,ff,tt,ff,ff,ff] rfl rfl (by kernel_rfl) (fun _ _ _ h => h) (Or.inl ⟨by rfl, (by intro w_; kernel_rfl)⟩) ?_ ?_; rotate_left; (simp only [Act.put, List.setIfInBounds_toArray, List.set_cons_zero, List.set_cons_succ, i64_w, i32_w]; rfl)
          refine pure_ (i := 8) (N := some 35) (v := .func (.method "Seek") #[.iface 112 (.pointer (some ⟨gu, 0, none⟩))] #[]) (a' := ?_) #[tt,tt,tt,ff,tt,tt,ff,tt,tt,ff,ff] rfl rfl (by kernel_rfl) (fun _ _ _ h => h) (Or.inl ⟨by rfl, (by intro w_; kernel_rfl)⟩) ?_ ?_; rotate_left; (simp only [Act.put, List.setIfInBounds_toArray, List.set_cons_zero, List.set_cons_succ, i64_w, i32_w]; rfl)
          refine pure_ (i := 9) (N := some 36) (v := ?_) (a' := ?_) #[tt,tt,tt,ff,tt,tt,ff,tt,tt,tt,ff] rfl rfl (by kernel_rfl) (fun _ _ _ h => h) (Or.inl ⟨by rfl, ?_⟩) ?_ ?_; rotate_left; (intro w'; go_simp; with_reducible rfl); rotate_left; (simp only [Act.put, List.setIfInBounds_toArray, List.set_cons_zero, List.set_cons_succ, i64_w, i32_w]; rfl)
          refine one_ (i := 3) (N := some 30) #[tt,tt,tt,tt,tt,tt,ff,tt,tt,tt,ff] rfl rfl (by kernel_rfl) (by decide) (fun K hK => ?_); refine goes_ Try.func36 (by kernel_rfl) rfl #[.slice KS k.length ck] (by rfl) rfl rfl (by (try simp only [List.map_toArray, List.map_cons, List.map_nil]); first | done | rfl) ?_
          refine (own_any KS k.length ck k wd hks.out (by omega)).mono ?_
          intro E wx h2; obtain ⟨A2, c2, rfl, hc2, hs2, hb2, ho2⟩ := h2.sv; refine ⟨_, rfl, ?_⟩
          refine hK.out _ _ (⟨cell_bel hHeld.1 hb2.out, cell_bel hHeld.2 hb2.out⟩) (fun hHeld => ?_); clear hK K; refine norm_ (a' := ?_) ?_ ?_; rotate_left; (show Act.put _ (some 30) _ = _; simp only [Act.put, List.setIfInBounds_toArray, List.set_cons_zero, List.set_cons_succ, i64_w, i32_w]; rfl)
          replace hit : Hid (UniS wx gu g gi S (itV S a) back) := hit.out.bel OK.out hb2.out
          replace hfr : Hid (Frm [gi] w9 wx) := hfr.out.andBelow hb2.out
          clear h2 ho2 hb2 hks
          refine one_ (i := 6) (N := some 33) #[tt,tt,tt,tt,tt,tt,tt,tt,tt,tt,ff] rfl rfl (by kernel_rfl) (by decide) (fun K hK => ?_); refine goes_ Try.func35 (by kernel_rfl) rfl #[.slice A2 k.length c2, .int .u64 v] (by rfl) rfl rfl (by (try simp only [List.map_toArray, List.map_cons, List.map_nil]); first | done | rfl) ?_
          refine (keyWithTs_any A2 k.length c2 k v wx hs2.out (by omega) hv0 hv1).mono ?_
          intro E wy h3; obtain ⟨A3, c3, rfl, hc3, hs3, hb3, ho3⟩ := h3.sv; refine ⟨_, rfl, ?_⟩
          refine hK.out _ _ (⟨cell_bel hHeld.1 hb3.out, cell_bel hHeld.2 hb3.out⟩) (fun hHeld => ?_); clear hK K; refine norm_ (a' := ?_) ?_ ?_; rotate_left; (show Act.put _ (some 33) _ = _; simp only [Act.put, List.setIfInBounds_toArray, List.set_cons_zero, List.set_cons_succ, i64_w, i32_w]; rfl)
          replace hit : Hid (UniS wy gu g gi S (itV S a) back) := hit.out.bel OK.out hb3.out
          replace hfr : Hid (Frm [gi] w9 wy) := hfr.out.andBelow hb3.out
          clear h3 ho3 hb3 hs2
          refine one_ (i := 10) (N := some 37) #[tt,tt,tt,tt,tt,tt,tt,tt,tt,tt,tt] rfl rfl (by kernel_rfl) (by decide) (fun K hK => ?_); refine call_ 183 #[.pointer (some ⟨gu, 0, none⟩), .slice A3 (keyB k v).length c3] (by rfl) rfl (by kernel_rfl) ?_
          refine (uSeek gu g gi B S back A3 (keyB k v).length c3 k v wy hit.out OK.out HF.out hs3.out hc3 HKB.out (by rw [keyB_len]; omega)).mono ?_
          rintro E wz ⟨rfl, hit4, hf4⟩; refine ⟨_, rfl, ?_⟩
          have hng : g10 ∉ [gi] := fun hm => HG10.out (List.mem_singleton.1 hm)
          refine hK.out _ _ (⟨cell_frm hHeld.1 hf4 hng, cell_frm hHeld.2 hf4 hng⟩) (fun hHeld => ?_); clear hK K; refine norm_ (a' := ?_) ?_ ?_; rotate_left; (show Act.put _ (some 37) _ = _; simp only [Act.put, List.setIfInBounds_toArray, List.set_cons_zero, List.set_cons_succ, i64_w, i32_w]; rfl)
          have hfz : Hid (Frm [gi] w9 wz) := hfr.out.trans hf4 (fun i hi => .inl hi)
          have hitf : Hid (UniS wz gu g gi S (itV S (bif back then backE l k v else ((posE l k v : Nat) : Int))) back) := by rw [HNS.out] at hit4; exact hit4
          clear hit4 hf4 hit hfr hs3 hHeld
          refine done_ (by kernel_rfl) ?_
          go_wp2_with fail
          go_meet
          exact ⟨hitf.out, hfz.out⟩
        exact (muNo HMV.out k0 k1 k2).elim
      case rest =>
        obtain ⟨hit2, hf2⟩ := hcut
        have hfc : Hid (Frm [gi] wr wc) := HF9.out.trans hf2.out (fun i hi => .inl hi)
        have HGL : Hid (∀ i ∈ [gi], i < w.heap.size ∨ wr.heap.size ≤ i) := fun i hi => by rw [List.mem_singleton] at hi; subst hi; exact .inl HLT.out.it
        clear y0 y1 y2 HX HKx HF9 HIT hf2 HMV hit HG10
        obtain ⟨gkO, rfl⟩ : ∃ x, gk = x + 1 := ⟨gk - 1, by have := hf.out; omega⟩
        go_wp2_with fail
        refine (placeOf_any gu g gi B S back b wc hit2.out OK.out).mono ?_
        rintro E wy ⟨⟨pok, ⟨Ak2, nk2, ck2, Ad2, nd2, cd2, e2⟩⟩, hE, hpp, hpb, hby⟩
        replace hE : E = .returned (.agg #[.bool pok, .slice Ak2 nk2 ck2, .int .u64 e2.v, .int .u8 e2.m, .int .u8 e2.u, .int .u64 e2.x, .slice Ad2 nd2 cd2]) := hE
        subst hE
        rw [HNS.out] at hpp
        have HPP := Lib.hid hpp
        have hfy : Hid (Frm [gi] wr wy) := hfc.out.andBelow hby
        have hwz : Hid (w.heap.size ≤ wr.heap.size) := hbw.out.size
        have HPB : Hid (PlB w.heap.size wy ⟨pok, ⟨Ak2, nk2, ck2, Ad2, nd2, cd2, e2⟩⟩) := hpb.mono (Nat.le_trans hwz.out hfc.out.size)
        have hity : Hid (UniS wy gu g gi S (itV S b) back) := hit2.out.bel OK.out hby
        have HOy := Lib.hid (own_frm hO.out hfy.out HGL.out)
        have hbzy : Hid (w.heap.size ≤ wy.heap.size) := Nat.le_trans hwz.out hfy.out.size
        clear hpp hpb hby hit2 hfc
        go_wp2_with (at_builtin; refine wpList_append_pl rfl (.tmp 38) (.tmp 41) rfl w.heap.size (.slice A8 i c8) i (flatP ps) rfl (HOy.out.alloc _) _ 1 1 (PR.cells ⟨pok, ⟨Ak2, nk2, ck2, Ad2, nd2, cd2, e2⟩⟩) rfl (one_sl wy ⟨pok, ⟨Ak2, nk2, ck2, Ad2, nd2, cd2, e2⟩⟩) (PR.one _) (by omega) ?cx ?_; (case cx => rw [World.size_alloc]; have := hbzy.out; omega); intro v80 w3 ho3 hg3 hat3; obtain ⟨A3, c3, hv3, hc3, hs3, hA3⟩ := own_pl ho3; subst hv3; have HO3 := Lib.hid ho3; have HG3 := Lib.hid hg3; clear ho3 hg3 hat3 hs3 hA3)
        have HOYA := Lib.hid (HOy.out.alloc (plObj ⟨pok, ⟨Ak2, nk2, ck2, Ad2, nd2, cd2, e2⟩⟩))
        have HRW : Hid (∀ x ∈ (Value.slice A8 i c8).ownBlock.toList, w.heap.size ≤ x) := fun x hx => (HOYA.out.lt x (show (Value.slice A8 i c8).ownBlock = some x from Option.mem_toList.1 hx)).1
        have HFA : Hid (Frm [gi] w w3) := (hbw.out.trans ((hfy.out).andAlloc (plObj ⟨pok, ⟨Ak2, nk2, ck2, Ad2, nd2, cd2, e2⟩⟩)) (fun x hx => .inl hx)).trans (frm_row HG3.out) (fun x hx => .inr (HRW.out x hx))
        go_roundg gkO
        case measure => omega
        case rel =>
          refine ⟨i + 1, c3, b, A3, ps ++ [⟨pok, ⟨Ak2, nk2, ck2, Ad2, nd2, cd2, e2⟩⟩], ats ++ [b], rfl, by go_num, by omega, by have := hf.out; show _ = _; omega, ?_, by show _ = _; rw [List.length_append, hpl.out]; rfl, (by exact plN_app (p := ⟨pok, ⟨Ak2, nk2, ck2, Ad2, nd2, cd2, e2⟩⟩) hmap.out HPP.out), HWK.out, ?_, ?_, HFA.out⟩
          · show World.ownsRow _ _ _ _ _ _ _
            rw [flatP_snoc]
            exact HO3.out
          · intro q hq
            rcases List.mem_append.1 hq with h | h
            · exact (((hps.out q h).frm hfy.out HGL.out).frm (Frm.alloc _ _) (fun i hi => by cases hi)).grown HOYA.out HG3.out
            · rw [List.mem_singleton] at h
              subst h
              exact (PlB.frm HPB.out (Frm.alloc _ _) (fun i hi => by cases hi)).grown HOYA.out HG3.out
          · have hi3 := (hity.out.alloc OK.out (plObj ⟨pok, ⟨Ak2, nk2, ck2, Ad2, nd2, cd2, e2⟩⟩)).it.grown OK.out HLT.out HOYA.out HG3.out
            exact ⟨hi3, (hity.out.alloc OK.out (plObj ⟨pok, ⟨Ak2, nk2, ck2, Ad2, nd2, cd2, e2⟩⟩)).un.frm (frm_row HG3.out) (fun hm => by have := HRW.out gu hm; have := HGU.out; omega), hity.out.ne⟩
    · have hie : i = ns := by omega
      have HIE := Lib.hid hie
      clear hie
      have hge : ¬ ((i : Int) < (ns : Int)) := by omega
      have hfin : Hid (ats = atz) := by
        have := walkE_end hwk.out (by rw [List.length_map, HSL.out, HIE.out]; exact Nat.le_refl _)
        rw [HW.out] at this
        injection this with this
        exact this.symm
      clear hwk
      go_wp2_with fail
      refine (uClose gu g gi S back (itV S a) wr hit.out HREF.out).mono ?_
      rintro E w3 ⟨rfl, hf3⟩
      have hg3 : ∀ i ∈ [g], i < w.heap.size ∨ wr.heap.size ≤ i := fun i hi => by rw [List.mem_singleton] at hi; subst hi; exact .inl (HLT.out.blk _ (by simp [blksOf]))
      have HO3 := Lib.hid (own_frm hO.out hf3 hg3)
      have HP3 : Hid (∀ p ∈ ps, PlB w.heap.size w3 p) := fun p hp => (hps.out p hp).frm hf3 hg3
      have HB3 : Hid (Frm [gi, g] w w3) := (hbw.out.mono (l2 := [gi, g]) (fun x hx => .inl (by rw [List.mem_singleton] at hx; subst hx; simp))).trans hf3 (fun x hx => .inl (by rw [List.mem_singleton] at hx; subst hx; simp))
      obtain ⟨A9, c9, hv9, hc9, hs9, hA9⟩ := own_pl HO3.out
      injection hv9 with hv1 hv2 hv3
      subst hv1
      subst hv3
      have HS9 := Lib.hid hs9
      clear hs9 hA9 hO hf3 hg3 hv2
      go_wp2
      go_ret
      refine ⟨A8, c8, ps, ?_, ⟨?_, fun p hp => (HP3.out p hp).in_⟩, by rw [← hfin.out]; exact hmap.out, by rw [hpl.out]; exact hc9, HB3.out⟩
      · show Ending.returned (.slice A8 i c8) = _
        rw [hpl.out]
      · rw [hpl.out]
        exact HS9.out
end Go.Proofs.Ytanmgkpgfmkobaa
