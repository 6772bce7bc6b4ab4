/- The law of a log of which a byte is changed: its walk. -/
import Derived.Test.YtpfmmbhbmdbmeaaGreatDoorHX
namespace Go.Proofs.YtpfmmbhbmdbmeaaGreatDoor
open Go.RowKit Go.Proofs.YtpfmmbhbmdbmeaaGreatDoorW.PrintWords Go.Proofs.YtpfmmbhbmdbmeaaGreatDoorW.PrintLast Go.Proofs.YtpfmmbhbmdbmeaaGreatDoorW.PrintMore Go.Proofs.YtpfmmbhbmdbmeaaGreatDoorQ.Ext
set_option linter.unusedVariables false
set_option linter.unusedSimpArgs false
open YtpfmmbhbmdbmeaaGreatDoorQ.QL (UOk UOk2 ROk RGood wfR wr endR WU szR posR totR cutU repP rb rb_len flat_len mxU written_WU logRecs_WU logOf_some fits11_k units_k2)
set_option maxRecDepth 100000 in
set_option maxHeartbeats 8000000 in
theorem fnLogBroken_walk (A0 : Option Addr) (c0 : Nat) (us : List UnS) (fid av0 by' : Int) (ae au at2 : Addr) (w : World) (hr0 : Kd.C kUn w A0 us.length us) (hc0 : us.length ≤ c0) (hw : ∀ u ∈ us, ∀ r ∈ u.f0, wfR r) (hcu : av0 ≤ 9223372036854775807) (hby : 0 ≤ by' ∧ by' ≤ 255) (hZ : ErrZ w ae au at2) :
    Calls Tryz.prog 3 #[.slice A0 us.length c0, .int .u32 fid, .int .i64 av0, .int .u8 by'] w (fun E w' => E = .returned (.bool true) ∧ Below w.heap.size w w') := by
  obtain ⟨K, hK⟩ : ∃ K, us.length * (mxU us + 6) + us.length + mxU us + 5000 = K := ⟨_, rfl⟩
  have hK2 : us.length + mxU us < K := by omega
  have hK3 : us.length * (mxU us + 6) < K := by omega
  have hK4 : 4500 < K := by omega
  obtain ⟨b, hb, hbl⟩ := fits11_k us K hK2
  have HU := Lib.hid hr0
  have HW := Lib.hid hw
  have HZ := Lib.hid hZ
  have HB := Lib.hid hb
  have HBL := Lib.hid hbl
  clear hr0 hw hZ hK hb hbl
  go_enter Tryz.func3, Tryz.ntmps3
  go_wp2_with fail
  refine Calls.mono (YtpfmmbhbmdbmeaaGreatDoorQ.QL.laws_zzFits11.calls K A0 c0 us b w HU.out hc0 HB.out) ?_
  rintro E w1 ⟨rfl, hb1⟩
  have HB1 := Lib.hid hb1
  clear hb1
  cases b
  · go_wp2
    go_ret
    exact ⟨rfl, HB1.out⟩
  obtain ⟨c, hc, hcl⟩ := units_k2 us (HBL.out rfl).1 (HBL.out rfl).2 K hK3
  have HC := Lib.hid hc
  have HCL := Lib.hid hcl
  clear hc hcl
  go_wp2_with fail
  refine Calls.mono (YtpfmmbhbmdbmeaaGreatDoorQ.QL.laws_unitsOk.calls K A0 c0 us c w1 (Kd.C_below HU.out HB1.out) hc0 HC.out) ?_
  rintro E w2 ⟨rfl, hb2⟩
  have HB2 := Lib.hid (HB1.out.trans (hb2.mono HB1.out.size))
  clear hb2
  cases c
  · go_wp2
    go_ret
    exact ⟨rfl, HB2.out⟩
  by_cases hb0 : by' = 0
  · subst hb0
    go_wp2
    go_ret
    exact ⟨rfl, HB2.out⟩
  have hbb : (by' == 0) = false := by simp [hb0]
  by_cases hneg : av0 < 0
  · go_wp2
    go_ret
    exact ⟨rfl, HB2.out⟩
  obtain ⟨hu2, hn⟩ := HCL.out rfl
  have hu : ∀ u ∈ us, UOk u := fun u hm => by
    obtain ⟨j, hj⟩ := List.getElem?_of_mem hm
    exact (hu2 j u hj).1
  obtain ⟨l1, l2, l3⟩ := logRecs_WU us hn hu HW.out
  have HLU := Lib.hid (logU_of us hu2 HW.out hn)
  have HWK := Lib.hid (wok_of hu HW.out K (by omega))
  obtain ⟨L, hL⟩ : ∃ L, us.flatMap WU = L := ⟨_, rfl⟩
  obtain ⟨B, hB⟩ : ∃ B, List.replicate 20 0 ++ ((us.flatMap WU).map rb).flatten = B := ⟨_, rfl⟩
  have hlo := logOf_some (us.flatMap WU) l2 (by omega) K (by omega)
  rw [hB] at HLU hlo
  rw [hL] at hlo l1 l3
  have HLO := Lib.hid hlo
  have HL3 := Lib.hid l3
  have HL := Lib.hid hL
  have HRG : Hid (∀ r ∈ L, RGood r) := by show ∀ r ∈ L, RGood r; rw [← hL]; exact l2
  clear hlo l2 l3 hu hu2 hB hL
  go_wp2_with fail
  refine Calls.mono (YtpfmmbhbmdbmeaaGreatDoorQ.QL.spec_LogRecs.calls K (fun k => k < w.heap.size) A0 c0 us L w2 (Kd.V_mk hc0 (Kd.F_below (Kd.C_F YtpfmmbhbmdbmeaaGreatDoorQ.QL.k45_heap HU.out) HB2.out)) (HL3.out K (by omega))) ?_
  rintro E w3 ⟨v3, rfl, hN, hb3⟩
  obtain ⟨A3, c3, e3⟩ := Kd.V_slice (Kd.N_V (base' := 0) hN)
  subst e3
  obtain ⟨_, hc3, hf3⟩ := Kd.V_at (Kd.N_V (base' := 0) hN)
  have HC3 := Lib.hid (Kd.F_now hf3)
  have HB3 := Lib.hid (HB2.out.trans (hb3.mono HB2.out.size))
  clear hN hf3 hb3
  go_wp2_with fail
  refine Calls.mono (YtpfmmbhbmdbmeaaGreatDoorQ.QL.impl_LogOf.calls K A3 c3 L B w3 HC3.out hc3 HLO.out) ?_
  rintro E w4 ⟨v4, rfl, hR, hb4⟩
  have ho4 := own_of_R hR
  obtain ⟨A4, c4, e4, hc4, hs4, _⟩ := own_slT ho4
  subst e4
  have h20 : 20 ≤ B.length := by rw [HLU.out.size]; omega
  obtain ⟨g4, hA4, hg4⟩ : ∃ g, A4 = some ⟨g, 0, none⟩ ∧ w3.heap.size ≤ g := by
    rcases ho4.2 with ⟨h, h0⟩ | ⟨g, cap, cur, h, hg, _⟩
    · omega
    · injection h with h _ _
      exact ⟨g, h, hg⟩
  subst hA4
  have HO4 := Lib.hid ho4
  have HG4 := Lib.hid hg4
  have HB34 := Lib.hid hb4
  have HC4 := Lib.hid (Kd.C_below HC3.out hb4)
  have HB4 := Lib.hid (HB3.out.trans (hb4.mono HB3.out.size))
  clear hR hb4 hs4 HC3 ho4 hg4
  have hbl : B.length ≤ 900000 := HLU.out.len
  go_wp2_with fail
  go_loopg [2, 11, 40] L.length (fun f v2 v11 v40 wk => ∃ (j av fr : Nat), v40 = .int .i64 j ∧ v2 = .int .i64 av ∧ v11 = .int .i64 fr ∧ j ≤ L.length ∧ (av : Int) ≤ 9223372036854775807 ∧ Hid (j + f = L.length) ∧ Hid (fr = 20 + ((L.take j).map rb).flatten.length) ∧ Hid (Below w4.heap.size w4 wk))
  case atStart => exact ⟨0, av0.toNat, 20, rfl, by rw [Int.toNat_of_nonneg (by omega)], rfl, Nat.zero_le _, by omega, Nat.zero_add _, rfl, Below.refl _ _⟩
  case round =>
    obtain ⟨j, av, fr, rfl, rfl, rfl, hjl, havb, hjf, hfr, hbw⟩ := hrel
    rcases Nat.lt_or_ge j L.length with hlt | hge
    · obtain ⟨gkO, rfl⟩ : ∃ q, gk = q + 1 := ⟨gk - 1, by have := hjf.out; omega⟩
      obtain ⟨rs, hms, hsm, hst⟩ := rr_of_F (Kd.C_F YtpfmmbhbmdbmeaaGreatDoorQ.QL.k31_heap HC4.out)
      have hsl : Sl wr A3 (L.length * 5) (flatRR rs) := hsm.below hbw.out
      have hrl : rs.length = L.length := by have := congrArg List.length hms; rwa [List.length_map] at this
      obtain ⟨r, hr⟩ : ∃ e, rs[j]? = some e := ⟨rs[j]'(by omega), List.getElem?_eq_getElem _⟩
      have hrL : L[j]? = some r.s := by rw [← hms, List.getElem?_map, hr]; rfl
      have hgood := HRG.out _ (List.mem_of_getElem? hrL)
      have hin := (hst r (List.mem_of_getElem? hr) [] (fun _ _ _ h => by cases h)).now.below hbw.out
      obtain ⟨g6, o6, hA6, hcell⟩ := hsl.2 (by omega)
      subst hA6
      have hfrb : fr ≤ 900000 := by
        have h1 := flat_len (L.take j) (fun x hx => HRG.out x (List.mem_of_mem_take hx))
        rw [List.length_take] at h1
        have := hfr.out
        omega
      obtain ⟨rAk, rnk, rck, rAd, rnd, rcd, rk, rd, re, rm, ru⟩ := r
      obtain rfl : rk.length = rnk := RR.nk_eq hin
      obtain rfl : rd.length = rnd := RR.nd_eq hin
      have e0 := hcell (j * 5 + 0) _ (flatRR_at rs j 0 _ hr (by omega))
      have e1 := hcell (j * 5 + 1) _ (flatRR_at rs j 1 _ hr (by omega))
      have e2 := hcell (j * 5 + 2) _ (flatRR_at rs j 2 _ hr (by omega))
      have e3 := hcell (j * 5 + 3) _ (flatRR_at rs j 3 _ hr (by omega))
      have e4 := hcell (j * 5 + 4) _ (flatRR_at rs j 4 _ hr (by omega))
      simp only [Nat.add_zero, ← Nat.add_assoc] at e0 e1 e2 e3 e4
      have HI := Lib.hid hin
      have HRL := Lib.hid hrL
      have HGO := Lib.hid hgood
      have hjb : j ≤ 300 := by omega
      have HBW := Lib.hid hbw.out
      clear hr hin hcell hms hsm hst hsl hrl hrL hgood hbw
      go_upto_region 11 with fail
      have HIA := Lib.hid (HI.out.below (w' := wr.alloc (.cells #[.slice rAk rk.length rck, .slice rAd rd.length rcd, .int .u64 re, .int .u8 rm, .int .u8 ru] 31)) ((Frm.alloc wr _).below (Nat.le_refl _) (fun i hi => by cases hi)))
      have HVR : Hid (Blk (wr.alloc (.cells #[.slice rAk rk.length rck, .slice rAd rd.length rcd, .int .u64 re, .int .u8 rm, .int .u8 ru] 31)) wr.heap.size 31 [.slice rAk rk.length rck, .slice rAd rd.length rcd, .int .u64 re, .int .u8 rm, .int .u8 ru]) := Blk.new wr _ _
      have HBA : Hid (Below w4.heap.size w4 (wr.alloc (.cells #[.slice rAk rk.length rck, .slice rAd rd.length rcd, .int .u64 re, .int .u8 rm, .int .u8 ru] 31))) := HBW.out.trans ((Frm.alloc wr _).below HBW.out.size (fun i hi => by cases hi))
      clear e0 e1 e2 e3 e4 HI HBW
      generalize wr.alloc (.cells #[.slice rAk rk.length rck, .slice rAd rd.length rcd, .int .u64 re, .int .u8 rm, .int .u8 ru] 31) = wa at *
      generalize wr.heap.size = gr at *
      obtain ⟨hd, hhd⟩ : ∃ z, (headB (rk.length : Nat) (rd.length : Nat) re rm ru).length = z := ⟨_, rfl⟩
      obtain ⟨sz, hsz⟩ : ∃ z, (rb ⟨rk, rd, re, rm, ru⟩).length = z := ⟨_, rfl⟩
      have HHD := Lib.hid hhd
      have HSZ := Lib.hid hsz
      have hszb : sz ≤ 2026 := by rw [← hsz]; exact rb_len HGO.out
      have hklb : rk.length ≤ 1000 := HGO.out.1
      have hdlb : rd.length ≤ 1000 := HGO.out.2.1
      have hhdb : hd ≤ 22 := by rw [← hhd]; exact (headB_len _ _ _ _ _ (by omega) (by omega)).2
      clear hhd hsz
      go_cut [14, 15] (fun v14 v15 wz => v14 = .int .i64 hd ∧ v15 = .int .i64 sz ∧ Hid (Below wa.heap.size wa wz))
      case first =>
        as_aux_lemma =>
          have q0 := HVR.out.at_ (i := 0) rfl
          have q1 := HVR.out.at_ (i := 1) rfl
          have q2 := HVR.out.at_ (i := 2) rfl
          have q3 := HVR.out.at_ (i := 3) rfl
          have q4 := HVR.out.at_ (i := 4) rfl
          have HKY := Lib.hid HIA.out.key
          have HDY := Lib.hid HIA.out.dat
          have hck := HIA.out.hk
          have hcd := HIA.out.hd
          have HBB : Hid (Below wa.heap.size wa wa) := Below.refl _ _
          have HF1 : Hid (YtpfmmbhbmdbmeaaGreatDoorQ.QL.spec_HeadOf.f rk rd re rm ru = some ((rk.length : Int), (rd.length : Int), re, rm, ru)) := by
            show _ = _
            unfold YtpfmmbhbmdbmeaaGreatDoorQ.QL.spec_HeadOf.f
            rw [Int.emod_eq_of_lt (by omega) (by omega), Int.emod_eq_of_lt (by omega) (by omega)]
          have HF2 : Hid (spec_HeadBytes.f (rk.length : Int) (rd.length : Int) re rm ru = some (headB (rk.length : Nat) (rd.length : Nat) re rm ru)) := by
            show _ = _
            unfold spec_HeadBytes.f
            exact if_pos ⟨⟨by omega, by omega⟩, ⟨by omega, by omega⟩, HGO.out.2.2.2.2.1⟩
          have HF3 := Lib.hid (YtpfmmbhbmdbmeaaGreatDoorQ.QL.specRec_some ⟨rk, rd, re, rm, ru⟩ HGO.out)
          clear HVR HIA
          go_region_held3 (fun w' => w'.cell? ⟨gr, 0, none⟩ = some (.slice rAk rk.length rck) ∧ w'.cell? ⟨gr, 1, none⟩ = some (.slice rAd rd.length rcd) ∧ w'.cell? ⟨gr, 2, none⟩ = some (.int .u64 re) ∧ w'.cell? ⟨gr, 3, none⟩ = some (.int .u8 rm) ∧ w'.cell? ⟨gr, 4, none⟩ = some (.int .u8 ru) ∧ Hid (Below wa.heap.size wa w')) (first | exact ⟨q0, q1, q2, q3, q4, HBB⟩ | ((try go_split_ands); (repeat' with_reducible apply And.intro); all_goals first | exact cell_keep (by assumption) (by assumption) | exact bl_keep (by assumption) (by assumption) | exact cell_drew (by assumption) | exact bl_keepD (by assumption) | exact cell_alloc _ (by assumption) | exact bl_keepA _ (by assumption) | exact bl_keepN _ (by assumption))) (first | (go_at_call 11; (try go_split_ands); refine Calls.mono (YtpfmmbhbmdbmeaaGreatDoorQ.QL.spec_HeadOf.calls rAk rck rk rAd rcd rd re rm ru (rk.length : Int) (rd.length : Int) re rm ru _ (C_of_sl (Sl.up HKY (by first | exact Hid.out (by assumption) | (repeat first | with_reducible exact Below.refl _ _ | with_reducible apply bl_drewN | with_reducible apply bl_drew | with_reducible apply bl_alloc | (with_reducible refine bl_trans ?_ (Hid.out (by assumption)))))) (by omega)) hck (C_of_sl (Sl.up HDY (by first | exact Hid.out (by assumption) | (repeat first | with_reducible exact Below.refl _ _ | with_reducible apply bl_drewN | with_reducible apply bl_drew | with_reducible apply bl_alloc | (with_reducible refine bl_trans ?_ (Hid.out (by assumption)))))) (by omega)) hcd HF1.out) ?_; rintro E w1 ⟨rfl, hb1⟩) | (go_at_call 10; (try go_split_ands); refine Calls.mono (spec_HeadBytes.calls (rk.length : Int) (rd.length : Int) re rm ru _ _ HF2.out) ?_; rintro E w2 ⟨v2, rfl, hr2, hb2⟩; obtain ⟨A2, c2, ev2, _, _, _⟩ := own_slT (own_of_R hr2); rw [HHD.out] at ev2; subst ev2; clear hr2) | (go_at_call 12; (try go_split_ands); refine Calls.mono (YtpfmmbhbmdbmeaaGreatDoorQ.QL.spec_RecBytes.calls (fun _ => True) rAk rck rk (fun _ => True) rAd rcd rd re rm ru _ _ (Kd.V_mk hck (Kd.F_mono (Kd.C_F (Kd.heap_int .u8) (C_of_sl (Sl.up HKY (by first | exact Hid.out (by assumption) | (repeat first | with_reducible exact Below.refl _ _ | with_reducible apply bl_drewN | with_reducible apply bl_drew | with_reducible apply bl_alloc | (with_reducible refine bl_trans ?_ (Hid.out (by assumption)))))) (by omega))) (fun _ _ => trivial))) (Kd.V_mk hcd (Kd.F_mono (Kd.C_F (Kd.heap_int .u8) (C_of_sl (Sl.up HDY (by first | exact Hid.out (by assumption) | (repeat first | with_reducible exact Below.refl _ _ | with_reducible apply bl_drewN | with_reducible apply bl_drew | with_reducible apply bl_alloc | (with_reducible refine bl_trans ?_ (Hid.out (by assumption)))))) (by omega))) (fun _ _ => trivial))) HF3.out) ?_; rintro E w3' ⟨v3, rfl, hr3, hb3⟩; obtain ⟨A3', c3', ev3, _, _, _⟩ := own_slT (own_of_R hr3); rw [HSZ.out] at ev3; subst ev3; clear hr3))
          all_goals go_split_ands
          all_goals (go_wp2_with fail; go_meet; exact ⟨rfl, rfl, by assumption⟩)
      case rest =>
        obtain ⟨rfl, rfl, HBZ⟩ := hcut
        have HBC := Lib.hid (HBA.out.trans (HBZ.out.mono HBA.out.size))
        have hszd : sz = hd + rk.length + rd.length + 4 := by
          have h1 := (recB_len rm ru re rk rd (by omega) (by omega)).1
          have h2 : (recB rm ru re rk rd).length = sz := HSZ.out
          rw [h2, HHD.out] at h1
          exact h1
        have HSD := Lib.hid hszd
        have hhs : hd ≤ sz := by omega
        clear HBA HBZ HVR HIA hszd
        by_cases hin : (av : Int) < (sz : Int) - (hd : Int)
        · have hhl : (lrR (RR.s ⟨rAk, rk.length, rck, rAd, rd.length, rcd, rk, rd, re, rm, ru⟩)).hd.length = hd := HHD.out
          have hsl : szR (RR.s ⟨rAk, rk.length, rck, rAd, rd.length, rcd, rk, rd, re, rm, ru⟩) = sz := HSZ.out
          obtain ⟨hPl, hbrk⟩ := HLU.out.broken HL.out HRL.out fr av hfr.out (by rw [hhl, hsl]; omega)
          rw [hhl] at hPl hbrk
          obtain ⟨o, ho⟩ : ∃ o, B[fr + hd + av]? = some o := ⟨B[fr + hd + av], List.getElem?_eq_getElem hPl⟩
          have hob := HLU.out.byt o (List.mem_of_getElem? ho)
          have HO5 := Lib.hid (own_frmT HO4.out (Frm.of_below HBC.out) (fun k hk => by cases hk))
          have q5 : wc.cell? ⟨g4, fr + hd + av, none⟩ = some (.int .u8 o) := by
            obtain ⟨g', o', e2, hcell⟩ := (own_slX HO5.out).2 (by omega)
            obtain ⟨rfl, rfl⟩ : g4 = g' ∧ 0 = o' := by injection e2 with e2; injection e2 with a b; exact ⟨a, b⟩
            have := hcell (fr + hd + av) (.int .u8 o) (by rw [nums, List.getElem?_map, ho]; rfl)
            rwa [Nat.zero_add] at this
          have f5 : wc.frozen? ⟨g4, fr + hd + av, none⟩ = false := by
            obtain ⟨cs, h, _⟩ := own_blkT HO5.out (k := g4) (by simp [Value.ownBlock])
            exact h.frozen _
          have HBR := Lib.hid hbrk
          have HOO := Lib.hid ho
          clear hbrk ho hhl hsl
          go_wp2_with fail
          have hyb : 0 ≤ (o + by') % 256 ∧ (o + by') % 256 ≤ 255 ∧ (o + by') % 256 ≠ o := by omega
          have HS6 : Hid (Sl (wc.setCell ⟨g4, fr + hd + av, none⟩ (.int .u8 ((o + by') % 256))) (some ⟨g4, 0, none⟩) B.length (nums .u8 (B.set (fr + hd + av) ((o + by') % 256)))) := by
            have h := sl_own_set HO5.out (fr + hd + av) (.int .u8 ((o + by') % 256))
            show Sl _ _ _ _
            unfold nums at h ⊢
            rw [List.map_set]
            exact h
          have HB6 : Hid (Below w.heap.size w (wc.setCell ⟨g4, fr + hd + av, none⟩ (.int .u8 ((o + by') % 256)))) := (HB4.out.trans (HBC.out.mono HB4.out.size)).setCell (by have := HG4.out; have := HB3.out.size; show w.heap.size ≤ g4; omega) _
          have HYB := Lib.hid hyb
          clear q5 f5 hyb HO5
          generalize wc.setCell ⟨g4, fr + hd + av, none⟩ (.int .u8 ((o + by') % 256)) = w6 at *
          generalize (o + by') % 256 = y at *
          have ePP : ((fr + hd + av : Nat) : Int) = (fr : Int) + (hd : Int) + (av : Int) := by rw [Int.natCast_add, Int.natCast_add]
          obtain ⟨P, hP⟩ : ∃ P, fr + hd + av = P := ⟨_, rfl⟩
          rw [hP] at HBR HOO HS6 ePP hPl
          rw [← ePP]
          have HEP := Lib.hid ePP
          clear ePP hP
          refine Calls.mono (specReplayed_any K us.length c0 A0 us fid (P : Int) w6 (Kd.C_below HU.out HB6.out) hc0 hn HWK.out) ?_
          rintro E w7 ⟨vR, vS, rs7, sp7, rfl, hb7, hp1, hp2, hin7, hq1, hq2⟩
          obtain ⟨d1, d2, d3⟩ := HLU.out.due P fid hq1 hq2
          have HD := Lib.hid (due_of hp1 hp2 hin7)
          have HD1 := Lib.hid d1
          have HD2 := Lib.hid d2
          have HD3 := Lib.hid d3
          have HS7 := Lib.hid (HS6.out.below hb7)
          have HB7 := Lib.hid (HB6.out.trans (hb7.mono HB6.out.size))
          have HBT : Hid (Byt (B.set P y)) := fun x hx => by
            rcases List.mem_or_eq_of_mem_set hx with h | h
            · exact HLU.out.byt x h
            · rw [h]; exact ⟨HYB.out.1, HYB.out.2.1⟩
          obtain ⟨hl1, hl2⟩ := HBR.out o y HOO.out ⟨HYB.out.1, HYB.out.2.1⟩ HYB.out.2.2
          have HL1 := Lib.hid hl1
          have HL2 := Lib.hid hl2
          clear hb7 hp1 hp2 hin7 hq1 hq2 d1 d2 d3 HS6 hl1 hl2
          go_wp2_with fail
          refine Calls.mono (replays_any B.length c4 (some ⟨g4, 0, none⟩) (B.set P y) fid (fit 20 P (us.flatMap GU)) ae au at2 vR vS rs7 sp7 (repP (P : Int) 20 20 us).2 w7 HS7.out HBT.out hc4 hbl h20 HL1.out HL2.out (HZ.out.below HB7.out) HD.out HD1.out HD2.out HD3.out) ?_
          rintro E w8 ⟨rfl, hb8⟩
          have HB8 := Lib.hid (HB7.out.trans (hb8.mono HB7.out.size))
          clear hb8
          go_wp2
          go_ret
          exact ⟨rfl, HB8.out⟩
        · go_wp2_with fail
          have hav : hd ≤ av + hd ∧ sz ≤ av + hd := by omega
          go_roundg gkO
          case measure => omega
          case rel =>
            refine ⟨j + 1, av + hd - sz, fr + sz, by go_num, by congr 1; omega, by go_num, hlt, by omega, ?_, ?_, HBC⟩
            · have := hjf.out; show _ = _; omega
            · have e := hfr.out
              have hs : (rb (RR.s ⟨rAk, rk.length, rck, rAd, rd.length, rcd, rk, rd, re, rm, ru⟩)).length = sz := HSZ.out
              show _ = _
              rw [List.take_add_one, HRL.out, List.map_append, List.flatten_append, List.length_append]
              show _ = 20 + (_ + ([rb (RR.s ⟨rAk, rk.length, rck, rAd, rd.length, rcd, rk, rd, re, rm, ru⟩)].flatten).length)
              rw [List.flatten_singleton, hs]
              omega
    · obtain rfl : j = L.length := by omega
      go_wp2
      go_ret
      exact ⟨rfl, HB4.out.trans (hbw.out.mono HB4.out.size)⟩
end Go.Proofs.YtpfmmbhbmdbmeaaGreatDoor
