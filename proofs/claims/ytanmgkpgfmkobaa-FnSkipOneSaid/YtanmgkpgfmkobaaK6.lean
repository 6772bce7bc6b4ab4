/- The law of steps of one direction over a skip list: its walk. -/
import Derived.Test.YtanmgkpgfmkobaaJ5
import Derived.Test.YtanmgkpgfmkobaaK5
import Derived.Test.YtanmgkpgfmkobaaJ6
namespace Go.Proofs.Ytanmgkpgfmkobaa
open Go.RowKit Go.Proofs.YtanmgkpgfmkobaaQ.QT Go.Proofs.YtanmgkpgfmkobaaQ.Ext Go.Proofs.YtanmgkpgfmkobaaW.PrintWords
set_option linter.unusedVariables false
set_option linter.unusedSimpArgs false
theorem pl_bound {l : List Ent} {ps : List PR} {ats : List Int} (h : ps.map PR.pl = ats.map (plE l)) (hb : ∀ e ∈ l, e.k.length ≤ 1000000 ∧ e.d.length ≤ 1000000) : ∀ p ∈ ps, p.r.e.k.length ≤ 1000000 ∧ p.r.e.d.length ≤ 1000000 := by
  intro p hp
  have h1 : p.pl ∈ ats.map (plE l) := by rw [← h]; exact List.mem_map_of_mem hp
  obtain ⟨a, _, h2⟩ := List.mem_map.1 h1
  have h3 : p.r.e = (plE l a).2 := by rw [h2]; rfl
  rw [h3]
  unfold plE
  split
  · rename_i hc
    cases hg : l[a.toNat]? with
    | none => rw [List.getElem?_eq_none_iff] at hg; omega
    | some e => exact hb e (List.mem_of_getElem? hg)
  · exact ⟨by show (0 : Nat) ≤ _; omega, by show (0 : Nat) ≤ _; omega⟩
set_option maxRecDepth 100000 in
set_option maxHeartbeats 4000000 in
theorem skipOne_walk (A0 A1 A2 : Option Addr) (c0 c1 c2 : Nat) (x0 : List Int) (x1 : List S32) (back : Bool) (x2 : List S78) (w : World) (h0 : Kd.C (Kd.int .u32) w A0 x0.length x0) (hc0 : x0.length ≤ c0) (h1 : Kd.C k32 w A1 x1.length x1) (hc1 : x1.length ≤ c1) (h2 : Kd.C k78 w A2 x2.length x2) (hc2 : x2.length ≤ c2)
    (wf1 : ∀ x ∈ x1, entWf x) (wf2 : ∀ x ∈ x2, stepWf x) :
    Calls Try.prog 10 #[.slice A0 x0.length c0, .slice A1 x1.length c1, .bool back, .slice A2 x2.length c2] w fun E w' => E = .returned (.bool true) ∧ Below w.heap.size w w' := by
  obtain ⟨rp, hrp, hErp⟩ := ers_of (sle_of_C h1)
  have HRP := Lib.hid (And.intro hrp hErp)
  obtain ⟨ss, hss, hSss⟩ := srs_of_C h2
  have HSS := Lib.hid (And.intro hss hSss)
  clear hrp hErp hss hSss
  replace h0 := Lib.hid h0
  replace h1 := Lib.hid h1
  replace h2 := Lib.hid h2
  have HW1 := Lib.hid wf1
  have HW2 := Lib.hid wf2
  clear wf1 wf2
  by_cases hA : 2147483647 < x0.length
  · go_enter Try.func10, Try.ntmps10
    go_wp2
    go_ret
    exact ⟨rfl, Below.refl _ _⟩
  obtain ⟨r, hr⟩ := fits2_some x1 (x1.length + 1) (by omega)
  have HR0 := Lib.hid hr
  clear hr
  go_enter Try.func10, Try.ntmps10
  go_wp2_with fail
  refine (laws_zzFits2.calls (x1.length + 1) A1 c1 x1 r w h1.out hc1 HR0.out).mono ?_
  rintro E w1 ⟨rfl, hb1⟩
  have HB1 := Lib.hid hb1
  clear hb1
  cases r with
  | false =>
    go_wp2
    go_ret
    exact ⟨rfl, HB1.out⟩
  | true =>
    have hl := fits2_long x1 _ HR0.out
    have HLK := Lib.hid (fits2_keys x1 _ HR0.out)
    obtain ⟨r2, hr2, hp2⟩ := fits17_some x2 (x2.length + 1) (by omega)
    have HP2 := Lib.hid hp2
    clear hp2 HR0
    go_wp2_with fail
    refine (laws_zzFits17.calls (x2.length + 1) A2 c2 x2 r2 w1 (Kd.C_below h2.out HB1.out) hc2 hr2).mono ?_
    rintro E w2 ⟨rfl, hb2⟩
    have HB2 : Hid (Below w.heap.size w w2) := HB1.out.trans (hb2.mono HB1.out.size)
    clear hb2 HB1
    cases r2 with
    | false =>
      clear hr2 HP2
      go_wp2
      go_ret
      exact ⟨rfl, HB2.out⟩
    | true =>
      clear hr2
      have hl2 := (HP2.out rfl).1
      have HSK : Hid (∀ s ∈ ss, s.nk ≤ 4000000000) := fun s hs => by
        have h3 := SR.nk_eq (HSS.out.2.each s hs)
        have h4 : s.s ∈ x2.map toSt := by rw [← HSS.out.1]; exact List.mem_map_of_mem hs
        obtain ⟨x, hx, e⟩ := List.mem_map.1 h4
        have h5 := (HP2.out rfl).2 x hx
        have h6 : x.f1.length = s.s.k.length := by rw [← e]; rfl
        omega
      have HRK : Hid (∀ q ∈ rp, q.nk ≤ 4000000000) := fun q hq => by
        have h3 := ER.nk_eq (HRP.out.2.each q hq)
        have h4 : q.e ∈ x1.map Go.Proofs.YtanmgkpgfmkobaaQ.Ext.toEnt := by rw [← HRP.out.1]; exact List.mem_map_of_mem hq
        obtain ⟨x, hx, e⟩ := List.mem_map.1 h4
        have h5 := HLK.out x hx
        have h6 : x.f0.length = q.e.k.length := by rw [← e]; rfl
        omega
      have HSL : Hid (ss.length = x2.length) := by show _ = _; have := congrArg List.length HSS.out.1; rwa [List.length_map, List.length_map] at this
      clear HP2 HLK hA
      go_wp2_with fail
      refine (specPuts_big A1 x1.length c1 (x1.map Go.Proofs.YtanmgkpgfmkobaaQ.Ext.toEnt) rp w2 (List.length_map _) HRP.out.1 (HRP.out.2.below HB2.out) (by omega) HRK.out).mono ?_
      rintro E w4 ⟨A4, c4, rs, rfl, hO, hb4⟩
      have HO := Lib.hid hO
      have HB4 : Hid (Below w.heap.size w w4) := HB2.out.trans (hb4.mono HB2.out.size)
      have hrs : rs.length ≤ 4000000000 := by have := hO.len; rw [List.length_map] at this; omega
      obtain ⟨g5, o5, hA4⟩ := hO.addr
      subst hA4
      have HSO : Hid (SortedE (rs.map ER.e)) := by show SortedE _; rw [hO.map]; exact putsE_sorted _
      clear hO hb4 HB2
      go_wp2_with fail
      refine (walk_any g5 o5 rs.length c4 x2.length c2 A2 back rs ss w4 rfl hrs HSO.out HO.out.ers (HSS.out.2.below HB4.out) HSL.out (by omega) HO.out.nk HSK.out).mono ?_
      rintro E w5 ⟨hb5, hres⟩
      rw [HO.out.map] at hres
      have HB5 : Hid (Below w.heap.size w w5) := HB4.out.trans (hb5.mono HB4.out.size)
      clear hb5
      rcases hres with ⟨hn, rfl⟩ | ⟨ats, A6, c6, ps, hsm, rfl, hP, hpm, hpc⟩
      · clear hn
        go_wp2
        go_ret
        exact ⟨rfl, HB5.out⟩
      · have HSM := Lib.hid hsm
        have HP := Lib.hid hP
        have HPM := Lib.hid hpm
        obtain ⟨r3, hr3, hp3⟩ := puts_some x0 x1 (x1.length + 1) (by omega) hl
        have HP3 := Lib.hid hp3
        clear hsm hP hpm hp3
        go_wp2_with fail
        refine (laws_putsOk.calls (x1.length + 1) A0 c0 x0 A1 c1 x1 r3 w5 (Kd.C_below h0.out HB5.out) hc0 (Kd.C_below h1.out HB5.out) hc1 hr3).mono ?_
        rintro E w6 ⟨rfl, hb6⟩
        have HB6 : Hid (Below w.heap.size w w6) := HB5.out.trans (hb6.mono HB5.out.size)
        replace HP : Hid (Prs w6 A6 ps) := HP.out.below (hb6.mono (Nat.le_refl _))
        clear hb6 HB5
        cases r3 with
        | false =>
          clear hr3 HP3
          go_wp2
          go_ret
          exact ⟨rfl, HB6.out⟩
        | true =>
          clear hr3
          obtain ⟨g1, g2, g3, g4⟩ := HP3.out rfl
          have HOK : Hid (∀ e ∈ x1.map Go.Proofs.YtanmgkpgfmkobaaQ.Ext.toEnt, EntOk e) := fun e he => by
            obtain ⟨x, hx, rfl⟩ := List.mem_map.1 he
            exact entOk_of (ent_ok (HW1.out x hx) (g1 x hx))
          obtain ⟨r4, hr4, hp4⟩ := steps_some x2 (x2.length + 1) (by omega) hl2
          have HP4 := Lib.hid hp4
          clear HP3 g1 hp4
          go_wp2_with fail
          refine (laws_stepsOk.calls (x2.length + 1) A2 c2 x2 r4 w6 (Kd.C_below h2.out HB6.out) hc2 hr4).mono ?_
          rintro E w7 ⟨rfl, hb7⟩
          have HB7 : Hid (Below w.heap.size w w7) := HB6.out.trans (hb7.mono HB6.out.size)
          replace HP : Hid (Prs w7 A6 ps) := HP.out.below (hb7.mono (Nat.le_refl _))
          clear hb7 HB6
          cases r4 with
          | false =>
            clear hr4 HP4
            go_wp2
            go_ret
            exact ⟨rfl, HB7.out⟩
          | true =>
            clear hr4
            obtain ⟨k1, k2, k3⟩ := HP4.out rfl
            have HSOK : Hid (∀ s ∈ ss, StOk s) := fun s hs => by
              have h3 := SR.nk_eq (HSS.out.2.each s hs)
              have h4 : s.s ∈ x2.map toSt := by rw [← HSS.out.1]; exact List.mem_map_of_mem hs
              obtain ⟨x, hx, e⟩ := List.mem_map.1 h4
              have h5 := k1 x hx
              obtain ⟨u1, u2, u3⟩ := HW2.out x hx
              have h6 : x.f1.length = s.s.k.length := by rw [← e]; rfl
              exact ⟨by omega, fun y hy => wf8 (u2 y (by rw [← e] at hy; exact hy)), by rw [← e]; exact (wf64 u3).1, by rw [← e]; exact (wf64 u3).2⟩
            have HBND : Hid (∀ e ∈ putsE (x1.map Go.Proofs.YtanmgkpgfmkobaaQ.Ext.toEnt), e.k.length ≤ 1000000 ∧ e.d.length ≤ 1000000) := fun e he => by
              rw [← HO.out.map] at he
              obtain ⟨q, hq, rfl⟩ := List.mem_map.1 he
              have h3 := HOK.out q.e (by rw [← HRP.out.1]; exact List.mem_map_of_mem (HO.out.sub q hq))
              have := h3.klen
              have := h3.dlen
              exact ⟨by omega, by omega⟩
            have g3' : x0.length ≤ 1000000 := by omega
            have k3' : x2.length ≤ 1000000 := by omega
            have HPN : Hid (ps.length = ats.length) := by show _ = _; have := congrArg List.length HPM.out; rwa [List.length_map, List.length_map] at this
            clear HP4 k1
            go_wp2_with fail
            refine (runListOne_any A0 A1 A2 x0.length c0 x1.length c1 x2.length c2 back x0 (x1.map Go.Proofs.YtanmgkpgfmkobaaQ.Ext.toEnt) ss ats w7 (sl_of_C (Kd.C_below h0.out HB7.out)) g3 g3' (sle_of_C (Kd.C_below h1.out HB7.out)) g2 HOK.out (HSS.out.2.below HB7.out) HSL.out k3' HSOK.out HSM.out).mono ?_
            rintro E w8 ⟨A8, c8, qs, rfl, hq, hqm, hqc, hb8⟩
            have HB8 : Hid (Below w.heap.size w w8) := HB7.out.trans (hb8.mono HB7.out.size)
            replace HP : Hid (Prs w8 A6 ps) := HP.out.below hb8
            have HQ := Lib.hid hq
            have HQM := Lib.hid hqm
            have hqn : ps.length = qs.length := by have := congrArg List.length hqm; rw [List.length_map, List.length_map] at this; rw [HPN.out, this]
            have HQN := Lib.hid hqn
            have hql : qs.length ≤ 1000000000 := by
              have h3 := congrArg List.length hqm
              rw [List.length_map, List.length_map] at h3
              have h4 : ats.length = ss.length := by
                rw [walkE_len _ _ _ _ HSM.out, List.length_map]
              rw [h3, h4, HSL.out]
              omega
            clear hq hqm hb8 hqn
            go_wp2_with fail
            rw [HQN.out]
            refine (samePlaces_same A8 A6 qs.length c8 c6 qs ps w8 HQ.out HP.out rfl hql (by rw [HQM.out, HPM.out]) (pl_bound HQM.out HBND.out)).mono ?_
            rintro E w9 ⟨rfl, hb9⟩
            have HB9 : Hid (Below w.heap.size w w9) := HB8.out.trans (hb9.mono HB8.out.size)
            clear hb9
            go_wp2
            go_ret
            exact ⟨rfl, HB9.out⟩
end Go.Proofs.Ytanmgkpgfmkobaa
