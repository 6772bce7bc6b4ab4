/- The law of an iterator that merges lists: its walk. -/
import Derived.Test.YtegaigpolhdicaaGreatAK
import Derived.Test.YtegaigpolhdicaaGreatKB
import Derived.Test.YtegaigpolhdicaaGreatJ5
namespace Go.Proofs.YtegaigpolhdicaaGreat
open Go.RowKit Go.Proofs.YtegaigpolhdicaaGreatQ.QT Go.Proofs.YtegaigpolhdicaaGreatQ.Ext Go.Proofs.YtegaigpolhdicaaGreatW.PrintWords
set_option linter.unusedVariables false
set_option linter.unusedSimpArgs false
theorem pl_boundM {l : List Ent} {ps : List PR} {ats : List Int} (h : ps.map PR.pl = ats.map (plE l)) (hb : ∀ e ∈ l, e.k.length ≤ 1000000 ∧ e.d.length ≤ 1000000) : ∀ p ∈ ps, p.r.e.k.length ≤ 1000000 ∧ p.r.e.d.length ≤ 1000000 := by
  intro p hp
  have h1 : p.pl ∈ ats.map (plE l) := by rw [← h]; exact List.mem_map_of_mem hp
  obtain ⟨a, _, h2⟩ := List.mem_map.1 h1
  have h3 : p.r.e = (plE l a).2 := by rw [h2]; rfl
  rw [h3]
  unfold plE
  split
  · rename_i hc
    cases hg : l[a.toNat]? with
    | none => rw [List.getElem?_eq_none_iff] at hg; omega
    | some e => exact hb e (List.mem_of_getElem? hg)
  · exact ⟨by show (0 : Nat) ≤ _; omega, by show (0 : Nat) ≤ _; omega⟩
theorem walkE_lenM (l : List Ent) (S : List StE) (a : Int) (m : List Int) (h : walkE l a S = some m) : m.length = S.length := by
  induction S generalizing a m with
  | nil => injection h with h; rw [← h]; rfl
  | cons s r ih =>
    change ((moveE l a s).bind fun b => (walkE l b r).map fun m => b :: m) = some m at h
    cases hm : moveE l a s with
    | none => rw [hm] at h; cases h
    | some b =>
      rw [hm, Option.bind_some] at h
      cases hw : walkE l b r with
      | none => rw [hw] at h; cases h
      | some m' =>
        rw [hw] at h
        injection h with h
        rw [← h, List.length_cons, List.length_cons, ih b m' hw]
theorem mergeD_len (rev : Bool) : ∀ (l r : List Ent), (mergeD rev l r).length ≤ l.length + r.length
  | [], r => by show r.length ≤ _; omega
  | a :: l, r => by
    rw [mergeD_two, List.length_append, List.length_cons, List.length_cons]
    have h1 : (r.takeWhile fun b => ordD rev b a == -1).length + (r.dropWhile fun b => ordD rev b a == -1).length = r.length := by
      rw [← List.length_append, List.takeWhile_append_dropWhile]
    cases hd : r.dropWhile fun b => ordD rev b a == -1 with
    | nil =>
      have := mergeD_len rev l []
      simp only [List.length_nil] at this
      show _ + ((mergeD rev l []).length + 1) ≤ _
      omega
    | cons b r3 =>
      rw [hd, List.length_cons] at h1
      show _ + ((mergeD rev l (if ordD rev b a = 0 then r3 else b :: r3)).length + 1) ≤ _
      split
      · have := mergeD_len rev l r3
        omega
      · have := mergeD_len rev l (b :: r3)
        simp only [List.length_cons] at this
        omega
theorem mergedE_len : ∀ (ls : List (List Ent)), (∀ l ∈ ls, l.length ≤ 80) → (mergedE ls).length ≤ ls.length * 80
  | [], _ => by simp [mergedE]
  | l :: ls, h => by
    have h1 := mergedE_len ls fun m hm => h m (List.mem_cons_of_mem _ hm)
    have h2 := mergeD_len false l (mergedE ls)
    have h3 := h l (List.mem_cons_self ..)
    show (mergeD false l (mergedE ls)).length ≤ _
    rw [List.length_cons]
    omega
set_option maxRecDepth 100000 in
set_option maxHeartbeats 4000000 in
theorem merge_walk (A0 A2 : Option Addr) (c0 c2 : Nat) (x0 : List (List S44)) (back : Bool) (x2 : List S39) (w : World) (h0 : Kd.C (Kd.slice 44 k44) w A0 x0.length x0) (hc0 : x0.length ≤ c0) (h2 : Kd.C k39 w A2 x2.length x2) (hc2 : x2.length ≤ c2)
    (wf0 : ∀ x ∈ x0, ∀ y ∈ x, entWf y) (wf2 : ∀ x ∈ x2, stepWf x) :
    Calls Tryz.prog 3 #[.slice A0 x0.length c0, .bool back, .slice A2 x2.length c2] w fun E w' => E = .returned (.bool true) ∧ Below w.heap.size w w' := by
  obtain ⟨ls, hls, hLls, hll⟩ := lss_of_C h0
  have HLS := Lib.hid (And.intro hls (And.intro hLls hll))
  obtain ⟨ss, hss, hSss⟩ := srs_of_C h2
  have HSS := Lib.hid (And.intro hss hSss)
  clear hls hLls hll hss hSss
  replace h0 := Lib.hid h0
  replace h2 := Lib.hid h2
  have HW0 := Lib.hid wf0
  have HW2 := Lib.hid wf2
  clear wf0 wf2
  obtain ⟨k7, r, hr, hp7⟩ := fits7_some x0
  have HR0 := Lib.hid hr
  have HP7 := Lib.hid hp7
  clear hr hp7
  go_enter Tryz.func3, Tryz.ntmps3
  go_wp2_with fail
  refine (laws_zzFits7.calls k7 A0 c0 x0 r w h0.out hc0 HR0.out).mono ?_
  rintro E w1 ⟨rfl, hb1⟩
  have HB1 := Lib.hid hb1
  clear hb1 HR0
  cases r with
  | false =>
    clear HP7
    go_wp2
    go_ret
    exact ⟨rfl, HB1.out⟩
  | true =>
    replace HP7 := Lib.hid (HP7.out rfl)
    obtain ⟨r2, hr2, hp2⟩ := fits17_some x2 (x2.length + 1) (by omega)
    have HP2 := Lib.hid hp2
    clear hp2
    go_wp2_with fail
    refine (laws_zzFits17.calls (x2.length + 1) A2 c2 x2 r2 w1 (Kd.C_below h2.out HB1.out) hc2 hr2).mono ?_
    rintro E w2 ⟨rfl, hb2⟩
    have HB2 : Hid (Below w.heap.size w w2) := HB1.out.trans (hb2.mono HB1.out.size)
    clear hb2 HB1
    cases r2 with
    | false =>
      clear hr2 HP2 HP7
      go_wp2
      go_ret
      exact ⟨rfl, HB2.out⟩
    | true =>
      clear hr2
      have hl2 := (HP2.out rfl).1
      have hl7 := HP7.out.1
      have HE7 : Hid (∀ q ∈ ls, q.es.length ≤ 2147483647) := fun q hq => by
        have h4 : q.es.map ER.e ∈ x0.map (fun x => x.map Go.Proofs.YtegaigpolhdicaaGreatQ.Ext.toEnt) := by rw [← HLS.out.1]; exact List.mem_map_of_mem (f := fun q : LsR => q.es.map ER.e) hq
        obtain ⟨x, hx, e⟩ := List.mem_map.1 h4
        have h5 := HP7.out.2 x hx
        have h6 := congrArg List.length e
        rw [List.length_map, List.length_map] at h6
        omega
      clear HP2 HP7
      go_wp2_with fail
      refine (entriesOk_any A0 x0.length c0 ls w2 (HLS.out.2.1.below HB2.out) HLS.out.2.2 hl7 HE7.out).mono ?_
      rintro E w3 ⟨b, rfl, hb, hb3⟩
      have HB3 : Hid (Below w.heap.size w w3) := HB2.out.trans (hb3.mono HB2.out.size)
      have HEO := Lib.hid hb
      clear hb hb3 HB2 HE7
      cases b with
      | false =>
        clear HEO
        go_wp2
        go_ret
        exact ⟨rfl, HB3.out⟩
      | true =>
        replace HEO : Hid (∀ q ∈ ls, EOk q.es) := HEO.out rfl
        obtain ⟨r4, hr4, hp4⟩ := steps_some x2 (x2.length + 1) (by omega) hl2
        have HP4 := Lib.hid hp4
        clear hp4
        go_wp2_with fail
        refine (laws_stepsOk.calls (x2.length + 1) A2 c2 x2 r4 w3 (Kd.C_below h2.out HB3.out) hc2 hr4).mono ?_
        rintro E w4 ⟨rfl, hb4⟩
        have HB4 : Hid (Below w.heap.size w w4) := HB3.out.trans (hb4.mono HB3.out.size)
        clear hb4 HB3 hr4
        cases r4 with
        | false =>
          clear HP4
          go_wp2
          go_ret
          exact ⟨rfl, HB4.out⟩
        | true =>
          obtain ⟨k1, k2, k3⟩ := HP4.out rfl
          have HSOK : Hid (∀ s ∈ ss, StOk s ∧ s.s.k.length ≤ 300) := fun s hs => by
            have h3 := SR.nk_eq (HSS.out.2.each s hs)
            have h4 : s.s ∈ x2.map toSt := by rw [← HSS.out.1]; exact List.mem_map_of_mem hs
            obtain ⟨x, hx, e⟩ := List.mem_map.1 h4
            have h5 := k1 x hx
            obtain ⟨u1, u2, u3⟩ := HW2.out x hx
            have h6 : x.f1.length = s.s.k.length := by rw [← e]; rfl
            exact ⟨⟨by omega, fun y hy => wf8 (u2 y (by rw [← e] at hy; exact hy)), by rw [← e]; exact (wf64 u3).1, by rw [← e]; exact (wf64 u3).2⟩, by omega⟩
          have HSL : Hid (ss.length = x2.length) := by show _ = _; have := congrArg List.length HSS.out.1; rwa [List.length_map, List.length_map] at this
          clear HP4 k1
          obtain ⟨n, hn⟩ : ∃ n, n = x0.length := ⟨_, rfl⟩
          have HLN : Hid (ls.length = n) := by rw [hn]; exact HLS.out.2.2
          rw [← hn] at hc0 hl7 ⊢
          clear hn
          by_cases n0 : n < 1
          · have d1 : decide ((n : Int) < 1) = true := decide_eq_true (by omega)
            go_wp2
            go_ret
            exact ⟨rfl, HB4.out⟩
          by_cases n8 : 8 < n
          · have d1 : decide ((n : Int) < 1) = false := decide_eq_false (by omega)
            have d2 : decide ((8 : Int) < (n : Int)) = true := decide_eq_true (by omega)
            go_wp2
            go_ret
            exact ⟨rfl, HB4.out⟩
          have d1 : ¬ ((n : Int) < 1) := by omega
          have d2 : ¬ ((8 : Int) < (n : Int)) := by omega
          have HNK : Hid (∀ q ∈ ls, ∀ r ∈ q.es, r.nk ≤ 1000) := fun q hq r hr => by have := ((HEO.out q hq).2.2 r hr).2.1; omega
          have HOK : Hid (∀ q ∈ ls, SortedE (q.es.map ER.e) ∧ ∀ r ∈ q.es, EntOk r.e) := fun q hq => ⟨(HEO.out q hq).2.1, fun r hr => by
            have h4 : q.es.map ER.e ∈ x0.map (fun x => x.map Go.Proofs.YtegaigpolhdicaaGreatQ.Ext.toEnt) := by rw [← HLS.out.1]; exact List.mem_map_of_mem (f := fun q : LsR => q.es.map ER.e) hq
            obtain ⟨x, hx, e⟩ := List.mem_map.1 h4
            have h5 : r.e ∈ x.map Go.Proofs.YtegaigpolhdicaaGreatQ.Ext.toEnt := by rw [e]; exact List.mem_map_of_mem hr
            obtain ⟨y, hy, ey⟩ := List.mem_map.1 h5
            have hin := (HLS.out.2.1.each q hq).1.each r hr
            have b1 := (HEO.out q hq).2.2 r hr
            have b2 := ER.nk_eq hin
            have b3 : r.e.d.length = r.nd := by have := hin.dat.1; rwa [nums_length] at this
            rw [← ey]
            refine entOk_of (ent_ok (HW0.out x hx y hy) ⟨?_, ?_, ?_⟩)
            · have : y.f0.length = r.e.k.length := by rw [← ey]; rfl
              omega
            · have : y.f0.length = r.e.k.length := by rw [← ey]; rfl
              omega
            · have : y.f2.f3.length = r.e.d.length := by rw [← ey]; rfl
              omega⟩
          have HLL : Hid (Lss w4 A0 ls) := HLS.out.2.1.below HB4.out
          obtain ⟨gl, ol, e, _⟩ := HLL.out.sl.2 (by have := HLN.out; omega)
          subst e
          have HBIG : Hid ((mergedE (entsOf ls)).length ≤ 1000) := by
            have h := mergedE_len (entsOf ls) (fun l hl => by
              obtain ⟨q, hq, rfl⟩ := List.mem_map.1 hl
              rw [List.length_map]
              exact (HEO.out q hq).1)
            have h9 : (entsOf ls).length = n := by unfold entsOf; rw [List.length_map]; exact HLN.out
            rw [h9] at h
            show _ ≤ _
            omega
          go_wp2_with fail
          refine (specMerged_any gl ol n c0 ls w4 HLL.out HLN.out (by omega) (fun q hq => (HEO.out q hq).1) HNK.out (fun q hq => (HOK.out q hq).1) (by have := HBIG.out; omega)).mono ?_
          rintro E w5 ⟨g5, o5, c5, rs, rfl, hrc, hers, hmap, hfrom, hb5⟩
          have HB5 : Hid (Below w.heap.size w w5) := HB4.out.trans (hb5.mono HB4.out.size)
          have HRS := Lib.hid (And.intro hers (And.intro hmap hfrom))
          have hrl : rs.length ≤ 1000 := by have := congrArg List.length hmap; rw [List.length_map] at this; have := HBIG.out; omega
          have HSO : Hid (SortedE (rs.map ER.e)) := by
            show SortedE _
            rw [hmap]
            exact (mergedE_is (fun l hl => by
              obtain ⟨q, hq, rfl⟩ := List.mem_map.1 hl
              exact (HOK.out q hq).1)).sort
          clear hb5 hers hmap hfrom HB4
          go_wp2_with fail
          refine (walk_any g5 o5 rs.length c5 x2.length c2 A2 back rs ss w5 rfl (by omega) HSO.out HRS.out.1 (HSS.out.2.below HB5.out) HSL.out (by omega) (fun r hr => by
            obtain ⟨q, hq, hrq⟩ := HRS.out.2.2 r hr
            have := HNK.out q hq r hrq
            omega) (fun s hs => by have := (HSOK.out s hs).1.nk; omega)).mono ?_
          rintro E w6 ⟨hb6, hres⟩
          rw [HRS.out.2.1] at hres
          have HB6 : Hid (Below w.heap.size w w6) := HB5.out.trans (hb6.mono HB5.out.size)
          clear hb6 HB5
          rcases hres with ⟨hn, rfl⟩ | ⟨ats, A6, c6, ps, hsm, rfl, hP, hpm, hpc⟩
          · clear hn
            go_wp2
            go_ret
            exact ⟨rfl, HB6.out⟩
          · have HSM := Lib.hid hsm
            have HP := Lib.hid hP
            have HPM := Lib.hid hpm
            have HPN : Hid (ps.length = ats.length) := by show _ = _; have := congrArg List.length HPM.out; rwa [List.length_map, List.length_map] at this
            have HBND : Hid (∀ e ∈ mergedE (entsOf ls), e.k.length ≤ 1000000 ∧ e.d.length ≤ 1000000) := fun e he => by
              rw [← HRS.out.2.1] at he
              obtain ⟨r, hr, rfl⟩ := List.mem_map.1 he
              obtain ⟨q, hq, hrq⟩ := HRS.out.2.2 r hr
              have h3 := (HOK.out q hq).2 r hrq
              have := h3.klen
              have := h3.dlen
              exact ⟨by omega, by omega⟩
            clear hsm hP hpm
            have k3' : x2.length ≤ 1000000 := by omega
            go_wp2_with fail
            refine (runMerge_any (some ⟨gl, ol, none⟩) A2 n c0 x2.length c2 back ls ss ats w6 (HLS.out.2.1.below HB6.out) HLN.out (by omega) (by omega) (fun q hq => (HEO.out q hq).1) HOK.out (HSS.out.2.below HB6.out) HSL.out k3' HSOK.out HSM.out).mono ?_
            rintro E w8 ⟨A8, c8, qs, rfl, hq, hqm, hqc, hb8⟩
            have HB8 : Hid (Below w.heap.size w w8) := HB6.out.trans (hb8.mono HB6.out.size)
            replace HP : Hid (Prs w8 A6 ps) := HP.out.below hb8
            have HQ := Lib.hid hq
            have HQM := Lib.hid hqm
            have hqn : ps.length = qs.length := by have := congrArg List.length hqm; rw [List.length_map, List.length_map] at this; rw [HPN.out, this]
            have HQN := Lib.hid hqn
            have hql : qs.length ≤ 1000000000 := by
              have h3 := congrArg List.length hqm
              rw [List.length_map, List.length_map] at h3
              have h4 : ats.length = ss.length := by
                rw [walkE_lenM _ _ _ _ HSM.out, List.length_map]
              rw [h3, h4, HSL.out]
              omega
            clear hq hqm hb8 hqn
            go_wp2_with fail
            rw [HQN.out]
            refine (samePlaces_same A8 A6 qs.length c8 c6 qs ps w8 HQ.out HP.out rfl hql (by rw [HQM.out, HPM.out]) (pl_boundM HQM.out HBND.out)).mono ?_
            rintro E w9 ⟨rfl, hb9⟩
            have HB9 : Hid (Below w.heap.size w w9) := HB8.out.trans (hb9.mono HB8.out.size)
            clear hb9
            go_wp2
            go_ret
            exact ⟨rfl, HB9.out⟩
end Go.Proofs.YtegaigpolhdicaaGreat
