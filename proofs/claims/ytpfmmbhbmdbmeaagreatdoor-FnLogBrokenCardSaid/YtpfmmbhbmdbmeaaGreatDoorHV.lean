/- The laws of a log that is replayed, or cut off: their walks. -/
import Derived.Test.YtpfmmbhbmdbmeaaGreatDoorPL
import Derived.Test.YtpfmmbhbmdbmeaaGreatDoorQL4
import Derived.Test.YtpfmmbhbmdbmeaaGreatDoorQL3
import Derived.Test.YtpfmmbhbmdbmeaaGreatDoorQL5
import Derived.Test.YtpfmmbhbmdbmeaaGreatDoorQL6
namespace Go.Proofs.YtpfmmbhbmdbmeaaGreatDoor
open Go.RowKit Go.Proofs.YtpfmmbhbmdbmeaaGreatDoorW.PrintWords Go.Proofs.YtpfmmbhbmdbmeaaGreatDoorW.PrintLast Go.Proofs.YtpfmmbhbmdbmeaaGreatDoorW.PrintMore Go.Proofs.YtpfmmbhbmdbmeaaGreatDoorQ.Ext
set_option linter.unusedVariables false
set_option linter.unusedSimpArgs false
open YtpfmmbhbmdbmeaaGreatDoorQ.QL (UOk UOk2 ROk RGood wfR wr endR WU szR posR totR cutU repP rb rb_len flat_len mxU written_WU logRecs_WU logOf_some fits11_k units_k2)
theorem Byt.flat : ∀ (L : List (List Int)), (∀ l ∈ L, Byt l) → Byt L.flatten
  | [], _ => fun x hx => by cases hx
  | l :: L, h => (h l (List.mem_cons_self ..)).append (Byt.flat L (fun k hk => h k (List.mem_cons_of_mem _ hk)))
theorem LR.by_byt {r : LR} (h : r.Ok) : Byt r.by_ := by
  have hP : Byt (recP r.m r.u r.e r.k r.d) := (headB_byt _ _ _ _ _ (by omega) (by have := h.k2; omega) (by omega) (by have := h.d1; omega) h.e1.1 h.e1.2 h.m1 h.u1).append (h.kb.append h.db)
  have hin := crcOut_in _ hP
  exact hP.append (byt32 hin.1 hin.2)
/-- A log of units: all that is known of it. -/
structure LogU (us : List UnS) (B : List Int) : Prop where
  ok : ∀ x ∈ us.flatMap GU, x.1.Ok ∧ KnOk x.1 x.2
  wb : WB 0 (us.flatMap GU)
  eq : B = List.replicate 20 0 ++ bys (us.flatMap GU)
  len : B.length ≤ 900000
  byt : Byt B
  u2 : ∀ j u, us[j]? = some u → UOk2 us.length j u
  wf : ∀ u ∈ us, ∀ r ∈ u.f0, wfR r
theorem bys_eq (us : List UnS) : bys (us.flatMap GU) = ((us.flatMap WU).map rb).flatten := by
  have h1 : (us.flatMap GU).map (·.1) = (us.flatMap WU).map lrR := by
    rw [List.map_flatMap, List.map_flatMap]
    congr 1
    funext u
    exact GU_fst u (fun _ => .inr trivial)
  unfold bys
  have h2 : (us.flatMap GU).map (fun x => x.1.by_) = ((us.flatMap GU).map (·.1)).map LR.by_ := by rw [List.map_map]; rfl
  rw [h2, h1, List.map_map]
  rfl
theorem logU_of (us : List UnS) (h2 : ∀ j u, us[j]? = some u → UOk2 us.length j u) (hw : ∀ u ∈ us, ∀ r ∈ u.f0, wfR r) (hn : us.length ≤ 20) : LogU us (List.replicate 20 0 ++ ((us.flatMap WU).map rb).flatten) := by
  have hu : ∀ u ∈ us, UOk u := fun u hm => by
    obtain ⟨j, hj⟩ := List.getElem?_of_mem hm
    exact (h2 j u hj).1
  have hok : ∀ x ∈ us.flatMap GU, x.1.Ok ∧ KnOk x.1 x.2 := fun x hx => by
    obtain ⟨u, hum, hx⟩ := List.mem_flatMap.1 hx
    exact GU_ok u (hu u hum) (hw u hum) x hx
  obtain ⟨a1, a2, _⟩ := logRecs_WU us hn hu hw
  have hfl := flat_len _ a2
  refine ⟨hok, wb_units us h2, by rw [bys_eq], ?_, ?_, h2, hw⟩
  · rw [List.length_append, List.length_replicate]; omega
  · rw [← bys_eq]
    refine Byt.append (fun x hx => by rw [List.eq_of_mem_replicate hx]; omega) (Byt.flat _ (fun l hl => ?_))
    obtain ⟨x, hx, rfl⟩ := List.mem_map.1 hl
    exact LR.by_byt (hok x hx).1
theorem LogU.size {us : List UnS} {B : List Int} (h : LogU us B) : B.length = 20 + (bys (us.flatMap GU)).length := by rw [h.eq, List.length_append, List.length_replicate]
theorem LogU.drop {us : List UnS} {B : List Int} (h : LogU us B) : B.drop 20 = bys (us.flatMap GU) := by rw [h.eq]; exact List.drop_left' (by simp)
/-- What is handed back of the units is what is handed on of the log. -/
theorem LogU.due {us : List UnS} {B : List Int} (h : LogU us B) (n : Nat) (fid : Int) {rs : List RR} {sp : List Sp3} (h1 : rs.map RR.s = (repP (n : Int) 20 20 us).1.map (·.1)) (h2 : sp = (repP (n : Int) 20 20 us).1.map (spoF fid)) :
    rs.map RR.lr = (runO 20 [] (fit 20 n (us.flatMap GU))).map (·.1) ∧ sp = (runO 20 [] (fit 20 n (us.flatMap GU))).map (sp3 fid) ∧ (repP (n : Int) 20 20 us).2 = runE 20 20 (fit 20 n (us.flatMap GU)) := by
  obtain ⟨a1, a2⟩ := rep_run n us h.u2 h.wf 20 20
  refine ⟨?_, ?_, a2.symm⟩
  · have e : rs.map RR.lr = (rs.map RR.s).map lrR := by rw [List.map_map]; rfl
    rw [e, h1, a1, List.map_map, List.map_map]
    rfl
  · have hok : ∀ x ∈ runO 20 [] (fit 20 n (us.flatMap GU)), x.1.Ok := runO_ok LR.Ok _ 20 [] (fun x hx => by
      obtain ⟨j, e⟩ := fit_take (us.flatMap GU) 20 n
      rw [e] at hx
      exact (h.ok x (List.mem_of_mem_take hx)).1) (fun x hx => by cases hx)
    rw [a1] at hok ⊢
    rw [h2, List.map_map]
    refine List.map_congr_left (fun x hx => ?_)
    have h3 := hok _ (List.mem_map_of_mem hx)
    show (fid, (szR x.1 : Int), (x.2 : Int)) = (fid, ((lrR x.1).size : Int), (x.2 : Int))
    rw [size_lr x.1 h3]
theorem due_of {w : World} {b1 b2 : Nat} {vR vS : Value} {rs : List RR} {sp : List Sp3} (h1 : w.ownsRow b1 31 5 vR rs.length (flatRR rs)) (h2 : w.ownsRow b2 60 3 vS sp.length (flatSp sp)) (h3 : ∀ r ∈ rs, r.In w) : Due vR vS rs sp w := ⟨h1.mono (Nat.zero_le _), h2.mono (Nat.zero_le _), h3⟩
/-- A log of which the first n bytes are there. -/
theorem LogU.cut {us : List UnS} {B : List Int} (h : LogU us B) (n : Nat) (h20 : 20 ≤ n) (hn : n ≤ B.length) : Lin ((B.take n).drop 20) (fit 20 n (us.flatMap GU)) ∧ WB 0 (fit 20 n (us.flatMap GU)) := by
  constructor
  · rw [List.drop_take, h.drop]
    exact lin_cut _ h.ok 20 n h20
  · obtain ⟨j, e⟩ := fit_take (us.flatMap GU) 20 n
    rw [e]
    exact WB_take _ _ _ h.wb
theorem wok_of {us : List UnS} (hu : ∀ u ∈ us, UOk u) (hw : ∀ u ∈ us, ∀ r ∈ u.f0, wfR r) (k : Nat) (hk : 40 < k) : ∀ u ∈ us, WOk k u := fun u hm => by
  obtain ⟨a1, a2, a3, a4⟩ := written_WU u (hu u hm) (hw u hm)
  exact ⟨a4 k hk, a1, a2, a3⟩
set_option maxRecDepth 100000 in
set_option maxHeartbeats 8000000 in
theorem fnLogReplay_walk (A0 : Option Addr) (c0 : Nat) (us : List UnS) (fid : Int) (ae au at2 : Addr) (w : World) (hr0 : Kd.C kUn w A0 us.length us) (hc0 : us.length ≤ c0) (hw : ∀ u ∈ us, ∀ r ∈ u.f0, wfR r) (hZ : ErrZ w ae au at2) :
    Calls Tryz.prog 5 #[.slice A0 us.length c0, .int .u32 fid] w (fun E w' => E = .returned (.bool true) ∧ Below w.heap.size w w') := by
  obtain ⟨K, hK⟩ : ∃ K, us.length * (mxU us + 6) + us.length + mxU us + 5000 = K := ⟨_, rfl⟩
  have hK2 : us.length + mxU us < K := by omega
  have hK3 : us.length * (mxU us + 6) < K := by omega
  have hK4 : 4500 < K := by omega
  obtain ⟨b, hb, hbl⟩ := fits11_k us K hK2
  have HU := Lib.hid hr0
  have HW := Lib.hid hw
  have HZ := Lib.hid hZ
  have HB := Lib.hid hb
  have HBL := Lib.hid hbl
  clear hr0 hw hZ hK hb hbl
  go_enter Tryz.func5, Tryz.ntmps5
  go_wp2_with fail
  refine Calls.mono (YtpfmmbhbmdbmeaaGreatDoorQ.QL.laws_zzFits11.calls K A0 c0 us b w HU.out hc0 HB.out) ?_
  rintro E w1 ⟨rfl, hb1⟩
  have HB1 := Lib.hid hb1
  clear hb1
  cases b
  · go_wp2
    go_ret
    exact ⟨rfl, HB1.out⟩
  obtain ⟨c, hc, hcl⟩ := units_k2 us (HBL.out rfl).1 (HBL.out rfl).2 K hK3
  have HC := Lib.hid hc
  have HCL := Lib.hid hcl
  clear hc hcl
  go_wp2_with fail
  refine Calls.mono (YtpfmmbhbmdbmeaaGreatDoorQ.QL.laws_unitsOk.calls K A0 c0 us c w1 (Kd.C_below HU.out HB1.out) hc0 HC.out) ?_
  rintro E w2 ⟨rfl, hb2⟩
  have HB2 := Lib.hid (HB1.out.trans (hb2.mono HB1.out.size))
  clear hb2
  cases c
  · go_wp2
    go_ret
    exact ⟨rfl, HB2.out⟩
  obtain ⟨hu2, hn⟩ := HCL.out rfl
  have hu : ∀ u ∈ us, UOk u := fun u hm => by
    obtain ⟨j, hj⟩ := List.getElem?_of_mem hm
    exact (hu2 j u hj).1
  obtain ⟨l1, l2, l3⟩ := logRecs_WU us hn hu HW.out
  have HLU := Lib.hid (logU_of us hu2 HW.out hn)
  have HWK := Lib.hid (wok_of hu HW.out K (by omega))
  obtain ⟨L, hL⟩ : ∃ L, us.flatMap WU = L := ⟨_, rfl⟩
  obtain ⟨B, hB⟩ : ∃ B, List.replicate 20 0 ++ ((us.flatMap WU).map rb).flatten = B := ⟨_, rfl⟩
  have hlo := logOf_some (us.flatMap WU) l2 (by omega) K (by omega)
  rw [hB] at HLU hlo
  rw [hL] at hlo l1 l3
  have HLO := Lib.hid hlo
  have HL3 := Lib.hid l3
  clear hlo l2 l3 hu hu2 hB hL
  go_wp2_with fail
  refine Calls.mono (YtpfmmbhbmdbmeaaGreatDoorQ.QL.spec_LogRecs.calls K (fun k => k < w.heap.size) A0 c0 us L w2 (Kd.V_mk hc0 (Kd.F_below (Kd.C_F YtpfmmbhbmdbmeaaGreatDoorQ.QL.k45_heap HU.out) HB2.out)) (HL3.out K (by omega))) ?_
  rintro E w3 ⟨v3, rfl, hN, hb3⟩
  obtain ⟨A3, c3, e3⟩ := Kd.V_slice (Kd.N_V (base' := 0) hN)
  subst e3
  obtain ⟨_, hc3, hf3⟩ := Kd.V_at (Kd.N_V (base' := 0) hN)
  have HC3 := Lib.hid (Kd.F_now hf3)
  have HB3 := Lib.hid (HB2.out.trans (hb3.mono HB2.out.size))
  clear hN hf3 hb3
  go_wp2_with fail
  refine Calls.mono (YtpfmmbhbmdbmeaaGreatDoorQ.QL.impl_LogOf.calls K A3 c3 L B w3 HC3.out hc3 HLO.out) ?_
  rintro E w4 ⟨v4, rfl, hR, hb4⟩
  obtain ⟨A4, c4, e4, hc4, hs4, _⟩ := own_slT (own_of_R hR)
  rw [Nat.mul_one] at hs4
  subst e4
  have HS4 := Lib.hid hs4
  have HB4 := Lib.hid (HB3.out.trans (hb4.mono HB3.out.size))
  clear hR hb4 hs4 HC3
  have hbl : B.length ≤ 900000 := HLU.out.len
  go_wp2_with fail
  refine Calls.mono (specReplayed_any K us.length c0 A0 us fid (B.length : Int) w4 (Kd.C_below HU.out HB4.out) hc0 hn HWK.out) ?_
  rintro E w5 ⟨vR, vS, rs, sp, rfl, hb5, ho1, ho2, hin, hm1, hm2⟩
  obtain ⟨d1, d2, d3⟩ := HLU.out.due B.length fid hm1 hm2
  have HD := Lib.hid (due_of ho1 ho2 hin)
  have HD1 := Lib.hid d1
  have HD2 := Lib.hid d2
  have HD3 := Lib.hid d3
  have HS5 := Lib.hid (HS4.out.below hb5)
  have HB5 := Lib.hid (HB4.out.trans (hb5.mono HB4.out.size))
  clear hb5 ho1 ho2 hin hm1 hm2 d1 d2 d3 HS4
  have h20 : 20 ≤ B.length := by rw [HLU.out.size]; omega
  have hcut := HLU.out.cut B.length h20 (Nat.le_refl _)
  rw [List.take_length] at hcut
  have HCUT := Lib.hid hcut
  clear hcut
  go_wp2_with fail
  refine Calls.mono (replays_any B.length c4 A4 B fid (fit 20 B.length (us.flatMap GU)) ae au at2 vR vS rs sp (repP (B.length : Int) 20 20 us).2 w5 HS5.out HLU.out.byt hc4 hbl h20 HCUT.out.1 HCUT.out.2 (HZ.out.below HB5.out) HD.out HD1.out HD2.out HD3.out) ?_
  rintro E w6 ⟨rfl, hb6⟩
  have HB6 := Lib.hid (HB5.out.trans (hb6.mono HB5.out.size))
  clear hb6
  go_wp2
  go_ret
  exact ⟨rfl, HB6.out⟩
end Go.Proofs.YtpfmmbhbmdbmeaaGreatDoor
