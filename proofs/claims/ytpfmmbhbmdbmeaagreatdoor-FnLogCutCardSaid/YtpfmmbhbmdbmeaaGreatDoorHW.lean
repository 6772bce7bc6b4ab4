/- The law of a log that is cut off: its walk. -/
import Derived.Test.YtpfmmbhbmdbmeaaGreatDoorHV
namespace Go.Proofs.YtpfmmbhbmdbmeaaGreatDoor
open Go.RowKit Go.Proofs.YtpfmmbhbmdbmeaaGreatDoorW.PrintWords Go.Proofs.YtpfmmbhbmdbmeaaGreatDoorW.PrintLast Go.Proofs.YtpfmmbhbmdbmeaaGreatDoorW.PrintMore Go.Proofs.YtpfmmbhbmdbmeaaGreatDoorQ.Ext
set_option linter.unusedVariables false
set_option linter.unusedSimpArgs false
open YtpfmmbhbmdbmeaaGreatDoorQ.QL (UOk UOk2 ROk RGood wfR wr endR WU szR posR totR cutU repP rb rb_len flat_len mxU written_WU logRecs_WU logOf_some fits11_k units_k2)
set_option maxRecDepth 100000 in
set_option maxHeartbeats 8000000 in
theorem fnLogCut_walk (A0 : Option Addr) (c0 : Nat) (us : List UnS) (fid cut : Int) (ae au at2 : Addr) (w : World) (hr0 : Kd.C kUn w A0 us.length us) (hc0 : us.length ≤ c0) (hw : ∀ u ∈ us, ∀ r ∈ u.f0, wfR r) (hcu : cut ≤ 9223372036854775807) (hZ : ErrZ w ae au at2) :
    Calls Tryz.prog 4 #[.slice A0 us.length c0, .int .u32 fid, .int .i64 cut] w (fun E w' => E = .returned (.bool true) ∧ Below w.heap.size w w') := by
  obtain ⟨K, hK⟩ : ∃ K, us.length * (mxU us + 6) + us.length + mxU us + 5000 = K := ⟨_, rfl⟩
  have hK2 : us.length + mxU us < K := by omega
  have hK3 : us.length * (mxU us + 6) < K := by omega
  have hK4 : 4500 < K := by omega
  obtain ⟨b, hb, hbl⟩ := fits11_k us K hK2
  have HU := Lib.hid hr0
  have HW := Lib.hid hw
  have HZ := Lib.hid hZ
  have HB := Lib.hid hb
  have HBL := Lib.hid hbl
  clear hr0 hw hZ hK hb hbl
  go_enter Tryz.func4, Tryz.ntmps4
  go_wp2_with fail
  refine Calls.mono (YtpfmmbhbmdbmeaaGreatDoorQ.QL.laws_zzFits11.calls K A0 c0 us b w HU.out hc0 HB.out) ?_
  rintro E w1 ⟨rfl, hb1⟩
  have HB1 := Lib.hid hb1
  clear hb1
  cases b
  · go_wp2
    go_ret
    exact ⟨rfl, HB1.out⟩
  obtain ⟨c, hc, hcl⟩ := units_k2 us (HBL.out rfl).1 (HBL.out rfl).2 K hK3
  have HC := Lib.hid hc
  have HCL := Lib.hid hcl
  clear hc hcl
  go_wp2_with fail
  refine Calls.mono (YtpfmmbhbmdbmeaaGreatDoorQ.QL.laws_unitsOk.calls K A0 c0 us c w1 (Kd.C_below HU.out HB1.out) hc0 HC.out) ?_
  rintro E w2 ⟨rfl, hb2⟩
  have HB2 := Lib.hid (HB1.out.trans (hb2.mono HB1.out.size))
  clear hb2
  cases c
  · go_wp2
    go_ret
    exact ⟨rfl, HB2.out⟩
  by_cases hneg : cut < 0
  · go_wp2
    go_ret
    exact ⟨rfl, HB2.out⟩
  obtain ⟨hu2, hn⟩ := HCL.out rfl
  have hu : ∀ u ∈ us, UOk u := fun u hm => by
    obtain ⟨j, hj⟩ := List.getElem?_of_mem hm
    exact (hu2 j u hj).1
  obtain ⟨l1, l2, l3⟩ := logRecs_WU us hn hu HW.out
  have HLU := Lib.hid (logU_of us hu2 HW.out hn)
  have HWK := Lib.hid (wok_of hu HW.out K (by omega))
  obtain ⟨L, hL⟩ : ∃ L, us.flatMap WU = L := ⟨_, rfl⟩
  obtain ⟨B, hB⟩ : ∃ B, List.replicate 20 0 ++ ((us.flatMap WU).map rb).flatten = B := ⟨_, rfl⟩
  have hlo := logOf_some (us.flatMap WU) l2 (by omega) K (by omega)
  rw [hB] at HLU hlo
  rw [hL] at hlo l1 l3
  have HLO := Lib.hid hlo
  have HL3 := Lib.hid l3
  clear hlo l2 l3 hu hu2 hB hL
  go_wp2_with fail
  refine Calls.mono (YtpfmmbhbmdbmeaaGreatDoorQ.QL.spec_LogRecs.calls K (fun k => k < w.heap.size) A0 c0 us L w2 (Kd.V_mk hc0 (Kd.F_below (Kd.C_F YtpfmmbhbmdbmeaaGreatDoorQ.QL.k45_heap HU.out) HB2.out)) (HL3.out K (by omega))) ?_
  rintro E w3 ⟨v3, rfl, hN, hb3⟩
  obtain ⟨A3, c3, e3⟩ := Kd.V_slice (Kd.N_V (base' := 0) hN)
  subst e3
  obtain ⟨_, hc3, hf3⟩ := Kd.V_at (Kd.N_V (base' := 0) hN)
  have HC3 := Lib.hid (Kd.F_now hf3)
  have HB3 := Lib.hid (HB2.out.trans (hb3.mono HB2.out.size))
  clear hN hf3 hb3
  go_wp2_with fail
  refine Calls.mono (YtpfmmbhbmdbmeaaGreatDoorQ.QL.impl_LogOf.calls K A3 c3 L B w3 HC3.out hc3 HLO.out) ?_
  rintro E w4 ⟨v4, rfl, hR, hb4⟩
  obtain ⟨A4, c4, e4, hc4, hs4, _⟩ := own_slT (own_of_R hR)
  rw [Nat.mul_one] at hs4
  subst e4
  have HS4 := Lib.hid hs4
  have HB4 := Lib.hid (HB3.out.trans (hb4.mono HB3.out.size))
  clear hR hb4 hs4 HC3
  have hbl : B.length ≤ 900000 := HLU.out.len
  have h20 : 20 ≤ B.length := by rw [HLU.out.size]; omega
  by_cases hbig : cut > (B.length : Int) - 20
  · go_wp2
    go_ret
    exact ⟨rfl, HB4.out⟩
  obtain ⟨m, hm⟩ : ∃ m : Nat, (B.length : Int) - cut = m := ⟨((B.length : Int) - cut).toNat, by omega⟩
  have hm1 : m ≤ B.length := by omega
  have hm2 : 20 ≤ m := by omega
  have HM := Lib.hid hm
  clear hm
  go_wp2_with fail
  rw [HM.out]
  refine Calls.mono (specReplayed_any K us.length c0 A0 us fid (m : Int) w4 (Kd.C_below HU.out HB4.out) hc0 hn HWK.out) ?_
  rintro E w5 ⟨vR, vS, rs, sp, rfl, hb5, ho1, ho2, hin, hq1, hq2⟩
  obtain ⟨d1, d2, d3⟩ := HLU.out.due m fid hq1 hq2
  have HD := Lib.hid (due_of ho1 ho2 hin)
  have HD1 := Lib.hid d1
  have HD2 := Lib.hid d2
  have HD3 := Lib.hid d3
  have HS5 : Hid (Sl w5 A4 m (nums .u8 (B.take m))) := by
    have h := (HS4.out.below hb5).take_ hm1
    show Sl w5 A4 m (nums .u8 (B.take m))
    unfold nums at h ⊢
    rw [List.map_take]
    exact h
  have HBT : Hid (Byt (B.take m)) := fun x hx => HLU.out.byt x (List.mem_of_mem_take hx)
  have HB5 := Lib.hid (HB4.out.trans (hb5.mono HB4.out.size))
  clear hb5 ho1 ho2 hin hq1 hq2 d1 d2 d3 HS4
  have HCUT := Lib.hid (HLU.out.cut m hm2 hm1)
  go_wp2_with fail
  simp only [HM.out, Int.toNat_natCast]
  refine Calls.mono (replays_any m c4 A4 (B.take m) fid (fit 20 m (us.flatMap GU)) ae au at2 vR vS rs sp (repP (m : Int) 20 20 us).2 w5 HS5.out HBT.out (by omega) (by omega) hm2 HCUT.out.1 HCUT.out.2 (HZ.out.below HB5.out) HD.out HD1.out HD2.out HD3.out) ?_
  rintro E w6 ⟨rfl, hb6⟩
  have HB6 := Lib.hid (HB5.out.trans (hb6.mono HB5.out.size))
  clear hb6
  go_wp2
  go_ret
  exact ⟨rfl, HB6.out⟩
end Go.Proofs.YtpfmmbhbmdbmeaaGreatDoor
