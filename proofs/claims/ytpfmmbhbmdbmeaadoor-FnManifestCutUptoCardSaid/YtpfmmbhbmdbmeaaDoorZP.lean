/- FnManifestCut: the walk. -/
import Derived.Test.YtpfmmbhbmdbmeaaDoorYB
import Derived.Test.YtpfmmbhbmdbmeaaDoorYD
import Derived.Test.YtpfmmbhbmdbmeaaDoorZL
import Derived.Test.YtpfmmbhbmdbmeaaDoorZR
namespace Go.Proofs.YtpfmmbhbmdbmeaaDoor
open Go.RowKit
set_option linter.unusedVariables false
set_option linter.unusedSimpArgs false
section
open Go.Proofs.YtpfmmbhbmdbmeaaDoorQ.QT Go.Proofs.YtpfmmbhbmdbmeaaDoorQ.Ext Go.Proofs.YtpfmmbhbmdbmeaaDoorW.PrintWords
set_option maxRecDepth 100000 in
set_option maxHeartbeats 4000000 in
theorem manifestCut_walk (mark cut : Int) (A : Option Addr) (c : Nat) (l : List (List S45)) (ae au : Addr) (w : World) (hm : 0 ≤ mark ∧ mark ≤ 65535) (hcut : -9223372036854775808 ≤ cut ∧ cut ≤ 9223372036854775807) (hr : Kd.C (Kd.slice 45 k45) w A l.length l) (hc : l.length ≤ c) (hw : ∀ x ∈ l, ∀ y ∈ x, chgWf y) (h1 : l.length ≤ 2000000) (h2 : (toSets l).flatten.length ≤ 2000000) (hg : ErrG w ae au) :
    Calls Tryd.prog 6 #[.int .u16 mark, .slice A l.length c, .int .i64 cut] w fun e w' => e = .returned (.bool true) ∧ Below w.heap.size w w' := by
  obtain ⟨r1, hr1⟩ := fits14_some l (by omega)
  obtain ⟨k2, r2, hr2, hb2⟩ := setsOk_some l (by omega) (fun x hx => by have := set_le h2 x hx; omega)
  have HS : Hid (Sets w A l.length (toSets l)) := sets_of_C hr
  have HR := Lib.hid hr
  have HC := Lib.hid hc
  have HW := Lib.hid hw
  have H1 := Lib.hid hr1
  have H2 := Lib.hid hr2
  have HB2 := Lib.hid hb2
  have HL2 := Lib.hid h2
  have HG := Lib.hid hg
  clear hr hc hw hr1 hr2 hb2 h2 hg
  go_enter Tryd.func6, Tryd.ntmps6
  go_wp2_with fail
  refine (laws_zzFits14.calls _ A c l r1 w HR.out HC.out H1.out).mono ?_
  rintro E w1 ⟨rfl, hd1⟩
  have HU1 : Hid (Below w.heap.size w w1) := hd1.below
  clear hd1
  cases r1 with
  | false =>
    go_wp2
    go_ret
    exact ⟨rfl, HU1.out⟩
  | true =>
    go_wp2_with fail
    refine (applied_any A l.length c (toSets l) w1 (HS.out.below HU1.out) (by omega) (by have := HL2.out; omega)).mono ?_
    rintro E w2 ⟨hbel, hyes, hno⟩
    have HU2 : Hid (Below w.heap.size w w2) := HU1.out.trans (hbel.mono HU1.out.size)
    clear hbel
    cases hM : allM ⟨[], 0, 0⟩ (toSets l).flatten with
    | none =>
      obtain rfl := hno hM
      clear hyes hno hM
      have HA : Hid (Below w.heap.size w (w2.alloc (.cells #[.slice none 0 0, .int .i64 0, .int .i64 0] 27))) := HU2.out.alloc HU2.out.size _
      go_wp2
      go_ret
      first | exact ⟨rfl, HA.out⟩ | exact ⟨rfl, HU2.out⟩
    | some M =>
      obtain ⟨A1, c1, rfl, hs1⟩ := hyes M hM
      have HM := Lib.hid hM
      have HS1 := Lib.hid hs1
      clear hyes hno hM hs1
      have HB3 : Hid (Blk (w2.alloc (.cells #[.slice A1 M.l.length c1, .int .i64 M.come, .int .i64 M.gone] 27)) w2.heap.size 27 [.slice A1 M.l.length c1, .int .i64 M.come, .int .i64 M.gone]) := Blk.new w2 _ _
      have HUA : Hid (Below w.heap.size w (w2.alloc (.cells #[.slice A1 M.l.length c1, .int .i64 M.come, .int .i64 M.gone] 27))) := HU2.out.alloc HU2.out.size _
      have HSA : Hid (Slc (w2.alloc (.cells #[.slice A1 M.l.length c1, .int .i64 M.come, .int .i64 M.gone] 27)) A1 M.l.length M.l) := HS1.out.below ((Below.refl _ _).alloc (Nat.le_refl _) _)
      clear HU2 HS1
      go_wp2_with fail
      generalize w2.alloc (.cells #[.slice A1 M.l.length c1, .int .i64 M.come, .int .i64 M.gone] 27) = wa at *
      generalize w2.heap.size = g3 at *
      refine (laws_setsOk.calls k2 A c l r2 wa (Kd.C_below HR.out HUA.out) HC.out H2.out).mono ?_
      rintro E w3 ⟨rfl, hb3⟩
      have HU3 : Hid (Below w.heap.size w w3) := HUA.out.trans (hb3.mono HUA.out.size)
      replace HSA := Lib.hid (HSA.out.below hb3)
      replace HB3 := Lib.hid (HB3.out.frm (Frm.of_below hb3) (by simp))
      clear hb3 HUA
      cases hr2 : r2 with
      | false =>
        go_wp2
        go_ret
        exact ⟨rfl, HU3.out⟩
      | true =>
        obtain ⟨hs1, hs2⟩ := HB2.out hr2
        have HIN := Lib.hid (sets_in HW.out hs1 hs2)
        have HOKS := Lib.hid (sets_ok HW.out)
        have HML : Hid (M.l.length ≤ 400) := by have h4 : M.l.length ≤ 0 + (toSets l).flatten.length := (allM_mem _ HM.out).2.1; have := HIN.out.1; show _ ≤ _; omega
        have hl20 : l.length ≤ 20 := hs1
        have HMO := Lib.hid (manOk_of HM.out HIN.out.2)
        clear hs1 hs2
        by_cases hl1 : l.length < 1
        · have hl1' : (l.length : Int) < 1 := by omega
          go_wp2
          go_ret
          exact ⟨rfl, HU3.out⟩
        have hl1' : ¬ (l.length : Int) < 1 := by omega
        by_cases hcu0 : cut < 1
        · go_wp2
          go_ret
          exact ⟨rfl, HU3.out⟩
        have d1 : decide ((l.length : Int) < 1) = false := decide_eq_false hl1'
        have d2 : decide (cut < 1) = false := decide_eq_false hcu0
        clear HSA HB3
        obtain ⟨m, hm1⟩ : ∃ m, l.length = m + 1 := ⟨l.length - 1, by omega⟩
        have hlm : m < l.length := by omega
        obtain ⟨ga, oa, x, Bx, cx, hAe, hx, hcx, hsx⟩ := (HS.out.below HU3.out).2 m hlm
        subst hAe
        have HX := Lib.hid hx
        have HSX := Lib.hid hsx
        have HM1 : Hid ((toSets l).length = m + 1) := by show _ = _; rw [sets_len]; exact hm1
        have HXO : Hid (∀ y ∈ x, Chg.ok y) := fun y hy => HOKS.out y (part_mem hx hy)
        have HXL : Hid (x.length ≤ 400) := part_le hx HIN.out.1
        have HXP := Lib.hid (chgsB_pos x)
        have e1 : ((l.length : Int) - 1) = (m : Int) := by omega
        clear hx hsx
        have hml : m ≤ l.length := by omega
        have hmc : (m : Int) ≤ (c : Int) := by have := HC.out; omega
        have hm0 : (0 : Int) ≤ (m : Int) := by omega
        have HSI : Hid (Sets w3 (some ⟨ga, oa, none⟩) m ((toSets l).take m)) := sets_take (HS.out.below HU3.out) hml
        obtain ⟨M0, hM0⟩ := allM_init HX.out HM1.out HM.out
        have HM0 := Lib.hid hM0
        have HBX : Hid (manB mark (toSets l) = manB mark ((toSets l).take m) ++ setB x) := manB_last mark HX.out HM1.out
        have HOK0 : Hid (∀ y ∈ ((toSets l).take m).flatten, Chg.ok y) := fun y hy => HOKS.out y (take_mem hy)
        have HCH0 : Hid (∀ y ∈ ((toSets l).take m).flatten, ChOk y) := fun y hy => HIN.out.2 y (take_mem hy)
        have HFL0 : Hid (((toSets l).take m).flatten.length ≤ 400) := Nat.le_trans (take_flat_le (toSets l) m) HIN.out.1
        have HMO0 := Lib.hid (manOk_of HM0.out HCH0.out)
        have HML0 : Hid (M0.l.length ≤ 400) := by have h4 : M0.l.length ≤ 0 + ((toSets l).take m).flatten.length := (allM_mem _ HM0.out).2.1; have := HFL0.out; show _ ≤ _; omega
        clear hM0
        go_wp2_with fail
        refine (bytesOf_any mark (some ⟨ga, oa, none⟩) (m + 1) c (toSets l) w3 hm.1 hm.2 (by rw [← hm1]; exact HS.out.below HU3.out) (by omega) (by have := HIN.out.1; omega) HOKS.out).mono ?_
        intro E w4 hE
        obtain ⟨A4, c4, rfl, hc4, hs4, hb4, ho4⟩ := hE.sv
        have HBL : Hid ((manB mark (toSets l)).length ≤ 100000 ∧ 8 ≤ (manB mark (toSets l)).length) := manB_in mark l hl20 HIN.out.1
        have HU4 : Hid (Below w.heap.size w w4) := HU3.out.trans (hb4.out.mono HU3.out.size)
        have HSI4 := Lib.hid (HSI.out.below hb4.out)
        have HSX4 := Lib.hid (HSX.out.below hb4.out)
        have hcx4 := cell_belM hcx hb4.out
        have HS4 := hs4
        clear hE ho4 hb4 hs4 HU3 HSI HSX hcx
        generalize hB : manB mark (toSets l) = B at *
        have HBE := Lib.hid hB
        clear hB
        go_wp2_with fail
        refine (bytesOf_any mark (some ⟨ga, oa, none⟩) m c ((toSets l).take m) w4 hm.1 hm.2 HSI4.out (by omega) (by have := HFL0.out; omega) HOK0.out).mono ?_
        intro E w5 hE
        obtain ⟨A5, c5, rfl, hc5, hs5, hb5, ho5⟩ := hE.sv
        have HU5 : Hid (Below w.heap.size w w5) := HU4.out.trans (hb5.out.mono HU4.out.size)
        have HSI5 := Lib.hid (HSI4.out.below hb5.out)
        have HSX5 := Lib.hid (HSX4.out.below hb5.out)
        have hcx5 := cell_belM hcx4 hb5.out
        have HS5 := Lib.hid (HS4.out.below hb5.out)
        have HB08 : Hid (8 ≤ (manB mark ((toSets l).take m)).length) := by
          show _ ≤ _
          unfold manB
          rw [List.length_append]
          have : (headM mark).length = 8 := rfl
          omega
        clear hE ho5 hb5 hs5 HU4 HSI4 HSX4 hcx4 HS4
        generalize hB0 : manB mark ((toSets l).take m) = B0 at *
        have HBE0 := Lib.hid hB0
        clear hB0
        have HLB : Hid (B.length = B0.length + (8 + (chgsB x).length)) := by show _ = _; rw [HBX.out, List.length_append, setB_len]
        have hle : ¬ (B.length : Int) ≤ (B0.length : Int) := by have := HLB.out; omega
        obtain ⟨sz, hsz⟩ : ∃ sz, sz = (chgsB x).length := ⟨_, rfl⟩
        have HSZ := Lib.hid hsz
        obtain ⟨S, hS⟩ : ∃ S, S = 8 + sz := ⟨_, rfl⟩
        have HSS := Lib.hid hS
        have e2 : (B.length : Int) - (B0.length : Int) = (S : Int) := by have := HLB.out; omega
        have hBle : B.length ≤ 1000000 := by have := HBL.out; omega
        have hSle : S ≤ 1000000 := by have := HLB.out; omega
        clear hS
        by_cases hc1 : cut > (S : Int)
        · clear hsz
          go_wp2
          go_ret
          exact ⟨rfl, HU5.out⟩
        obtain ⟨k, rfl⟩ := Int.eq_ofNat_of_zero_le (show 0 ≤ cut by omega)
        have hk1 : 1 ≤ k := by omega
        have hkS : k ≤ S := by omega
        obtain ⟨q, hq⟩ : ∃ q, q = B.length - k := ⟨_, rfl⟩
        have HQ := Lib.hid hq
        have e3 : (B.length : Int) - (k : Int) = (q : Int) := by have := HLB.out; have := HSS.out; have := HSZ.out; omega
        have hqle : q ≤ 1000000 := by omega
        have hkle : k ≤ 1000000 := by omega
        have d3 : decide ((k : Int) > (S : Int)) = false := decide_eq_false hc1
        clear hq hsz
        go_wp2_with fail
        refine (encodeChanges_any Bx x.length cx x w5 HSX5.out HXO.out (by have := HXL.out; omega)).mono ?_
        intro E w6 hE
        obtain ⟨A6, c6, rfl, hc6, hs6, hb6, ho6⟩ := hE.sv
        have HU6 : Hid (Below w.heap.size w w6) := HU5.out.trans (hb6.out.mono HU5.out.size)
        have HSI6 := Lib.hid (HSI5.out.below hb6.out)
        have HS6 := Lib.hid (HS5.out.below hb6.out)
        clear hE hs6 hb6 ho6 HSX5 HSI5 HS5 HU5 hcx5
        generalize hsz2 : (chgsB x).length = sz2 at *
        have hszz : sz2 = sz := HSZ.out.symm
        subst hszz
        by_cases hc2 : (sz2 : Int) > (q : Int)
        · clear hsz2
          go_wp2
          go_ret
          exact ⟨rfl, HU6.out⟩
        have d4 : decide ((sz2 : Int) > (q : Int)) = false := decide_eq_false hc2
        have HSZ2 := Lib.hid hsz2
        clear hsz2
        go_wp2_with fail
        refine (applied_any (some ⟨ga, oa, none⟩) m c ((toSets l).take m) w6 HSI6.out (by omega) (by have := HFL0.out; omega)).mono ?_
        rintro E w7 ⟨hbel, hyes, hno⟩
        obtain ⟨A7, c7, rfl, hs7⟩ := hyes M0 HM0.out
        have HU7 : Hid (Below w.heap.size w w7) := HU6.out.trans (hbel.mono HU6.out.size)
        have HS7 := Lib.hid (HS6.out.below hbel)
        have HD7 := Lib.hid hs7
        clear hyes hno hbel hs7 HSI6 HS6 HU6
        have HB8 : Hid (Blk (w7.alloc (.cells #[.slice A7 M0.l.length c7, .int .i64 M0.come, .int .i64 M0.gone] 27)) w7.heap.size 27 [.slice A7 M0.l.length c7, .int .i64 M0.come, .int .i64 M0.gone]) := Blk.new w7 _ _
        have HU8 : Hid (Below w.heap.size w (w7.alloc (.cells #[.slice A7 M0.l.length c7, .int .i64 M0.come, .int .i64 M0.gone] 27))) := HU7.out.alloc HU7.out.size _
        have HD8 : Hid (Slc (w7.alloc (.cells #[.slice A7 M0.l.length c7, .int .i64 M0.come, .int .i64 M0.gone] 27)) A7 M0.l.length M0.l) := HD7.out.below ((Below.refl _ _).alloc (Nat.le_refl _) _)
        have HS8 := Lib.hid (HS7.out.alloc (.cells #[.slice A7 M0.l.length c7, .int .i64 M0.come, .int .i64 M0.gone] 27))
        obtain ⟨g4, o4, hAe4, _⟩ := HS8.out.2 (by have := HBL.out; omega)
        subst hAe4
        have hqB : q ≤ B.length := by omega
        have hqc : (q : Int) ≤ (c4 : Int) := by omega
        have hq0 : (0 : Int) ≤ (q : Int) := by omega
        clear HU7 HS7 HD7
        go_wp2_with fail
        generalize w7.alloc (.cells #[.slice A7 M0.l.length c7, .int .i64 M0.come, .int .i64 M0.gone] 27) = w8 at *
        generalize w7.heap.size = g8 at *
        obtain ⟨r, hr⟩ : ∃ r, r = S - k := ⟨_, rfl⟩
        have HRQ : Hid (q = B0.length + r) := by have := HLB.out; have := HSS.out; have := HQ.out; have := HSZ2.out; show _ = _; omega
        have HBQ : Hid (B.take q = B0 ++ (setB x).take r) := by
          show _ = _
          rw [HBX.out, HRQ.out, List.take_append, List.take_of_length_le (by omega)]
          congr 2
          omega
        have HRS : Hid (r < (setB x).length) := by rw [setB_len]; have := HSS.out; have := HSZ2.out; show _ < _; omega
        have HSQ : Hid (Sl w8 (some ⟨g4, o4, none⟩) q (nums .u8 (B.take q))) := by
          have h := HS8.out.take (m := q) hqB
          rw [← nums_take] at h
          exact h
        have HZQ : Hid (8 ≤ r → (chgsB x).length ≤ q) := fun _ => by have := HSZ2.out; omega
        have hB0le : B0.length ≤ 1000000 := by have := HLB.out; omega
        refine (readM_ok mark (some ⟨g4, o4, none⟩) q c4 B0.length (B.take q) M0 w8 HSQ.out hqle HMO0.out hB0le (fun A1 c1 w0 hb0 hs0 hc0 => repM_ok mark A1 q c1 B0.length M0 w0 (fun wx hbx hz => by
          have h := replay_cut mark A1 q c1 (B.take q) ((setB x).take r) ((toSets l).take m) M0 ae au wx (hs0.below hbx) hc0 hqle (by rw [HBE0.out]; exact HBQ.out) hm ((HG.out.below HU8.out).below (hb0.trans (hbx.mono hb0.size))) HOK0.out HCH0.out HM0.out (by have := HFL0.out; omega) x r rfl HRS.out HZQ.out HXO.out (by have := HXL.out; omega)
          rw [HBE0.out] at h
          exact h))).mono ?_
        rintro E w9 ⟨⟨A9, c9, rfl, hs9⟩, hb9⟩
        have HU9 : Hid (Below w.heap.size w w9) := HU8.out.trans (hb9.mono HU8.out.size)
        have HG9 := Lib.hid hs9
        have HD9 := Lib.hid (HD8.out.below hb9)
        have HB9 := Lib.hid (HB8.out.frm (Frm.of_below hb9) (by simp))
        clear hs9 hb9 HU8 HD8 HB8 HS8 HSQ
        have HB3A : Hid (Blk (w9.alloc (.cells #[.slice A9 M0.l.length c9, .int .i64 M0.come, .int .i64 M0.gone] 27)) g8 27 [.slice A7 M0.l.length c7, .int .i64 M0.come, .int .i64 M0.gone]) := HB9.out.alloc _
        have hbw : Below w9.heap.size w9 (w9.alloc (.cells #[.slice A9 M0.l.length c9, .int .i64 M0.come, .int .i64 M0.gone] 27)) := (Below.refl _ _).alloc (Nat.le_refl _) _
        have HG9A := Lib.hid (HG9.out.below hbw)
        have HD9A := Lib.hid (HD9.out.below hbw)
        have HUA : Hid (Below w.heap.size w (w9.alloc (.cells #[.slice A9 M0.l.length c9, .int .i64 M0.come, .int .i64 M0.gone] 27))) := HU9.out.trans (hbw.mono HU9.out.size)
        have HNW : Hid (Blk (w9.alloc (.cells #[.slice A9 M0.l.length c9, .int .i64 M0.come, .int .i64 M0.gone] 27)) w9.heap.size 27 [.slice A9 M0.l.length c9, .int .i64 M0.come, .int .i64 M0.gone]) := Blk.new w9 _ _
        have q0 := HB3A.out.at_ (i := 0) rfl
        have q1 := HB3A.out.at_ (i := 1) rfl
        have q2 := HB3A.out.at_ (i := 2) rfl
        have p0 := HNW.out.at_ (i := 0) rfl
        have p1 := HNW.out.at_ (i := 1) rfl
        have p2 := HNW.out.at_ (i := 2) rfl
        clear hbw HG9 HD9 HU9 HB9
        go_wp2_with fail
        generalize w9.alloc (.cells #[.slice A9 M0.l.length c9, .int .i64 M0.come, .int .i64 M0.gone] 27) = wb at *
        generalize w9.heap.size = g14 at *
        refine (sameManifest_any A9 A7 M0.l.length c9 c7 M0.come M0.gone M0.l wb HG9A.out HD9A.out (by have := HML0.out; omega)).mono ?_
        rintro E wz ⟨rfl, hbz⟩
        have HUZ : Hid (Below w.heap.size w wz) := HUA.out.trans (hbz.mono HUA.out.size)
        clear hbz q0 q1 q2 p0 p1 p2 HB3A HNW HG9A HD9A HUA
        go_wp2
        go_ret
        exact ⟨congrArg (fun b => Ending.returned (.bool b)) (decide_eq_true (by have := HB08.out; omega)), HUZ.out⟩
end
end Go.Proofs.YtpfmmbhbmdbmeaaDoor
