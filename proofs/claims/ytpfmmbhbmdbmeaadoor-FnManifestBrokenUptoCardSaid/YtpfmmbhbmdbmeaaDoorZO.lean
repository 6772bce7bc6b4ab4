/- FnManifestBroken: the walk. -/
import Derived.Test.YtpfmmbhbmdbmeaaDoorYB
import Derived.Test.YtpfmmbhbmdbmeaaDoorYD
import Derived.Test.YtpfmmbhbmdbmeaaDoorZL
import Derived.Test.YtpfmmbhbmdbmeaaDoorZR
import Derived.Test.YtpfmmbhbmdbmeaaDoorZJ
import Derived.Test.YtpfmmbhbmdbmeaaDoorG0
namespace Go.Proofs.YtpfmmbhbmdbmeaaDoor
open Go.RowKit
set_option linter.unusedVariables false
set_option linter.unusedSimpArgs false
section
open Go.Proofs.YtpfmmbhbmdbmeaaDoorQ.QT Go.Proofs.YtpfmmbhbmdbmeaaDoorQ.Ext Go.Proofs.YtpfmmbhbmdbmeaaDoorW.PrintWords
set_option maxRecDepth 100000 in
set_option maxHeartbeats 4000000 in
theorem manifestBroken_walk (mark at' by' : Int) (A : Option Addr) (c : Nat) (l : List (List S45)) (ae au : Addr) (w : World) (hm : 0 ≤ mark ∧ mark ≤ 65535) (hat : -9223372036854775808 ≤ at' ∧ at' ≤ 9223372036854775807) (hby : 0 ≤ by' ∧ by' ≤ 255) (hr : Kd.C (Kd.slice 45 k45) w A l.length l) (hc : l.length ≤ c) (hw : ∀ x ∈ l, ∀ y ∈ x, chgWf y) (h1 : l.length ≤ 2000000) (h2 : (toSets l).flatten.length ≤ 2000000) (hg : ErrG w ae au) :
    Calls Tryd.prog 5 #[.int .u16 mark, .slice A l.length c, .int .i64 at', .int .u8 by'] w fun e w' => e = .returned (.bool true) ∧ Below w.heap.size w w' := by
  obtain ⟨r1, hr1⟩ := fits14_some l (by omega)
  obtain ⟨k2, r2, hr2, hb2⟩ := setsOk_some l (by omega) (fun x hx => by have := set_le h2 x hx; omega)
  have HS : Hid (Sets w A l.length (toSets l)) := sets_of_C hr
  have HR := Lib.hid hr
  have HC := Lib.hid hc
  have HW := Lib.hid hw
  have H1 := Lib.hid hr1
  have H2 := Lib.hid hr2
  have HB2 := Lib.hid hb2
  have HL2 := Lib.hid h2
  have HG := Lib.hid hg
  clear hr hc hw hr1 hr2 hb2 h2 hg
  go_enter Tryd.func5, Tryd.ntmps5
  go_wp2_with fail
  refine (laws_zzFits14.calls _ A c l r1 w HR.out HC.out H1.out).mono ?_
  rintro E w1 ⟨rfl, hd1⟩
  have HU1 : Hid (Below w.heap.size w w1) := hd1.below
  clear hd1
  cases r1 with
  | false =>
    go_wp2
    go_ret
    exact ⟨rfl, HU1.out⟩
  | true =>
    go_wp2_with fail
    refine (applied_any A l.length c (toSets l) w1 (HS.out.below HU1.out) (by omega) (by have := HL2.out; omega)).mono ?_
    rintro E w2 ⟨hbel, hyes, hno⟩
    have HU2 : Hid (Below w.heap.size w w2) := HU1.out.trans (hbel.mono HU1.out.size)
    clear hbel
    cases hM : allM ⟨[], 0, 0⟩ (toSets l).flatten with
    | none =>
      obtain rfl := hno hM
      clear hyes hno hM
      have HA : Hid (Below w.heap.size w (w2.alloc (.cells #[.slice none 0 0, .int .i64 0, .int .i64 0] 27))) := HU2.out.alloc HU2.out.size _
      go_wp2
      go_ret
      first | exact ⟨rfl, HA.out⟩ | exact ⟨rfl, HU2.out⟩
    | some M =>
      obtain ⟨A1, c1, rfl, hs1⟩ := hyes M hM
      have HM := Lib.hid hM
      have HS1 := Lib.hid hs1
      clear hyes hno hM hs1
      have HB3 : Hid (Blk (w2.alloc (.cells #[.slice A1 M.l.length c1, .int .i64 M.come, .int .i64 M.gone] 27)) w2.heap.size 27 [.slice A1 M.l.length c1, .int .i64 M.come, .int .i64 M.gone]) := Blk.new w2 _ _
      have HUA : Hid (Below w.heap.size w (w2.alloc (.cells #[.slice A1 M.l.length c1, .int .i64 M.come, .int .i64 M.gone] 27))) := HU2.out.alloc HU2.out.size _
      have HSA : Hid (Slc (w2.alloc (.cells #[.slice A1 M.l.length c1, .int .i64 M.come, .int .i64 M.gone] 27)) A1 M.l.length M.l) := HS1.out.below ((Below.refl _ _).alloc (Nat.le_refl _) _)
      clear HU2 HS1
      go_wp2_with fail
      generalize w2.alloc (.cells #[.slice A1 M.l.length c1, .int .i64 M.come, .int .i64 M.gone] 27) = wa at *
      generalize w2.heap.size = g3 at *
      refine (laws_setsOk.calls k2 A c l r2 wa (Kd.C_below HR.out HUA.out) HC.out H2.out).mono ?_
      rintro E w3 ⟨rfl, hb3⟩
      have HU3 : Hid (Below w.heap.size w w3) := HUA.out.trans (hb3.mono HUA.out.size)
      replace HSA := Lib.hid (HSA.out.below hb3)
      replace HB3 := Lib.hid (HB3.out.frm (Frm.of_below hb3) (by simp))
      clear hb3 HUA
      cases hr2 : r2 with
      | false =>
        go_wp2
        go_ret
        exact ⟨rfl, HU3.out⟩
      | true =>
        obtain ⟨hs1, hs2⟩ := HB2.out hr2
        have HIN := Lib.hid (sets_in HW.out hs1 hs2)
        have HOKS := Lib.hid (sets_ok HW.out)
        have HML : Hid (M.l.length ≤ 400) := by have h4 : M.l.length ≤ 0 + (toSets l).flatten.length := (allM_mem _ HM.out).2.1; have := HIN.out.1; show _ ≤ _; omega
        have hl20 : l.length ≤ 20 := hs1
        have HMO := Lib.hid (manOk_of HM.out HIN.out.2)
        clear hs1 hs2
        by_cases hl1 : l.length < 1
        · have hl1' : (l.length : Int) < 1 := by omega
          go_wp2
          go_ret
          exact ⟨rfl, HU3.out⟩
        have hl1' : ¬ (l.length : Int) < 1 := by omega
        by_cases hat0 : at' < 0
        · go_wp2
          go_ret
          exact ⟨rfl, HU3.out⟩
        by_cases hby0 : by' = 0
        · subst hby0
          go_wp2
          go_ret
          exact ⟨rfl, HU3.out⟩
        have d1 : decide ((l.length : Int) < 1) = false := decide_eq_false hl1'
        have d2 : decide (at' < 0) = false := decide_eq_false hat0
        have d3 : (by' == 0) = false := beq_eq_false_iff_ne.2 hby0
        go_wp2_with fail
        refine (bytesOf_any mark A l.length c (toSets l) w3 hm.1 hm.2 (HS.out.below HU3.out) (by omega) (by have := HIN.out.1; omega) HOKS.out).mono ?_
        intro E w4 hE
        obtain ⟨A4, c4, rfl, hc4, hs4, hb4, ho4⟩ := hE.sv
        have HBL : Hid ((manB mark (toSets l)).length ≤ 100000 ∧ 8 ≤ (manB mark (toSets l)).length) := manB_in mark l hl20 HIN.out.1
        have HU4 : Hid (Below w.heap.size w w4) := HU3.out.trans (hb4.out.mono HU3.out.size)
        have HS4 := hs4
        generalize hB : manB mark (toSets l) = B at *
        have HBE := Lib.hid hB
        have HZ34 : Hid (w3.heap.size ≤ w4.heap.size) := hb4.out.size
        have HZ33 : Hid (w.heap.size ≤ w3.heap.size) := HU3.out.size
        clear hE hB HU3 HSA HB3
        obtain ⟨m, hm1⟩ : ∃ m, l.length = m + 1 := ⟨l.length - 1, by omega⟩
        have hlm : m < l.length := by omega
        obtain ⟨ga, oa, x, Bx, cx, hAe, hx, hcx, hsx⟩ := (HS.out.below HU4.out).2 m hlm
        subst hAe
        have HX := Lib.hid hx
        have HSX := Lib.hid hsx
        have HM1 : Hid ((toSets l).length = m + 1) := by show _ = _; rw [sets_len]; exact hm1
        have HXO : Hid (∀ y ∈ x, Chg.ok y) := fun y hy => HOKS.out y (part_mem hx hy)
        have HXL : Hid (x.length ≤ 400) := part_le hx HIN.out.1
        have HXP := Lib.hid (chgsB_pos x)
        have e1 : ((l.length : Int) - 1) = (m : Int) := by omega
        clear hx hsx
        have HO4 := Lib.hid ho4.out
        clear ho4 hb4 hs4
        go_wp2_with fail
        refine (encodeChanges_any Bx x.length cx x w4 HSX.out HXO.out (by have := HXL.out; omega)).mono ?_
        intro E w5 hE
        obtain ⟨A6, c6, rfl, hc6, hs6, hb6, ho6⟩ := hE.sv
        have HO5 := Lib.hid (own_keep HO4.out hb6.out)
        have HU5 : Hid (Below w.heap.size w w5) := HU4.out.trans (hb6.out.mono HU4.out.size)
        have hcx5 := cell_belM hcx hb6.out
        have HBX : Hid (B = manB mark ((toSets l).take m) ++ setB x) := by show _ = _; rw [← HBE.out]; exact manB_last mark HX.out HM1.out
        have HBW := Lib.hid (chgsB_byt x HXO.out)
        have HLS : Hid (B.length = (manB mark ((toSets l).take m)).length + 8 + (chgsB x).length) := by show _ = _; rw [HBX.out, List.length_append, setB_len]; omega
        have HZW : Hid (w3.heap.size ≤ w5.heap.size ∧ w.heap.size ≤ w3.heap.size) := ⟨Nat.le_trans HZ34.out hb6.out.size, HZ33.out⟩
        clear hE hs6 hb6 ho6 hcx HO4 HU4 HS4 HSX
        obtain ⟨sz, hsz⟩ : ∃ sz, sz = (chgsB x).length := ⟨_, rfl⟩
        rw [← hsz] at HLS HXP ⊢
        have HSZ := Lib.hid hsz
        clear hsz
        have dB : ((B.length : Int) == 0) = false := beq_eq_false_iff_ne.2 (by have := HBL.out; omega)
        by_cases hs0 : sz = 0
        · subst hs0
          have hx0 : x.length = 0 := by have := HXP.out; omega
          go_wp2
          go_ret
          exact ⟨rfl, HU5.out⟩
        have d4 : ((sz : Int) == 0) = false := beq_eq_false_iff_ne.2 (by omega)
        by_cases hge : (sz : Int) ≤ at'
        · go_wp2
          go_ret
          exact ⟨rfl, HU5.out⟩
        obtain ⟨k, rfl⟩ := Int.eq_ofNat_of_zero_le hat0
        have hks : k < sz := by omega
        have hgt : ¬ (sz : Int) > (B.length : Int) := by have := HLS.out; omega
        obtain ⟨P, hP⟩ : ∃ P, P = (manB mark ((toSets l).take m)).length + 8 := ⟨_, rfl⟩
        have HP := Lib.hid hP
        have HPB : Hid (B.length = P + sz) := by have := HLS.out; have := HP.out; show _ = _; omega
        have e2 : (B.length : Int) - (sz : Int) = (P : Int) := by have := HPB.out; omega
        obtain ⟨g4, cur, hAe4, hg4, hblk, hnc, hcl, hct⟩ := own_blk HO5.out (by have := HBL.out; omega)
        subst hAe4
        obtain ⟨u, hu⟩ : ∃ u, (chgsB x)[k]? = some u := ⟨_, List.getElem?_eq_getElem (by rw [← HSZ.out]; exact hks)⟩
        have hub := HBW.out u (List.mem_of_getElem? hu)
        have hBk : B[P + k]? = some u := by
          have e : setB x = be32 (chgsB x).length ++ (be32 (crcOut (chgsB x)) ++ chgsB x) := rfl
          rw [HBX.out, e, ← List.append_assoc, ← List.append_assoc, List.getElem?_append_right (by rw [List.length_append, List.length_append, be32_len4, be32_len4, HP.out]; omega), ← hu]
          congr 1
          rw [List.length_append, List.length_append, be32_len4, be32_len4, HP.out]
          omega
        have hcu : cur[P + k]? = some (.int .u8 u) := by
          have h := congrArg (fun q => q[P + k]?) hct
          rw [List.getElem?_take_of_lt (by have := HPB.out; omega)] at h
          rw [h, nums, List.getElem?_map, hBk]
          rfl
        have q5 : w5.cell? ⟨g4, P + k, none⟩ = some (.int .u8 u) := by rw [hblk.cell]; exact hcu
        have f5 : w5.frozen? ⟨g4, P + k, none⟩ = false := hblk.frozen _
        have hPk : P + k < B.length := by have := HPB.out; omega
        have hPc : P + k < c4 := by omega
        have hPle : P ≤ 1000000 := by have := HPB.out; have := HBL.out; omega
        have hPke : P + k ≤ 1000000 := by have := HPB.out; have := HBL.out; omega
        have HK6 : Hid (Blk (w5.setCell ⟨g4, P + k, none⟩ (.int .u8 ((u + by') % 256))) g4 5 (cur.set (P + k) (.int .u8 ((u + by') % 256)))) := hblk.set_ _ _
        have HY : Hid (Sl (w5.setCell ⟨g4, P + k, none⟩ (.int .u8 ((u + by') % 256))) (some ⟨g4, 0, none⟩) B.length (nums .u8 (B.set (P + k) ((u + by') % 256)))) := by
          have h := HK6.out.sl (off := 0) (n := B.length) (by rw [List.length_set]; omega)
          have e : ((cur.set (P + k) (Value.int .u8 ((u + by') % 256))).drop 0).take B.length = nums .u8 (B.set (P + k) ((u + by') % 256)) := by
            rw [List.drop_zero, List.take_set, hct, nums, nums, List.map_set]
          rw [e] at h
          exact h
        have HU6 : Hid (Below w.heap.size w (w5.setCell ⟨g4, P + k, none⟩ (.int .u8 ((u + by') % 256)))) := HU5.out.setCell (by have := HZW.out; show w.heap.size ≤ g4; omega) _
        have HVK : Hid (0 ≤ (u + by') % 256 ∧ (u + by') % 256 ≤ 255 ∧ (u + by') % 256 ≠ u) := by show _ ∧ _; omega
        have HUK := Lib.hid hu
        have HPKs : Hid (P + k < B.length ∧ k < sz) := ⟨hPk, hks⟩
        clear hP hu hub hBk hcu hct hcl hblk HK6 HO5 HU5
        go_wp2_with fail
        clear q5 f5
        generalize w5.setCell ⟨g4, P + k, none⟩ (.int .u8 ((u + by') % 256)) = w6 at *
        generalize (u + by') % 256 = v at *
        have HBV : Hid (B.set (P + k) v = manB mark ((toSets l).take m) ++ (be32 ((chgsB x).set k v).length ++ (be32 (crcOut (chgsB x)) ++ (chgsB x).set k v))) := by
          have e : setB x = be32 (chgsB x).length ++ (be32 (crcOut (chgsB x)) ++ chgsB x) := rfl
          have e3 : P = (manB mark ((toSets l).take m) ++ (be32 (chgsB x).length ++ be32 (crcOut (chgsB x)))).length := by rw [List.length_append, List.length_append, be32_len4, be32_len4]; exact HP.out
          show _ = _
          rw [HBX.out, e, ← List.append_assoc (be32 _), ← List.append_assoc, e3, set_right, List.length_set]
          simp only [List.append_assoc]
        obtain ⟨M0, hM0⟩ := allM_init HX.out HM1.out HM.out
        have HM0 := Lib.hid hM0
        have HCN : Hid (¬ crcOut ((chgsB x).set k v) = crcOut (chgsB x)) := fun h => HVK.out.2.2 (crcOut_set (chgsB x) HBW.out k u v HUK.out ⟨HVK.out.1, HVK.out.2.1⟩ h)
        have HBS : Hid (Byt ((chgsB x).set k v)) := fun y hy => by
          rcases List.mem_or_eq_of_mem_set hy with h | h
          · exact HBW.out y h
          · rw [h]; exact ⟨HVK.out.1, HVK.out.2.1⟩
        have HCI := Lib.hid (crcOut_in (chgsB x) HBW.out)
        have HSL : Hid (((chgsB x).set k v).length ≤ 77000) := by have := chgsB_len x; have := HXL.out; show _ ≤ _; rw [List.length_set]; omega
        clear hM0
        refine (readM_no mark _ B.length c4 _ w6 HY.out (by have := HBL.out; omega) (fun A1 c1 w0 hb0 hs0 hc0 => repM_no mark A1 B.length c1 w0 (fun wy hby' hz => replay_broken mark A1 B.length c1 _ _ ((toSets l).take m) M0 ae au wy (hs0.below hby') hc0 (by have := HBL.out; omega) HBV.out hm ((HG.out.below HU6.out).below (hb0.trans (hby'.mono hb0.size))) (fun y hy => HOKS.out y (take_mem hy)) (fun y hy => HIN.out.2 y (take_mem hy)) HM0.out (by have := take_flat_le (toSets l) m; have := HIN.out.1; omega) _ (crcOut (chgsB x)) rfl HBS.out HSL.out HCI.out HCN.out))).mono ?_
        rintro E w7 ⟨rfl, hb7⟩
        have HU7 : Hid (Below w.heap.size w w7) := HU6.out.trans (hb7.mono HU6.out.size)
        have HU8 : Hid (Below w.heap.size w (w7.alloc (.cells #[.slice none 0 0, .int .i64 0, .int .i64 0] 27))) := HU7.out.alloc HU7.out.size _
        clear hb7
        go_wp2
        go_ret
        exact ⟨rfl, HU8.out⟩
end
end Go.Proofs.YtpfmmbhbmdbmeaaDoor
