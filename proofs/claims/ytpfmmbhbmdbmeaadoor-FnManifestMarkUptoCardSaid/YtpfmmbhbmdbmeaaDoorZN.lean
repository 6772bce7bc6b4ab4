/- FnManifestMark: the walk. -/
import Derived.Test.YtpfmmbhbmdbmeaaDoorYB
import Derived.Test.YtpfmmbhbmdbmeaaDoorYD
import Derived.Test.YtpfmmbhbmdbmeaaDoorZL
import Derived.Test.YtpfmmbhbmdbmeaaDoorZR
namespace Go.Proofs.YtpfmmbhbmdbmeaaDoor
open Go.RowKit
set_option linter.unusedVariables false
set_option linter.unusedSimpArgs false
section
open Go.Proofs.YtpfmmbhbmdbmeaaDoorQ.QT Go.Proofs.YtpfmmbhbmdbmeaaDoorQ.Ext Go.Proofs.YtpfmmbhbmdbmeaaDoorW.PrintWords
set_option maxRecDepth 100000 in
set_option maxHeartbeats 4000000 in
theorem manifestMark_walk (mark other : Int) (A : Option Addr) (c : Nat) (l : List (List S45)) (ae au : Addr) (w : World) (hm : 0 ≤ mark ∧ mark ≤ 65535) (ho : 0 ≤ other ∧ other ≤ 65535) (hr : Kd.C (Kd.slice 45 k45) w A l.length l) (hc : l.length ≤ c) (hw : ∀ x ∈ l, ∀ y ∈ x, chgWf y) (h1 : l.length ≤ 2000000) (h2 : (toSets l).flatten.length ≤ 2000000) (hg : ErrG w ae au) :
    Calls Tryd.prog 4 #[.int .u16 mark, .int .u16 other, .slice A l.length c] w fun e w' => e = .returned (.bool true) ∧ Below w.heap.size w w' := by
  obtain ⟨r1, hr1⟩ := fits14_some l (by omega)
  obtain ⟨k2, r2, hr2, hb2⟩ := setsOk_some l (by omega) (fun x hx => by have := set_le h2 x hx; omega)
  have HS : Hid (Sets w A l.length (toSets l)) := sets_of_C hr
  have HR := Lib.hid hr
  have HC := Lib.hid hc
  have HW := Lib.hid hw
  have H1 := Lib.hid hr1
  have H2 := Lib.hid hr2
  have HB2 := Lib.hid hb2
  have HL2 := Lib.hid h2
  have HG := Lib.hid hg
  clear hr hc hw hr1 hr2 hb2 h2 hg
  go_enter Tryd.func4, Tryd.ntmps4
  go_wp2_with fail
  refine (laws_zzFits14.calls _ A c l r1 w HR.out HC.out H1.out).mono ?_
  rintro E w1 ⟨rfl, hd1⟩
  have HU1 : Hid (Below w.heap.size w w1) := hd1.below
  clear hd1
  cases r1 with
  | false =>
    go_wp2
    go_ret
    exact ⟨rfl, HU1.out⟩
  | true =>
    go_wp2_with fail
    refine (applied_any A l.length c (toSets l) w1 (HS.out.below HU1.out) (by omega) (by have := HL2.out; omega)).mono ?_
    rintro E w2 ⟨hbel, hyes, hno⟩
    have HU2 : Hid (Below w.heap.size w w2) := HU1.out.trans (hbel.mono HU1.out.size)
    clear hbel
    cases hM : allM ⟨[], 0, 0⟩ (toSets l).flatten with
    | none =>
      obtain rfl := hno hM
      clear hyes hno hM
      have HA : Hid (Below w.heap.size w (w2.alloc (.cells #[.slice none 0 0, .int .i64 0, .int .i64 0] 27))) := HU2.out.alloc HU2.out.size _
      go_wp2
      go_ret
      first | exact ⟨rfl, HA.out⟩ | exact ⟨rfl, HU2.out⟩
    | some M =>
      obtain ⟨A1, c1, rfl, hs1⟩ := hyes M hM
      have HM := Lib.hid hM
      have HS1 := Lib.hid hs1
      clear hyes hno hM hs1
      have HB3 : Hid (Blk (w2.alloc (.cells #[.slice A1 M.l.length c1, .int .i64 M.come, .int .i64 M.gone] 27)) w2.heap.size 27 [.slice A1 M.l.length c1, .int .i64 M.come, .int .i64 M.gone]) := Blk.new w2 _ _
      have HUA : Hid (Below w.heap.size w (w2.alloc (.cells #[.slice A1 M.l.length c1, .int .i64 M.come, .int .i64 M.gone] 27))) := HU2.out.alloc HU2.out.size _
      have HSA : Hid (Slc (w2.alloc (.cells #[.slice A1 M.l.length c1, .int .i64 M.come, .int .i64 M.gone] 27)) A1 M.l.length M.l) := HS1.out.below ((Below.refl _ _).alloc (Nat.le_refl _) _)
      clear HU2 HS1
      go_wp2_with fail
      generalize w2.alloc (.cells #[.slice A1 M.l.length c1, .int .i64 M.come, .int .i64 M.gone] 27) = wa at *
      generalize w2.heap.size = g3 at *
      refine (laws_setsOk.calls k2 A c l r2 wa (Kd.C_below HR.out HUA.out) HC.out H2.out).mono ?_
      rintro E w3 ⟨rfl, hb3⟩
      have HU3 : Hid (Below w.heap.size w w3) := HUA.out.trans (hb3.mono HUA.out.size)
      replace HSA := Lib.hid (HSA.out.below hb3)
      replace HB3 := Lib.hid (HB3.out.frm (Frm.of_below hb3) (by simp))
      clear hb3 HUA
      cases hr2 : r2 with
      | false =>
        go_wp2
        go_ret
        exact ⟨rfl, HU3.out⟩
      | true =>
        obtain ⟨hs1, hs2⟩ := HB2.out hr2
        have HIN := Lib.hid (sets_in HW.out hs1 hs2)
        have HOKS := Lib.hid (sets_ok HW.out)
        have HML : Hid (M.l.length ≤ 400) := by have h4 : M.l.length ≤ 0 + (toSets l).flatten.length := (allM_mem _ HM.out).2.1; have := HIN.out.1; show _ ≤ _; omega
        have hl20 : l.length ≤ 20 := hs1
        have HMO := Lib.hid (manOk_of HM.out HIN.out.2)
        clear hs1 hs2
        by_cases hmo : mark = other
        · subst hmo
          go_wp2
          go_ret
          exact ⟨rfl, HU3.out⟩
        go_wp2_with fail
        refine (bytesOf_any mark A l.length c (toSets l) w3 hm.1 hm.2 (HS.out.below HU3.out) (by omega) (by have := HIN.out.1; omega) HOKS.out).mono ?_
        intro E w4 hE
        obtain ⟨A4, c4, rfl, hc4, hs4, hb4, ho4⟩ := hE.sv
        have HBL : Hid ((manB mark (toSets l)).length ≤ 100000 ∧ 8 ≤ (manB mark (toSets l)).length) := manB_in mark l hl20 HIN.out.1
        have HU4 : Hid (Below w.heap.size w w4) := HU3.out.trans (hb4.out.mono HU3.out.size)
        have HS4 := hs4
        generalize hB : manB mark (toSets l) = B at *
        have HBE := Lib.hid hB
        clear hE hs4 hb4 ho4 hB HU3 HSA HB3
        go_wp2_with fail
        refine (readM_ok mark A4 B.length c4 B.length B M w4 HS4.out (by have := HBL.out; omega) HMO.out (by have := HBL.out; omega) (fun A1 c1 w0 hb0 hs0 hc0 => repM_ok mark A1 B.length c1 B.length M w0 (fun wx hbx hz => whole mark A1 B.length c1 B (toSets l) M ae au wx (hs0.below hbx) hc0 (by have := HBL.out; omega) HBE.out.symm hm ((HG.out.below HU4.out).below (hb0.trans (hbx.mono hb0.size))) HOKS.out HIN.out.2 HM.out (by have := HIN.out.1; omega)))).mono ?_
        rintro E w5 ⟨⟨A5, c5, rfl, hs5⟩, hb5⟩
        have HU5 : Hid (Below w.heap.size w w5) := HU4.out.trans (hb5.mono HU4.out.size)
        have HS5 := Lib.hid (HS4.out.below hb5)
        clear hs5 hb5 HU4
        have HUx : Hid (Below w.heap.size w (w5.alloc (.cells #[.slice A5 M.l.length c5, .int .i64 M.come, .int .i64 M.gone] 27))) := HU5.out.alloc HU5.out.size _
        have HSx := Lib.hid (HS5.out.alloc (.cells #[.slice A5 M.l.length c5, .int .i64 M.come, .int .i64 M.gone] 27))
        clear HU5 HS5
        go_wp2_with fail
        generalize w5.alloc (.cells #[.slice A5 M.l.length c5, .int .i64 M.come, .int .i64 M.gone] 27) = wx at *
        refine (readM_no other A4 B.length c4 B wx HSx.out (by have := HBL.out; omega) (fun A1 c1 w0 hb0 hs0 hc0 => repM_no other A1 B.length c1 w0 (fun wy hby hz => replay_mark mark other A1 B.length c1 B ((toSets l).flatMap setB) ae au wy (hs0.below hby) hc0 (by have := HBL.out; omega) HBE.out.symm hm hmo ((HG.out.below HUx.out).below (hb0.trans (hby.mono hb0.size)))))).mono ?_
        rintro E w6 ⟨rfl, hb6⟩
        have HU6 : Hid (Below w.heap.size w w6) := HUx.out.trans (hb6.mono HUx.out.size)
        have HU7 : Hid (Below w.heap.size w (w6.alloc (.cells #[.slice none 0 0, .int .i64 0, .int .i64 0] 27))) := HU6.out.alloc HU6.out.size _
        clear hb6 HUx HSx
        go_wp2
        go_ret
        exact ⟨rfl, HU7.out⟩
end
end Go.Proofs.YtpfmmbhbmdbmeaaDoor
