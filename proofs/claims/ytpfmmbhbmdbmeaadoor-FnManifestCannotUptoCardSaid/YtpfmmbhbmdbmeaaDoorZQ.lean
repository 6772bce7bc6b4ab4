/- FnManifestCannot: the walk. -/
import Derived.Test.YtpfmmbhbmdbmeaaDoorYB
import Derived.Test.YtpfmmbhbmdbmeaaDoorYD
import Derived.Test.YtpfmmbhbmdbmeaaDoorZL
import Derived.Test.YtpfmmbhbmdbmeaaDoorZR
import Derived.Test.YtpfmmbhbmdbmeaaDoorZS
import Derived.Test.YtpfmmbhbmdbmeaaDoorZT
import Derived.Test.YtpfmmbhbmdbmeaaDoorZK
namespace Go.Proofs.YtpfmmbhbmdbmeaaDoor
open Go.RowKit
set_option linter.unusedVariables false
set_option linter.unusedSimpArgs false
theorem manB_split {mark : Int} {ls : List (List Chg)} {i : Nat} {x : List Chg} (hx : ls[i]? = some x) : manB mark ls = manB mark (ls.take i) ++ (setB x ++ (ls.drop (i + 1)).flatMap setB) := by
  have hi := List.getElem?_eq_some_iff.1 hx
  have h2 : ls.flatMap setB = (ls.take i).flatMap setB ++ (setB x ++ (ls.drop (i + 1)).flatMap setB) := by
    have h3 : ls.drop i = x :: ls.drop (i + 1) := by rw [← List.getElem_cons_drop hi.1, hi.2]
    conv => lhs; rw [← List.take_append_drop i ls]
    rw [List.flatMap_append, h3, List.flatMap_cons]
  unfold manB
  rw [h2, List.append_assoc]
theorem sets_nil (w : World) : Sets w none 0 [] := ⟨rfl, fun j hj => absurd hj (Nat.not_lt_zero _)⟩
section
open Go.Proofs.YtpfmmbhbmdbmeaaDoorQ.QT Go.Proofs.YtpfmmbhbmdbmeaaDoorQ.Ext Go.Proofs.YtpfmmbhbmdbmeaaDoorW.PrintWords
set_option maxRecDepth 100000 in
set_option maxHeartbeats 4000000 in
theorem manifestCannot_walk (mark : Int) (A : Option Addr) (c : Nat) (l : List (List S45)) (ae au : Addr) (w : World) (hm : 0 ≤ mark ∧ mark ≤ 65535) (hr : Kd.C (Kd.slice 45 k45) w A l.length l) (hc : l.length ≤ c) (hw : ∀ x ∈ l, ∀ y ∈ x, chgWf y) (h1 : l.length ≤ 2000000) (h2 : (toSets l).flatten.length ≤ 2000000) (hg : ErrG w ae au) :
    Calls Tryd.prog 7 #[.int .u16 mark, .slice A l.length c] w fun e w' => e = .returned (.bool true) ∧ Below w.heap.size w w' := by
  obtain ⟨r1, hr1⟩ := fits14_some l (by omega)
  obtain ⟨k2, r2, hr2, hb2⟩ := setsOk_some l (by omega) (fun x hx => by have := set_le h2 x hx; omega)
  have HS : Hid (Sets w A l.length (toSets l)) := sets_of_C hr
  have HR := Lib.hid hr
  have HC := Lib.hid hc
  have HW := Lib.hid hw
  have H1 := Lib.hid hr1
  have H2 := Lib.hid hr2
  have HB2 := Lib.hid hb2
  have HL2 := Lib.hid h2
  have HG := Lib.hid hg
  clear hr hc hw hr1 hr2 hb2 h2 hg
  go_enter Tryd.func7, Tryd.ntmps7
  go_wp2_with fail
  refine (laws_zzFits14.calls _ A c l r1 w HR.out HC.out H1.out).mono ?_
  rintro E w1 ⟨rfl, hd1⟩
  have HU1 : Hid (Below w.heap.size w w1) := hd1.below
  clear hd1
  cases r1 with
  | false =>
    go_wp2
    go_ret
    exact ⟨rfl, HU1.out⟩
  | true =>
    go_wp2_with fail
    refine (twice_any A l.length c (toSets l) w1 (HS.out.below HU1.out) (by omega) (by have := HL2.out; omega)).mono ?_
    rintro E w2 ⟨⟨b, rfl, hbt⟩, hbel⟩
    have HU2 : Hid (Below w.heap.size w w2) := HU1.out.trans (hbel.mono HU1.out.size)
    clear hbel
    cases b with
    | false =>
      go_wp2
      go_ret
      exact ⟨rfl, HU2.out⟩
    | true =>
      have HTW : Hid (twice ⟨[], 0, 0⟩ (toSets l).flatten = true) := hbt rfl
      clear hbt
      go_wp2_with fail
      refine (laws_setsOk.calls k2 A c l r2 w2 (Kd.C_below HR.out HU2.out) HC.out H2.out).mono ?_
      rintro E w3 ⟨rfl, hb3⟩
      have HU3 : Hid (Below w.heap.size w w3) := HU2.out.trans (hb3.mono HU2.out.size)
      clear hb3 HU2
      cases hr2 : r2 with
      | false =>
        go_wp2
        go_ret
        exact ⟨rfl, HU3.out⟩
      | true =>
        obtain ⟨hs1, hs2⟩ := HB2.out hr2
        have HIN := Lib.hid (sets_in HW.out hs1 hs2)
        have HOKS := Lib.hid (sets_ok HW.out)
        have hl20 : l.length ≤ 20 := hs1
        clear hs1 hs2
        obtain ⟨k, x, mk, hx, hmk, htx⟩ := twice_split _ _ HTW.out
        have HX := Lib.hid hx
        have HMK := Lib.hid hmk
        have HTX := Lib.hid htx
        clear hx hmk htx
        go_wp2_with fail
        refine (bytesOf_any mark A l.length c (toSets l) w3 hm.1 hm.2 (HS.out.below HU3.out) (by omega) (by have := HIN.out.1; omega) HOKS.out).mono ?_
        intro E w4 hE
        obtain ⟨A4, c4, rfl, hc4, hs4, hb4, ho4⟩ := hE.sv
        have HBL : Hid ((manB mark (toSets l)).length ≤ 100000 ∧ 8 ≤ (manB mark (toSets l)).length) := manB_in mark l hl20 HIN.out.1
        have HU4 : Hid (Below w.heap.size w w4) := HU3.out.trans (hb4.out.mono HU3.out.size)
        have HS4 := hs4
        generalize hB : manB mark (toSets l) = B at *
        have HBE := Lib.hid hB
        clear hE hs4 hb4 ho4 hB HU3
        have HBX : Hid (B = manB mark ((toSets l).take k) ++ (setB x ++ ((toSets l).drop (k + 1)).flatMap setB)) := by show _ = _; rw [← HBE.out]; exact manB_split HX.out
        have HXL : Hid (x.length ≤ 400) := part_le HX.out HIN.out.1
        go_wp2_with fail
        refine (readM_no mark A4 B.length c4 B w4 HS4.out (by have := HBL.out; omega) (fun A1 c1 w0 hb0 hs0 hc0 => repM_no mark A1 B.length c1 w0 (fun wy hby hz => replay_cannot mark A1 B.length c1 B _ ((toSets l).take k) mk ae au wy (hs0.below hby) hc0 (by have := HBL.out; omega) HBX.out hm ((HG.out.below HU4.out).below (hb0.trans (hby.mono hb0.size))) (fun y hy => HOKS.out y (take_mem hy)) (fun y hy => HIN.out.2 y (take_mem hy)) HMK.out (by have := take_flat_le (toSets l) k; have := HIN.out.1; omega) x _ rfl HTX.out (fun y hy => HOKS.out y (part_mem HX.out hy)) (fun y hy => HIN.out.2 y (part_mem HX.out hy)) (by have := HXL.out; omega)))).mono ?_
        rintro E w5 ⟨rfl, hb5⟩
        have HU5 : Hid (Below w.heap.size w w5) := HU4.out.trans (hb5.mono HU4.out.size)
        clear hb5 HU4 HS4
        have HU6 : Hid (Below w.heap.size w (w5.alloc (.cells #[.slice none 0 0, .int .i64 0, .int .i64 0] 27))) := HU5.out.alloc HU5.out.size _
        go_wp2_with fail
        refine (applyAll_hit A l.length c (toSets l) _ (HS.out.below HU6.out) (by omega) (by have := HIN.out.1; omega) HTW.out HIN.out.2).mono ?_
        rintro E w7 ⟨rfl, hb7⟩
        have HU7 : Hid (Below w.heap.size w w7) := HU6.out.trans (hb7.mono HU6.out.size)
        clear hb7 HU5 HU6
        have HU8 : Hid (Below w.heap.size w ((w7.alloc (.cells #[.slice none 0 0, .int .i64 0, .int .i64 0] 27)).alloc (.cells #[.slice none 0 0, .int .i64 0, .int .i64 0] 27))) := (HU7.out.alloc HU7.out.size _).alloc (by rw [World.size_alloc]; have := HU7.out.size; omega) _
        go_wp2_with fail
        refine (applyAll_any none 0 0 [] ⟨[], 0, 0⟩ _ (sets_nil _) (by omega) (by simp) rfl (fun x hx => by cases hx)).mono ?_
        rintro E w9 ⟨⟨A9, c9, A8, c8, rfl, hs9, hs8⟩, hb9⟩
        have HU9 : Hid (Below w.heap.size w w9) := HU8.out.trans (hb9.mono HU8.out.size)
        clear hs9 hs8 hb9 HU8 HU7
        have HUZ : Hid (Below w.heap.size w ((w9.alloc (.cells #[.slice A9 0 c9, .int .i64 0, .int .i64 0] 27)).alloc (.cells #[.slice A8 0 c8, .int .i64 0, .int .i64 0] 27))) := (HU9.out.alloc HU9.out.size _).alloc (by rw [World.size_alloc]; have := HU9.out.size; omega) _
        go_wp2
        go_ret
        exact ⟨rfl, HUZ.out⟩
end
end Go.Proofs.YtpfmmbhbmdbmeaaDoor
