/- Changes, made set by set, leave what a manifest with them tells: the law's walk. -/
import Derived.Test.YtpfmmbhbmdbmeaaYB
import Derived.Test.YtpfmmbhbmdbmeaaYC
import Derived.Test.YtpfmmbhbmdbmeaaF7
namespace Go.Proofs.Ytpfmmbhbmdbmeaa
open Go.RowKit
set_option linter.unusedVariables false
set_option linter.unusedSimpArgs false
set_option maxRecDepth 100000 in
theorem sameManifest_any (A B : Option Addr) (n c d : Nat) (come gone : Int) (l : List Chg) (w : World) (h : Slc w A n l) (k : Slc w B n l) (hn : n ≤ 1000000) :
    Calls Try.prog 8 #[.agg #[.slice A n c, .int .i64 come, .int .i64 gone], .agg #[.slice B n d, .int .i64 come, .int .i64 gone]] w (fun E w' => E = .returned (.bool true) ∧ Below w.heap.size w w') := by
  have H : Hid (Slc ((w.alloc (.cells #[.slice A n c, .int .i64 come, .int .i64 gone] 26)).alloc (.cells #[.slice B n d, .int .i64 come, .int .i64 gone] 26)) A n l) := h.below (((Below.refl _ _).alloc (Nat.le_refl _) _).alloc (by simp) _)
  have K2 : Hid (Slc ((w.alloc (.cells #[.slice A n c, .int .i64 come, .int .i64 gone] 26)).alloc (.cells #[.slice B n d, .int .i64 come, .int .i64 gone] 26)) B n l) := k.below (((Below.refl _ _).alloc (Nat.le_refl _) _).alloc (by simp) _)
  have HU : Hid (Below w.heap.size w ((w.alloc (.cells #[.slice A n c, .int .i64 come, .int .i64 gone] 26)).alloc (.cells #[.slice B n d, .int .i64 come, .int .i64 gone] 26))) := ((Below.refl _ _).alloc (Nat.le_refl _) _).alloc (by simp) _
  clear h k
  go_enter Try.func8, Try.ntmps8
  go_wp2_with fail
  refine (sameChanges_any A B n c d l _ H.out K2.out hn).mono ?_
  rintro E w2 ⟨rfl, hb2⟩
  have HR : Hid (Below w.heap.size w w2) := HU.out.trans (hb2.mono HU.out.size)
  clear hb2 H K2 HU
  go_wp2
  go_ret
  exact ⟨rfl, HR.out⟩
section
open Go.Proofs.YtpfmmbhbmdbmeaaQ.QT Go.Proofs.YtpfmmbhbmdbmeaaQ.Ext Go.Proofs.YtpfmmbhbmdbmeaaW.PrintWords
theorem sets_len (l : List (List S36)) : (toSets l).length = l.length := by unfold toSets; rw [List.length_map]
theorem set_le {l : List (List S36)} {N : Nat} (h : (toSets l).flatten.length ≤ N) : ∀ x ∈ l, x.length ≤ N := fun x hx => by
  have h1 : (x.map toChg).length ≤ (toSets l).flatten.length := by
    have hm : x.map toChg ∈ toSets l := List.mem_map.2 ⟨x, hx, rfl⟩
    obtain ⟨a, b, hab⟩ := List.append_of_mem hm
    rw [hab, List.flatten_append, List.flatten_cons, List.length_append, List.length_append]
    omega
  rw [List.length_map] at h1
  omega
theorem flat_le (ls : List (List Chg)) (N : Nat) (h : ∀ x ∈ ls, x.length ≤ N) : ls.flatten.length ≤ ls.length * N := by
  induction ls with
  | nil => simp
  | cons a r ih =>
    have h1 := ih (fun x hx => h x (List.mem_cons_of_mem _ hx))
    have h2 := h a (List.mem_cons_self ..)
    rw [List.flatten_cons, List.length_append, List.length_cons, Nat.succ_mul]
    omega
/-- What setsOk lets in. -/
theorem sets_in {l : List (List S36)} (hw : ∀ x ∈ l, ∀ y ∈ x, chgWf y) (h1 : l.length ≤ 20) (h2 : ∀ x ∈ l, x.length ≤ 20 ∧ ∀ y ∈ x, y.f2 ≤ 6) : (toSets l).flatten.length ≤ 400 ∧ ∀ x ∈ (toSets l).flatten, ChOk x := by
  refine ⟨?_, fun x hx => ?_⟩
  · have h3 := flat_le (toSets l) 20 (fun x hx => by
      obtain ⟨y, hy, rfl⟩ := List.mem_map.1 hx
      rw [List.length_map]
      exact (h2 y hy).1)
    rw [sets_len] at h3
    have : l.length * 20 ≤ 20 * 20 := Nat.mul_le_mul_right 20 h1
    omega
  · obtain ⟨s, hs, hxs⟩ := List.mem_flatten.1 hx
    obtain ⟨y, hy, rfl⟩ := List.mem_map.1 hs
    obtain ⟨z, hz, rfl⟩ := List.mem_map.1 hxs
    have hwz := hw y hy z hz
    have hb := bounds_u32 hwz.2.2.1
    exact ⟨hb.1, (h2 y hy).2 z hz, hwz.1⟩
set_option maxRecDepth 100000 in
set_option maxHeartbeats 4000000 in
theorem manifestAnew_walk (A : Option Addr) (c : Nat) (l : List (List S36)) (w : World) (hr : Kd.C (Kd.slice 36 k36) w A l.length l) (hc : l.length ≤ c) (hw : ∀ x ∈ l, ∀ y ∈ x, chgWf y) (h1 : l.length ≤ 2000000) (h2 : (toSets l).flatten.length ≤ 2000000) :
    Calls Try.prog 3 #[.slice A l.length c] w fun e w' => e = .returned (.bool true) ∧ Below w.heap.size w w' := by
  obtain ⟨r1, hr1⟩ := fits14_some l (by omega)
  obtain ⟨k2, r2, hr2, hb2⟩ := setsOk_some l (by omega) (fun x hx => by have := set_le h2 x hx; omega)
  have HS : Hid (Sets w A l.length (toSets l)) := sets_of_C hr
  have HR := Lib.hid hr
  have HC := Lib.hid hc
  have HW := Lib.hid hw
  have H1 := Lib.hid hr1
  have H2 := Lib.hid hr2
  have HB2 := Lib.hid hb2
  have HL2 := Lib.hid h2
  clear hr hc hw hr1 hr2 hb2 h2
  go_enter Try.func3, Try.ntmps3
  go_wp2_with fail
  refine (laws_zzFits14.calls _ A c l r1 w HR.out HC.out H1.out).mono ?_
  rintro E w1 ⟨rfl, hd1⟩
  have HU1 : Hid (Below w.heap.size w w1) := hd1.below
  clear hd1
  cases r1 with
  | false =>
    go_wp2
    go_ret
    exact ⟨rfl, HU1.out⟩
  | true =>
    go_wp2_with fail
    refine (applied_any A l.length c (toSets l) w1 (HS.out.below HU1.out) (by omega) (by have := HL2.out; omega)).mono ?_
    rintro E w2 ⟨hbel, hyes, hno⟩
    have HU2 : Hid (Below w.heap.size w w2) := HU1.out.trans (hbel.mono HU1.out.size)
    clear hbel
    cases hM : allM ⟨[], 0, 0⟩ (toSets l).flatten with
    | none =>
      obtain rfl := hno hM
      clear hyes hno hM
      have HA : Hid (Below w.heap.size w (w2.alloc (.cells #[.slice none 0 0, .int .i64 0, .int .i64 0] 26))) := HU2.out.alloc HU2.out.size _
      go_wp2
      go_ret
      exact ⟨rfl, HA.out⟩
    | some M =>
      obtain ⟨A1, c1, rfl, hs1⟩ := hyes M hM
      have HM := Lib.hid hM
      have HS1 := Lib.hid hs1
      clear hyes hno hM hs1
      have HB3 : Hid (Blk (w2.alloc (.cells #[.slice A1 M.l.length c1, .int .i64 M.come, .int .i64 M.gone] 26)) w2.heap.size 26 [.slice A1 M.l.length c1, .int .i64 M.come, .int .i64 M.gone]) := Blk.new w2 _ _
      have HUA : Hid (Below w.heap.size w (w2.alloc (.cells #[.slice A1 M.l.length c1, .int .i64 M.come, .int .i64 M.gone] 26))) := HU2.out.alloc HU2.out.size _
      have HSA : Hid (Slc (w2.alloc (.cells #[.slice A1 M.l.length c1, .int .i64 M.come, .int .i64 M.gone] 26)) A1 M.l.length M.l) := HS1.out.below ((Below.refl _ _).alloc (Nat.le_refl _) _)
      clear HU2 HS1
      go_wp2_with fail
      generalize w2.alloc (.cells #[.slice A1 M.l.length c1, .int .i64 M.come, .int .i64 M.gone] 26) = wa at *
      generalize w2.heap.size = g3 at *
      refine (laws_setsOk.calls k2 A c l r2 wa (Kd.C_below HR.out HUA.out) HC.out H2.out).mono ?_
      rintro E w3 ⟨rfl, hb3⟩
      have HU3 : Hid (Below w.heap.size w w3) := HUA.out.trans (hb3.mono HUA.out.size)
      replace HSA := Lib.hid (HSA.out.below hb3)
      replace HB3 := Lib.hid (HB3.out.frm (Frm.of_below hb3) (by simp))
      clear hb3 HUA
      cases hr2 : r2 with
      | false =>
        go_wp2
        go_ret
        exact ⟨rfl, HU3.out⟩
      | true =>
        obtain ⟨hs1, hs2⟩ := HB2.out hr2
        have HIN := Lib.hid (sets_in HW.out hs1 hs2)
        have HML : Hid (M.l.length ≤ 400) := by have h4 : M.l.length ≤ 0 + (toSets l).flatten.length := (allM_mem _ HM.out).2.1; have := HIN.out.1; show _ ≤ _; omega
        have hl20 : l.length ≤ 20 := hs1
        clear hs1 hs2
        go_wp2_with fail
        refine (applyAll_any A l.length c (toSets l) M w3 (HS.out.below HU3.out) (by omega) (by have := HIN.out.1; omega) HM.out HIN.out.2).mono ?_
        rintro E w4 ⟨⟨A5, c5, A6, c6, rfl, hs5, hs6⟩, hb4⟩
        have HU4 : Hid (Below w.heap.size w w4) := HU3.out.trans (hb4.mono HU3.out.size)
        have HS5 := Lib.hid hs5
        have HS6 := Lib.hid hs6
        replace HSA := Lib.hid (HSA.out.below hb4)
        replace HB3 := Lib.hid (HB3.out.frm (Frm.of_below hb4) (by simp))
        clear hs5 hs6 hb4 HU3
        have HB3A : Hid (Blk ((w4.alloc (.cells #[.slice A5 M.l.length c5, .int .i64 M.come, .int .i64 M.gone] 26)).alloc (.cells #[.slice A6 M.l.length c6, .int .i64 M.l.length, .int .i64 0] 26)) g3 26 [.slice A1 M.l.length c1, .int .i64 M.come, .int .i64 M.gone]) := (HB3.out.alloc _).alloc _
        have HB6A : Hid (Blk ((w4.alloc (.cells #[.slice A5 M.l.length c5, .int .i64 M.come, .int .i64 M.gone] 26)).alloc (.cells #[.slice A6 M.l.length c6, .int .i64 M.l.length, .int .i64 0] 26)) (w4.heap.size + 1) 26 [.slice A6 M.l.length c6, .int .i64 M.l.length, .int .i64 0]) := by
          have h := Blk.new (w4.alloc (.cells #[.slice A5 M.l.length c5, .int .i64 M.come, .int .i64 M.gone] 26)) 26 [.slice A6 M.l.length c6, .int .i64 M.l.length, .int .i64 0]
          rw [World.size_alloc] at h
          exact h
        have hbw : Below w4.heap.size w4 ((w4.alloc (.cells #[.slice A5 M.l.length c5, .int .i64 M.come, .int .i64 M.gone] 26)).alloc (.cells #[.slice A6 M.l.length c6, .int .i64 M.l.length, .int .i64 0] 26)) := ((Below.refl _ _).alloc (Nat.le_refl _) _).alloc (by simp) _
        have HS5A := Lib.hid (HS5.out.below hbw)
        have HS6A := Lib.hid (HS6.out.below hbw)
        have HS1A := Lib.hid (HSA.out.below hbw)
        have HUA : Hid (Below w.heap.size w ((w4.alloc (.cells #[.slice A5 M.l.length c5, .int .i64 M.come, .int .i64 M.gone] 26)).alloc (.cells #[.slice A6 M.l.length c6, .int .i64 M.l.length, .int .i64 0] 26))) := HU4.out.trans (hbw.mono HU4.out.size)
        have q0 := HB3A.out.at_ (i := 0) rfl
        have q1 := HB3A.out.at_ (i := 1) rfl
        have q2 := HB3A.out.at_ (i := 2) rfl
        clear hbw HS5 HS6 HSA HU4 HB3
        go_wp2_with fail
        generalize ((w4.alloc (.cells #[.slice A5 M.l.length c5, .int .i64 M.come, .int .i64 M.gone] 26)).alloc (.cells #[.slice A6 M.l.length c6, .int .i64 M.l.length, .int .i64 0] 26)) = wb at *
        generalize w4.heap.size + 1 = g6 at *
        refine (sameManifest_any A5 A1 M.l.length c5 c1 M.come M.gone M.l wb HS5A.out HS1A.out (by have := HML.out; omega)).mono ?_
        rintro E w5 ⟨rfl, hb5⟩
        have HU5 : Hid (Below w.heap.size w w5) := HUA.out.trans (hb5.mono HUA.out.size)
        have HS6B := Lib.hid (HS6A.out.below hb5)
        have HS1B := Lib.hid (HS1A.out.below hb5)
        have HB3B := Lib.hid (HB3A.out.frm (Frm.of_below hb5) (by simp))
        have HB6B := Lib.hid (HB6A.out.frm (Frm.of_below hb5) (by simp))
        clear hb5 q0 q1 q2 HB3A HB6A HS5A HS6A HS1A HUA
        have q0 := HB3B.out.at_ (i := 0) rfl
        have r0 := HB6B.out.at_ (i := 0) rfl
        go_wp2_with fail
        refine (sameChanges_any A6 A1 M.l.length c6 c1 M.l w5 HS6B.out HS1B.out (by have := HML.out; omega)).mono ?_
        rintro E w6 ⟨rfl, hb6⟩
        have HU6 : Hid (Below w.heap.size w w6) := HU5.out.trans (hb6.mono HU5.out.size)
        have HB3C := Lib.hid (HB3B.out.frm (Frm.of_below hb6) (by simp))
        have HB6C := Lib.hid (HB6B.out.frm (Frm.of_below hb6) (by simp))
        clear hb6 q0 r0 HB3B HB6B HU5
        have q0 := HB3C.out.at_ (i := 0) rfl
        have r1 := HB6C.out.at_ (i := 1) rfl
        have r2 := HB6C.out.at_ (i := 2) rfl
        go_wp2
        go_ret
        exact ⟨rfl, HU6.out⟩
end
end Go.Proofs.Ytpfmmbhbmdbmeaa
