/- io.ReadFull over a reader that hashes. -/
import Derived.Test.YtpfmmbhbmdbmeaaGreatDoorHB
import Derived.Test.YtpfmmbhbmdbmeaaGreatDoorZB
import Derived.Test.YtpfmmbhbmdbmeaaGreatDoorPB
namespace Go.Proofs.YtpfmmbhbmdbmeaaGreatDoor
open Go.Proofs.YtpfmmbhbmdbmeaaGreatDoorW.PrintLast
open Go.RowKit
set_option linter.unusedVariables false
set_option linter.unusedSimpArgs false
attribute [local go_sem] eqErr
def ReadOkH (gt gb gc D t m n c at' : Nat) (A : Option Addr) (l : List Int) (h : List Int) (w : World) (E : Ending) (w' : World) : Prop := E = .returned (.tuple #[.int .i64 m, .nilIface]) ∧ HrS w' gt gb gc n c (at' + m) A l (h ++ (l.drop at').take m) ∧ Blk w' D t (nums .u8 ((l.drop at').take m)) ∧ Frm [D, gt, gb, gc] w w'
set_option maxRecDepth 100000 in
theorem leastH_ok (gt gb gc D t m n c at' : Nat) (A : Option Addr) (cs : List Value) (l : List Int) (h : List Int) (w : World) (r : HrS w gt gb gc n c at' A l h) (hd : Blk w D t cs) (hcs : cs.length = m) (hD : D ≠ gt ∧ D ≠ gb ∧ D ≠ gc) (hAD : ∀ g o, A = some ⟨g, o, none⟩ → 0 < n → g ≠ D) (hm : m ≤ 1000000) (h0 : 0 < m) (hh : h.length + m ≤ 1000000) (hr : m ≤ n - at') :
    Calls Tryz.prog 75 #[.iface 135 (.pointer (some ⟨gt, 0, none⟩)), .slice (some ⟨D, 0, none⟩) m m, .int .i64 m] w (ReadOkH gt gb gc D t m n c at' A l h w) := by
  have R := Lib.hid r
  have HD := Lib.hid hd
  have HAD := Lib.hid hAD
  have hn := r.big
  have hle := r.le
  have hln : l.length = n := by have := r.sl.1; rwa [nums_length] at this
  clear r hd hAD
  have hm0 : ¬ (m : Int) = 0 := by omega
  have hm1 : (0 : Int) < (m : Int) := by omega
  have hm2 : (0 : Int) ≤ (m : Int) := by omega
  have hat : at' < n := by omega
  have hmin : Nat.min (n - at') m = m := Nat.min_eq_right hr
  have HMN := Lib.hid hmin
  have hsp : Hid (splice cs 0 (nums .u8 ((l.drop at').take m)) = nums .u8 ((l.drop at').take m)) := by
    show _ = _
    rw [splice_zero _ _ (by rw [nums_length, List.length_take, List.length_drop]; omega)]
  clear hmin
  go_enter Tryz.func75, Tryz.ntmps75
  go_wp2_with fail
  go_loopg [6, 7] 1 (fun f v6 v7 wr => (f = 1 ∧ v6 = .int .i64 0 ∧ v7 = .nilIface ∧ wr = w) ∨ (v6 = .int .i64 m ∧ v7 = .nilIface ∧ Hid (HrS wr gt gb gc n c (at' + m) A l (h ++ (l.drop at').take m) ∧ Blk wr D t (nums .u8 ((l.drop at').take m)) ∧ Frm [D, gt, gb, gc] w wr)))
  case atStart => exact .inl ⟨rfl, rfl, rfl, rfl⟩
  case round =>
    rcases hrel with ⟨rfl, rfl, rfl, rfl⟩ | ⟨rfl, rfl, hres⟩
    · go_wp2_with fail
      refine start_ (n := 13) (S := fun _ => True) (ds := []) #[ff,ff,ff,ff,ff,ff,ff,ff,ff,ff,ff,ff,ff] (by kernel_rfl) rfl rfl (trivial) (fun hHeld => ?_)
      refine pure_ (i := 0) (N := some 22) (v := ?_) (a' := ?_) #[tt,ff,ff,ff,ff,ff,ff,ff,ff,ff,ff,ff,ff] rfl rfl (by kernel_rfl) (fun _ _ _ h => h) (Or.inl ⟨by rfl, ?_⟩) ?_ ?_; rotate_left; (intro w'; go_simp; with_reducible rfl); rotate_left; (simp only [Act.put, List.setIfInBounds_toArray, List.set_cons_zero, List.set_cons_succ, i64_w, i32_w]; rfl)
      refine pure_ (i := 1) (N := some 23) (v := ?_) (a' := ?_) #[tt,tt,ff,ff,ff,ff,ff,ff,ff,ff,ff,ff,ff] rfl rfl (by kernel_rfl) (fun _ _ _ h => h) (Or.inl ⟨by rfl, ?_⟩) ?_ ?_; rotate_left; (intro w'; go_simp; with_reducible rfl); rotate_left; (simp only [Act.put, List.setIfInBounds_toArray, List.set_cons_zero, List.set_cons_succ, i64_w, i32_w]; rfl)
      refine pure_ (i := 2) (N := some 24) (v := ?_) (a' := ?_) #[tt,tt,tt,ff,ff,ff,ff,ff,ff,ff,ff,ff,ff] rfl rfl (by kernel_rfl) (fun _ _ _ h => h) (Or.inl ⟨by rfl, ?_⟩) ?_ ?_; rotate_left; (intro w'; go_simp; with_reducible rfl); rotate_left; (simp only [Act.put, List.setIfInBounds_toArray, List.set_cons_zero, List.set_cons_succ, i64_w, i32_w]; rfl)
      refine pure_ (i := 3) (N := some 25) (v := ?_) (a' := ?_) #[tt,tt,tt,tt,ff,ff,ff,ff,ff,ff,ff,ff,ff] rfl rfl (by kernel_rfl) (fun _ _ _ h => h) (Or.inl ⟨by rfl, ?_⟩) ?_ ?_; rotate_left; (intro w'; go_simp; with_reducible rfl); rotate_left; (simp only [Act.put, List.setIfInBounds_toArray, List.set_cons_zero, List.set_cons_succ, i64_w, i32_w]; rfl)
      refine pure_ (i := 4) (N := some 26) (v := .func (.method "Read") #[.iface 135 (.pointer (some ⟨gt, 0, none⟩))] #[]) (a' := ?_) #[tt,tt,tt,tt,tt,ff,ff,ff,ff,ff,ff,ff,ff] rfl rfl (by kernel_rfl) (fun _ _ _ h => h) (Or.inl ⟨by rfl, (by intro w_; kernel_rfl)⟩) ?_ ?_; rotate_left; (simp only [Act.put, List.setIfInBounds_toArray, List.set_cons_zero, List.set_cons_succ, i64_w, i32_w]; rfl)
      refine pure_ (i := 5) (N := some 27) (v := .func (.method "Read") #[.iface 135 (.pointer (some ⟨gt, 0, none⟩))] #[]) (a' := ?_) #[tt,tt,tt,tt,tt,tt,ff,ff,ff,ff,ff,ff,ff] rfl rfl (by kernel_rfl) (fun _ _ _ h => h) (Or.inl ⟨by rfl, (by intro w_; kernel_rfl)⟩) ?_ ?_; rotate_left; (simp only [Act.put, List.setIfInBounds_toArray, List.set_cons_zero, List.set_cons_succ, i64_w, i32_w]; rfl)
      refine pure_ (i := 6) (N := some 28) (v := ?_) (a' := ?_) #[tt,tt,tt,tt,tt,tt,tt,ff,ff,ff,ff,ff,ff] rfl rfl (by kernel_rfl) (fun _ _ _ h => h) (Or.inl ⟨by rfl, ?_⟩) ?_ ?_; rotate_left; (intro w'; go_simp; with_reducible rfl); rotate_left; (simp only [Act.put, List.setIfInBounds_toArray, List.set_cons_zero, List.set_cons_succ, i64_w, i32_w]; rfl)
      refine one_ (i := 7) (N := some 29) #[tt,tt,tt,tt,tt,tt,tt,tt,ff,ff,ff,ff,ff] rfl rfl (by kernel_rfl) (by decide) (fun K hK => ?_); refine call_ 85 #[.pointer (some ⟨gt, 0, none⟩), .slice (some ⟨D, 0, none⟩) m m] (by rfl) rfl (by kernel_rfl) ?_
      refine (hashRead_some gt gb gc D 0 t m m n c at' m A _ cs l h wr.drew (R.out.frm (Frm.refl [] wr).drew (by simp) (by simp) (by simp) (fun _ _ _ _ hx => by cases hx)) hat HMN.out (HD.out.frm (Frm.refl [] wr).drew (by simp)) rfl (Nat.le_refl _) (by omega) hm hD HAD.out hh).mono ?_
      rintro E w2 ⟨rfl, hr2, hd2, hf2⟩
      rw [hsp.out] at hd2
      have hfw : Frm [D, gt, gb, gc] wr w2 := ((Frm.refl [D, gt, gb, gc] wr).drew).trans hf2 (fun i hi => .inl hi)
      have hq := And.intro hr2 (And.intro hd2 hfw)
      clear hr2 hd2 hf2 hfw
      refine ⟨_, rfl, ?_⟩
      refine hK.out _ _ (trivial) (fun hHeld => ?_); clear hK K; refine norm_ (a' := ?_) ?_ ?_; rotate_left; (show Act.put _ (some 29) _ = _; simp only [Act.put, List.setIfInBounds_toArray, List.set_cons_zero, List.set_cons_succ, i64_w, i32_w]; rfl)
      refine pure_ (i := 8) (N := some 21) (v := ?_) (a' := ?_) #[tt,tt,tt,tt,tt,tt,tt,tt,tt,ff,ff,ff,ff] rfl rfl (by kernel_rfl) (fun _ _ _ h => h) (Or.inl ⟨by rfl, ?_⟩) ?_ ?_; rotate_left; (intro w'; go_simp; with_reducible rfl); rotate_left; (simp only [Act.put, List.setIfInBounds_toArray, List.set_cons_zero, List.set_cons_succ, i64_w, i32_w]; rfl)
      refine pure_ (i := 9) (N := some 30) (v := ?_) (a' := ?_) #[tt,tt,tt,tt,tt,tt,tt,tt,tt,tt,ff,ff,ff] rfl rfl (by kernel_rfl) (fun _ _ _ h => h) (Or.inl ⟨by rfl, ?_⟩) ?_ ?_; rotate_left; (intro w'; go_simp; with_reducible rfl); rotate_left; (simp only [Act.put, List.setIfInBounds_toArray, List.set_cons_zero, List.set_cons_succ, i64_w, i32_w]; rfl)
      refine pure_ (i := 10) (N := some 31) (v := ?_) (a' := ?_) #[tt,tt,tt,tt,tt,tt,tt,tt,tt,tt,tt,ff,ff] rfl rfl (by kernel_rfl) (fun _ _ _ h => h) (Or.inl ⟨by rfl, ?_⟩) ?_ ?_; rotate_left; (intro w'; go_simp; with_reducible rfl); rotate_left; (simp only [Act.put, List.setIfInBounds_toArray, List.set_cons_zero, List.set_cons_succ, i64_w, i32_w]; rfl)
      refine pure_ (i := 11) (N := some 8) (v := ?_) (a' := ?_) #[tt,tt,tt,tt,tt,tt,tt,tt,tt,tt,tt,tt,ff] rfl rfl (by kernel_rfl) (fun _ _ _ h => h) (Or.inl ⟨by rfl, ?_⟩) ?_ ?_; rotate_left; (intro w'; go_simp; with_reducible rfl); rotate_left; (simp only [Act.put, List.setIfInBounds_toArray, List.set_cons_zero, List.set_cons_succ, i64_w, i32_w]; rfl)
      refine pure_ (i := 12) (N := some 7) (v := ?_) (a' := ?_) #[tt,tt,tt,tt,tt,tt,tt,tt,tt,tt,tt,tt,tt] rfl rfl (by kernel_rfl) (fun _ _ _ h => h) (Or.inl ⟨by rfl, ?_⟩) ?_ ?_; rotate_left; (intro w'; go_simp; with_reducible rfl); rotate_left; (simp only [Act.put, List.setIfInBounds_toArray, List.set_cons_zero, List.set_cons_succ, i64_w, i32_w]; rfl)
      refine done_ (by kernel_rfl) ?_
      have HX := Lib.hid hq
      clear hq
      go_wp2
      go_roundg 0
      case measure => omega
      case rel => exact .inr ⟨rfl, rfl, HX.out⟩
    · have hmm : ¬ (m : Int) < (m : Int) := by omega
      have hmg : (m : Int) ≤ (m : Int) := by omega
      go_wp2
      go_ret2
      exact ⟨rfl, hres.out.1, hres.out.2.1, hres.out.2.2⟩
set_option maxRecDepth 100000 in
theorem leastH_fail (gt gb gc D t m n c at' : Nat) (A : Option Addr) (cs : List Value) (l : List Int) (h : List Int) (w : World) (r : HrS w gt gb gc n c at' A l h) (hd : Blk w D t cs) (hcs : cs.length = m) (hD : D ≠ gt ∧ D ≠ gb ∧ D ≠ gc) (hAD : ∀ g o, A = some ⟨g, o, none⟩ → 0 < n → g ≠ D) (hm : m ≤ 1000000) (h0 : 0 < m) (hh : h.length + m ≤ 1000000) (hr : n - at' < m) (ae au : Addr) (hV : w.cell? ⟨0, 0, none⟩ = some (.iface 169 (.pointer (some ae)))) (hU : w.cell? ⟨1, 0, none⟩ = some (.iface 169 (.pointer (some au)))) (hG : ∀ i ∈ [D, gt, gb, gc], 8 ≤ i) :
    Calls Tryz.prog 75 #[.iface 135 (.pointer (some ⟨gt, 0, none⟩)), .slice (some ⟨D, 0, none⟩) m m, .int .i64 m] w (fun E w' => ∃ (k : Int) (y : Addr), E = .returned (.tuple #[.int .i64 k, .iface 169 (.pointer (some y))]) ∧ (y = ae ∨ y = au) ∧ Frm [D, gt, gb, gc] w w') := by
  have R := Lib.hid r
  have HD := Lib.hid hd
  have HAD := Lib.hid hAD
  have hn := r.big
  have hle := r.le
  have hln : l.length = n := by have := r.sl.1; rwa [nums_length] at this
  have HV := Lib.hid hV
  have HU := Lib.hid hU
  have HG := Lib.hid hG
  clear r hd hAD hV hU hG
  have hm0 : ¬ (m : Int) = 0 := by omega
  have hm1 : (0 : Int) < (m : Int) := by omega
  have hm2 : (0 : Int) ≤ (m : Int) := by omega
  by_cases hank : at' = n
  · have hm3 : ¬ (m : Int) ≤ 0 := by omega
    go_enter Tryz.func75, Tryz.ntmps75
    go_wp2_with fail
    go_loopg [6, 7] 1 (fun f v6 v7 wr => (f = 1 ∧ v6 = .int .i64 0 ∧ v7 = .nilIface ∧ wr = w) ∨ (v6 = .int .i64 0 ∧ v7 = .iface 169 (.pointer (some ae)) ∧ Hid (Frm [D, gt, gb, gc] w wr)))
    case atStart => exact .inl ⟨rfl, rfl, rfl, rfl⟩
    case round =>
      rcases hrel with ⟨rfl, rfl, rfl, rfl⟩ | ⟨rfl, rfl, hres⟩
      · go_wp2_with fail
        refine start_ (n := 13) (S := fun _ => True) (ds := []) #[ff,ff,ff,ff,ff,ff,ff,ff,ff,ff,ff,ff,ff] (by kernel_rfl) rfl rfl (trivial) (fun hHeld => ?_)
        refine pure_ (i := 0) (N := some 22) (v := ?_) (a' := ?_) #[tt,ff,ff,ff,ff,ff,ff,ff,ff,ff,ff,ff,ff] rfl rfl (by kernel_rfl) (fun _ _ _ h => h) (Or.inl ⟨by rfl, ?_⟩) ?_ ?_; rotate_left; (intro w'; go_simp; with_reducible rfl); rotate_left; (simp only [Act.put, List.setIfInBounds_toArray, List.set_cons_zero, List.set_cons_succ, i64_w, i32_w]; rfl)
        refine pure_ (i := 1) (N := some 23) (v := ?_) (a' := ?_) #[tt,tt,ff,ff,ff,ff,ff,ff,ff,ff,ff,ff,ff] rfl rfl (by kernel_rfl) (fun _ _ _ h => h) (Or.inl ⟨by rfl, ?_⟩) ?_ ?_; rotate_left; (intro w'; go_simp; with_reducible rfl); rotate_left; (simp only [Act.put, List.setIfInBounds_toArray, List.set_cons_zero, List.set_cons_succ, i64_w, i32_w]; rfl)
        refine pure_ (i := 2) (N := some 24) (v := ?_) (a' := ?_) #[tt,tt,tt,ff,ff,ff,ff,ff,ff,ff,ff,ff,ff] rfl rfl (by kernel_rfl) (fun _ _ _ h => h) (Or.inl ⟨by rfl, ?_⟩) ?_ ?_; rotate_left; (intro w'; go_simp; with_reducible rfl); rotate_left; (simp only [Act.put, List.setIfInBounds_toArray, List.set_cons_zero, List.set_cons_succ, i64_w, i32_w]; rfl)
        refine pure_ (i := 3) (N := some 25) (v := ?_) (a' := ?_) #[tt,tt,tt,tt,ff,ff,ff,ff,ff,ff,ff,ff,ff] rfl rfl (by kernel_rfl) (fun _ _ _ h => h) (Or.inl ⟨by rfl, ?_⟩) ?_ ?_; rotate_left; (intro w'; go_simp; with_reducible rfl); rotate_left; (simp only [Act.put, List.setIfInBounds_toArray, List.set_cons_zero, List.set_cons_succ, i64_w, i32_w]; rfl)
        refine pure_ (i := 4) (N := some 26) (v := .func (.method "Read") #[.iface 135 (.pointer (some ⟨gt, 0, none⟩))] #[]) (a' := ?_) #[tt,tt,tt,tt,tt,ff,ff,ff,ff,ff,ff,ff,ff] rfl rfl (by kernel_rfl) (fun _ _ _ h => h) (Or.inl ⟨by rfl, (by intro w_; kernel_rfl)⟩) ?_ ?_; rotate_left; (simp only [Act.put, List.setIfInBounds_toArray, List.set_cons_zero, List.set_cons_succ, i64_w, i32_w]; rfl)
        refine pure_ (i := 5) (N := some 27) (v := .func (.method "Read") #[.iface 135 (.pointer (some ⟨gt, 0, none⟩))] #[]) (a' := ?_) #[tt,tt,tt,tt,tt,tt,ff,ff,ff,ff,ff,ff,ff] rfl rfl (by kernel_rfl) (fun _ _ _ h => h) (Or.inl ⟨by rfl, (by intro w_; kernel_rfl)⟩) ?_ ?_; rotate_left; (simp only [Act.put, List.setIfInBounds_toArray, List.set_cons_zero, List.set_cons_succ, i64_w, i32_w]; rfl)
        refine pure_ (i := 6) (N := some 28) (v := ?_) (a' := ?_) #[tt,tt,tt,tt,tt,tt,tt,ff,ff,ff,ff,ff,ff] rfl rfl (by kernel_rfl) (fun _ _ _ h => h) (Or.inl ⟨by rfl, ?_⟩) ?_ ?_; rotate_left; (intro w'; go_simp; with_reducible rfl); rotate_left; (simp only [Act.put, List.setIfInBounds_toArray, List.set_cons_zero, List.set_cons_succ, i64_w, i32_w]; rfl)
        refine one_ (i := 7) (N := some 29) #[tt,tt,tt,tt,tt,tt,tt,tt,ff,ff,ff,ff,ff] rfl rfl (by kernel_rfl) (by decide) (fun K hK => ?_); refine call_ 85 #[.pointer (some ⟨gt, 0, none⟩), .slice (some ⟨D, 0, none⟩) m m] (by rfl) rfl (by kernel_rfl) ?_
        refine (hashRead_end gt gb gc n c at' m m A (some ⟨D, 0, none⟩) l h _ _ wr.drew (R.out.frm (Frm.refl [] wr).drew (by simp) (by simp) (by simp) (fun _ _ _ _ hx => by cases hx)) hank (cell_frm HV.out (Frm.refl [] wr).drew (by simp))).mono ?_
        rintro E w2 ⟨rfl, hf2⟩
        have hq : Frm [D, gt, gb, gc] wr w2 := ((Frm.refl [D, gt, gb, gc] wr).drew).trans hf2 (fun i hi => by cases hi)
        clear hf2
        refine ⟨_, rfl, ?_⟩
        refine hK.out _ _ (trivial) (fun hHeld => ?_); clear hK K; refine norm_ (a' := ?_) ?_ ?_; rotate_left; (show Act.put _ (some 29) _ = _; simp only [Act.put, List.setIfInBounds_toArray, List.set_cons_zero, List.set_cons_succ, i64_w, i32_w]; rfl)
        refine pure_ (i := 8) (N := some 21) (v := ?_) (a' := ?_) #[tt,tt,tt,tt,tt,tt,tt,tt,tt,ff,ff,ff,ff] rfl rfl (by kernel_rfl) (fun _ _ _ h => h) (Or.inl ⟨by rfl, ?_⟩) ?_ ?_; rotate_left; (intro w'; go_simp; with_reducible rfl); rotate_left; (simp only [Act.put, List.setIfInBounds_toArray, List.set_cons_zero, List.set_cons_succ, i64_w, i32_w]; rfl)
        refine pure_ (i := 9) (N := some 30) (v := ?_) (a' := ?_) #[tt,tt,tt,tt,tt,tt,tt,tt,tt,tt,ff,ff,ff] rfl rfl (by kernel_rfl) (fun _ _ _ h => h) (Or.inl ⟨by rfl, ?_⟩) ?_ ?_; rotate_left; (intro w'; go_simp; with_reducible rfl); rotate_left; (simp only [Act.put, List.setIfInBounds_toArray, List.set_cons_zero, List.set_cons_succ, i64_w, i32_w]; rfl)
        refine pure_ (i := 10) (N := some 31) (v := ?_) (a' := ?_) #[tt,tt,tt,tt,tt,tt,tt,tt,tt,tt,tt,ff,ff] rfl rfl (by kernel_rfl) (fun _ _ _ h => h) (Or.inl ⟨by rfl, ?_⟩) ?_ ?_; rotate_left; (intro w'; go_simp; with_reducible rfl); rotate_left; (simp only [Act.put, List.setIfInBounds_toArray, List.set_cons_zero, List.set_cons_succ, i64_w, i32_w]; rfl)
        refine pure_ (i := 11) (N := some 8) (v := ?_) (a' := ?_) #[tt,tt,tt,tt,tt,tt,tt,tt,tt,tt,tt,tt,ff] rfl rfl (by kernel_rfl) (fun _ _ _ h => h) (Or.inl ⟨by rfl, ?_⟩) ?_ ?_; rotate_left; (intro w'; go_simp; with_reducible rfl); rotate_left; (simp only [Act.put, List.setIfInBounds_toArray, List.set_cons_zero, List.set_cons_succ, i64_w, i32_w]; rfl)
        refine pure_ (i := 12) (N := some 7) (v := ?_) (a' := ?_) #[tt,tt,tt,tt,tt,tt,tt,tt,tt,tt,tt,tt,tt] rfl rfl (by kernel_rfl) (fun _ _ _ h => h) (Or.inl ⟨by rfl, ?_⟩) ?_ ?_; rotate_left; (intro w'; go_simp; with_reducible rfl); rotate_left; (simp only [Act.put, List.setIfInBounds_toArray, List.set_cons_zero, List.set_cons_succ, i64_w, i32_w]; rfl)
        refine done_ (by kernel_rfl) ?_
        have HX := Lib.hid hq
        clear hq
        go_wp2
        go_roundg 0
        case measure => omega
        case rel => exact .inr ⟨rfl, rfl, HX.out⟩
      · go_wp2
        go_ret2
        exact ⟨0, ae, rfl, .inl rfl, hres.out⟩
  obtain ⟨k, hk⟩ : ∃ k, k = n - at' := ⟨_, rfl⟩
  have hat : at' < n := by omega
  have hk1 : (0 : Int) < (k : Int) := by omega
  have hk2 : (k : Int) < (m : Int) := by omega
  have hk3 : (k : Int) ≤ (m : Int) := by omega
  have hk4 : (0 : Int) ≤ (k : Int) := by omega
  have hk5 : ¬ (m : Int) ≤ (k : Int) := by omega
  have hk6 : ¬ (m : Int) = (k : Int) := by omega
  have hk7 : ¬ m = k := by omega
  have hmin : Nat.min (n - at') m = k := by rw [hk]; exact Nat.min_eq_left (Nat.le_of_lt hr)
  have HMN := Lib.hid hmin
  have hakn : at' + k = n := by omega
  have HAK := Lib.hid hakn
  clear hmin hk hakn hank
  go_enter Tryz.func75, Tryz.ntmps75
  go_wp2_with fail
  go_loopg [6, 7] 2 (fun f v6 v7 wr => (f = 2 ∧ v6 = .int .i64 0 ∧ v7 = .nilIface ∧ wr = w) ∨ (f = 1 ∧ v6 = .int .i64 k ∧ v7 = .nilIface ∧ Hid (HrS wr gt gb gc n c n A l (h ++ (l.drop at').take k) ∧ Frm [D, gt, gb, gc] w wr)) ∨ (v6 = .int .i64 k ∧ v7 = .iface 169 (.pointer (some ae)) ∧ Hid (Frm [D, gt, gb, gc] w wr)))
  case atStart => exact .inl ⟨rfl, rfl, rfl, rfl⟩
  case round =>
    rcases hrel with ⟨rfl, rfl, rfl, rfl⟩ | ⟨rfl, rfl, rfl, hres⟩ | ⟨rfl, rfl, hres⟩
    · go_wp2_with fail
      refine start_ (n := 13) (S := fun _ => True) (ds := []) #[ff,ff,ff,ff,ff,ff,ff,ff,ff,ff,ff,ff,ff] (by kernel_rfl) rfl rfl (trivial) (fun hHeld => ?_)
      refine pure_ (i := 0) (N := some 22) (v := ?_) (a' := ?_) #[tt,ff,ff,ff,ff,ff,ff,ff,ff,ff,ff,ff,ff] rfl rfl (by kernel_rfl) (fun _ _ _ h => h) (Or.inl ⟨by rfl, ?_⟩) ?_ ?_; rotate_left; (intro w'; go_simp; with_reducible rfl); rotate_left; (simp only [Act.put, List.setIfInBounds_toArray, List.set_cons_zero, List.set_cons_succ, i64_w, i32_w]; rfl)
      refine pure_ (i := 1) (N := some 23) (v := ?_) (a' := ?_) #[tt,tt,ff,ff,ff,ff,ff,ff,ff,ff,ff,ff,ff] rfl rfl (by kernel_rfl) (fun _ _ _ h => h) (Or.inl ⟨by rfl, ?_⟩) ?_ ?_; rotate_left; (intro w'; go_simp; with_reducible rfl); rotate_left; (simp only [Act.put, List.setIfInBounds_toArray, List.set_cons_zero, List.set_cons_succ, i64_w, i32_w]; rfl)
      refine pure_ (i := 2) (N := some 24) (v := ?_) (a' := ?_) #[tt,tt,tt,ff,ff,ff,ff,ff,ff,ff,ff,ff,ff] rfl rfl (by kernel_rfl) (fun _ _ _ h => h) (Or.inl ⟨by rfl, ?_⟩) ?_ ?_; rotate_left; (intro w'; go_simp; with_reducible rfl); rotate_left; (simp only [Act.put, List.setIfInBounds_toArray, List.set_cons_zero, List.set_cons_succ, i64_w, i32_w]; rfl)
      refine pure_ (i := 3) (N := some 25) (v := ?_) (a' := ?_) #[tt,tt,tt,tt,ff,ff,ff,ff,ff,ff,ff,ff,ff] rfl rfl (by kernel_rfl) (fun _ _ _ h => h) (Or.inl ⟨by rfl, ?_⟩) ?_ ?_; rotate_left; (intro w'; go_simp; with_reducible rfl); rotate_left; (simp only [Act.put, List.setIfInBounds_toArray, List.set_cons_zero, List.set_cons_succ, i64_w, i32_w]; rfl)
      refine pure_ (i := 4) (N := some 26) (v := .func (.method "Read") #[.iface 135 (.pointer (some ⟨gt, 0, none⟩))] #[]) (a' := ?_) #[tt,tt,tt,tt,tt,ff,ff,ff,ff,ff,ff,ff,ff] rfl rfl (by kernel_rfl) (fun _ _ _ h => h) (Or.inl ⟨by rfl, (by intro w_; kernel_rfl)⟩) ?_ ?_; rotate_left; (simp only [Act.put, List.setIfInBounds_toArray, List.set_cons_zero, List.set_cons_succ, i64_w, i32_w]; rfl)
      refine pure_ (i := 5) (N := some 27) (v := .func (.method "Read") #[.iface 135 (.pointer (some ⟨gt, 0, none⟩))] #[]) (a' := ?_) #[tt,tt,tt,tt,tt,tt,ff,ff,ff,ff,ff,ff,ff] rfl rfl (by kernel_rfl) (fun _ _ _ h => h) (Or.inl ⟨by rfl, (by intro w_; kernel_rfl)⟩) ?_ ?_; rotate_left; (simp only [Act.put, List.setIfInBounds_toArray, List.set_cons_zero, List.set_cons_succ, i64_w, i32_w]; rfl)
      refine pure_ (i := 6) (N := some 28) (v := ?_) (a' := ?_) #[tt,tt,tt,tt,tt,tt,tt,ff,ff,ff,ff,ff,ff] rfl rfl (by kernel_rfl) (fun _ _ _ h => h) (Or.inl ⟨by rfl, ?_⟩) ?_ ?_; rotate_left; (intro w'; go_simp; with_reducible rfl); rotate_left; (simp only [Act.put, List.setIfInBounds_toArray, List.set_cons_zero, List.set_cons_succ, i64_w, i32_w]; rfl)
      refine one_ (i := 7) (N := some 29) #[tt,tt,tt,tt,tt,tt,tt,tt,ff,ff,ff,ff,ff] rfl rfl (by kernel_rfl) (by decide) (fun K hK => ?_); refine call_ 85 #[.pointer (some ⟨gt, 0, none⟩), .slice (some ⟨D, 0, none⟩) m m] (by rfl) rfl (by kernel_rfl) ?_
      refine (hashRead_some gt gb gc D 0 t m m n c at' k A _ cs l h wr.drew (R.out.frm (Frm.refl [] wr).drew (by simp) (by simp) (by simp) (fun _ _ _ _ hx => by cases hx)) hat HMN.out (HD.out.frm (Frm.refl [] wr).drew (by simp)) rfl (Nat.le_refl _) (by omega) hm hD HAD.out hh).mono ?_
      rintro E w2 ⟨rfl, hr2, hd2, hf2⟩
      rw [HAK.out] at hr2
      have hq := And.intro hr2 (((Frm.refl [D, gt, gb, gc] wr).drew).trans hf2 (fun i hi => .inl hi))
      clear hr2 hd2 hf2
      refine ⟨_, rfl, ?_⟩
      refine hK.out _ _ (trivial) (fun hHeld => ?_); clear hK K; refine norm_ (a' := ?_) ?_ ?_; rotate_left; (show Act.put _ (some 29) _ = _; simp only [Act.put, List.setIfInBounds_toArray, List.set_cons_zero, List.set_cons_succ, i64_w, i32_w]; rfl)
      refine pure_ (i := 8) (N := some 21) (v := ?_) (a' := ?_) #[tt,tt,tt,tt,tt,tt,tt,tt,tt,ff,ff,ff,ff] rfl rfl (by kernel_rfl) (fun _ _ _ h => h) (Or.inl ⟨by rfl, ?_⟩) ?_ ?_; rotate_left; (intro w'; go_simp; with_reducible rfl); rotate_left; (simp only [Act.put, List.setIfInBounds_toArray, List.set_cons_zero, List.set_cons_succ, i64_w, i32_w]; rfl)
      refine pure_ (i := 9) (N := some 30) (v := ?_) (a' := ?_) #[tt,tt,tt,tt,tt,tt,tt,tt,tt,tt,ff,ff,ff] rfl rfl (by kernel_rfl) (fun _ _ _ h => h) (Or.inl ⟨by rfl, ?_⟩) ?_ ?_; rotate_left; (intro w'; go_simp; with_reducible rfl); rotate_left; (simp only [Act.put, List.setIfInBounds_toArray, List.set_cons_zero, List.set_cons_succ, i64_w, i32_w]; rfl)
      refine pure_ (i := 10) (N := some 31) (v := ?_) (a' := ?_) #[tt,tt,tt,tt,tt,tt,tt,tt,tt,tt,tt,ff,ff] rfl rfl (by kernel_rfl) (fun _ _ _ h => h) (Or.inl ⟨by rfl, ?_⟩) ?_ ?_; rotate_left; (intro w'; go_simp; with_reducible rfl); rotate_left; (simp only [Act.put, List.setIfInBounds_toArray, List.set_cons_zero, List.set_cons_succ, i64_w, i32_w]; rfl)
      refine pure_ (i := 11) (N := some 8) (v := ?_) (a' := ?_) #[tt,tt,tt,tt,tt,tt,tt,tt,tt,tt,tt,tt,ff] rfl rfl (by kernel_rfl) (fun _ _ _ h => h) (Or.inl ⟨by rfl, ?_⟩) ?_ ?_; rotate_left; (intro w'; go_simp; with_reducible rfl); rotate_left; (simp only [Act.put, List.setIfInBounds_toArray, List.set_cons_zero, List.set_cons_succ, i64_w, i32_w]; rfl)
      refine pure_ (i := 12) (N := some 7) (v := ?_) (a' := ?_) #[tt,tt,tt,tt,tt,tt,tt,tt,tt,tt,tt,tt,tt] rfl rfl (by kernel_rfl) (fun _ _ _ h => h) (Or.inl ⟨by rfl, ?_⟩) ?_ ?_; rotate_left; (intro w'; go_simp; with_reducible rfl); rotate_left; (simp only [Act.put, List.setIfInBounds_toArray, List.set_cons_zero, List.set_cons_succ, i64_w, i32_w]; rfl)
      refine done_ (by kernel_rfl) ?_
      have HX := Lib.hid hq
      clear hq
      go_wp2
      go_roundg 1
      case measure => omega
      case rel => exact .inr (.inl ⟨rfl, rfl, rfl, HX.out⟩)
    · have HWV : Hid (wr.cell? ⟨0, 0, none⟩ = some (.iface 169 (.pointer (some ae)))) := cell_frm HV.out hres.out.2 (fun hx => absurd (HG.out _ hx) (by decide))
      go_wp2_with fail
      refine start_ (n := 13) (S := fun _ => True) (ds := []) #[ff,ff,ff,ff,ff,ff,ff,ff,ff,ff,ff,ff,ff] (by kernel_rfl) rfl rfl (trivial) (fun hHeld => ?_)
      refine pure_ (i := 0) (N := some 22) (v := ?_) (a' := ?_) #[tt,ff,ff,ff,ff,ff,ff,ff,ff,ff,ff,ff,ff] rfl rfl (by kernel_rfl) (fun _ _ _ h => h) (Or.inl ⟨by rfl, ?_⟩) ?_ ?_; rotate_left; (intro w'; go_simp; with_reducible rfl); rotate_left; (simp only [Act.put, List.setIfInBounds_toArray, List.set_cons_zero, List.set_cons_succ, i64_w, i32_w]; rfl)
      refine pure_ (i := 1) (N := some 23) (v := ?_) (a' := ?_) #[tt,tt,ff,ff,ff,ff,ff,ff,ff,ff,ff,ff,ff] rfl rfl (by kernel_rfl) (fun _ _ _ h => h) (Or.inl ⟨by rfl, ?_⟩) ?_ ?_; rotate_left; (intro w'; go_simp; with_reducible rfl); rotate_left; (simp only [Act.put, List.setIfInBounds_toArray, List.set_cons_zero, List.set_cons_succ, i64_w, i32_w]; rfl)
      refine pure_ (i := 2) (N := some 24) (v := ?_) (a' := ?_) #[tt,tt,tt,ff,ff,ff,ff,ff,ff,ff,ff,ff,ff] rfl rfl (by kernel_rfl) (fun _ _ _ h => h) (Or.inl ⟨by rfl, ?_⟩) ?_ ?_; rotate_left; (intro w'; go_simp; with_reducible rfl); rotate_left; (simp only [Act.put, List.setIfInBounds_toArray, List.set_cons_zero, List.set_cons_succ, i64_w, i32_w]; rfl)
      refine pure_ (i := 3) (N := some 25) (v := ?_) (a' := ?_) #[tt,tt,tt,tt,ff,ff,ff,ff,ff,ff,ff,ff,ff] rfl rfl (by kernel_rfl) (fun _ _ _ h => h) (Or.inl ⟨by rfl, ?_⟩) ?_ ?_; rotate_left; (intro w'; go_simp; with_reducible rfl); rotate_left; (simp only [Act.put, List.setIfInBounds_toArray, List.set_cons_zero, List.set_cons_succ, i64_w, i32_w]; rfl)
      refine pure_ (i := 4) (N := some 26) (v := .func (.method "Read") #[.iface 135 (.pointer (some ⟨gt, 0, none⟩))] #[]) (a' := ?_) #[tt,tt,tt,tt,tt,ff,ff,ff,ff,ff,ff,ff,ff] rfl rfl (by kernel_rfl) (fun _ _ _ h => h) (Or.inl ⟨by rfl, (by intro w_; kernel_rfl)⟩) ?_ ?_; rotate_left; (simp only [Act.put, List.setIfInBounds_toArray, List.set_cons_zero, List.set_cons_succ, i64_w, i32_w]; rfl)
      refine pure_ (i := 5) (N := some 27) (v := .func (.method "Read") #[.iface 135 (.pointer (some ⟨gt, 0, none⟩))] #[]) (a' := ?_) #[tt,tt,tt,tt,tt,tt,ff,ff,ff,ff,ff,ff,ff] rfl rfl (by kernel_rfl) (fun _ _ _ h => h) (Or.inl ⟨by rfl, (by intro w_; kernel_rfl)⟩) ?_ ?_; rotate_left; (simp only [Act.put, List.setIfInBounds_toArray, List.set_cons_zero, List.set_cons_succ, i64_w, i32_w]; rfl)
      refine pure_ (i := 6) (N := some 28) (v := ?_) (a' := ?_) #[tt,tt,tt,tt,tt,tt,tt,ff,ff,ff,ff,ff,ff] rfl rfl (by kernel_rfl) (fun _ _ _ h => h) (Or.inl ⟨by rfl, ?_⟩) ?_ ?_; rotate_left; (intro w'; go_simp; with_reducible rfl); rotate_left; (simp only [Act.put, List.setIfInBounds_toArray, List.set_cons_zero, List.set_cons_succ, i64_w, i32_w]; rfl)
      refine one_ (i := 7) (N := some 29) #[tt,tt,tt,tt,tt,tt,tt,tt,ff,ff,ff,ff,ff] rfl rfl (by kernel_rfl) (by decide) (fun K hK => ?_); refine call_ 85 #[.pointer (some ⟨gt, 0, none⟩), .slice (some ⟨D, k, none⟩) (m - k) (m - k)] (by rfl) rfl (by kernel_rfl) ?_
      refine (hashRead_end gt gb gc n c n (m - k) (m - k) A (some ⟨D, k, none⟩) l _ _ _ wr.drew (hres.out.1.frm (Frm.refl [] wr).drew (by simp) (by simp) (by simp) (fun _ _ _ _ hx => by cases hx)) rfl (cell_frm HWV.out (Frm.refl [] wr).drew (by simp))).mono ?_
      rintro E w2 ⟨rfl, hf2⟩
      have hq : Frm [D, gt, gb, gc] w w2 := (hres.out.2.drew).trans hf2 (fun i hi => by cases hi)
      clear hf2
      refine ⟨_, rfl, ?_⟩
      refine hK.out _ _ (trivial) (fun hHeld => ?_); clear hK K; refine norm_ (a' := ?_) ?_ ?_; rotate_left; (show Act.put _ (some 29) _ = _; simp only [Act.put, List.setIfInBounds_toArray, List.set_cons_zero, List.set_cons_succ, i64_w, i32_w]; rfl)
      refine pure_ (i := 8) (N := some 21) (v := ?_) (a' := ?_) #[tt,tt,tt,tt,tt,tt,tt,tt,tt,ff,ff,ff,ff] rfl rfl (by kernel_rfl) (fun _ _ _ h => h) (Or.inl ⟨by rfl, ?_⟩) ?_ ?_; rotate_left; (intro w'; go_simp; with_reducible rfl); rotate_left; (simp only [Act.put, List.setIfInBounds_toArray, List.set_cons_zero, List.set_cons_succ, i64_w, i32_w]; rfl)
      refine pure_ (i := 9) (N := some 30) (v := ?_) (a' := ?_) #[tt,tt,tt,tt,tt,tt,tt,tt,tt,tt,ff,ff,ff] rfl rfl (by kernel_rfl) (fun _ _ _ h => h) (Or.inl ⟨by rfl, ?_⟩) ?_ ?_; rotate_left; (intro w'; go_simp; with_reducible rfl); rotate_left; (simp only [Act.put, List.setIfInBounds_toArray, List.set_cons_zero, List.set_cons_succ, i64_w, i32_w]; rfl)
      refine pure_ (i := 10) (N := some 31) (v := ?_) (a' := ?_) #[tt,tt,tt,tt,tt,tt,tt,tt,tt,tt,tt,ff,ff] rfl rfl (by kernel_rfl) (fun _ _ _ h => h) (Or.inl ⟨by rfl, ?_⟩) ?_ ?_; rotate_left; (intro w'; go_simp; with_reducible rfl); rotate_left; (simp only [Act.put, List.setIfInBounds_toArray, List.set_cons_zero, List.set_cons_succ, i64_w, i32_w]; rfl)
      refine pure_ (i := 11) (N := some 8) (v := ?_) (a' := ?_) #[tt,tt,tt,tt,tt,tt,tt,tt,tt,tt,tt,tt,ff] rfl rfl (by kernel_rfl) (fun _ _ _ h => h) (Or.inl ⟨by rfl, ?_⟩) ?_ ?_; rotate_left; (intro w'; go_simp; with_reducible rfl); rotate_left; (simp only [Act.put, List.setIfInBounds_toArray, List.set_cons_zero, List.set_cons_succ, i64_w, i32_w]; rfl)
      refine pure_ (i := 12) (N := some 7) (v := ?_) (a' := ?_) #[tt,tt,tt,tt,tt,tt,tt,tt,tt,tt,tt,tt,tt] rfl rfl (by kernel_rfl) (fun _ _ _ h => h) (Or.inl ⟨by rfl, ?_⟩) ?_ ?_; rotate_left; (intro w'; go_simp; with_reducible rfl); rotate_left; (simp only [Act.put, List.setIfInBounds_toArray, List.set_cons_zero, List.set_cons_succ, i64_w, i32_w]; rfl)
      refine done_ (by kernel_rfl) ?_
      have HX := Lib.hid hq
      clear hq
      go_wp2
      go_roundg 0
      case measure => omega
      case rel => exact .inr (.inr ⟨rfl, rfl, HX.out⟩)
    · have v1 : wr.cell? ⟨0, 0, none⟩ = some (.iface 169 (.pointer (some ae))) := cell_frm HV.out hres.out (fun hx => absurd (HG.out _ hx) (by decide))
      have v2 : wr.cell? ⟨1, 0, none⟩ = some (.iface 169 (.pointer (some au))) := cell_frm HU.out hres.out (fun hx => absurd (HG.out _ hx) (by decide))
      go_wp2
      go_ret2
      exact ⟨k, au, rfl, .inr rfl, hres.out⟩
set_option maxRecDepth 100000 in
theorem fullH_ok (gt gb gc D t m n c at' : Nat) (A : Option Addr) (cs : List Value) (l : List Int) (h : List Int) (w : World) (r : HrS w gt gb gc n c at' A l h) (hd : Blk w D t cs) (hcs : cs.length = m) (hD : D ≠ gt ∧ D ≠ gb ∧ D ≠ gc) (hAD : ∀ g o, A = some ⟨g, o, none⟩ → 0 < n → g ≠ D) (hm : m ≤ 1000000) (h0 : 0 < m) (hh : h.length + m ≤ 1000000) (hr : m ≤ n - at') :
    Calls Tryz.prog 61 #[.iface 135 (.pointer (some ⟨gt, 0, none⟩)), .slice (some ⟨D, 0, none⟩) m m] w (ReadOkH gt gb gc D t m n c at' A l h w) := by
  go_enter Tryz.func61, Tryz.ntmps61
  go_wp2_with fail
  refine (leastH_ok gt gb gc D t m n c at' A cs l h w r hd hcs hD hAD hm h0 hh hr).mono ?_
  rintro E w2 ⟨rfl, hq⟩
  have HQ := Lib.hid hq
  clear hq
  go_wp2
  go_ret2
  exact ⟨rfl, HQ.out⟩
set_option maxRecDepth 100000 in
theorem fullH_fail (gt gb gc D t m n c at' : Nat) (A : Option Addr) (cs : List Value) (l : List Int) (h : List Int) (w : World) (r : HrS w gt gb gc n c at' A l h) (hd : Blk w D t cs) (hcs : cs.length = m) (hD : D ≠ gt ∧ D ≠ gb ∧ D ≠ gc) (hAD : ∀ g o, A = some ⟨g, o, none⟩ → 0 < n → g ≠ D) (hm : m ≤ 1000000) (h0 : 0 < m) (hh : h.length + m ≤ 1000000) (hr : n - at' < m) (ae au : Addr) (hV : w.cell? ⟨0, 0, none⟩ = some (.iface 169 (.pointer (some ae)))) (hU : w.cell? ⟨1, 0, none⟩ = some (.iface 169 (.pointer (some au)))) (hG : ∀ i ∈ [D, gt, gb, gc], 8 ≤ i) :
    Calls Tryz.prog 61 #[.iface 135 (.pointer (some ⟨gt, 0, none⟩)), .slice (some ⟨D, 0, none⟩) m m] w (fun E w' => ∃ (k : Int) (y : Addr), E = .returned (.tuple #[.int .i64 k, .iface 169 (.pointer (some y))]) ∧ (y = ae ∨ y = au) ∧ Frm [D, gt, gb, gc] w w') := by
  go_enter Tryz.func61, Tryz.ntmps61
  go_wp2_with fail
  refine (leastH_fail gt gb gc D t m n c at' A cs l h w r hd hcs hD hAD hm h0 hh hr ae au hV hU hG).mono ?_
  rintro E w2 ⟨k, y, rfl, hq⟩
  have HQ := Lib.hid hq
  clear hq
  go_wp2
  go_ret2
  exact ⟨k, y, rfl, HQ.out⟩
end Go.Proofs.YtpfmmbhbmdbmeaaGreatDoor
