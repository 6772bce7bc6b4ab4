/- Readers of bytes that hash. -/
import Derived.Test.YtpfmmbhbmdbmeaaGreatDoorZB
import Derived.Test.YtpfmmbhbmdbmeaaGreatDoorBB
import Derived.Test.YtpfmmbhbmdbmeaaGreatDoorPB
namespace Go.Proofs.YtpfmmbhbmdbmeaaGreatDoor
open Go.Proofs.YtpfmmbhbmdbmeaaGreatDoorW.PrintLast
open Go.RowKit
set_option linter.unusedVariables false
set_option linter.unusedSimpArgs false
theorem splice_mid (cs a : List Value) (off : Nat) (h : off + a.length ≤ cs.length) : ((splice cs off a).drop off).take a.length = a := by
  have hl : (cs.take off).length = off := by rw [List.length_take]; omega
  unfold splice
  rw [List.drop_left' hl, List.take_left]
/-- A reader that hashes, in memory: what it reads, where it is, and what it has read. -/
structure HrS (w : World) (gt gb gc n c at' : Nat) (A : Option Addr) (l h : List Int) : Prop where
  t : Blk w gt 146 [.pointer (some ⟨gb, 0, none⟩), .pointer (some ⟨gc, 0, none⟩), .int .i64 h.length]
  b : Blk w gb 134 [.slice A n c, .int .i64 at']
  k : Blk w gc 127 [.int .u32 (crcL h)]
  sl : Sl w A n (nums .u8 l)
  byt : Byt l
  cap : n ≤ c
  le : at' ≤ n
  big : n ≤ 1000000
  hb : Byt h
  hl : h.length ≤ 1000000
  ntb : gt ≠ gb
  ntc : gt ≠ gc
  nbc : gb ≠ gc
  apart : ∀ g o, A = some ⟨g, o, none⟩ → 0 < n → g ≠ gt ∧ g ≠ gb ∧ g ≠ gc
theorem HrS.frm {w w' : World} {gt gb gc n c at' : Nat} {A : Option Addr} {l h : List Int} {L : List Nat} (r : HrS w gt gb gc n c at' A l h) (hf : Frm L w w') (ht : gt ∉ L) (hb : gb ∉ L) (hc : gc ∉ L) (hA : ∀ g o, A = some ⟨g, o, none⟩ → 0 < n → g ∉ L) : HrS w' gt gb gc n c at' A l h :=
  ⟨r.t.frm hf ht, r.b.frm hf hb, r.k.frm hf hc, r.sl.frm0 hf (fun b o e hn _ => hA b o e hn), r.byt, r.cap, r.le, r.big, r.hb, r.hl, r.ntb, r.ntc, r.nbc, r.apart⟩
theorem HrS.below {w w' : World} {gt gb gc n c at' : Nat} {A : Option Addr} {l h : List Int} (r : HrS w gt gb gc n c at' A l h) (hb : Below w.heap.size w w') : HrS w' gt gb gc n c at' A l h := r.frm (Frm.of_below hb) (by simp) (by simp) (by simp) (fun _ _ _ _ hx => by cases hx)
theorem frm_wrote {w w' : World} {g t : Nat} {cs : List Value} (h : Wrote w g t cs w') : Frm [g] w w' := Frm.of_grown h.2
set_option maxRecDepth 100000 in
theorem hashRead_end (gt gb gc n c at' m dc : Nat) (A dp : Option Addr) (l h : List Int) (te : TypeId) (pe : Value) (w : World) (r : HrS w gt gb gc n c at' A l h) (ha : at' = n) (hV : w.cell? ⟨0, 0, none⟩ = some (.iface te pe)) :
    Calls Tryz.prog 85 #[.pointer (some ⟨gt, 0, none⟩), .slice dp m dc] w (fun E w' => E = .returned (.tuple #[.int .i64 0, .iface te pe]) ∧ Frm [] w w') := by
  have t0 := r.t.at_ (i := 0) rfl
  have R := Lib.hid r
  have HA := Lib.hid ha
  clear r ha
  go_enter Tryz.func85, Tryz.ntmps85
  go_wp2_with fail
  refine (byteRead_end gb n c at' m dc A dp (.iface te pe) w R.out.b (Nat.le_of_eq HA.out.symm) hV).mono ?_
  rintro E w2 ⟨rfl, hf⟩
  have HF := Lib.hid hf
  clear hf
  go_wp2
  go_ret2
  exact ⟨rfl, HF.out⟩
set_option maxRecDepth 100000 in
theorem hashRead_some (gt gb gc D od t m dc n c at' k : Nat) (A dp : Option Addr) (cs : List Value) (l h : List Int) (w : World) (r : HrS w gt gb gc n c at' A l h) (ha : at' < n) (hk : Nat.min (n - at') m = k) (hd : Blk w D t cs) (hdp : dp = some ⟨D, od, none⟩) (hmd : m ≤ dc) (hfit : od + m ≤ cs.length) (hm : m ≤ 1000000) (hD : D ≠ gt ∧ D ≠ gb ∧ D ≠ gc) (hAD : ∀ g o, A = some ⟨g, o, none⟩ → 0 < n → g ≠ D) (hh : h.length + m ≤ 1000000) :
    Calls Tryz.prog 85 #[.pointer (some ⟨gt, 0, none⟩), .slice dp m dc] w (fun E w' => E = .returned (.tuple #[.int .i64 k, .nilIface]) ∧ HrS w' gt gb gc n c (at' + k) A l (h ++ (l.drop at').take k) ∧ Blk w' D t (splice cs od (nums .u8 ((l.drop at').take k))) ∧ Frm [D, gt, gb, gc] w w') := by
  have t0 := r.t.at_ (i := 0) rfl
  have hkm : k ≤ m := by rw [← hk]; exact Nat.min_le_right _ _
  have hkn : k ≤ n - at' := by rw [← hk]; exact Nat.min_le_left _ _
  have hln : l.length = n := by have := r.sl.1; rwa [nums_length] at this
  have R := Lib.hid r
  have HK := Lib.hid hk
  have HAD := Lib.hid hAD
  have HFT := Lib.hid hfit
  have hx : (nums .u8 (l.drop at')).take m = nums .u8 ((l.drop at').take k) := by
    rw [← nums_take]
    congr 1
    have hl2 : (l.drop at').length = n - at' := by rw [List.length_drop, hln]
    rcases Nat.le_total m (n - at') with h1 | h1
    · have e : k = m := by rw [← hk]; exact Nat.min_eq_right h1
      rw [e]
    · have e : k = n - at' := by rw [← hk]; exact Nat.min_eq_left h1
      rw [List.take_of_length_le (by omega), List.take_of_length_le (by omega)]
  have HX := Lib.hid hx
  have hlk : ((l.drop at').take k).length = k := by rw [List.length_take, List.length_drop]; omega
  have HLK := Lib.hid hlk
  clear hk hAD hfit hx hlk
  subst hdp
  go_enter Tryz.func85, Tryz.ntmps85
  go_wp2_with fail
  refine (byteRead_some gb D od t m dc n c at' A (some ⟨D, od, none⟩) cs l w R.out.b R.out.sl R.out.cap ha R.out.big hd (fun _ => rfl) HFT.out hm (fun e => hD.2.1 e.symm)).mono ?_
  rintro E w2 ⟨rfl, hd2, hb2, hf2⟩
  rw [HX.out] at hd2
  rw [HK.out] at hb2 ⊢
  have HT2 := Lib.hid (R.out.t.frm hf2 (by simp only [List.mem_cons, List.not_mem_nil, or_false, not_or]; exact ⟨fun e => hD.1 e.symm, R.out.ntb⟩))
  have HK2 := Lib.hid (R.out.k.frm hf2 (by simp only [List.mem_cons, List.not_mem_nil, or_false, not_or]; exact ⟨fun e => hD.2.2 e.symm, fun e => R.out.nbc e.symm⟩))
  have HS2 : Hid (Sl w2 A n (nums .u8 l)) := R.out.sl.frm0 hf2 (fun b o e h0 _ => by
    simp only [List.mem_cons, List.not_mem_nil, or_false, not_or]
    exact ⟨HAD.out b o e h0, (R.out.apart b o e h0).2.1⟩)
  have HD2 := Lib.hid hd2
  have HB2 := Lib.hid hb2
  have HF2 : Hid (Frm [D, gt, gb, gc] w w2) := hf2.mono (fun i hi => .inl (by simp only [List.mem_cons, List.not_mem_nil, or_false] at hi ⊢; rcases hi with hi | hi <;> simp [hi]))
  have t2 := HT2.out.at_ (i := 2) rfl
  have f2 := HT2.out.frozen 2
  have hhl : h.length ≤ 1000000 := R.out.hl
  have hkl : k ≤ 1000000 := by omega
  clear hd2 hb2 hf2 t0
  have hfs : Frm [gt] w2 (w2.setCell ⟨gt, 2, none⟩ (.int .i64 ((h.length : Int) + (k : Int)))) := Frm.set w2 ⟨gt, 2, none⟩ _
  have HT3 := Lib.hid (HT2.out.set_ 2 (.int .i64 ((h.length : Int) + (k : Int))))
  have HK3 := Lib.hid (HK2.out.frm hfs (by rw [List.mem_singleton]; exact fun e => R.out.ntc e.symm))
  have HB3 := Lib.hid (HB2.out.frm hfs (by rw [List.mem_singleton]; exact fun e => R.out.ntb e.symm))
  have HD3 := Lib.hid (HD2.out.frm hfs (by rw [List.mem_singleton]; exact hD.1))
  have HS3 : Hid (Sl (w2.setCell ⟨gt, 2, none⟩ (.int .i64 ((h.length : Int) + (k : Int)))) A n (nums .u8 l)) := HS2.out.frm0 hfs (fun b o e h0 _ hi => by rw [List.mem_singleton] at hi; exact (R.out.apart b o e h0).1 hi)
  have HF3 : Hid (Frm [D, gt, gb, gc] w (w2.setCell ⟨gt, 2, none⟩ (.int .i64 ((h.length : Int) + (k : Int))))) := HF2.out.trans hfs (fun i hi => by rw [List.mem_singleton] at hi; subst hi; exact .inl (by simp))
  clear hfs HT2 HK2 HB2 HD2 HS2 HF2
  go_wp2_with fail
  have q1 : (w2.setCell ⟨gt, 2, none⟩ (.int .i64 ((h.length : Int) + (k : Int)))).cell? ⟨gt, 1, none⟩ = some (.pointer (some ⟨gc, 0, none⟩)) := HT3.out.at_ rfl
  clear t2 f2
  generalize w2.setCell ⟨gt, 2, none⟩ (.int .i64 ((h.length : Int) + (k : Int))) = w3 at *
  have hk0 : (0 : Int) ≤ (k : Int) := by omega
  have hkd : (k : Int) ≤ (dc : Int) := by omega
  refine start_ (n := 12) (S := fun w' => w'.cell? ⟨gt, 1, none⟩ = some (.pointer (some ⟨gc, 0, none⟩))) (ds := []) #[ff,ff,ff,ff,ff,ff,ff,ff,ff,ff,ff,ff] (by kernel_rfl) rfl rfl (q1) (fun hHeld => ?_)
  refine pure_ (i := 0) (N := some 29) (v := ?_) (a' := ?_) #[tt,ff,ff,ff,ff,ff,ff,ff,ff,ff,ff,ff] rfl rfl (by kernel_rfl) (fun _ _ _ h => h) (Or.inl ⟨by rfl, ?_⟩) ?_ ?_; rotate_left; (intro w'; go_simp; with_reducible rfl); rotate_left; (simp only [Act.put, List.setIfInBounds_toArray, List.set_cons_zero, List.set_cons_succ, i64_w, i32_w]; rfl)
  refine pure_ (i := 1) (N := some 30) (v := ?_) (a' := ?_) #[tt,tt,ff,ff,ff,ff,ff,ff,ff,ff,ff,ff] rfl rfl (by kernel_rfl) (fun _ _ _ h => h) (Or.inl ⟨by rfl, ?_⟩) ?_ ?_; rotate_left; (intro w'; go_simp; with_reducible rfl); rotate_left; (simp only [Act.put, List.setIfInBounds_toArray, List.set_cons_zero, List.set_cons_succ, i64_w, i32_w]; rfl)
  refine pure_ (i := 2) (N := some 31) (v := ?_) (a' := ?_) #[tt,tt,tt,ff,ff,ff,ff,ff,ff,ff,ff,ff] rfl rfl (by kernel_rfl) (fun _ _ _ h => h) (Or.inl ⟨by rfl, ?_⟩) ?_ ?_; rotate_left; (intro w'; go_simp; with_reducible rfl); rotate_left; (simp only [Act.put, List.setIfInBounds_toArray, List.set_cons_zero, List.set_cons_succ, i64_w, i32_w]; rfl)
  refine take_ (i := 3) (N := some 32) (v := ?_) (a' := ?_) #[tt,tt,tt,tt,ff,ff,ff,ff,ff,ff,ff,ff] rfl rfl (by kernel_rfl) (fun _ _ _ h => h) (Or.inl ⟨by rfl, ?_⟩) hHeld ?_ ?_; rotate_left; (rintro w' h0; go_simp; with_reducible rfl); rotate_left; (simp only [Act.put, List.setIfInBounds_toArray, List.set_cons_zero, List.set_cons_succ, i64_w, i32_w]; rfl)
  refine pure_ (i := 4) (N := some 33) (v := ?_) (a' := ?_) #[tt,tt,tt,tt,tt,ff,ff,ff,ff,ff,ff,ff] rfl rfl (by kernel_rfl) (fun _ _ _ h => h) (Or.inl ⟨by rfl, ?_⟩) ?_ ?_; rotate_left; (intro w'; go_simp; with_reducible rfl); rotate_left; (simp only [Act.put, List.setIfInBounds_toArray, List.set_cons_zero, List.set_cons_succ, i64_w, i32_w]; rfl)
  refine pure_ (i := 5) (N := some 34) (v := ?_) (a' := ?_) #[tt,tt,tt,tt,tt,tt,ff,ff,ff,ff,ff,ff] rfl rfl (by kernel_rfl) (fun _ _ _ h => h) (Or.inl ⟨by rfl, ?_⟩) ?_ ?_; rotate_left; (intro w'; go_simp; with_reducible rfl); rotate_left; (simp only [Act.put, List.setIfInBounds_toArray, List.set_cons_zero, List.set_cons_succ, i64_w, i32_w]; rfl)
  refine pure_ (i := 6) (N := some 35) (v := ?_) (a' := ?_) #[tt,tt,tt,tt,tt,tt,tt,ff,ff,ff,ff,ff] rfl rfl (by kernel_rfl) (fun _ _ _ h => h) (Or.inl ⟨by rfl, ?_⟩) ?_ ?_; rotate_left; (intro w'; go_simp; with_reducible rfl); rotate_left; (simp only [Act.put, List.setIfInBounds_toArray, List.set_cons_zero, List.set_cons_succ, i64_w, i32_w]; rfl)
  refine one_ (i := 7) (N := some 36) #[tt,tt,tt,tt,tt,tt,tt,tt,ff,ff,ff,ff] rfl rfl (by kernel_rfl) (by decide) (fun K hK => ?_); refine goes_ Tryz.func55 (by kernel_rfl) rfl #[.pointer (some ⟨gc, 0, none⟩), .slice (some ⟨D, od, none⟩) k dc] (by rfl) rfl rfl (by (try simp only [List.map_toArray, List.map_cons, List.map_nil]); first | done | rfl) ?_
  refine (crcWrite_any gc k dc (some ⟨D, od, none⟩) ((l.drop at').take k) (crcL h) w3.drew (HK3.out.frm (Frm.refl [] w3).drew (by simp)) (by
    have hb := (HD3.out.frm (Frm.refl [] w3).drew (by simp)).sl (off := od) (n := k) (by rw [splice_len _ _ _ (by rw [nums_length, HLK.out]; have := HFT.out; omega)]; have := HFT.out; omega)
    have e : ((splice cs od (nums .u8 ((l.drop at').take k))).drop od).take k = nums .u8 ((l.drop at').take k) := by
      have h2 := splice_mid cs (nums .u8 ((l.drop at').take k)) od (by rw [nums_length, HLK.out]; have := HFT.out; omega)
      rw [nums_length, HLK.out] at h2
      exact h2
    rw [e] at hb
    exact hb) ((R.out.byt.drop at').take k) (fun _ b o e e2 => by injection e with e; injection e with e3 e4; exact hD.2.2 (by rw [← e2, ← e3])) (crcL_in h (in8L_of R.out.hb)) hkl).mono ?_
  rintro E w4 ⟨rfl, hw4⟩
  have HW4 := Lib.hid hw4
  have hf4 : Frm [gc] w3 w4 := ((Frm.refl [gc] w3).drew).trans (frm_wrote hw4) (fun i hi => .inl hi)
  refine ⟨_, rfl, ?_⟩
  have q4 : w4.cell? ⟨gt, 1, none⟩ = some (.pointer (some ⟨gc, 0, none⟩)) := cell_frm q1 hf4 (by rw [List.mem_singleton]; exact R.out.ntc)
  refine hK.out _ _ (q4) (fun hHeld => ?_); clear hK K; refine norm_ (a' := ?_) ?_ ?_; rotate_left; (show Act.put _ (some 36) _ = _; simp only [Act.put, List.setIfInBounds_toArray, List.set_cons_zero, List.set_cons_succ, i64_w, i32_w]; rfl)
  have HR : Hid (HrS w4 gt gb gc n c (at' + k) A l (h ++ (l.drop at').take k)) := by
    have hlen : ((h ++ (l.drop at').take k).length : Int) = (h.length : Int) + (k : Int) := by rw [List.length_append, HLK.out, Int.natCast_add]
    refine ⟨?_, HB3.out.frm hf4 (by rw [List.mem_singleton]; exact R.out.nbc), ?_, HS3.out.frm0 hf4 (fun b o e h0 _ hi => by rw [List.mem_singleton] at hi; exact (R.out.apart b o e h0).2.2 hi), R.out.byt, R.out.cap, by have := R.out.le; omega, R.out.big, R.out.hb.append ((R.out.byt.drop at').take k), by rw [List.length_append, HLK.out]; omega, R.out.ntb, R.out.ntc, R.out.nbc, R.out.apart⟩
    · rw [hlen]
      exact HT3.out.frm hf4 (by rw [List.mem_singleton]; exact R.out.ntc)
    · have h5 := HW4.out.1
      unfold crcL at h5 ⊢
      rw [List.foldl_append]
      exact h5
  have HDD := Lib.hid (HD3.out.frm hf4 (by rw [List.mem_singleton]; exact hD.2.2))
  have HFF : Hid (Frm [D, gt, gb, gc] w w4) := HF3.out.trans hf4 (fun i hi => by rw [List.mem_singleton] at hi; subst hi; exact .inl (by simp))
  clear hw4 hf4 q1 q4 HT3 HK3 HB3 HD3 HS3 HF3
  refine pure_ (i := 8) (N := some 37) (v := ?_) (a' := ?_) #[tt,tt,tt,tt,tt,tt,tt,tt,tt,ff,ff,ff] rfl rfl (by kernel_rfl) (fun _ _ _ h => h) (Or.inl ⟨by rfl, ?_⟩) ?_ ?_; rotate_left; (intro w'; go_simp; with_reducible rfl); rotate_left; (simp only [Act.put, List.setIfInBounds_toArray, List.set_cons_zero, List.set_cons_succ, i64_w, i32_w]; rfl)
  refine pure_ (i := 9) (N := some 38) (v := ?_) (a' := ?_) #[tt,tt,tt,tt,tt,tt,tt,tt,tt,tt,ff,ff] rfl rfl (by kernel_rfl) (fun _ _ _ h => h) (Or.inl ⟨by rfl, ?_⟩) ?_ ?_; rotate_left; (intro w'; go_simp; with_reducible rfl); rotate_left; (simp only [Act.put, List.setIfInBounds_toArray, List.set_cons_zero, List.set_cons_succ, i64_w, i32_w]; rfl)
  refine pure_ (i := 10) (N := some 4) (v := ?_) (a' := ?_) #[tt,tt,tt,tt,tt,tt,tt,tt,tt,tt,tt,ff] rfl rfl (by kernel_rfl) (fun _ _ _ h => h) (Or.inl ⟨by rfl, ?_⟩) ?_ ?_; rotate_left; (intro w'; go_simp; with_reducible rfl); rotate_left; (simp only [Act.put, List.setIfInBounds_toArray, List.set_cons_zero, List.set_cons_succ, i64_w, i32_w]; rfl)
  refine pure_ (i := 11) (N := some 5) (v := ?_) (a' := ?_) #[tt,tt,tt,tt,tt,tt,tt,tt,tt,tt,tt,tt] rfl rfl (by kernel_rfl) (fun _ _ _ h => h) (Or.inl ⟨by rfl, ?_⟩) ?_ ?_; rotate_left; (intro w'; go_simp; with_reducible rfl); rotate_left; (simp only [Act.put, List.setIfInBounds_toArray, List.set_cons_zero, List.set_cons_succ, i64_w, i32_w]; rfl)
  refine done_ (by kernel_rfl) ?_
  go_wp2
  go_ret2
  exact ⟨rfl, HR.out, HDD.out, HFF.out⟩
end Go.Proofs.YtpfmmbhbmdbmeaaGreatDoor
