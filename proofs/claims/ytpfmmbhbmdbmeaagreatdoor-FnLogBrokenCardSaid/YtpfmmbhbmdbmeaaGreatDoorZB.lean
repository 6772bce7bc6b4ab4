/- Readers of bytes that count. -/
import Derived.Test.YtpfmmbhbmdbmeaaGreatDoorGB

import Derived.Test.YtpfmmbhbmdbmeaaGreatDoorFM
import Derived.Test.YtpfmmbhbmdbmeaaGreatDoorPB
import Derived.StillTailTactics
import Derived.BigQuiet
namespace Go.Proofs.YtpfmmbhbmdbmeaaGreatDoor
open Go.RowKit
set_option linter.unusedVariables false
set_option linter.unusedSimpArgs false
theorem sl_dropZ {w : World} {g o n m : Nat} {xs : List Value} (h : Sl w (some ⟨g, o, none⟩) n xs) (hm : m ≤ n) : Sl w (some ⟨g, o + m, none⟩) (n - m) (xs.drop m) :=
  ⟨by rw [List.length_drop, h.1], fun h0 => by
    obtain ⟨g', o', e, hcell⟩ := h.2 (by omega)
    injection e with e
    injection e with e1 e2
    subst e1 e2
    refine ⟨g, o + m, rfl, fun j u hu => ?_⟩
    rw [List.getElem?_drop] at hu
    have := hcell _ u hu
    rw [← Nat.add_assoc] at this
    exact this⟩
set_option maxRecDepth 100000 in
theorem byteRead_end (gb n c at' m dc : Nat) (A dp : Option Addr) (V : Value) (w : World) (hb : Blk w gb 134 [.slice A n c, .int .i64 at']) (ha : n ≤ at') (hV : w.cell? ⟨0, 0, none⟩ = some V) :
    Calls Tryz.prog 90 #[.pointer (some ⟨gb, 0, none⟩), .slice dp m dc] w (fun E w' => E = .returned (.tuple #[.int .i64 0, V]) ∧ Frm [] w w') := by
  have b0 := hb.at_ (i := 0) rfl
  have b1 := hb.at_ (i := 1) rfl
  have h1 : (n : Int) ≤ (at' : Int) := by omega
  go_enter Tryz.func90, Tryz.ntmps90
  go_wp2_with fail
  go_quiet (fail)
  go_wp2_with fail
  go_quiet (fail)
  go_wp2_with fail
  go_ret2
  exact ⟨rfl, ((Frm.refl [] w).drewN _).drewN _⟩
set_option maxRecDepth 100000 in
theorem byteRead_some (gb D od t m dc n c at' : Nat) (A dp : Option Addr) (cs : List Value) (l : List Int) (w : World) (hb : Blk w gb 134 [.slice A n c, .int .i64 at']) (hs : Sl w A n (nums .u8 l)) (hc : n ≤ c) (ha : at' < n) (hn : n ≤ 1000000)
    (hd : Blk w D t cs) (hdp : 0 < m → dp = some ⟨D, od, none⟩) (hfit : od + m ≤ cs.length) (hm : m ≤ 1000000) (hne : gb ≠ D) :
    Calls Tryz.prog 90 #[.pointer (some ⟨gb, 0, none⟩), .slice dp m dc] w (fun E w' => E = .returned (.tuple #[.int .i64 (Nat.min (n - at') m : Nat), .nilIface]) ∧ Blk w' D t (splice cs od ((nums .u8 (l.drop at')).take m)) ∧ Blk w' gb 134 [.slice A n c, .int .i64 ((at' + Nat.min (n - at') m : Nat) : Int)] ∧ Frm [D, gb] w w') := by
  obtain ⟨ga, oa, rfl, hcell⟩ := hs.2 (by omega)
  have b0 := hb.at_ (i := 0) rfl
  have b1 := hb.at_ (i := 1) rfl
  have h1 : ¬ (n : Int) ≤ (at' : Int) := by omega
  have h2 : (at' : Int) < (n : Int) := by omega
  have hcc : ¬ c = at' := by omega
  have hac : (at' : Int) ≤ (c : Int) := by omega
  have hal : (at' : Int) ≤ (n : Int) := by omega
  have h00 : (0 : Int) ≤ (at' : Int) := by omega
  have hcc2 : ¬ (c : Int) = (at' : Int) := by omega
  have HD := Lib.hid hd
  have HB := Lib.hid hb
  have HS : Hid (Sl w (some ⟨ga, oa + at', none⟩) (n - at') (nums .u8 (l.drop at'))) := by
    have h7 := sl_dropZ (m := at') hs (by omega)
    have e : (nums .u8 l).drop at' = nums .u8 (l.drop at') := by unfold nums; rw [List.map_drop]
    rw [e] at h7
    exact h7
  have HDP := Lib.hid hdp
  have HFT := Lib.hid hfit
  have hmin : Nat.min (n - at') m ≤ 1000000 := Nat.le_trans (Nat.min_le_right _ _) hm
  clear hb hd hs hcell hdp hfit
  go_enter Tryz.func90, Tryz.ntmps90
  go_wp2_with fail
  go_quiet (fail)
  go_wp2_with fail
  have HD1 : Hid (Blk (w.drewN nq) D t cs) := HD.out
  have HB1 : Hid (Blk (w.drewN nq) gb 134 [.slice (some ⟨ga, oa, none⟩) n c, .int .i64 at']) := HB.out
  have HS1 : Hid (Sl (w.drewN nq) (some ⟨ga, oa + at', none⟩) (n - at') (nums .u8 (l.drop at'))) := HS.out
  have HF1 : Hid (Frm [D, gb] w (w.drewN nq)) := (Frm.refl [D, gb] w).drewN nq
  clear HD HB HS b0 b1
  generalize w.drewN nq = w1 at *
  have b0 := HB1.out.at_ (i := 0) rfl
  have b1 := HB1.out.at_ (i := 1) rfl
  go_still_tail 10, (by kernel_rfl)
  change wpList _ _ _ _ _ w1.drew
  have HD2 : Hid (Blk w1.drew D t cs) := HD1.out
  have HB2 : Hid (Blk w1.drew gb 134 [.slice (some ⟨ga, oa, none⟩) n c, .int .i64 at']) := HB1.out
  have HS2 : Hid (Sl w1.drew (some ⟨ga, oa + at', none⟩) (n - at') (nums .u8 (l.drop at'))) := HS1.out
  have HF2 : Hid (Frm [D, gb] w w1.drew) := HF1.out.drew
  clear HD1 HB1 HS1 HF1 b0 b1
  generalize w1.drew = w2 at *
  refine wpList_copy_blk rfl (.tmp 18) (.tmp 27) 27 27 rfl 5 Tryz.underlying27 sizeU8 (some ⟨ga, oa + at', none⟩) _ D od m _ (n - at') (c - at') t _ (nums .u8 (l.drop at')) rfl HDP.out rfl HD2.out HS2.out HFT.out (nums_one _ _) (Nat.min (n - at') m) rfl ?_
  intro w3 hw3
  have HW3 : Hid (Blk w3 D t (splice cs od ((nums .u8 (l.drop at')).take m))) := hw3.1
  have HB3 : Hid (Blk w3 gb 134 [.slice (some ⟨ga, oa, none⟩) n c, .int .i64 at']) := (hw3.2.block _ HB2.out.lt (fun e => by injection e with e; exact hne e)).trans HB2.out
  have HF3 : Hid (Frm [D, gb] w w3) := HF2.out.trans (Frm.of_grown hw3.2) (fun i hi => by rw [List.mem_singleton] at hi; subst hi; exact .inl (by simp))
  have q1 := HB3.out.at_ (i := 1) rfl
  have f1 := HB3.out.frozen 1
  clear hw3 HD2 HB2 HS2 HF2
  go_wp2
  have hf4 : Frm [gb] w3 (w3.setCell ⟨gb, 1, none⟩ (.int .i64 ((at' : Int) + (Nat.min (n - at') m : Nat)))) := Frm.set w3 ⟨gb, 1, none⟩ _
  have HW4 := Lib.hid (HW3.out.frm hf4 (by rw [List.mem_singleton]; exact fun e => hne e.symm))
  have HB4 := Lib.hid (HB3.out.set_ 1 (.int .i64 ((at' : Int) + (Nat.min (n - at') m : Nat))))
  have HF4 : Hid (Frm [D, gb] w (w3.setCell ⟨gb, 1, none⟩ (.int .i64 ((at' : Int) + (Nat.min (n - at') m : Nat))))) := HF3.out.trans hf4 (fun i hi => by rw [List.mem_singleton] at hi; subst hi; exact .inl (by simp))
  clear hf4
  go_ret2
  refine ⟨rfl, HW4.out, ?_, HF4.out⟩
  rw [Int.natCast_add]
  exact HB4.out
end Go.Proofs.YtpfmmbhbmdbmeaaGreatDoor
