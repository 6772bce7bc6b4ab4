/- Changes of the list of tables, in bytes: fields. -/
import Derived.Test.YtpfmmbhbmdbmeaaDoorGB
import Derived.Test.YtpfmmbhbmdbmeaaDoorGM
import Derived.Test.YtpfmmbhbmdbmeaaDoorPB
import Derived.StillTailTactics
namespace Go.Proofs.YtpfmmbhbmdbmeaaDoor
open Go.Proofs.YtpfmmbhbmdbmeaaDoorW.PrintLast
open Go.RowKit
set_option linter.unusedVariables false
set_option linter.unusedSimpArgs false
theorem cell_appF {w w1 : World} {p : Addr} {v : Value} {r : Option Nat} (hg : w.grownBy w1 r) (hr : r ≠ some p.block) (h : w.cell? p = some v) : w1.cell? p = some v := by
  rw [hg.cell_far p (World.block_lt_of_cell? w _ h) (fun e => hr e.symm)]; exact h
/-- A field of a record, if it is not 0. -/
def fieldB (k v : Int) : List Int := if v = 0 then [] else k :: vint 9 v
theorem arr10f : Tryd.prog.arrayLen 81 = 10 := by kernel_rfl
set_option maxRecDepth 100000 in
theorem appendField_any (base : Nat) (k v : Int) (l : List Int) (vb : Value) (w : World) (hb : base ≤ w.heap.size) (hl : l.length ≤ 1000000) (hown : w.ownsRow base 5 1 vb l.length (nums .u8 l)) (h0 : 0 ≤ v) (h1 : Hid (v ≤ 18446744073709551615)) :
    Calls Tryd.prog 31 #[vb, .int .u8 k, .int .u64 v] w fun e w' => ∃ v', e = .returned v' ∧ w'.ownsRow base 5 1 v' (l ++ fieldB k v).length (nums .u8 (l ++ fieldB k v)) ∧ Onto w vb w' v' := by
  by_cases hv : v = 0
  · subst hv
    go_enter Tryd.func31, Tryd.ntmps31
    go_wp2
    go_ret
    exact ⟨vb, rfl, by simpa [fieldB] using hown, Onto.refl w vb⟩
  · have hvv := vint_len 9 v
    have HV := Lib.hid hvv
    have HO := Lib.hid hown
    have hv1 : (v == 0) = false := by simp [hv]
    clear hvv hown
    go_enter Tryd.func31, Tryd.ntmps31
    go_wp2_with fail
    have hk : Blk (w.alloc (.cells #[.int .u8 0, .int .u8 0, .int .u8 0, .int .u8 0, .int .u8 0, .int .u8 0, .int .u8 0, .int .u8 0, .int .u8 0, .int .u8 0] 81)) w.heap.size 81 (List.replicate 10 (.int .u8 0)) := Blk.new w 81 (List.replicate 10 (.int .u8 0))
    have HK := Lib.hid hk
    have HG : Hid (w.grownBy (w.alloc (.cells #[.int .u8 0, .int .u8 0, .int .u8 0, .int .u8 0, .int .u8 0, .int .u8 0, .int .u8 0, .int .u8 0, .int .u8 0, .int .u8 0] 81)) vb.ownBlock) := World.grownBy_alloc w _ _
    have HZ : Hid (w.heap.size < (w.alloc (.cells #[.int .u8 0, .int .u8 0, .int .u8 0, .int .u8 0, .int .u8 0, .int .u8 0, .int .u8 0, .int .u8 0, .int .u8 0, .int .u8 0] 81)).heap.size) := by show _ < _; rw [World.size_alloc]; omega
    have HO1 := Lib.hid (HO.out.alloc (.cells #[.int .u8 0, .int .u8 0, .int .u8 0, .int .u8 0, .int .u8 0, .int .u8 0, .int .u8 0, .int .u8 0, .int .u8 0, .int .u8 0] 81))
    clear hk
    generalize w.alloc (.cells #[.int .u8 0, .int .u8 0, .int .u8 0, .int .u8 0, .int .u8 0, .int .u8 0, .int .u8 0, .int .u8 0, .int .u8 0, .int .u8 0] 81) = w1 at *
    refine (pubPut_any w.heap.size 0 10 10 81 v _ w1 HK.out (by have := HV.out; omega) (by simp) h0 h1).mono ?_
    rintro E w2 ⟨rfl, hw2⟩
    have HW2 := Lib.hid hw2
    have hlt : ∀ g, vb.ownBlock = some g → g < w.heap.size := fun g hg => (HO.out.lt g hg).2
    have HO2 : Hid (w2.ownsRow base 5 1 vb l.length (nums .u8 l)) := Go.Proofs.YtpfmmbhbmdbmeaaDoorW.PrintWords.own_move HO1.out (fun g hg => hw2.2.block g (by have := hlt g hg; have := HZ.out; omega) (by have := hlt g hg; simp; omega))
    have HG2 : Hid (w.grownBy w2 vb.ownBlock) := grownBy_then HG.out hw2.2 (.inr ⟨_, rfl, Nat.le_refl _⟩)
    have HS2 : Hid (Sl w2 (some ⟨w.heap.size, 0, none⟩) (vint 9 v).length (nums .u8 (vint 9 v))) := by
      have hvv := HV.out
      have := HW2.out.1.sl (off := 0) (n := (vint 9 v).length) (by rw [splice_len _ _ _ (by rw [nums_length]; simp; omega)]; simp; omega)
      rw [List.drop_zero, splice, List.take_zero, List.nil_append, List.take_append_of_le_length (by rw [nums_length]; omega), List.take_of_length_le (by rw [nums_length]; omega)] at this
      exact this
    have ha2 : ((vint 9 v).length : Int) ≤ ((Tryd.prog.arrayLen 81 : Nat) : Int) := by rw [arr10f]; have := HV.out; omega
    have ha3 : ((vint 9 v).length : Int) ≤ 10 := by have := HV.out; omega
    have HZ2 : Hid (w.heap.size < w2.heap.size) := Nat.lt_of_lt_of_le HZ.out hw2.2.size
    have HLT := Lib.hid hlt
    clear hw2 HW2 HK HG HO HO1 hlt
    go_wp2_with fail
    refine start_ (n := 8) (S := fun _ => True) (ds := []) #[ff,ff,ff,ff,ff,ff,ff,ff] (by kernel_rfl) rfl rfl (trivial) (fun hHeld => ?_)
    have HO3 : Hid (w2.drew.ownsRow base 5 1 vb l.length (nums .u8 l)) := HO2.out
    have HG3 : Hid (w.grownBy w2.drew vb.ownBlock) := ⟨HG2.out.os, HG2.out.tape, HG2.out.output, HG2.out.size, HG2.out.block⟩
    have HS3 : Hid (Sl w2.drew (some ⟨w.heap.size, 0, none⟩) (vint 9 v).length (nums .u8 (vint 9 v))) := HS2.out
    have HZ3 : Hid (w.heap.size < w2.drew.heap.size) := HZ2.out
    clear HO2 HG2 HS2 HZ2 hHeld
    generalize w2.drew = w3 at *
    refine pure_ (i := 0) (N := some 15) (v := ?_) (a' := ?_) #[tt,ff,ff,ff,ff,ff,ff,ff] rfl rfl (by kernel_rfl) (fun _ _ _ h => h) (Or.inl ⟨by rfl, ?_⟩) ?_ ?_; rotate_left; (intro w'; go_simp; with_reducible rfl); rotate_left; (simp only [Act.put, List.setIfInBounds_toArray, List.set_cons_zero, List.set_cons_succ, i64_w, i32_w]; rfl)
    refine pure_ (i := 1) (N := some 16) (v := ?_) (a' := ?_) #[tt,tt,ff,ff,ff,ff,ff,ff] rfl rfl (by kernel_rfl) (fun _ _ _ h => h) (Or.inl ⟨by rfl, ?_⟩) ?_ ?_; rotate_left; (intro w'; go_simp; with_reducible rfl); rotate_left; (simp only [Act.put, List.setIfInBounds_toArray, List.set_cons_zero, List.set_cons_succ, i64_w, i32_w]; rfl)
    refine pure_ (i := 4) (N := some 19) (v := ?_) (a' := ?_) #[tt,tt,ff,ff,tt,ff,ff,ff] rfl rfl (by kernel_rfl) (fun _ _ _ h => h) (Or.inl ⟨by rfl, ?_⟩) ?_ ?_; rotate_left; (intro w'; go_simp; with_reducible rfl); rotate_left; (simp only [Act.put, List.setIfInBounds_toArray, List.set_cons_zero, List.set_cons_succ, i64_w, i32_w]; rfl)
    refine pure_ (i := 5) (N := some 20) (v := ?_) (a' := ?_) #[tt,tt,ff,ff,tt,tt,ff,ff] rfl rfl (by kernel_rfl) (fun _ _ _ h => h) (Or.inl ⟨by rfl, ?_⟩) ?_ ?_; rotate_left; (intro w'; go_simp; with_reducible rfl); rotate_left; (simp only [Act.put, List.setIfInBounds_toArray, List.set_cons_zero, List.set_cons_succ, i64_w, i32_w]; rfl)
    refine one_ (i := 2) (N := some 17) #[tt,tt,tt,ff,tt,tt,ff,ff] rfl rfl (by kernel_rfl) (by decide) (fun K hK => ?_)
    refine Go.Proofs.YtpfmmbhbmdbmeaaDoorW.PrintLast.value_ (v := .slice (some ⟨w3.heap.size, 0, none⟩) 1 1) (w1 := w3.alloc (.cells #[.int .u8 k] 5)) (by rfl) rfl ?_ ?_
    · go_simp
      try rfl
    refine hK.out _ _ (trivial) (fun hHeld => ?_); clear hK K; refine norm_ (a' := ?_) ?_ ?_; rotate_left; (show Act.put _ (some 17) _ = _; simp only [Act.put, List.setIfInBounds_toArray, List.set_cons_zero, List.set_cons_succ, i64_w, i32_w]; rfl)
    have ho4 := HO3.out.alloc (.cells #[.int .u8 k] 5)
    have hs4 := HS3.out.alloc (.cells #[.int .u8 k] 5)
    have hk4 : Sl (w3.alloc (.cells #[.int .u8 k] 5)) (some ⟨w3.heap.size, 0, none⟩) 1 (nums .u8 [k]) := sl_one w3 (.int .u8 k) 5
    have hg4 : w.grownBy (w3.alloc (.cells #[.int .u8 k] 5)) vb.ownBlock := grownBy_then HG3.out (World.grownBy_alloc w3 _ vb.ownBlock) (.inl rfl)
    have hz4 : w.heap.size < (w3.alloc (.cells #[.int .u8 k] 5)).heap.size := Nat.lt_of_lt_of_le HZ3.out (World.grownBy_alloc w3 (.cells #[.int .u8 k] 5) none).size
    clear HO3 HS3 HG3 HZ3
    generalize hw3 : w3.heap.size = g3 at *
    generalize w3.alloc (.cells #[.int .u8 k] 5) = w4 at *
    refine one_ (i := 3) (N := some 18) #[tt,tt,tt,tt,tt,tt,ff,ff] rfl rfl (by kernel_rfl) (by decide) (fun K hK => ?_)
    refine step_append_sl rfl (.tmp 15) (.tmp 17) 30 rfl base 5 (.int .u8 0) 1 Tryd.underlying30 infoU8 rfl vb l.length (nums .u8 l) rfl ho4 (some ⟨g3, 0, none⟩) 1 1 (nums .u8 [k]) rfl hk4 (nums_one _ _) (by omega) (by omega) (by omega) ?_
    intro v5 w5 ho5 hg5 hat5
    have hs5 : Sl w5 (some ⟨w.heap.size, 0, none⟩) (vint 9 v).length (nums .u8 (vint 9 v)) := ⟨hs4.1, fun hn => by
      obtain ⟨g', o', e', hc⟩ := hs4.2 hn
      injection e' with e'; injection e' with e1 e2; subst e1 e2
      exact ⟨_, _, rfl, fun j u hu => cell_appF hg5 (fun e => by have := HLT.out _ e; simp only at this; omega) (hc j u hu)⟩⟩
    have hg5' : w.grownBy w5 vb.ownBlock := grownBy_then hg4 hg5 (.inl rfl)
    have hb5 : base ≤ w5.heap.size := Nat.le_trans hb hg5'.size
    have hat5' : v5.ownBlock = vb.ownBlock ∨ ∃ b, v5.ownBlock = some b ∧ w.heap.size ≤ b := by
      rcases hat5 with h | h
      · exact .inl h
      · exact .inr ⟨_, h, Nat.le_of_lt hz4⟩
    clear hs4 hk4 ho4
    refine hK.out _ _ (trivial) (fun hHeld => ?_); clear hK K; refine norm_ (a' := ?_) ?_ ?_; rotate_left; (show Act.put _ (some 18) _ = _; simp only [Act.put, List.setIfInBounds_toArray, List.set_cons_zero, List.set_cons_succ, i64_w, i32_w]; rfl)
    refine one_ (i := 6) (N := some 21) #[tt,tt,tt,tt,tt,tt,tt,ff] rfl rfl (by kernel_rfl) (by decide) (fun K hK => ?_)
    refine step_append_sl rfl (.tmp 18) (.tmp 20) 30 rfl base 5 (.int .u8 0) 1 Tryd.underlying30 infoU8 rfl v5 (l.length + 1) (nums .u8 l ++ nums .u8 [k]) rfl ho5 (some ⟨w.heap.size, 0, none⟩) (vint 9 v).length 10 (nums .u8 (vint 9 v)) rfl hs5 (nums_one _ _) (by have := HV.out; omega) (by omega) hb5 ?_
    intro v6 w6 ho6 hg6 hat6
    refine hK.out _ _ (trivial) (fun hHeld => ?_); clear hK K; refine norm_ (a' := ?_) ?_ ?_; rotate_left; (show Act.put _ (some 21) _ = _; simp only [Act.put, List.setIfInBounds_toArray, List.set_cons_zero, List.set_cons_succ, i64_w, i32_w]; rfl)
    refine pure_ (i := 7) (N := some 6) (v := ?_) (a' := ?_) #[tt,tt,tt,tt,tt,tt,tt,tt] rfl rfl (by kernel_rfl) (fun _ _ _ h => h) (Or.inl ⟨by rfl, ?_⟩) ?_ ?_; rotate_left; (intro w'; go_simp; with_reducible rfl); rotate_left; (simp only [Act.put, List.setIfInBounds_toArray, List.set_cons_zero, List.set_cons_succ, i64_w, i32_w]; rfl)
    refine done_ (by kernel_rfl) ?_
    go_wp2
    go_ret
    refine ⟨v6, rfl, ?_, grownBy_then hg5' hg6 hat5', ?_⟩
    · have e1 : l ++ fieldB k v = l ++ [k] ++ vint 9 v := by unfold fieldB; rw [if_neg hv]; simp
      have e2 : (l ++ [k] ++ vint 9 v).length = l.length + 1 + (vint 9 v).length := by simp; omega
      rw [e1, e2, nums_append, nums_append]
      exact ho6
    · rcases hat6 with h | h
      · rw [h]; exact hat5'
      · exact .inr ⟨_, h, hg5'.size⟩
end Go.Proofs.YtpfmmbhbmdbmeaaDoor
