/- A merging iterator: where it stands; it goes on. -/
import Derived.Test.YtegaigpolhdicaaGreatA7
import Derived.Test.YtegaigpolhdicaaGreatPB
import Derived.StillTailTactics
namespace Go.Proofs.YtegaigpolhdicaaGreat
open Go.Proofs.YtegaigpolhdicaaGreatW.PrintLast
open Go.RowKit
set_option linter.unusedVariables false
set_option linter.unusedSimpArgs false
theorem own_cut0 {w : World} {base e n : Nat} {v : Value} {xs : List Value} (h : w.ownsRow base e 1 v n xs) : ∃ A c, v = .slice A n c ∧ w.ownsRow base e 1 (.slice A 0 c) 0 [] ∧ n ≤ c ∧ (Value.slice A 0 c).ownBlock = v.ownBlock := by
  obtain ⟨h1, h2⟩ := h
  rcases h2 with ⟨rfl, rfl⟩ | ⟨g, cap, cur, rfl, hg, hh, hn, hcap, hsz, htake⟩
  · exact ⟨none, 0, rfl, ⟨rfl, .inl ⟨rfl, rfl⟩⟩, Nat.le_refl _, rfl⟩
  · exact ⟨some ⟨g, 0, none⟩, cap, rfl, ⟨rfl, .inr ⟨g, cap, cur, rfl, hg, hh, Nat.zero_le _, hcap, hsz, by simp⟩⟩, hn, rfl⟩
def CurP (w : World) (g n : Nat) (cs : List Value) (cu : Value) (xs : List Int) (E : Ending) (w' : World) : Prop :=
  E = .returned (.tuple #[]) ∧ ∃ cu', Blk w' g 83 (cs.set 11 cu') ∧ w'.ownsRow 0 5 1 cu' n (nums .u8 xs) ∧ FrS (fun i => i = g ∨ cu.ownBlock = some i) w w' ∧ ∀ b, cu'.ownBlock = some b → cu.ownBlock = some b ∨ w.heap.size ≤ b
set_option maxRecDepth 100000 in
set_option maxHeartbeats 4000000 in
theorem setCurrent_any (g o n c cn : Nat) (A : Option Addr) (cs : List Value) (cu : Value) (xs : List Int) (cx : List Value) (w : World)
    (hb : Blk w g 83 cs) (e10 : cs[10]? = some (.pointer (some ⟨g, o, none⟩))) (e11 : cs[11]? = some cu) (eo : cs[o + 1]? = some (.slice A n c)) (hs : Sl w A n (nums .u8 xs)) (hn : n ≤ 1000) (hnc : n ≤ c)
    (ho : w.ownsRow 0 5 1 cu cn cx) (hcn : cn ≤ 1000) (hg : cu.ownBlock ≠ some g) :
    Calls Tryz.prog 79 #[.pointer (some ⟨g, 0, none⟩)] w (CurP w g n cs cu xs) := by
  obtain ⟨B, cc, rfl, ho2, hcc, hob⟩ := own_cut0 ho
  have u10 := hb.at_ e10
  have u11 := hb.at_ e11
  have uo := hb.at_ eo
  have H := Lib.hid hb
  have HS := Lib.hid hs
  have HO := Lib.hid ho2
  have HOB := Lib.hid hob
  have HG := Lib.hid hg
  have HGL : Hid (g < w.heap.size) := hb.lt
  clear hb e10 e11 eo hs ho ho2 hob hg
  go_enter Tryz.func79, Tryz.ntmps79
  go_wp2_with fail
  refine start_ (n := 17) (S := fun w' => w'.cell? ⟨g, 11, none⟩ = some (.slice B cn cc) ∧ w'.cell? ⟨g, 10, none⟩ = some (.pointer (some ⟨g, o, none⟩)) ∧ w'.cell? ⟨g, o + 1, none⟩ = some (.slice A n c)) (ds := [13, 16]) #[ff,ff,ff,ff,ff,ff,ff,ff,ff,ff,ff,ff,ff,ff,ff,ff,ff] (by kernel_rfl) rfl rfl (⟨u11, u10, uo⟩) (fun hHeld => ?_)
  have hH3 : Blk w.drew g 83 cs := H.out
  have hS3 : Sl w.drew A n (nums .u8 xs) := HS.out
  have hO3 : w.drew.ownsRow 0 5 1 (.slice B 0 cc) 0 [] := HO.out
  have hf3 : FrS (fun i => i = g ∨ (Value.slice B cn cc).ownBlock = some i) w w.drew := (FrS.refl _ w).drewN 1
  have hsz : w.drew.heap.size = w.heap.size := rfl
  clear u10 u11 uo H HS HO
  generalize w.drew = w3 at *
  refine pure_ (i := 0) (N := some 2) (v := ?_) (a' := ?_) #[tt,ff,ff,ff,ff,ff,ff,ff,ff,ff,ff,ff,ff,ff,ff,ff,ff] rfl rfl (by kernel_rfl) (fun _ _ _ h => h) (Or.inl ⟨by rfl, ?_⟩) ?_ ?_; rotate_left; (intro w'; go_simp; with_reducible rfl); rotate_left; (simp only [Act.put, List.setIfInBounds_toArray, List.set_cons_zero, List.set_cons_succ, i64_w, i32_w]; rfl)
  refine pure_ (i := 1) (N := some 3) (v := ?_) (a' := ?_) #[tt,tt,ff,ff,ff,ff,ff,ff,ff,ff,ff,ff,ff,ff,ff,ff,ff] rfl rfl (by kernel_rfl) (fun _ _ _ h => h) (Or.inl ⟨by rfl, ?_⟩) ?_ ?_; rotate_left; (intro w'; go_simp; with_reducible rfl); rotate_left; (simp only [Act.put, List.setIfInBounds_toArray, List.set_cons_zero, List.set_cons_succ, i64_w, i32_w]; rfl)
  refine pure_ (i := 2) (N := some 4) (v := ?_) (a' := ?_) #[tt,tt,tt,ff,ff,ff,ff,ff,ff,ff,ff,ff,ff,ff,ff,ff,ff] rfl rfl (by kernel_rfl) (fun _ _ _ h => h) (Or.inl ⟨by rfl, ?_⟩) ?_ ?_; rotate_left; (intro w'; go_simp; with_reducible rfl); rotate_left; (simp only [Act.put, List.setIfInBounds_toArray, List.set_cons_zero, List.set_cons_succ, i64_w, i32_w]; rfl)
  refine pure_ (i := 3) (N := some 5) (v := ?_) (a' := ?_) #[tt,tt,tt,tt,ff,ff,ff,ff,ff,ff,ff,ff,ff,ff,ff,ff,ff] rfl rfl (by kernel_rfl) (fun _ _ _ h => h) (Or.inl ⟨by rfl, ?_⟩) ?_ ?_; rotate_left; (intro w'; go_simp; with_reducible rfl); rotate_left; (simp only [Act.put, List.setIfInBounds_toArray, List.set_cons_zero, List.set_cons_succ, i64_w, i32_w]; rfl)
  refine take_ (i := 4) (N := some 6) (v := ?_) (a' := ?_) #[tt,tt,tt,tt,tt,ff,ff,ff,ff,ff,ff,ff,ff,ff,ff,ff,ff] rfl rfl (by kernel_rfl) (fun _ _ _ h => h) (Or.inl ⟨by rfl, ?_⟩) hHeld ?_ ?_; rotate_left; (rintro w' ⟨d0, d1, d2⟩; go_simp; with_reducible rfl); rotate_left; (simp only [Act.put, List.setIfInBounds_toArray, List.set_cons_zero, List.set_cons_succ, i64_w, i32_w]; rfl)
  refine pure_ (i := 5) (N := some 7) (v := ?_) (a' := ?_) #[tt,tt,tt,tt,tt,tt,ff,ff,ff,ff,ff,ff,ff,ff,ff,ff,ff] rfl rfl (by kernel_rfl) (fun _ _ _ h => h) (Or.inl ⟨by rfl, ?_⟩) ?_ ?_; rotate_left; (intro w'; go_simp; with_reducible rfl); rotate_left; (simp only [Act.put, List.setIfInBounds_toArray, List.set_cons_zero, List.set_cons_succ, i64_w, i32_w]; rfl)
  refine pure_ (i := 6) (N := some 8) (v := ?_) (a' := ?_) #[tt,tt,tt,tt,tt,tt,tt,ff,ff,ff,ff,ff,ff,ff,ff,ff,ff] rfl rfl (by kernel_rfl) (fun _ _ _ h => h) (Or.inl ⟨by rfl, ?_⟩) ?_ ?_; rotate_left; (intro w'; go_simp; with_reducible rfl); rotate_left; (simp only [Act.put, List.setIfInBounds_toArray, List.set_cons_zero, List.set_cons_succ, i64_w, i32_w]; rfl)
  refine pure_ (i := 7) (N := some 9) (v := ?_) (a' := ?_) #[tt,tt,tt,tt,tt,tt,tt,tt,ff,ff,ff,ff,ff,ff,ff,ff,ff] rfl rfl (by kernel_rfl) (fun _ _ _ h => h) (Or.inl ⟨by rfl, ?_⟩) ?_ ?_; rotate_left; (intro w'; go_simp; with_reducible rfl); rotate_left; (simp only [Act.put, List.setIfInBounds_toArray, List.set_cons_zero, List.set_cons_succ, i64_w, i32_w]; rfl)
  refine pure_ (i := 8) (N := some 10) (v := ?_) (a' := ?_) #[tt,tt,tt,tt,tt,tt,tt,tt,tt,ff,ff,ff,ff,ff,ff,ff,ff] rfl rfl (by kernel_rfl) (fun _ _ _ h => h) (Or.inl ⟨by rfl, ?_⟩) ?_ ?_; rotate_left; (intro w'; go_simp; with_reducible rfl); rotate_left; (simp only [Act.put, List.setIfInBounds_toArray, List.set_cons_zero, List.set_cons_succ, i64_w, i32_w]; rfl)
  refine take_ (i := 9) (N := some 11) (v := ?_) (a' := ?_) #[tt,tt,tt,tt,tt,tt,tt,tt,tt,tt,ff,ff,ff,ff,ff,ff,ff] rfl rfl (by kernel_rfl) (fun _ _ _ h => h) (Or.inl ⟨by rfl, ?_⟩) hHeld ?_ ?_; rotate_left; (rintro w' ⟨d0, d1, d2⟩; go_simp; with_reducible rfl); rotate_left; (simp only [Act.put, List.setIfInBounds_toArray, List.set_cons_zero, List.set_cons_succ, i64_w, i32_w]; rfl)
  refine pure_ (i := 10) (N := some 12) (v := ?_) (a' := ?_) #[tt,tt,tt,tt,tt,tt,tt,tt,tt,tt,tt,ff,ff,ff,ff,ff,ff] rfl rfl (by kernel_rfl) (fun _ _ _ h => h) (Or.inl ⟨by rfl, ?_⟩) ?_ ?_; rotate_left; (intro w'; go_simp; with_reducible rfl); rotate_left; (simp only [Act.put, List.setIfInBounds_toArray, List.set_cons_zero, List.set_cons_succ, i64_w, i32_w]; rfl)
  refine pure_ (i := 11) (N := some 13) (v := ?_) (a' := ?_) #[tt,tt,tt,tt,tt,tt,tt,tt,tt,tt,tt,tt,ff,ff,ff,ff,ff] rfl rfl (by kernel_rfl) (fun _ _ _ h => h) (Or.inl ⟨by rfl, ?_⟩) ?_ ?_; rotate_left; (intro w'; go_simp; with_reducible rfl); rotate_left; (simp only [Act.put, List.setIfInBounds_toArray, List.set_cons_zero, List.set_cons_succ, i64_w, i32_w]; rfl)
  refine take_ (i := 12) (N := some 14) (v := ?_) (a' := ?_) #[tt,tt,tt,tt,tt,tt,tt,tt,tt,tt,tt,tt,tt,ff,ff,ff,ff] rfl rfl (by kernel_rfl) (fun _ _ _ h => h) (Or.inl ⟨by rfl, ?_⟩) hHeld ?_ ?_; rotate_left; (rintro w' ⟨d0, d1, d2⟩; go_simp; with_reducible rfl); rotate_left; (simp only [Act.put, List.setIfInBounds_toArray, List.set_cons_zero, List.set_cons_succ, i64_w, i32_w]; rfl)
  refine last_ (i := 13) (N := some 15) #[tt,tt,tt,tt,tt,tt,tt,tt,tt,tt,tt,tt,tt,tt,ff,ff,ff] rfl rfl (by kernel_rfl) (by decide) (fun K hK => ?_)
  refine step_append_sl rfl (.tmp 7) (.tmp 14) 36 rfl 0 5 (.int .u8 0) 1 Tryz.underlying36 infoU8 rfl (.slice B 0 cc) 0 [] rfl hO3 A n c (nums .u8 xs) rfl hS3 (nums_one _ _) (by omega) (by omega) (Nat.zero_le _) ?_
  intro v5 w5 ho5 hg5 hat5
  have hne5 : some g ≠ (Value.slice B 0 cc).ownBlock := fun e => HG.out (by rw [← HOB.out]; exact e.symm)
  have hH5 : Blk w5 g 83 cs := hH3.grown hg5 hne5
  have hf5 : FrS (fun i => i = g ∨ (Value.slice B cn cc).ownBlock = some i) w w5 := hf3.trans (S2 := fun i => (Value.slice B cn cc).ownBlock = some i) ⟨hg5.os, hg5.tape, hg5.output, hg5.size, fun i hi hx => hg5.block i hi (fun e => hx (by rw [← HOB.out]; exact e.symm))⟩ (fun i hi => .inl (.inr hi))
  have z11 := hH5.frozen 11
  have u11 : w5.cell? ⟨g, 11, none⟩ = some (.slice B cn cc) := by
    rw [hH5.cell, ← hH3.cell]; exact hHeld.1
  rw [Nat.zero_add] at ho5
  rw [List.nil_append] at ho5
  obtain ⟨A5, c5, rfl, _⟩ := own_cut0 ho5
  have HO5 := Lib.hid ho5
  have HG5 := Lib.hid hat5
  have HH5 := Lib.hid (And.intro hH5 hf5)
  clear ho5 hg5 hat5 hH5 hf5 hH3 hS3 hO3 hf3 hHeld
  refine hK.out _ _ ?_; clear hK K; refine norm_ (a' := ?_) ?_ ?_; rotate_left; (show Act.put _ (some 15) _ = _; simp only [Act.put, List.setIfInBounds_toArray, List.set_cons_zero, List.set_cons_succ, i64_w, i32_w]; rfl)
  refine pure_ (i := 14) (N := some 16) (v := ?_) (a' := ?_) #[tt,tt,tt,tt,tt,tt,tt,tt,tt,tt,tt,tt,tt,tt,tt,ff,ff] rfl rfl (by kernel_rfl) (fun _ _ _ h => h) (Or.inl ⟨by rfl, ?_⟩) ?_ ?_; rotate_left; (intro w'; go_simp; with_reducible rfl); rotate_left; (simp only [Act.put, List.setIfInBounds_toArray, List.set_cons_zero, List.set_cons_succ, i64_w, i32_w]; rfl)
  refine pure_ (i := 15) (N := some 17) (v := ?_) (a' := ?_) #[tt,tt,tt,tt,tt,tt,tt,tt,tt,tt,tt,tt,tt,tt,tt,tt,ff] rfl rfl (by kernel_rfl) (fun _ _ _ h => h) (Or.inl ⟨by rfl, ?_⟩) ?_ ?_; rotate_left; (intro w'; go_simp; with_reducible rfl); rotate_left; (simp only [Act.put, List.setIfInBounds_toArray, List.set_cons_zero, List.set_cons_succ, i64_w, i32_w]; rfl)
  refine last_ (i := 16) (N := none) #[tt,tt,tt,tt,tt,tt,tt,tt,tt,tt,tt,tt,tt,tt,tt,tt,tt] rfl rfl (by kernel_rfl) (by decide) (fun K hK => ?_)
  refine Go.Proofs.YtegaigpolhdicaaGreatW.PrintLast.skip_ (w1 := w5.setCell ⟨g, 11, none⟩ (.slice A5 n c5)) (by rfl) rfl ?_ ?_
  · simp [go_sem, z11, u11]
  refine hK.out _ _ ?_; clear hK K
  refine done_ (by kernel_rfl) ?_
  clear z11 u11
  go_wp2
  go_returns
  have hb5 : ∀ b, (Value.slice A5 n c5).ownBlock = some b → (Value.slice B cn cc).ownBlock = some b ∨ w.heap.size ≤ b := fun b hb => by
    rcases HG5.out with h | h
    · exact .inl (by rw [← HOB.out, ← h]; exact hb)
    · rw [h] at hb
      injection hb with hb
      exact .inr (by omega)
  refine ⟨rfl, _, HH5.out.1.set_ 11 _, ?_, HH5.out.2.andSet _ _ (.inl rfl), hb5⟩
  refine own_frS (S := (· = g)) HO5.out ((FrS.refl _ w5).andSet _ _ rfl) (fun b hb e => ?_)
  subst e
  rcases hb5 _ hb with h | h
  · exact HG.out h
  · have := HH5.out.1.lt
    have h2 := hne5
    rcases HG5.out with h3 | h3
    · rw [h3] at hb
      exact h2 hb.symm
    · rw [h3] at hb
      injection hb with hb
      have := HGL.out
      omega
end Go.Proofs.YtegaigpolhdicaaGreat
