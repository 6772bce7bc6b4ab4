/- One more, or one less, of a number: what a mark does. -/
import Derived.Test.YtanmgkpgfmkobaaOS
import Derived.Test.YtanmgkpgfmkobaaOH
import Derived.Test.YtanmgkpgfmkobaaGM
import Derived.Test.YtanmgkpgfmkobaaPB
import Derived.StillTailTactics
import Derived.Deep.LoopGhost
import Derived.Deep.DeepCutAuto
import Derived.Lib.Hide
namespace Go.Proofs.Ytanmgkpgfmkobaa
open Go.Proofs.YtanmgkpgfmkobaaW.PrintLast
open Go.RowKit
set_option linter.unusedVariables false
set_option linter.unusedSimpArgs false
theorem frmRowO {w w' : World} {row : Option Nat} (h : w.grownBy w' row) : Frm row.toList w w' := by
  cases row with
  | none => exact Frm.of_none h
  | some g => exact Frm.of_grown h
/-- Behind the row: the number stands in it. -/
def RowIn (w0 : World) (B g bp n b : Nat) (v0 : Value) (l : List (Nat × Int)) (i til : Nat) (d : Int) (wx : World) : Prop :=
  ∃ v, Blk wx g 180 [v, .map (some bp), .int .u64 (til : Int)] ∧ OwnO wx B 28 v (nums .u64 (idx (insM i d l))) ∧ MapAt Try.prog wx 28 .u64 bp n (pendF l) ∧
    Frm (footM g bp v0) w0 wx ∧ (∀ k ∈ v.ownBlock.toList, k ∈ v0.ownBlock.toList ∨ w0.heap.size ≤ k) ∧ wx.cell? ⟨b, 0, none⟩ = some (.pointer (some ⟨g, 0, none⟩))
def ProcP (B g bp n : Nat) (v0 : Value) (m : OMk) (w : World) (E : Ending) (w' : World) : Prop :=
  E = .returned (.tuple #[]) ∧ ∃ v, MkS w' B g bp (n + 1) v m.pend m.til ∧ Frm (footM g bp v0) w w' ∧ ∀ k ∈ v.ownBlock.toList, k ∈ v0.ownBlock.toList ∨ w.heap.size ≤ k
theorem proc_end {B g bp n til u : Nat} {v0 v : Value} {lc : List (Nat × Int)} {m : OMk} {w wr : World} (hk : Blk wr g 180 [v, .map (some bp), .int .u64 (til : Int)]) (ho : OwnO wr B 28 v (nums .u64 (idx lc))) (hm : MapAt Try.prog wr 28 .u64 bp (n + 1) (pendF lc))
    (hf : Frm (footM g bp v0) w wr) (hat : ∀ k ∈ v.ownBlock.toList, k ∈ v0.ownBlock.toList ∨ w.heap.size ≤ k) (e : m = ⟨lc, u⟩) : ProcP B g bp n v0 m w (.returned (.tuple #[])) (wr.setCell ⟨g, 2, none⟩ (.int .u64 (u : Int))) := by
  subst e
  have hfs : Frm [g] wr (wr.setCell ⟨g, 2, none⟩ (.int .u64 (u : Int))) := Frm.set wr ⟨g, 2, none⟩ _
  refine ⟨rfl, v, ⟨hk.set_ 2 _, ho.frm hfs fun k hb => ?_, hm.frm hfs ?_⟩, hf.andSet _ _ (.inl (by simp [footM])), hat⟩
  · obtain ⟨cs, hb, _⟩ := ho.blk hb
    rw [List.mem_singleton]
    exact blk_neO hb hk (by decide)
  · rw [List.mem_singleton]
    exact mapAt_ne_blk hm hk
set_option maxRecDepth 100000 in
set_option maxHeartbeats 4000000 in
theorem process_any (B g bp n til i : Nat) (d : Int) (v : Value) (l : List (Nat × Int)) (w : World) (h : MkS w B g bp n v l til) (hs : SortM l) (hd : -1 ≤ d ∧ d ≤ 1) (hi : i ≤ 1000000) (hl : l.length ≤ 100000) (hn : n ≤ 1000000) (hB : B ≤ w.heap.size)
    (hc : ∀ p ∈ l, -1000000 ≤ p.2 ∧ p.2 ≤ 1000000) (hle : ∀ p ∈ l, p.1 ≤ 1000000) :
    Calls Try.prog 111 #[.pointer (some ⟨g, 0, none⟩), .int .u64 (i : Int), .int .i64 d] w (ProcP B g bp n v (popM (insM i d l) til) w) := by
  have H := Lib.hid h
  have HS := Lib.hid hs
  have HC := Lib.hid hc
  have HLE := Lib.hid hle
  clear h hs hc hle
  have c1 : (w.alloc (.cells #[.pointer (some ⟨g, 0, none⟩)] 141)).cell? ⟨g, 1, none⟩ = some (.map (some bp)) := (H.out.blk.alloc _).at_ rfl
  have HFA : Hid (MkS (w.alloc (.cells #[.pointer (some ⟨g, 0, none⟩)] 141)) B g bp n v l til) := H.out.frm (Frm.alloc w _) (by simp)
  have hwi := wfu64 i (by omega)
  have hlk : (Instr.lookup 178 (.map (some bp)) (.int .u64 (i : Int)) true).run Try.prog (w.alloc (.cells #[.pointer (some ⟨g, 0, none⟩)] 141)) = .ok (.tuple #[(pendF l (i : Int)).getD (.int .i64 0), .bool (pendF l (i : Int)).isSome]) (w.alloc (.cells #[.pointer (some ⟨g, 0, none⟩)] 141)) := HFA.out.map.look_ok u64intO Try.underlying178 (zeroO _) (i : Int) hwi
  rw [pendF_at] at hlk
  obtain ⟨z0, hz0⟩ : ∃ z, (lookM i l).getD 0 = z := ⟨_, rfl⟩
  obtain ⟨b0, hb0⟩ : ∃ z, (lookM i l).isSome = z := ⟨_, rfl⟩
  rw [Option.isSome_map, hb0, show ((lookM i l).map (Value.int .i64)).getD (.int .i64 0) = .int .i64 ((lookM i l).getD 0) by cases lookM i l <;> rfl, hz0] at hlk
  have HB0 := Lib.hid hb0
  have HZ0 := Lib.hid hz0
  clear hb0 hz0
  go_enter Try.func111, Try.ntmps111
  go_upto_if 20 with fail
  go_cut [] (fun wx => Hid (RowIn w B g bp n w.heap.size v l i til d wx))
  case first =>
    have b0c : (w.alloc (.cells #[.pointer (some ⟨g, 0, none⟩)] 141)).cell? ⟨w.heap.size, 0, none⟩ = some (.pointer (some ⟨g, 0, none⟩)) := Blk.at_ (Blk.new w 141 [.pointer (some ⟨g, 0, none⟩)]) rfl
    cases b0 with
    | true =>
      go_wp2
      go_meet
      exact ⟨v, HFA.out.blk, by rw [idx_ins_has i d l HS.out HB0.out]; exact HFA.out.own, HFA.out.map, (Frm.alloc w _).mono (fun _ h => by cases h), fun k hk => .inl hk, b0c⟩
    | false =>
      have c0 : (w.alloc (.cells #[.pointer (some ⟨g, 0, none⟩)] 141)).cell? ⟨g, 0, none⟩ = some v := HFA.out.blk.at_ rfl
      have hfa : Hid (Frm [] w (w.alloc (.cells #[.pointer (some ⟨g, 0, none⟩)] 141))) := Frm.alloc w _
      have hgb : Hid (g < w.heap.size) := H.out.blk.lt
      have hsz : Hid ((w.alloc (.cells #[.pointer (some ⟨g, 0, none⟩)] 141)).heap.size = w.heap.size + 1) := World.size_alloc w _
      go_wp2_with fail
      clear c1 hlk
      generalize (w.alloc (.cells #[.pointer (some ⟨g, 0, none⟩)] 141)) = w1 at *
      refine start_ (n := 11) (S := fun w' => w'.cell? ⟨w.heap.size, 0, none⟩ = some (.pointer (some ⟨g, 0, none⟩)) ∧ w'.cell? ⟨g, 0, none⟩ = some v) (ds := [10]) #[ff,ff,ff,ff,ff,ff,ff,ff,ff,ff,ff] (by kernel_rfl) rfl rfl (⟨b0c, c0⟩) (fun hHeld => ?_)
      have hm6 : Hid (MkS w1.drew B g bp n v l til) := HFA.out.frm (Frm.refl [] w1).drew (by simp)
      have hf6 : Hid (Frm [] w w1.drew) := hfa.out.drew
      have hz6 : Hid (w1.drew.heap.size = w.heap.size + 1) := hsz
      have hb6 : Hid (w1.drew.cell? ⟨w.heap.size, 0, none⟩ = some (.pointer (some ⟨g, 0, none⟩))) := b0c
      clear HFA hfa hsz b0c c0
      generalize w1.drew = w6 at *
      refine take_ (i := 0) (N := some 21) (v := ?_) (a' := ?_) #[tt,ff,ff,ff,ff,ff,ff,ff,ff,ff,ff] rfl rfl (by kernel_rfl) (fun _ _ _ h => h) (Or.inl ⟨by rfl, ?_⟩) hHeld ?_ ?_; rotate_left; (rintro w' ⟨d0, d1⟩; go_simp; with_reducible rfl); rotate_left; (simp only [Act.put, List.setIfInBounds_toArray, List.set_cons_zero, List.set_cons_succ, i64_w, i32_w]; rfl)
      refine take_ (i := 1) (N := some 22) (v := ?_) (a' := ?_) #[tt,tt,ff,ff,ff,ff,ff,ff,ff,ff,ff] rfl rfl (by kernel_rfl) (fun _ _ _ h => h) (Or.inl ⟨by rfl, ?_⟩) hHeld ?_ ?_; rotate_left; (rintro w' ⟨d0, d1⟩; go_simp; with_reducible rfl); rotate_left; (simp only [Act.put, List.setIfInBounds_toArray, List.set_cons_zero, List.set_cons_succ, i64_w, i32_w]; rfl)
      refine pure_ (i := 2) (N := some 23) (v := ?_) (a' := ?_) #[tt,tt,tt,ff,ff,ff,ff,ff,ff,ff,ff] rfl rfl (by kernel_rfl) (fun _ _ _ h => h) (Or.inl ⟨by rfl, ?_⟩) ?_ ?_; rotate_left; (intro w'; go_simp; with_reducible rfl); rotate_left; (simp only [Act.put, List.setIfInBounds_toArray, List.set_cons_zero, List.set_cons_succ, i64_w, i32_w]; rfl)
      refine pure_ (i := 3) (N := some 24) (v := ?_) (a' := ?_) #[tt,tt,tt,tt,ff,ff,ff,ff,ff,ff,ff] rfl rfl (by kernel_rfl) (fun _ _ _ h => h) (Or.inl ⟨by rfl, ?_⟩) ?_ ?_; rotate_left; (intro w'; go_simp; with_reducible rfl); rotate_left; (simp only [Act.put, List.setIfInBounds_toArray, List.set_cons_zero, List.set_cons_succ, i64_w, i32_w]; rfl)
      refine take_ (i := 4) (N := some 25) (v := ?_) (a' := ?_) #[tt,tt,tt,tt,tt,ff,ff,ff,ff,ff,ff] rfl rfl (by kernel_rfl) (fun _ _ _ h => h) (Or.inl ⟨by rfl, ?_⟩) hHeld ?_ ?_; rotate_left; (rintro w' ⟨d0, d1⟩; go_simp; with_reducible rfl); rotate_left; (simp only [Act.put, List.setIfInBounds_toArray, List.set_cons_zero, List.set_cons_succ, i64_w, i32_w]; rfl)
      refine pure_ (i := 5) (N := some 26) (v := ?_) (a' := ?_) #[tt,tt,tt,tt,tt,tt,ff,ff,ff,ff,ff] rfl rfl (by kernel_rfl) (fun _ _ _ h => h) (Or.inl ⟨by rfl, ?_⟩) ?_ ?_; rotate_left; (intro w'; go_simp; with_reducible rfl); rotate_left; (simp only [Act.put, List.setIfInBounds_toArray, List.set_cons_zero, List.set_cons_succ, i64_w, i32_w]; rfl)
      refine one_ (i := 6) (N := some 27) #[tt,tt,tt,tt,tt,tt,tt,ff,ff,ff,ff] rfl rfl (by kernel_rfl) (by decide) (fun K hK => ?_)
      refine Go.Proofs.YtanmgkpgfmkobaaW.PrintLast.value_ (v := .slice (some ⟨w6.heap.size, 0, none⟩) 1 1) (w1 := w6.alloc (.cells #[.int .u64 (i : Int)] 28)) (by rfl) rfl ?_ ?_
      · go_simp
        try rfl
      refine hK.out _ _ (⟨cell_frm hHeld.1 (Frm.alloc w6 _) (by simp), cell_frm hHeld.2 (Frm.alloc w6 _) (by simp)⟩) (fun hHeld => ?_); clear hK K; refine norm_ (a' := ?_) ?_ ?_; rotate_left; (show Act.put _ (some 27) _ = _; simp only [Act.put, List.setIfInBounds_toArray, List.set_cons_zero, List.set_cons_succ, i64_w, i32_w]; rfl)
      have hm7 : Hid (MkS (w6.alloc (.cells #[.int .u64 (i : Int)] 28)) B g bp n v l til) := hm6.out.frm (Frm.alloc w6 _) (by simp)
      have hf7 : Hid (Frm [] w (w6.alloc (.cells #[.int .u64 (i : Int)] 28))) := hf6.out.andAlloc _
      have hz7 : Hid ((w6.alloc (.cells #[.int .u64 (i : Int)] 28)).heap.size = w.heap.size + 2) := by rw [Hid, World.size_alloc, hz6.out]
      have hc7 : Hid ((w6.alloc (.cells #[.int .u64 (i : Int)] 28)).cell? ⟨w6.heap.size, 0, none⟩ = some (.int .u64 (i : Int))) := Blk.at_ (Blk.new w6 28 [.int .u64 (i : Int)]) rfl
      have hb7 : Hid ((w6.alloc (.cells #[.int .u64 (i : Int)] 28)).cell? ⟨w.heap.size, 0, none⟩ = some (.pointer (some ⟨g, 0, none⟩))) := cell_frm hb6.out (Frm.alloc w6 _) (by simp)
      clear hm6 hf6 hz6 hb6
      generalize w6.heap.size = g6 at *
      generalize w6.alloc (.cells #[.int .u64 (i : Int)] 28) = w7 at *
      refine one_ (i := 7) (N := some 28) #[tt,tt,tt,tt,tt,tt,tt,tt,ff,ff,ff] rfl rfl (by kernel_rfl) (by decide) (fun K hK => ?_)
      refine step_appendO rfl (.tmp 25) (.tmp 27) rfl B v (idx l) rfl hm7.out.own g6 1 (i : Int) rfl hc7.out (by rw [idx_len]; omega) (by rw [hz7.out]; omega) ?_
      intro v8 w8 ho8 hg8 hat8
      obtain ⟨k8, o8, c8, rfl⟩ : ∃ k8 o8 c8, v8 = .slice (some ⟨k8, o8, none⟩) (idx l ++ [(i : Int)]).length c8 := by
        rcases ho8 with ⟨_, h0⟩ | ⟨g', o', c', cur, rfl, _⟩
        · exact absurd (congrArg List.length h0) (by simp [nums])
        · exact ⟨g', o', c', by rw [nums_length]⟩
      generalize hln : (idx l ++ [(i : Int)]).length = n8 at *
      have HLN := Lib.hid hln
      clear hln
      have HO8 := Lib.hid ho8
      have HA8 := Lib.hid hat8
      have hf8 : Hid (Frm v.ownBlock.toList w7 w8) := frmRowO hg8
      have hbn : Hid (w.heap.size ∉ v.ownBlock.toList) := fun hk => by
        obtain ⟨cs, hb, _⟩ := H.out.own.blk hk
        exact absurd hb.lt (by omega)
      have hb8 : w8.cell? ⟨w.heap.size, 0, none⟩ = some (.pointer (some ⟨g, 0, none⟩)) := cell_frm hb7.out hf8.out hbn.out
      have hk8 : Hid (Blk w8 g 180 [v, .map (some bp), .int .u64 (til : Int)]) := hm7.out.blk.frm hf8.out hm7.out.ne2
      have hp8 : Hid (MapAt Try.prog w8 28 .u64 bp n (pendF l)) := hm7.out.map.frm hf8.out hm7.out.ne3
      have hc8 : w8.cell? ⟨g, 0, none⟩ = some v := hk8.out.at_ rfl
      clear ho8 hg8 hat8
      refine hK.out _ _ (⟨hb8, hc8⟩) (fun hHeld => ?_); clear hK K; refine norm_ (a' := ?_) ?_ ?_; rotate_left; (show Act.put _ (some 28) _ = _; simp only [Act.put, List.setIfInBounds_toArray, List.set_cons_zero, List.set_cons_succ, i64_w, i32_w]; rfl)
      refine pure_ (i := 8) (N := some 29) (v := ?_) (a' := ?_) #[tt,tt,tt,tt,tt,tt,tt,tt,tt,ff,ff] rfl rfl (by kernel_rfl) (fun _ _ _ h => h) (Or.inl ⟨by rfl, ?_⟩) ?_ ?_; rotate_left; (intro w'; go_simp; with_reducible rfl); rotate_left; (simp only [Act.put, List.setIfInBounds_toArray, List.set_cons_zero, List.set_cons_succ, i64_w, i32_w]; rfl)
      refine pure_ (i := 9) (N := some 30) (v := ?_) (a' := ?_) #[tt,tt,tt,tt,tt,tt,tt,tt,tt,tt,ff] rfl rfl (by kernel_rfl) (fun _ _ _ h => h) (Or.inl ⟨by rfl, ?_⟩) ?_ ?_; rotate_left; (intro w'; go_simp; with_reducible rfl); rotate_left; (simp only [Act.put, List.setIfInBounds_toArray, List.set_cons_zero, List.set_cons_succ, i64_w, i32_w]; rfl)
      have f1 := hk8.out.frozen 0
      refine last_ (i := 10) (N := none) #[tt,tt,tt,tt,tt,tt,tt,tt,tt,tt,tt] rfl rfl (by kernel_rfl) (by decide) (fun K hK => ?_)
      refine Go.Proofs.YtanmgkpgfmkobaaW.PrintLast.skip_ (w1 := w8.setCell ⟨g, 0, none⟩ (.slice (some ⟨k8, o8, none⟩) n8 c8)) (by rfl) rfl ?_ ?_
      · simp [go_sem, f1, hc8]
      have hf9 : Hid (Frm [g] w8 (w8.setCell ⟨g, 0, none⟩ (.slice (some ⟨k8, o8, none⟩) n8 c8))) := Frm.set w8 ⟨g, 0, none⟩ (.slice (some ⟨k8, o8, none⟩) n8 c8)
      have hk9 : Hid (Blk (w8.setCell ⟨g, 0, none⟩ (.slice (some ⟨k8, o8, none⟩) n8 c8)) g 180 [(.slice (some ⟨k8, o8, none⟩) n8 c8), .map (some bp), .int .u64 (til : Int)]) := hk8.out.set_ 0 (.slice (some ⟨k8, o8, none⟩) n8 c8)
      have ho9 : Hid (OwnO (w8.setCell ⟨g, 0, none⟩ (.slice (some ⟨k8, o8, none⟩) n8 c8)) B 28 (.slice (some ⟨k8, o8, none⟩) n8 c8) (nums .u64 (idx l ++ [(i : Int)]))) := HO8.out.frm hf9.out (fun k hk => by
        obtain ⟨cs, hb, _⟩ := HO8.out.blk hk
        rw [List.mem_singleton]
        exact blk_neO hb hk8.out (by decide))
      have hp9 : Hid (MapAt Try.prog (w8.setCell ⟨g, 0, none⟩ (.slice (some ⟨k8, o8, none⟩) n8 c8)) 28 .u64 bp n (pendF l)) := hp8.out.frm hf9.out (by rw [List.mem_singleton]; exact mapAt_ne_blk hp8.out hk8.out)
      have hb9 : (w8.setCell ⟨g, 0, none⟩ (.slice (some ⟨k8, o8, none⟩) n8 c8)).cell? ⟨w.heap.size, 0, none⟩ = some (.pointer (some ⟨g, 0, none⟩)) := cell_frm hb8 hf9.out (by rw [List.mem_singleton]; have := hgb.out; show ¬ (w.heap.size = g); omega)
      have hc9 : (w8.setCell ⟨g, 0, none⟩ (.slice (some ⟨k8, o8, none⟩) n8 c8)).cell? ⟨g, 0, none⟩ = some (.slice (some ⟨k8, o8, none⟩) n8 c8) := hk9.out.at_ rfl
      refine hK.out _ _ ?_; clear hK K
      refine done_ (by kernel_rfl) ?_
      have hf10 : Hid (Frm (footM g bp v) w (w8.setCell ⟨g, 0, none⟩ (.slice (some ⟨k8, o8, none⟩) n8 c8))) := ((hf7.out.mono (l2 := footM g bp v) (fun _ h => by cases h)).trans hf8.out (fun k hk => .inl (by simp only [footM, List.mem_cons]; exact .inr (.inr hk)))).andSet _ _ (.inl (by simp [footM]))
      have hat10 : Hid (k8 ∈ v.ownBlock.toList ∨ w.heap.size ≤ k8) := by
        rcases HA8.out with h | h
        · exact .inl (by rw [← h]; simp [Value.ownBlock])
        · simp only [Value.ownBlock, Option.some.injEq] at h
          exact .inr (by have := hz7.out; omega)
      have hgk : Hid (g ≠ k8) := fun e => by
        obtain ⟨cs, hb, _⟩ := HO8.out.blk (k := k8) (by simp [Value.ownBlock])
        exact blk_neO hk8.out hb (by decide) e
      have hbk : Hid (w.heap.size ≠ k8) := fun e => by
        rcases HA8.out with h | h
        · exact hbn.out (by rw [← h, e]; simp [Value.ownBlock])
        · simp only [Value.ownBlock, Option.some.injEq] at h
          have := hz7.out
          omega
      clear f1 hf9 hp8 hHeld hk8 hc8 hb8 hf8 HA8 HO8 hc7 hb7 hz7 hf7 hm7 hbn
      generalize w8.setCell ⟨g, 0, none⟩ (.slice (some ⟨k8, o8, none⟩) n8 c8) = w9 at *
      go_wp2_with fail
      have hln := HLN.out
      subst hln
      obtain ⟨cur, q1, q2, q3, q4, q5, q6⟩ : ∃ cur : Array Value, B ≤ k8 ∧ w9.heap[k8]? = some (.cells cur 28 (0, 0)) ∧ (idx l ++ [(i : Int)]).length ≤ c8 ∧ c8 ≤ maxLen ∧ o8 + c8 ≤ cur.size ∧ (cur.toList.drop o8).take (idx l ++ [(i : Int)]).length = nums .u64 (idx l ++ [(i : Int)]) := by
        rcases ho9.out with ⟨h, _⟩ | ⟨g', o', c', cur, h, r⟩
        · cases h
        · injection h with h1 h2 h3
          injection h1 with h1
          injection h1 with h4 h5
          subst h4 h5 h3
          rw [nums_length] at r
          exact ⟨cur, r⟩
      refine (sort_own B k8 o8 c8 w.heap.size g cur (idx l ++ [(i : Int)]) w9 (by simp [idx_len]; omega) hb9 hc9 q2 q1 q3 q4 q5 q6 hbk.out hgk.out).mono ?_
      rintro E w10 ⟨rfl, ho, hf⟩
      have hfin : RowIn w B g bp n w.heap.size v l i til d w10 :=
        ⟨_, hk9.out.frm hf (by rw [List.mem_singleton]; exact hgk.out), by rw [idx_ins i d l HS.out (by simpa using HB0.out)]; exact ho, hp9.out.frm hf (by
          rw [List.mem_singleton]
          intro e
          have h2 : Blk w9 k8 28 cur.toList := by unfold Blk; rw [Array.toArray_toList]; exact q2
          exact mapAt_ne_blk hp9.out h2 e), hf10.out.trans hf (fun k hk => by
          rw [List.mem_singleton] at hk
          subst hk
          rcases hat10.out with h | h
          · exact .inl (by simp only [footM, List.mem_cons]; exact .inr (.inr h))
          · exact .inr h), fun k hk => by
          simp only [Value.ownBlock, Option.toList_some, List.mem_singleton] at hk
          subst hk
          exact hat10.out, cell_frm hb9 hf (by rw [List.mem_singleton]; exact hbk.out)⟩
      have HFin := Lib.hid hfin
      clear hfin ho hf q1 q2 q3 q4 q5 q6 hb9 hc9 hk9 ho9 hp9 hf10
      go_wp2
      go_meet
      exact HFin
  case rest =>
    have hcut2 := hcut
    clear hcut
    obtain ⟨v1, hk1', ho1', hp1', hf1', hat1', hb1⟩ := hcut2.out
    have hk1 := Lib.hid hk1'
    have ho1 := Lib.hid ho1'
    have hp1 := Lib.hid hp1'
    have hf1 := Lib.hid hf1'
    have hat1 := Lib.hid hat1'
    clear hk1' ho1' hp1' hf1' hat1'
    clear hcut2 hlk c1 HFA
    have c1 : wc.cell? ⟨g, 1, none⟩ = some (.map (some bp)) := hk1.out.at_ rfl
    have hlk : (Instr.lookup 178 (.map (some bp)) (.int .u64 (i : Int)) false).run Try.prog wc = .ok (.int .i64 z0) wc := by
      have h := hp1.out.look u64intO Try.underlying178 (zeroO _) (i : Int) hwi
      rw [pendF_at, show ((lookM i l).map (Value.int .i64)).getD (.int .i64 0) = .int .i64 ((lookM i l).getD 0) by cases lookM i l <;> rfl, HZ0.out] at h
      exact h
    have hz : -1000000 ≤ z0 ∧ z0 ≤ 1000000 := by
      have h := HZ0.out
      cases hl0 : lookM i l with
      | none => rw [hl0] at h; have h : (0 : Int) = z0 := h; omega
      | some c => rw [hl0] at h; have h : c = z0 := h; have := HC.out _ (lookM_mem l i c hl0); simp only at this; omega
    go_upto_region 6 with (at_mapUpdate; (refine wpList_mapUpdate_at rfl _ _ _ _ rfl hp1.out u64intO Try.underlying178 ?c1 (i : Int) (.int .i64 (z0 + d)) rfl rfl ?c3 hwi ?_; (case c1 => unfold maxLen; omega); (case c3 => first | rfl | (show Value.int .i64 (wrap64 (z0 + d)) = _; rw [IntWalk.wrap64_in _ (by omega)])); intro w2 hm2 hg2))
    have HM2 : Hid (MapAt Try.prog w2 28 .u64 bp (n + 1) (pendF (insM i d l))) := by
      have h := hm2
      rw [← HZ0.out, pendF_ins i d l HS.out] at h
      exact h
    have HF2 : Hid (Frm [bp] wc w2) := Frm.of_grown hg2
    have hgb : Hid (bp ≠ g) := mapAt_ne_blk hp1.out hk1.out
    have hk2 : Hid (Blk w2 g 180 [v1, .map (some bp), .int .u64 (til : Int)]) := hk1.out.frm HF2.out (by rw [List.mem_singleton]; exact fun e => hgb.out e.symm)
    have ho2 : Hid (OwnO w2 B 28 v1 (nums .u64 (idx (insM i d l)))) := ho1.out.frm HF2.out (fun k hk => by
      obtain ⟨cs, hb, _⟩ := ho1.out.blk hk
      rw [List.mem_singleton]
      exact fun e => mapAt_ne_blk hp1.out hb e.symm)
    have hb2 : Hid (w2.cell? ⟨w.heap.size, 0, none⟩ = some (.pointer (some ⟨g, 0, none⟩))) := cell_frm hb1 HF2.out (by rw [List.mem_singleton]; show ¬ (w.heap.size = bp); have := H.out.map.lt; omega)
    have hf2 : Hid (Frm (footM g bp v) w w2) := hf1.out.trans HF2.out (fun k hk => .inl (by rw [List.mem_singleton] at hk; simp [footM, hk]))
    have hcn : Hid (∀ p ∈ insM i d l, -1000001 ≤ p.2 ∧ p.2 ≤ 1000001) := insM_cnt i d hd 1000000 (by omega) l HC.out
    have hln : Hid (∀ p ∈ insM i d l, p.1 ≤ 1000000) := insM_le i d 1000000 l hi HLE.out
    have hsn : Hid (SortM (insM i d l)) := insM_sort i d l HS.out
    have hlen : (insM i d l).length ≤ 100001 := by have := insM_len i d l; omega
    clear hm2 hg2 hk1 ho1 hp1 hf1 hb1 c1 hlk HF2 HC HLE HS H HZ0 HB0
    have b2 := hb2.out
    have c2 : w2.cell? ⟨g, 2, none⟩ = some (.int .u64 (til : Int)) := hk2.out.at_ rfl
    generalize insM i d l = L at *
    obtain ⟨A1, cc1, hv1, _, _⟩ := ho2.out.sl
    rw [nums_length, idx_len] at hv1
    subst hv1
    go_wp2
    go_loopg [8] L.length (fun f v8 wr => ∃ (lc : List (Nat × Int)) (u : Nat) (A2 : Option Addr) (c2 : Nat), v8 = .int .u64 (u : Int) ∧ Hid (lc.length = f) ∧ Hid (popM lc u = popM L til) ∧ Hid (SortM lc) ∧ Hid (∀ p ∈ lc, p ∈ L) ∧
      Hid (Blk wr g 180 [.slice A2 lc.length c2, .map (some bp), .int .u64 (til : Int)]) ∧ Hid (OwnO wr B 28 (.slice A2 lc.length c2) (nums .u64 (idx lc))) ∧ Hid (MapAt Try.prog wr 28 .u64 bp (n + 1) (pendF lc)) ∧ Hid (Frm (footM g bp v) w wr) ∧
      Hid (∀ k ∈ (Value.slice A2 lc.length c2).ownBlock.toList, k ∈ v.ownBlock.toList ∨ w.heap.size ≤ k) ∧ Hid (wr.cell? ⟨w.heap.size, 0, none⟩ = some (.pointer (some ⟨g, 0, none⟩))))
    case atStart => exact ⟨L, til, A1, cc1, rfl, rfl, rfl, hsn, fun p hp => hp, hk2, ho2, HM2, hf2, hat1, hb2⟩
    case round =>
      obtain ⟨lc, u, A2, c2, rfl, hlf, hpo, hsr, hsub, hkr, hor, hmr, hfr, hatr, hbr⟩ := hrel
      have b3 := hbr.out
      have b4 : wr.cell? ⟨g, 2, none⟩ = some (.int .u64 (til : Int)) := hkr.out.at_ rfl
      have b5 := hkr.out.frozen 2
      cases lc with
      | nil =>
        have b6 : wr.cell? ⟨g, 0, none⟩ = some (.slice A2 0 c2) := hkr.out.at_ rfl
        have HP := Lib.hid (proc_end (m := popM L til) hkr.out hor.out hmr.out hfr.out hatr.out hpo.out.symm)
        go_wp2
        go_end0
        exact HP.out
      | cons q lc =>
        obtain ⟨j, c⟩ := q
        have hcv := hcn.out _ (hsub.out _ (List.mem_cons_self ..))
        have hjv := hln.out _ (hsub.out _ (List.mem_cons_self ..))
        simp only at hcv hjv
        obtain ⟨k2, o2, u2, hA2, hu2, hcell⟩ := (show Sl wr A2 (lc.length + 1) (nums .u64 (idx ((j, c) :: lc))) by
          obtain ⟨A', c', h1, _, h2⟩ := hor.out.sl
          rw [nums_length, idx_len] at h1 h2
          injection h1 with h3 h4 h5
          subst h3
          exact h2).at_ (k := 0) (by omega)
        obtain rfl : Value.int .u64 (j : Int) = u2 := by
          have h : some (Value.int .u64 (j : Int)) = some u2 := hu2
          injection h
        subst hA2
        clear hu2
        have hwj := wfu64 j (by omega)
        have hlk : (Instr.lookup 178 (.map (some bp)) (.int .u64 (j : Int)) false).run Try.prog wr = .ok (.int .i64 c) wr := by
          have h := hmr.out.look u64intO Try.underlying178 (zeroO _) (j : Int) hwj
          rw [pendF_at, show lookM j ((j, c) :: lc) = some c by unfold lookM; rw [if_pos rfl]] at h
          exact h
        have b1 : wr.cell? ⟨g, 1, none⟩ = some (.map (some bp)) := hkr.out.at_ rfl
        have b6 : wr.cell? ⟨g, 0, none⟩ = some (.slice (some ⟨k2, o2, none⟩) (lc.length + 1) c2) := hkr.out.at_ rfl
        have b7 : wr.cell? ⟨k2, o2, none⟩ = some (.int .u64 (j : Int)) := hcell
        clear hcell
        by_cases hcp : c > 0
        · have HP := Lib.hid (proc_end (m := popM L til) hkr.out hor.out hmr.out hfr.out hatr.out (by rw [← hpo.out]; show popM ((j, c) :: lc) u = _; rw [popM, if_pos hcp]))
          have hcp2 : 0 < c := hcp
          go_wp2
          go_end0
          exact HP.out
        · have hcp2 : c ≤ 0 := by omega
          obtain ⟨n1, hm⟩ : ∃ n1, lc.length + 1 = n1 := ⟨_, rfl⟩
          have HM := Lib.hid hm
          rw [hm] at b6
          have e0 : 1 ≤ n1 := by omega
          have e1 : (1 : Int) ≤ (n1 : Int) := by omega
          have hcc : n1 ≤ c2 := by
            obtain ⟨A', c', h1, h2, _⟩ := hor.out.sl
            rw [nums_length, idx_len] at h1 h2
            injection h1 with h3 h4 h5
            rw [List.length_cons, hm] at h2
            omega
          have e2 : (0 : Int) < (n1 : Int) := by omega
          clear hm
          go_wp2
          go_still_tail 8, (by kernel_rfl)
          change wpList _ _ _ _ _ wr.drew
          have hkd : Hid (Blk wr.drew g 180 [.slice (some ⟨k2, o2, none⟩) (lc.length + 1) c2, .map (some bp), .int .u64 (til : Int)]) := hkr.out
          have hod : Hid (OwnO wr.drew B 28 (.slice (some ⟨k2, o2, none⟩) (lc.length + 1) c2) (nums .u64 ((j : Int) :: idx lc))) := hor.out.frm (L := []) (Frm.refl [] wr).drew (by simp)
          have hmd : Hid (MapAt Try.prog wr.drew 28 .u64 bp (n + 1) (pendF ((j, c) :: lc))) := hmr.out
          have hfd : Hid (Frm (footM g bp v) w wr.drew) := hfr.out.drew
          have hbd : wr.drew.cell? ⟨w.heap.size, 0, none⟩ = some (.pointer (some ⟨g, 0, none⟩)) := b3
          clear b1 b3 b4 b5 b6 b7 hlk hkr hor hmr hfr hbr hcp
          generalize wr.drew = wd at *
          have f0 := hkd.out.frozen 0
          have c0 : wd.cell? ⟨g, 0, none⟩ = some (.slice (some ⟨k2, o2, none⟩) (lc.length + 1) c2) := hkd.out.at_ rfl
          go_upto_region 11 with fail
          obtain ⟨A4, hA4⟩ : ∃ A4, (if c2 = 1 then some (⟨k2, o2, none⟩ : Addr) else some ⟨k2, o2 + 1, none⟩) = A4 := ⟨_, rfl⟩
          rw [hA4, show n1 - 1 = lc.length by have := HM.out; omega]
          have ho3 : OwnO wd B 28 (.slice A4 lc.length (c2 - 1)) (nums .u64 (idx lc)) := by
            have h := hod.out.tail (n := lc.length) (x := .int .u64 (j : Int)) (l := nums .u64 (idx lc)) (by rw [nums_length, idx_len])
            rw [← hA4]
            simpa [add_none] using h
          have hat4 : Hid (∀ k ∈ (Value.slice A4 lc.length (c2 - 1)).ownBlock.toList, k ∈ v.ownBlock.toList ∨ w.heap.size ≤ k) := fun k hk => by
            refine hatr.out k ?_
            rw [← hA4] at hk
            split at hk <;> simpa [Value.ownBlock] using hk
          have hf4 : Hid (Frm [g] wd (wd.setCell ⟨g, 0, none⟩ (.slice A4 lc.length (c2 - 1)))) := Frm.set wd ⟨g, 0, none⟩ _
          have hk4 : Hid (Blk (wd.setCell ⟨g, 0, none⟩ (.slice A4 lc.length (c2 - 1))) g 180 [.slice A4 lc.length (c2 - 1), .map (some bp), .int .u64 (til : Int)]) := hkd.out.set_ 0 _
          have ho4 : Hid (OwnO (wd.setCell ⟨g, 0, none⟩ (.slice A4 lc.length (c2 - 1))) B 28 (.slice A4 lc.length (c2 - 1)) (nums .u64 (idx lc))) := ho3.frm hf4.out (fun k hk => by
            obtain ⟨cs, hb, _⟩ := ho3.blk hk
            rw [List.mem_singleton]
            exact blk_neO hb hkd.out (by decide))
          have hm4 : Hid (MapAt Try.prog (wd.setCell ⟨g, 0, none⟩ (.slice A4 lc.length (c2 - 1))) 28 .u64 bp (n + 1) (pendF ((j, c) :: lc))) := hmd.out.frm hf4.out (by rw [List.mem_singleton]; exact hgb.out)
          have hfw4 : Hid (Frm (footM g bp v) w (wd.setCell ⟨g, 0, none⟩ (.slice A4 lc.length (c2 - 1)))) := hfd.out.andSet _ _ (.inl (by simp [footM]))
          have hb4 : (wd.setCell ⟨g, 0, none⟩ (.slice A4 lc.length (c2 - 1))).cell? ⟨w.heap.size, 0, none⟩ = some (.pointer (some ⟨g, 0, none⟩)) := cell_frm hbd hf4.out (by
            rw [List.mem_singleton]
            intro e
            have e : w.heap.size = g := e
            rw [e, hkd.out.cell] at hbd
            cases hbd)
          have c4 : (wd.setCell ⟨g, 0, none⟩ (.slice A4 lc.length (c2 - 1))).cell? ⟨g, 1, none⟩ = some (.map (some bp)) := hk4.out.at_ rfl
          clear hA4 hod hmd hfd hbd f0 c0 ho3 hf4 hkd
          generalize wd.setCell ⟨g, 0, none⟩ (.slice A4 lc.length (c2 - 1)) = w4 at *
          go_wp2_with (at_delete; (refine wpList_delete_at rfl (.tmp 80) (.tmp 81) 178 rfl hm4.out u64intO Try.underlying178 (j : Int) rfl rfl hwj ?_; intro w5 hm5 hg5))
          have hgk : gk = lc.length + 1 := hlf.out.symm
          subst hgk
          go_roundg lc.length
          case measure => omega
          case rel =>
            have hf5 : Frm [bp] w4 w5 := Frm.of_grown hg5
            refine ⟨lc, j, A4, c2 - 1, rfl, rfl, ?_, hsr.out.2, fun p hp => hsub.out p (List.mem_cons_of_mem _ hp), hk4.out.frm hf5 ?_, ho4.out.frm hf5 (fun k hk => ?_), ?_, hfw4.out.trans hf5 (fun k hk => .inl (by rw [List.mem_singleton] at hk; simp [footM, hk])), hat4.out, cell_frm hb4 hf5 ?_⟩
            · rw [Hid, ← hpo.out]
              show popM lc j = popM ((j, c) :: lc) u
              conv => rhs; unfold popM
              rw [if_neg (by omega)]
            · rw [List.mem_singleton]; exact fun e => hgb.out e.symm
            · obtain ⟨cs, hb, _⟩ := ho4.out.blk hk
              rw [List.mem_singleton]
              exact fun e => mapAt_ne_blk hm4.out hb e.symm
            · rw [Hid, ← pendF_tail j c lc hsr.out]
              exact hm5
            · rw [List.mem_singleton]
              intro e
              have e : w.heap.size = bp := e
              rw [e] at hb4
              obtain ⟨D, ⟨es, clock, h1, _⟩, _⟩ := hm4.out
              simp [World.cell?, h1] at hb4
end Go.Proofs.Ytanmgkpgfmkobaa
