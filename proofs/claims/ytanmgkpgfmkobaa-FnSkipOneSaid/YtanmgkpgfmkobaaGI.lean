/- Texts that this claim shares with others, put together: I1 I2 I3 I4 I5 I6 I7. -/
import Derived.Test.YtanmgkpgfmkobaaGK
import Derived.Test.YtanmgkpgfmkobaaPB
import Derived.Test.YtanmgkpgfmkobaaTO
/- An iterator over a skip list: where it stands. -/
namespace Go.Proofs.Ytanmgkpgfmkobaa
open Go.RowKit
set_option linter.unusedVariables false
set_option linter.unusedSimpArgs false
/-- A list of which the counter of references is turned. -/
def SkA.at_ref (s : SkA) (r : Int) : SkA := { s with ref := r }
theorem SkOk.reref {g B : Nat} {s : SkA} (ok : SkOk g B s) (r : Int) : SkOk g B (s.at_ref r) :=
  ⟨ok.hcl, ok.own, ok.base, ok.ran, ok.rn1, ok.rn2, ok.turn, ok.k, ok.n0, ok.n1, ok.at_, ok.key, ok.val, ok.ent, ok.sorted, ok.eff, ok.h1, ok.h2⟩
theorem SkSt.reref {w : World} {g B : Nat} {s : SkA} (h : SkSt w g s) (ok : SkOk g B s) (r : Int) : SkSt (w.setCell ⟨g, 2, none⟩ (.int .i32 r)) g (s.at_ref r) := by
  have hf : Frm [g] w (w.setCell ⟨g, 2, none⟩ (.int .i32 r)) := Frm.set w ⟨g, 2, none⟩ _
  have hnd := ok.own
  simp only [List.nodup_cons, List.mem_cons, not_or] at hnd
  obtain ⟨⟨n1, n2, n3, n4, n5⟩, _⟩ := hnd
  have nl : ∀ b, g ≠ b → b ∉ [g] := fun b hb => by rw [List.mem_singleton]; exact fun e => hb e.symm
  refine ⟨h.list.set_ 2 (.int .i32 r), h.arn.frm hf (nl _ n1) (nl _ n2) (nl _ n3), h.head.frm hf (nl _ n4), fun j d hj => (h.nodes j d hj).frm hf (nl _ (fun e => n5 (by rw [e]; exact List.mem_map_of_mem (List.mem_of_getElem? hj)))), h.rand.frm hf (fun b o e => ?_)⟩
  have := (ok.ran b o e).2
  rw [List.mem_singleton]
  exact fun e2 => this (by rw [e2]; simp)
/-- An iterator in memory: it stands at a node, or at none. -/
structure ItS (w : World) (g gi : Nat) (s : SkA) (v : Value) : Prop where
  st : SkSt w g s
  it : Blk w gi 137 [.pointer (some ⟨g, 0, none⟩), v]
  ne : gi ∉ blksOf g s ∧ ∀ o, s.ra ≠ some ⟨gi, o, none⟩
theorem ItS.drewN {w : World} {g gi : Nat} {s : SkA} {v : Value} (h : ItS w g gi s v) (k : Nat) : ItS (w.drewN k) g gi s v := ⟨h.st.drewN k, h.it.drewN k, h.ne⟩
theorem ItS.put {w : World} {g gi B : Nat} {s : SkA} {v : Value} (h : ItS w g gi s v) (ok : SkOk g B s) (u : Value) : ItS (w.setCell ⟨gi, 1, none⟩ u) g gi s u :=
  ⟨h.st.frm ok (Frm.set w ⟨gi, 1, none⟩ u) (fun b hb => by rw [List.mem_singleton] at hb; subst hb; exact h.ne), h.it.set_ 1 u, h.ne⟩
theorem ItS.frm {w w' : World} {g gi B : Nat} {s : SkA} {v : Value} {l : List Nat} (h : ItS w g gi s v) (ok : SkOk g B s) (hf : Frm l w w') (hl : ∀ b ∈ l, b ∉ blksOf g s ∧ ∀ o, s.ra ≠ some ⟨b, o, none⟩) (hg : gi ∉ l) : ItS w' g gi s v := ⟨h.st.frm ok hf hl, h.it.frm hf hg, h.ne⟩
theorem incrRef_skl (g r : Nat) (w : World) (hc : w.cell? ⟨g, 2, none⟩ = some (.int .i32 r)) (hf : w.frozen? ⟨g, 2, none⟩ = false) (hr : r ≤ 1000) :
    Calls Try.prog 78 #[.pointer (some ⟨g, 0, none⟩)] w fun E w' => E = .returned (.tuple #[]) ∧ w' = w.setCell ⟨g, 2, none⟩ (.int .i32 (r + 1)) := by
  have h1 : IntKind.i32.wrap ((r : Int) + 1) = (r : Int) + 1 := by rw [IntKind.wrap_i32]; omega
  go_enter Try.func78, Try.ntmps78
  go_wp2
  go_end0
  exact ⟨rfl, rfl⟩
set_option maxRecDepth 100000 in
theorem newIterator_skl (g B : Nat) (s : SkA) (w : World) (h : SkSt w g s) (ok : SkOk g B s) (hr : s.ref = 1) :
    Calls Try.prog 41 #[.pointer (some ⟨g, 0, none⟩)] w fun E w' => E = .returned (.pointer (some ⟨w.heap.size, 0, none⟩)) ∧ ItS w' g w.heap.size (s.at_ref 2) (.pointer none) ∧ Frm [g] w w' := by
  have H := Lib.hid h
  have OK := Lib.hid ok
  have c2 : w.cell? ⟨g, 2, none⟩ = some (.int .i32 ((1 : Nat) : Int)) := by
    have := h.list.at_ (i := 2) (v := .int .i32 s.ref) rfl
    rw [hr] at this
    exact this
  have f2 := h.list.frozen 2
  clear h ok hr
  go_enter Try.func41, Try.ntmps41
  go_wp2_with fail
  refine (incrRef_skl g 1 w c2 f2 (by omega)).mono ?_
  rintro E w1 ⟨rfl, rfl⟩
  have hs : Hid (SkSt (w.setCell ⟨g, 2, none⟩ (.int .i32 2)) g (s.at_ref 2)) := H.out.reref OK.out 2
  have hz : (w.setCell ⟨g, 2, none⟩ (.int .i32 2)).heap.size = w.heap.size := by simp [World.setCell]
  have HZ := Lib.hid hz
  have hlt : Hid (w.heap.size ∉ blksOf g (s.at_ref 2) ∧ ∀ o, (s.at_ref 2).ra ≠ some ⟨w.heap.size, o, none⟩) := by
    refine ⟨fun hb => ?_, fun o e => ?_⟩
    · have := blks_lt H.out _ hb
      omega
    · have := H.out.rand.lt (b := w.heap.size) (o := o) e OK.out.rn1
      omega
  have hfin : Hid (∀ o, o = .cells #[.pointer (some ⟨g, 0, none⟩), .pointer none] 137 → ItS ((w.setCell ⟨g, 2, none⟩ (.int .i32 2)).alloc o) g w.heap.size (s.at_ref 2) (.pointer none) ∧ Frm [g] w ((w.setCell ⟨g, 2, none⟩ (.int .i32 2)).alloc o)) := fun o e => by
    subst e
    have hb := Blk.new (w.setCell ⟨g, 2, none⟩ (.int .i32 2)) 137 [.pointer (some ⟨g, 0, none⟩), .pointer none]
    rw [HZ.out] at hb
    exact ⟨⟨hs.out.frm (OK.out.reref 2) (Frm.alloc _ _) (fun b hb => by cases hb), hb, hlt.out⟩, (Frm.set w ⟨g, 2, none⟩ _).andAlloc _⟩
  clear c2 f2 hz
  go_wp2
  go_ret
  exact ⟨by first | rfl | (rw [HZ.out]), hfin.out _ rfl⟩
end Go.Proofs.Ytanmgkpgfmkobaa

/- An iterator over a skip list goes to the first node, and on. -/
namespace Go.Proofs.Ytanmgkpgfmkobaa
open Go.Proofs.YtanmgkpgfmkobaaW.PrintLast
open Go.RowKit
set_option linter.unusedVariables false
set_option linter.unusedSimpArgs false
def MovP (g gi : Nat) (s : SkA) (v : Value) (w : World) (E : Ending) (w' : World) : Prop := E = .returned (.tuple #[]) ∧ ItS w' g gi s v ∧ Frm [gi] w w'
theorem ndP_ptr2 (s : SkA) (j : Nat) : ∃ A, ndP s j = .pointer A := by
  unfold ndP
  split
  · exact ⟨_, rfl⟩
  · exact ⟨_, rfl⟩
theorem nx_full {s : SkA} (hf : Full s) (p : Nat) (hp : p ≤ s.ns.length) : Nx s.ns p 0 p :=
  ⟨Nat.le_refl _, hp, fun q d h1 h2 => absurd h2 (by omega), fun d hd => hf d (List.mem_of_getElem? hd)⟩
theorem getNext_first {w : World} {g B : Nat} {s : SkA} (h : SkSt w g s) (ok : SkOk g B s) (hf : Full s) :
    Calls Try.prog 79 #[.pointer (some ⟨g, 0, none⟩), .pointer (some ⟨s.gh, 0, none⟩), .int .i64 0] w fun E w' => E = .returned (ndP s 0) ∧ Drew w w' := by
  have := next_skl h ok 0 0 0 (by omega) (.inl rfl) (Nat.zero_le _) (nx_full hf 0 (Nat.zero_le _))
  rwa [plcP_zero] at this
theorem getNext_node {w : World} {g B : Nat} {s : SkA} (h : SkSt w g s) (ok : SkOk g B s) (hf : Full s) (j : Nat) (d : Nd) (hj : s.ns[j]? = some d) :
    Calls Try.prog 79 #[.pointer (some ⟨g, 0, none⟩), .pointer (some ⟨d.blk, 0, none⟩), .int .i64 0] w fun E w' => E = .returned (ndP s (j + 1)) ∧ Drew w w' := by
  have hlt := (List.getElem?_eq_some_iff.1 hj).1
  have := next_skl h ok (j + 1) 0 (j + 1) (by omega) (.inr ⟨d, by simpa using hj, hf d (List.mem_of_getElem? hj)⟩) hlt (nx_full hf (j + 1) hlt)
  rwa [plcP_succ s j d hj] at this
theorem valid_skl (g gi : Nat) (s : SkA) (A : Option Addr) (b : Bool) (w : World) (h : w.cell? ⟨gi, 1, none⟩ = some (.pointer A)) (hA : (A = none ∧ b = false) ∨ ((∃ c, A = some ⟨c, 0, none⟩) ∧ b = true)) :
    Calls Try.prog 48 #[.pointer (some ⟨gi, 0, none⟩)] w fun E w' => E = .returned (.bool b) ∧ w = w' := by
  rcases hA with ⟨rfl, rfl⟩ | ⟨⟨c, rfl⟩, rfl⟩
  · go_enter Try.func48, Try.ntmps48
    go_wp2
    go_ret
    exact ⟨rfl, rfl⟩
  · go_enter Try.func48, Try.ntmps48
    go_wp2
    go_ret
    exact ⟨rfl, rfl⟩
set_option maxRecDepth 100000 in
set_option maxHeartbeats 2000000 in
theorem seekFirst_skl (g gi B : Nat) (s : SkA) (v : Value) (w : World) (h : ItS w g gi s v) (ok : SkOk g B s) (hf : Full s) :
    Calls Try.prog 42 #[.pointer (some ⟨gi, 0, none⟩)] w (MovP g gi s (ndP s (0)) w) := by
  have H := Lib.hid h
  have OK := Lib.hid ok
  have HF := Lib.hid hf
  clear h ok hf
  have q0 := H.out.it.at_ (i := 0) rfl
  have qh : w.cell? ⟨g, 1, none⟩ = some (.pointer (some ⟨s.gh, 0, none⟩)) := H.out.st.list.at_ rfl
  go_enter Try.func42, Try.ntmps42
  have hF0 : Hid (Frm [gi] w w) := Frm.refl _ _
  refine start_ (n := 16) (S := fun w' => w'.cell? ⟨gi, 0, none⟩ = some (.pointer (some ⟨g, 0, none⟩)) ∧ w'.cell? ⟨g, 1, none⟩ = some (.pointer (some ⟨s.gh, 0, none⟩))) (ds := []) #[ff,ff,ff,ff,ff,ff,ff,ff,ff,ff,ff,ff,ff,ff,ff,ff] (by kernel_rfl) rfl rfl (⟨q0, qh⟩) (fun hHeld => ?_)
  replace H : Hid (ItS w.drew g gi s v) := H.out.drewN 1
  have hF : Hid (Frm [gi] w w.drew) := hF0.out.drew
  generalize w.drew = wd at *
  refine pure_ (i := 0) (N := some 2) (v := ?_) (a' := ?_) #[tt,ff,ff,ff,ff,ff,ff,ff,ff,ff,ff,ff,ff,ff,ff,ff] rfl rfl (by kernel_rfl) (fun _ _ _ h => h) (Or.inl ⟨by rfl, ?_⟩) ?_ ?_; rotate_left; (intro w'; go_simp; with_reducible rfl); rotate_left; (simp only [Act.put, List.setIfInBounds_toArray, List.set_cons_zero, List.set_cons_succ, i64_w, i32_w]; rfl)
  refine pure_ (i := 1) (N := some 3) (v := ?_) (a' := ?_) #[tt,tt,ff,ff,ff,ff,ff,ff,ff,ff,ff,ff,ff,ff,ff,ff] rfl rfl (by kernel_rfl) (fun _ _ _ h => h) (Or.inl ⟨by rfl, ?_⟩) ?_ ?_; rotate_left; (intro w'; go_simp; with_reducible rfl); rotate_left; (simp only [Act.put, List.setIfInBounds_toArray, List.set_cons_zero, List.set_cons_succ, i64_w, i32_w]; rfl)
  refine pure_ (i := 2) (N := some 4) (v := ?_) (a' := ?_) #[tt,tt,tt,ff,ff,ff,ff,ff,ff,ff,ff,ff,ff,ff,ff,ff] rfl rfl (by kernel_rfl) (fun _ _ _ h => h) (Or.inl ⟨by rfl, ?_⟩) ?_ ?_; rotate_left; (intro w'; go_simp; with_reducible rfl); rotate_left; (simp only [Act.put, List.setIfInBounds_toArray, List.set_cons_zero, List.set_cons_succ, i64_w, i32_w]; rfl)
  refine pure_ (i := 3) (N := some 5) (v := ?_) (a' := ?_) #[tt,tt,tt,tt,ff,ff,ff,ff,ff,ff,ff,ff,ff,ff,ff,ff] rfl rfl (by kernel_rfl) (fun _ _ _ h => h) (Or.inl ⟨by rfl, ?_⟩) ?_ ?_; rotate_left; (intro w'; go_simp; with_reducible rfl); rotate_left; (simp only [Act.put, List.setIfInBounds_toArray, List.set_cons_zero, List.set_cons_succ, i64_w, i32_w]; rfl)
  refine take_ (i := 4) (N := some 6) (v := ?_) (a' := ?_) #[tt,tt,tt,tt,tt,ff,ff,ff,ff,ff,ff,ff,ff,ff,ff,ff] rfl rfl (by kernel_rfl) (fun _ _ _ h => h) (Or.inl ⟨by rfl, ?_⟩) hHeld ?_ ?_; rotate_left; (rintro w' ⟨h0, h1⟩; go_simp; with_reducible rfl); rotate_left; (simp only [Act.put, List.setIfInBounds_toArray, List.set_cons_zero, List.set_cons_succ, i64_w, i32_w]; rfl)
  refine pure_ (i := 5) (N := some 7) (v := ?_) (a' := ?_) #[tt,tt,tt,tt,tt,tt,ff,ff,ff,ff,ff,ff,ff,ff,ff,ff] rfl rfl (by kernel_rfl) (fun _ _ _ h => h) (Or.inl ⟨by rfl, ?_⟩) ?_ ?_; rotate_left; (intro w'; go_simp; with_reducible rfl); rotate_left; (simp only [Act.put, List.setIfInBounds_toArray, List.set_cons_zero, List.set_cons_succ, i64_w, i32_w]; rfl)
  refine pure_ (i := 6) (N := some 8) (v := ?_) (a' := ?_) #[tt,tt,tt,tt,tt,tt,tt,ff,ff,ff,ff,ff,ff,ff,ff,ff] rfl rfl (by kernel_rfl) (fun _ _ _ h => h) (Or.inl ⟨by rfl, ?_⟩) ?_ ?_; rotate_left; (intro w'; go_simp; with_reducible rfl); rotate_left; (simp only [Act.put, List.setIfInBounds_toArray, List.set_cons_zero, List.set_cons_succ, i64_w, i32_w]; rfl)
  refine pure_ (i := 7) (N := some 9) (v := ?_) (a' := ?_) #[tt,tt,tt,tt,tt,tt,tt,tt,ff,ff,ff,ff,ff,ff,ff,ff] rfl rfl (by kernel_rfl) (fun _ _ _ h => h) (Or.inl ⟨by rfl, ?_⟩) ?_ ?_; rotate_left; (intro w'; go_simp; with_reducible rfl); rotate_left; (simp only [Act.put, List.setIfInBounds_toArray, List.set_cons_zero, List.set_cons_succ, i64_w, i32_w]; rfl)
  refine take_ (i := 8) (N := some 10) (v := ?_) (a' := ?_) #[tt,tt,tt,tt,tt,tt,tt,tt,tt,ff,ff,ff,ff,ff,ff,ff] rfl rfl (by kernel_rfl) (fun _ _ _ h => h) (Or.inl ⟨by rfl, ?_⟩) hHeld ?_ ?_; rotate_left; (rintro w' ⟨h0, h1⟩; go_simp; with_reducible rfl); rotate_left; (simp only [Act.put, List.setIfInBounds_toArray, List.set_cons_zero, List.set_cons_succ, i64_w, i32_w]; rfl)
  refine pure_ (i := 9) (N := some 11) (v := ?_) (a' := ?_) #[tt,tt,tt,tt,tt,tt,tt,tt,tt,tt,ff,ff,ff,ff,ff,ff] rfl rfl (by kernel_rfl) (fun _ _ _ h => h) (Or.inl ⟨by rfl, ?_⟩) ?_ ?_; rotate_left; (intro w'; go_simp; with_reducible rfl); rotate_left; (simp only [Act.put, List.setIfInBounds_toArray, List.set_cons_zero, List.set_cons_succ, i64_w, i32_w]; rfl)
  refine pure_ (i := 10) (N := some 12) (v := ?_) (a' := ?_) #[tt,tt,tt,tt,tt,tt,tt,tt,tt,tt,tt,ff,ff,ff,ff,ff] rfl rfl (by kernel_rfl) (fun _ _ _ h => h) (Or.inl ⟨by rfl, ?_⟩) ?_ ?_; rotate_left; (intro w'; go_simp; with_reducible rfl); rotate_left; (simp only [Act.put, List.setIfInBounds_toArray, List.set_cons_zero, List.set_cons_succ, i64_w, i32_w]; rfl)
  refine take_ (i := 11) (N := some 13) (v := ?_) (a' := ?_) #[tt,tt,tt,tt,tt,tt,tt,tt,tt,tt,tt,tt,ff,ff,ff,ff] rfl rfl (by kernel_rfl) (fun _ _ _ h => h) (Or.inl ⟨by rfl, ?_⟩) hHeld ?_ ?_; rotate_left; (rintro w' ⟨h0, h1⟩; go_simp; with_reducible rfl); rotate_left; (simp only [Act.put, List.setIfInBounds_toArray, List.set_cons_zero, List.set_cons_succ, i64_w, i32_w]; rfl)
  refine one_ (i := 12) (N := some 14) #[tt,tt,tt,tt,tt,tt,tt,tt,tt,tt,tt,tt,tt,ff,ff,ff] rfl rfl (by kernel_rfl) (by decide) (fun K hK => ?_); refine goes_ Try.func79 (by kernel_rfl) rfl #[.pointer (some ⟨g, 0, none⟩), .pointer (some ⟨s.gh, 0, none⟩), .int .i64 0] (by rfl) rfl rfl (by (try simp only [List.map_toArray, List.map_cons, List.map_nil]); first | done | rfl) ?_
  refine (getNext_first H.out.st OK.out HF.out).mono ?_
  rintro E wx ⟨rfl, nx, rfl⟩; refine ⟨_, rfl, ?_⟩
  obtain ⟨Ar, hAr⟩ := ndP_ptr2 s (0)
  rw [hAr]
  have HAr := Lib.hid hAr
  clear hAr
  refine hK.out _ _ (hHeld) (fun hHeld => ?_); clear hK K; refine norm_ (a' := ?_) ?_ ?_; rotate_left; (show Act.put _ (some 14) _ = _; simp only [Act.put, List.setIfInBounds_toArray, List.set_cons_zero, List.set_cons_succ, i64_w, i32_w]; rfl)
  replace H : Hid (ItS (wd.drewN nx) g gi s v) := H.out.drewN nx
  replace hF : Hid (Frm [gi] w (wd.drewN nx)) := hF.out.drewN nx
  generalize wd.drewN nx = we at *
  refine pure_ (i := 13) (N := some 15) (v := ?_) (a' := ?_) #[tt,tt,tt,tt,tt,tt,tt,tt,tt,tt,tt,tt,tt,tt,ff,ff] rfl rfl (by kernel_rfl) (fun _ _ _ h => h) (Or.inl ⟨by rfl, ?_⟩) ?_ ?_; rotate_left; (intro w'; go_simp; with_reducible rfl); rotate_left; (simp only [Act.put, List.setIfInBounds_toArray, List.set_cons_zero, List.set_cons_succ, i64_w, i32_w]; rfl)
  refine pure_ (i := 14) (N := some 16) (v := ?_) (a' := ?_) #[tt,tt,tt,tt,tt,tt,tt,tt,tt,tt,tt,tt,tt,tt,tt,ff] rfl rfl (by kernel_rfl) (fun _ _ _ h => h) (Or.inl ⟨by rfl, ?_⟩) ?_ ?_; rotate_left; (intro w'; go_simp; with_reducible rfl); rotate_left; (simp only [Act.put, List.setIfInBounds_toArray, List.set_cons_zero, List.set_cons_succ, i64_w, i32_w]; rfl)
  have f1 := H.out.it.frozen 1
  have c1 := H.out.it.at_ (i := 1) rfl
  have H2 := Lib.hid (H.out.put OK.out (.pointer Ar))
  refine one_ (i := 15) (N := none) #[tt,tt,tt,tt,tt,tt,tt,tt,tt,tt,tt,tt,tt,tt,tt,tt] rfl rfl (by kernel_rfl) (by decide) (fun K hK => ?_)
  refine Go.Proofs.YtanmgkpgfmkobaaW.PrintLast.skip_ (w1 := we.setCell ⟨gi, 1, none⟩ (.pointer Ar)) (by rfl) rfl ?_ ?_
  · simp [go_sem, f1, c1]
  refine hK.out _ _ (⟨H2.out.it.at_ rfl, H2.out.st.list.at_ rfl⟩) (fun hHeld => ?_); clear hK K
  refine done_ (by kernel_rfl) ?_
  have hfin : MovP g gi s (ndP s (0)) w (.returned (.tuple #[])) (we.setCell ⟨gi, 1, none⟩ (.pointer Ar)) := ⟨rfl, by rw [HAr.out]; exact H2.out, hF.out.andSet _ _ (.inl (by simp))⟩
  have HFin := Lib.hid hfin
  clear hfin f1 c1
  go_wp2
  go_end0
  exact HFin.out
set_option maxRecDepth 100000 in
set_option maxHeartbeats 2000000 in
theorem next_it (g gi B : Nat) (s : SkA) (j : Nat) (d : Nd) (w : World) (h : ItS w g gi s (.pointer (some ⟨d.blk, 0, none⟩))) (ok : SkOk g B s) (hf : Full s) (hj : s.ns[j]? = some d) :
    Calls Try.prog 44 #[.pointer (some ⟨gi, 0, none⟩)] w (MovP g gi s (ndP s (j + 1)) w) := by
  have H := Lib.hid h
  have OK := Lib.hid ok
  have HF := Lib.hid hf
  clear h ok hf
  have HJ := Lib.hid hj
  clear hj
  have q0 := H.out.it.at_ (i := 0) rfl
  have q1 := H.out.it.at_ (i := 1) rfl
  go_enter Try.func44, Try.ntmps44
  have hF0 : Hid (Frm [gi] w w) := Frm.refl _ _
  go_wp2_with fail
  refine (valid_skl g gi s (some ⟨d.blk, 0, none⟩) true w q1 (.inr ⟨⟨_, rfl⟩, rfl⟩)).mono ?_
  rintro E w1 ⟨rfl, rfl⟩
  go_wp2_with fail
  refine (assertTrue_any w).mono ?_
  rintro E w1 ⟨rfl, rfl⟩
  go_wp2
  refine start_ (n := 13) (S := fun w' => w'.cell? ⟨gi, 0, none⟩ = some (.pointer (some ⟨g, 0, none⟩)) ∧ w'.cell? ⟨gi, 1, none⟩ = some (.pointer (some ⟨d.blk, 0, none⟩))) (ds := [12]) #[ff,ff,ff,ff,ff,ff,ff,ff,ff,ff,ff,ff,ff] (by kernel_rfl) rfl rfl (⟨q0, q1⟩) (fun hHeld => ?_)
  replace H : Hid (ItS w.drew g gi s (.pointer (some ⟨d.blk, 0, none⟩))) := H.out.drewN 1
  have hF : Hid (Frm [gi] w w.drew) := hF0.out.drew
  generalize w.drew = wd at *
  refine pure_ (i := 0) (N := some 5) (v := ?_) (a' := ?_) #[tt,ff,ff,ff,ff,ff,ff,ff,ff,ff,ff,ff,ff] rfl rfl (by kernel_rfl) (fun _ _ _ h => h) (Or.inl ⟨by rfl, ?_⟩) ?_ ?_; rotate_left; (intro w'; go_simp; with_reducible rfl); rotate_left; (simp only [Act.put, List.setIfInBounds_toArray, List.set_cons_zero, List.set_cons_succ, i64_w, i32_w]; rfl)
  refine pure_ (i := 1) (N := some 6) (v := ?_) (a' := ?_) #[tt,tt,ff,ff,ff,ff,ff,ff,ff,ff,ff,ff,ff] rfl rfl (by kernel_rfl) (fun _ _ _ h => h) (Or.inl ⟨by rfl, ?_⟩) ?_ ?_; rotate_left; (intro w'; go_simp; with_reducible rfl); rotate_left; (simp only [Act.put, List.setIfInBounds_toArray, List.set_cons_zero, List.set_cons_succ, i64_w, i32_w]; rfl)
  refine pure_ (i := 2) (N := some 7) (v := ?_) (a' := ?_) #[tt,tt,tt,ff,ff,ff,ff,ff,ff,ff,ff,ff,ff] rfl rfl (by kernel_rfl) (fun _ _ _ h => h) (Or.inl ⟨by rfl, ?_⟩) ?_ ?_; rotate_left; (intro w'; go_simp; with_reducible rfl); rotate_left; (simp only [Act.put, List.setIfInBounds_toArray, List.set_cons_zero, List.set_cons_succ, i64_w, i32_w]; rfl)
  refine pure_ (i := 3) (N := some 8) (v := ?_) (a' := ?_) #[tt,tt,tt,tt,ff,ff,ff,ff,ff,ff,ff,ff,ff] rfl rfl (by kernel_rfl) (fun _ _ _ h => h) (Or.inl ⟨by rfl, ?_⟩) ?_ ?_; rotate_left; (intro w'; go_simp; with_reducible rfl); rotate_left; (simp only [Act.put, List.setIfInBounds_toArray, List.set_cons_zero, List.set_cons_succ, i64_w, i32_w]; rfl)
  refine take_ (i := 4) (N := some 9) (v := ?_) (a' := ?_) #[tt,tt,tt,tt,tt,ff,ff,ff,ff,ff,ff,ff,ff] rfl rfl (by kernel_rfl) (fun _ _ _ h => h) (Or.inl ⟨by rfl, ?_⟩) hHeld ?_ ?_; rotate_left; (rintro w' ⟨h0, h1⟩; go_simp; with_reducible rfl); rotate_left; (simp only [Act.put, List.setIfInBounds_toArray, List.set_cons_zero, List.set_cons_succ, i64_w, i32_w]; rfl)
  refine pure_ (i := 5) (N := some 10) (v := ?_) (a' := ?_) #[tt,tt,tt,tt,tt,tt,ff,ff,ff,ff,ff,ff,ff] rfl rfl (by kernel_rfl) (fun _ _ _ h => h) (Or.inl ⟨by rfl, ?_⟩) ?_ ?_; rotate_left; (intro w'; go_simp; with_reducible rfl); rotate_left; (simp only [Act.put, List.setIfInBounds_toArray, List.set_cons_zero, List.set_cons_succ, i64_w, i32_w]; rfl)
  refine pure_ (i := 6) (N := some 11) (v := ?_) (a' := ?_) #[tt,tt,tt,tt,tt,tt,tt,ff,ff,ff,ff,ff,ff] rfl rfl (by kernel_rfl) (fun _ _ _ h => h) (Or.inl ⟨by rfl, ?_⟩) ?_ ?_; rotate_left; (intro w'; go_simp; with_reducible rfl); rotate_left; (simp only [Act.put, List.setIfInBounds_toArray, List.set_cons_zero, List.set_cons_succ, i64_w, i32_w]; rfl)
  refine pure_ (i := 7) (N := some 12) (v := ?_) (a' := ?_) #[tt,tt,tt,tt,tt,tt,tt,tt,ff,ff,ff,ff,ff] rfl rfl (by kernel_rfl) (fun _ _ _ h => h) (Or.inl ⟨by rfl, ?_⟩) ?_ ?_; rotate_left; (intro w'; go_simp; with_reducible rfl); rotate_left; (simp only [Act.put, List.setIfInBounds_toArray, List.set_cons_zero, List.set_cons_succ, i64_w, i32_w]; rfl)
  refine take_ (i := 8) (N := some 13) (v := ?_) (a' := ?_) #[tt,tt,tt,tt,tt,tt,tt,tt,tt,ff,ff,ff,ff] rfl rfl (by kernel_rfl) (fun _ _ _ h => h) (Or.inl ⟨by rfl, ?_⟩) hHeld ?_ ?_; rotate_left; (rintro w' ⟨h0, h1⟩; go_simp; with_reducible rfl); rotate_left; (simp only [Act.put, List.setIfInBounds_toArray, List.set_cons_zero, List.set_cons_succ, i64_w, i32_w]; rfl)
  refine one_ (i := 9) (N := some 14) #[tt,tt,tt,tt,tt,tt,tt,tt,tt,tt,ff,ff,ff] rfl rfl (by kernel_rfl) (by decide) (fun K hK => ?_); refine goes_ Try.func79 (by kernel_rfl) rfl #[.pointer (some ⟨g, 0, none⟩), .pointer (some ⟨d.blk, 0, none⟩), .int .i64 0] (by rfl) rfl rfl (by (try simp only [List.map_toArray, List.map_cons, List.map_nil]); first | done | rfl) ?_
  refine (getNext_node H.out.st OK.out HF.out j d HJ.out).mono ?_
  rintro E wx ⟨rfl, nx, rfl⟩; refine ⟨_, rfl, ?_⟩
  obtain ⟨Ar, hAr⟩ := ndP_ptr2 s (j + 1)
  rw [hAr]
  have HAr := Lib.hid hAr
  clear hAr
  refine hK.out _ _ (hHeld) (fun hHeld => ?_); clear hK K; refine norm_ (a' := ?_) ?_ ?_; rotate_left; (show Act.put _ (some 14) _ = _; simp only [Act.put, List.setIfInBounds_toArray, List.set_cons_zero, List.set_cons_succ, i64_w, i32_w]; rfl)
  replace H : Hid (ItS (wd.drewN nx) g gi s (.pointer (some ⟨d.blk, 0, none⟩))) := H.out.drewN nx
  replace hF : Hid (Frm [gi] w (wd.drewN nx)) := hF.out.drewN nx
  generalize wd.drewN nx = we at *
  refine pure_ (i := 10) (N := some 15) (v := ?_) (a' := ?_) #[tt,tt,tt,tt,tt,tt,tt,tt,tt,tt,tt,ff,ff] rfl rfl (by kernel_rfl) (fun _ _ _ h => h) (Or.inl ⟨by rfl, ?_⟩) ?_ ?_; rotate_left; (intro w'; go_simp; with_reducible rfl); rotate_left; (simp only [Act.put, List.setIfInBounds_toArray, List.set_cons_zero, List.set_cons_succ, i64_w, i32_w]; rfl)
  refine pure_ (i := 11) (N := some 16) (v := ?_) (a' := ?_) #[tt,tt,tt,tt,tt,tt,tt,tt,tt,tt,tt,tt,ff] rfl rfl (by kernel_rfl) (fun _ _ _ h => h) (Or.inl ⟨by rfl, ?_⟩) ?_ ?_; rotate_left; (intro w'; go_simp; with_reducible rfl); rotate_left; (simp only [Act.put, List.setIfInBounds_toArray, List.set_cons_zero, List.set_cons_succ, i64_w, i32_w]; rfl)
  have f1 := H.out.it.frozen 1
  have c1 := H.out.it.at_ (i := 1) rfl
  have H2 := Lib.hid (H.out.put OK.out (.pointer Ar))
  refine Go.Proofs.YtanmgkpgfmkobaaW.PrintLast.last_ (i := 12) (N := none) #[true, true, true, true, true, true, true, true, true, true, true, true, true] rfl rfl (by kernel_rfl) (by decide) (fun K hK => ?_)
  refine Go.Proofs.YtanmgkpgfmkobaaW.PrintLast.skip_ (w1 := we.setCell ⟨gi, 1, none⟩ (.pointer Ar)) (by rfl) rfl ?_ ?_
  · simp [go_sem, f1, c1]
  refine hK.out _ _ ?_; clear hK K
  refine done_ (by kernel_rfl) ?_
  have hfin : MovP g gi s (ndP s (j + 1)) w (.returned (.tuple #[])) (we.setCell ⟨gi, 1, none⟩ (.pointer Ar)) := ⟨rfl, by rw [HAr.out]; exact H2.out, hF.out.andSet _ _ (.inl (by simp))⟩
  have HFin := Lib.hid hfin
  clear hfin f1 c1
  go_wp2
  go_end0
  exact HFin.out
end Go.Proofs.Ytanmgkpgfmkobaa

/- An iterator over a skip list: to the last node, to a key, back; what it stands at. -/
namespace Go.Proofs.Ytanmgkpgfmkobaa
open Go.RowKit
set_option linter.unusedVariables false
set_option linter.unusedSimpArgs false
theorem befP_ptr2 (s : SkA) (p : Nat) : ∃ A, befP s p = .pointer A := by
  unfold befP plcP
  split
  · exact ⟨_, rfl⟩
  · exact ⟨_, rfl⟩
set_option maxRecDepth 100000 in
theorem seekLast_it (g gi B : Nat) (s : SkA) (v : Value) (w : World) (h : ItS w g gi s v) (ok : SkOk g B s) (hf : Full s) :
    Calls Try.prog 43 #[.pointer (some ⟨gi, 0, none⟩)] w (MovP g gi s (befP s s.ns.length) w) := by
  have H := Lib.hid h
  have OK := Lib.hid ok
  have HF := Lib.hid hf
  have q0 := h.it.at_ (i := 0) rfl
  clear h ok hf
  go_enter Try.func43, Try.ntmps43
  go_wp2_with fail
  refine (findLast_skl g B s w H.out.st OK.out HF.out).mono ?_
  rintro E w1 ⟨rfl, nx, rfl⟩
  obtain ⟨A, hA⟩ := befP_ptr2 s s.ns.length
  rw [hA]
  have H1 := Lib.hid (H.out.drewN nx)
  have H2 := Lib.hid (H1.out.put OK.out (.pointer A))
  have HA := Lib.hid hA
  have hF : Hid (Frm [gi] w ((w.drewN nx).setCell ⟨gi, 1, none⟩ (.pointer A))) := ((Frm.refl [gi] w).drewN nx).andSet _ _ (.inl (by simp))
  have f1 := H1.out.it.frozen 1
  have c1 := H1.out.it.at_ (i := 1) rfl
  clear hA q0
  go_wp2
  go_end0
  exact ⟨rfl, by rw [HA.out]; exact H2.out, hF.out⟩
set_option maxRecDepth 100000 in
theorem seek_it (g gi B : Nat) (s : SkA) (u : Value) (K : Option Addr) (nk ck : Nat) (k : List Int) (v : Int) (w : World) (h : ItS w g gi s u) (ok : SkOk g B s) (hf : Full s) (hk : Sl w K nk (nums .u8 (keyB k v))) (hck : nk ≤ ck) (hkb : Byt (keyB k v)) (hnk : nk ≤ 1000) :
    Calls Try.prog 46 #[.pointer (some ⟨gi, 0, none⟩), .slice K nk ck] w (MovP g gi s (ndP s (s.pos k v)) w) := by
  have H := Lib.hid h
  have OK := Lib.hid ok
  have HF := Lib.hid hf
  have HK := Lib.hid hk
  have HKB := Lib.hid hkb
  have q0 := h.it.at_ (i := 0) rfl
  clear h ok hf hk hkb
  go_enter Try.func46, Try.ntmps46
  go_wp2_with fail
  refine (findNear_falsetrue g B s K nk ck k v w H.out.st OK.out HF.out HK.out hck HKB.out hnk).mono ?_
  rintro E w1 ⟨⟨nx, rfl⟩, rfl⟩
  obtain ⟨A, hA⟩ := ndP_ptr2 s (s.pos k v)
  have e1 : nearV s k v false true = .pointer A := hA
  rw [e1]
  generalize (true && s.hit k v) = bb
  have H1 := Lib.hid (H.out.drewN nx)
  have H2 := Lib.hid (H1.out.put OK.out (.pointer A))
  have HA := Lib.hid hA
  have hF : Hid (Frm [gi] w ((w.drewN nx).setCell ⟨gi, 1, none⟩ (.pointer A))) := ((Frm.refl [gi] w).drewN nx).andSet _ _ (.inl (by simp))
  have f1 := H1.out.it.frozen 1
  have c1 := H1.out.it.at_ (i := 1) rfl
  clear hA q0 e1
  go_wp2
  go_end0
  exact ⟨rfl, by rw [HA.out]; exact H2.out, hF.out⟩
def backV (s : SkA) (k : List Int) (v : Int) : Value := if s.hit k v = true then ndP s (s.pos k v) else befP s (s.pos k v)
theorem backV_ptr (s : SkA) (k : List Int) (v : Int) : ∃ A, backV s k v = .pointer A := by
  unfold backV
  split
  · exact ndP_ptr2 s _
  · exact befP_ptr2 s _
set_option maxRecDepth 100000 in
theorem seekBack_it (g gi B : Nat) (s : SkA) (u : Value) (K : Option Addr) (nk ck : Nat) (k : List Int) (v : Int) (w : World) (h : ItS w g gi s u) (ok : SkOk g B s) (hf : Full s) (hk : Sl w K nk (nums .u8 (keyB k v))) (hck : nk ≤ ck) (hkb : Byt (keyB k v)) (hnk : nk ≤ 1000) :
    Calls Try.prog 47 #[.pointer (some ⟨gi, 0, none⟩), .slice K nk ck] w (MovP g gi s (backV s k v) w) := by
  have H := Lib.hid h
  have OK := Lib.hid ok
  have HF := Lib.hid hf
  have HK := Lib.hid hk
  have HKB := Lib.hid hkb
  have q0 := h.it.at_ (i := 0) rfl
  clear h ok hf hk hkb
  go_enter Try.func47, Try.ntmps47
  go_wp2_with fail
  refine (findNear_truetrue g B s K nk ck k v w H.out.st OK.out HF.out HK.out hck HKB.out hnk).mono ?_
  rintro E w1 ⟨⟨nx, rfl⟩, rfl⟩
  obtain ⟨A, hA⟩ := backV_ptr s k v
  have e1 : nearV s k v true true = .pointer A := by rw [← hA]; unfold nearV backV; rw [if_pos rfl, Bool.true_and]
  rw [e1]
  generalize (true && s.hit k v) = bb
  have H1 := Lib.hid (H.out.drewN nx)
  have H2 := Lib.hid (H1.out.put OK.out (.pointer A))
  have HA := Lib.hid hA
  have hF : Hid (Frm [gi] w ((w.drewN nx).setCell ⟨gi, 1, none⟩ (.pointer A))) := ((Frm.refl [gi] w).drewN nx).andSet _ _ (.inl (by simp))
  have f1 := H1.out.it.frozen 1
  have c1 := H1.out.it.at_ (i := 1) rfl
  clear hA q0 e1
  go_wp2
  go_end0
  exact ⟨rfl, by rw [HA.out]; exact H2.out, hF.out⟩
set_option maxRecDepth 100000 in
set_option maxHeartbeats 2000000 in
theorem key_it (g gi B : Nat) (s : SkA) (j : Nat) (d : Nd) (w : World) (h : ItS w g gi s (.pointer (some ⟨d.blk, 0, none⟩))) (ok : SkOk g B s) (hj : s.ns[j]? = some d) :
    Calls Try.prog 49 #[.pointer (some ⟨gi, 0, none⟩)] w fun E w' => E = .returned (.slice (some ⟨s.gb, d.ko, none⟩) d.key.length (1048576 - d.ko)) ∧ Drew w w' := by
  obtain ⟨hko, hnd⟩ := ok_key ok hj
  have hb := h.st.nodes _ d hj
  have a0 : ∀ n, (w.drewN n).cell? ⟨gi, 0, none⟩ = some (.pointer (some ⟨g, 0, none⟩)) := fun n => (h.it.drewN n).at_ rfl
  have a1 : ∀ n, (w.drewN n).cell? ⟨gi, 1, none⟩ = some (.pointer (some ⟨d.blk, 0, none⟩)) := fun n => (h.it.drewN n).at_ rfl
  have a3 : ∀ n, (w.drewN n).cell? ⟨g, 3, none⟩ = some (.pointer (some ⟨s.ga, 0, none⟩)) := fun n => (h.st.list.drewN n).at_ rfl
  have b1 : ∀ n, (w.drewN n).cell? ⟨d.blk, 1, none⟩ = some (.int .u32 d.ko) := fun n => (hb.drewN n).at_ rfl
  have b2 : ∀ n, (w.drewN n).cell? ⟨d.blk, 2, none⟩ = some (.int .u16 d.key.length) := fun n => (hb.drewN n).at_ rfl
  have HC : Hid (∀ n, (w.drewN n).cell? ⟨s.ga, 1, none⟩ = some (.slice (some ⟨s.gb, 0, none⟩) 1048576 1048576)) := fun n => (h.st.arn.ar.drewN n).at_ rfl
  clear h ok hj hb
  go_enter Try.func49, Try.ntmps49
  go_wp2
  go_quiet ((go_at_call 72; exact quiet_same (getKey_skl s.ga s.gb d.ko d.key.length _ (HC.out _) (by omega) (by omega))))
  go_wp2
  go_ret
  exact ⟨rfl, ⟨_, rfl⟩⟩
end Go.Proofs.Ytanmgkpgfmkobaa

/- An iterator over a skip list goes back; its value; its end. -/
namespace Go.Proofs.Ytanmgkpgfmkobaa
open Go.Proofs.YtanmgkpgfmkobaaW.PrintLast
open Go.RowKit
set_option linter.unusedVariables false
set_option linter.unusedSimpArgs false
set_option maxRecDepth 100000 in
set_option maxHeartbeats 2000000 in
theorem prev_it (g gi B : Nat) (s : SkA) (j : Nat) (d : Nd) (w : World) (h : ItS w g gi s (.pointer (some ⟨d.blk, 0, none⟩))) (ok : SkOk g B s) (hf : Full s) (hj : s.ns[j]? = some d) :
    Calls Try.prog 45 #[.pointer (some ⟨gi, 0, none⟩)] w (MovP g gi s (befP s j) w) := by
  have H := Lib.hid h
  have OK := Lib.hid ok
  have HF := Lib.hid hf
  have HJ := Lib.hid hj
  obtain ⟨hko, hnd⟩ := ok_key ok hj
  have HKB := Lib.hid (ok.ent d (List.mem_of_getElem? hj)).kbyt
  have HPOS : Hid (s.pos d.e.k d.e.v = j) := pos_of_eq ok _ _ j d hj (orderL_self _ _)
  have q0 := h.it.at_ (i := 0) rfl
  have q1 := h.it.at_ (i := 1) rfl
  have hF0 : Hid (Frm [gi] w w) := Frm.refl _ _
  clear h ok hf hj
  go_enter Try.func45, Try.ntmps45
  go_wp2_with fail
  refine (valid_skl g gi s (some ⟨d.blk, 0, none⟩) true w q1 (.inr ⟨⟨_, rfl⟩, rfl⟩)).mono ?_
  rintro E w1 ⟨rfl, rfl⟩
  go_wp2_with fail
  refine (assertTrue_any w).mono ?_
  rintro E w1 ⟨rfl, rfl⟩
  go_wp2
  refine start_ (n := 14) (S := fun w' => w'.cell? ⟨gi, 0, none⟩ = some (.pointer (some ⟨g, 0, none⟩)) ∧ w'.cell? ⟨gi, 1, none⟩ = some (.pointer (some ⟨d.blk, 0, none⟩))) (ds := [13]) #[ff,ff,ff,ff,ff,ff,ff,ff,ff,ff,ff,ff,ff,ff] (by kernel_rfl) rfl rfl (⟨q0, q1⟩) (fun hHeld => ?_)
  replace H : Hid (ItS w.drew g gi s (.pointer (some ⟨d.blk, 0, none⟩))) := H.out.drewN 1
  have hF : Hid (Frm [gi] w w.drew) := hF0.out.drew
  generalize w.drew = wd at *
  refine pure_ (i := 0) (N := some 6) (v := ?_) (a' := ?_) #[tt,ff,ff,ff,ff,ff,ff,ff,ff,ff,ff,ff,ff,ff] rfl rfl (by kernel_rfl) (fun _ _ _ h => h) (Or.inl ⟨by rfl, ?_⟩) ?_ ?_; rotate_left; (intro w'; go_simp; with_reducible rfl); rotate_left; (simp only [Act.put, List.setIfInBounds_toArray, List.set_cons_zero, List.set_cons_succ, i64_w, i32_w]; rfl)
  refine pure_ (i := 1) (N := some 7) (v := ?_) (a' := ?_) #[tt,tt,ff,ff,ff,ff,ff,ff,ff,ff,ff,ff,ff,ff] rfl rfl (by kernel_rfl) (fun _ _ _ h => h) (Or.inl ⟨by rfl, ?_⟩) ?_ ?_; rotate_left; (intro w'; go_simp; with_reducible rfl); rotate_left; (simp only [Act.put, List.setIfInBounds_toArray, List.set_cons_zero, List.set_cons_succ, i64_w, i32_w]; rfl)
  refine pure_ (i := 2) (N := some 8) (v := ?_) (a' := ?_) #[tt,tt,tt,ff,ff,ff,ff,ff,ff,ff,ff,ff,ff,ff] rfl rfl (by kernel_rfl) (fun _ _ _ h => h) (Or.inl ⟨by rfl, ?_⟩) ?_ ?_; rotate_left; (intro w'; go_simp; with_reducible rfl); rotate_left; (simp only [Act.put, List.setIfInBounds_toArray, List.set_cons_zero, List.set_cons_succ, i64_w, i32_w]; rfl)
  refine pure_ (i := 3) (N := some 9) (v := ?_) (a' := ?_) #[tt,tt,tt,tt,ff,ff,ff,ff,ff,ff,ff,ff,ff,ff] rfl rfl (by kernel_rfl) (fun _ _ _ h => h) (Or.inl ⟨by rfl, ?_⟩) ?_ ?_; rotate_left; (intro w'; go_simp; with_reducible rfl); rotate_left; (simp only [Act.put, List.setIfInBounds_toArray, List.set_cons_zero, List.set_cons_succ, i64_w, i32_w]; rfl)
  refine take_ (i := 4) (N := some 10) (v := ?_) (a' := ?_) #[tt,tt,tt,tt,tt,ff,ff,ff,ff,ff,ff,ff,ff,ff] rfl rfl (by kernel_rfl) (fun _ _ _ h => h) (Or.inl ⟨by rfl, ?_⟩) hHeld ?_ ?_; rotate_left; (rintro w' ⟨h0, h1⟩; go_simp; with_reducible rfl); rotate_left; (simp only [Act.put, List.setIfInBounds_toArray, List.set_cons_zero, List.set_cons_succ, i64_w, i32_w]; rfl)
  refine pure_ (i := 5) (N := some 11) (v := ?_) (a' := ?_) #[tt,tt,tt,tt,tt,tt,ff,ff,ff,ff,ff,ff,ff,ff] rfl rfl (by kernel_rfl) (fun _ _ _ h => h) (Or.inl ⟨by rfl, ?_⟩) ?_ ?_; rotate_left; (intro w'; go_simp; with_reducible rfl); rotate_left; (simp only [Act.put, List.setIfInBounds_toArray, List.set_cons_zero, List.set_cons_succ, i64_w, i32_w]; rfl)
  refine one_ (i := 6) (N := some 12) #[tt,tt,tt,tt,tt,tt,tt,ff,ff,ff,ff,ff,ff,ff] rfl rfl (by kernel_rfl) (by decide) (fun K hK => ?_); refine goes_ Try.func49 (by kernel_rfl) rfl #[.pointer (some ⟨gi, 0, none⟩)] (by rfl) rfl rfl (by (try simp only [List.map_toArray, List.map_cons, List.map_nil]); first | done | rfl) ?_
  refine (key_it g gi B s j d wd H.out OK.out HJ.out).mono ?_
  rintro E wx ⟨rfl, nx, rfl⟩; refine ⟨_, rfl, ?_⟩
  refine hK.out _ _ (hHeld) (fun hHeld => ?_); clear hK K; refine norm_ (a' := ?_) ?_ ?_; rotate_left; (show Act.put _ (some 12) _ = _; simp only [Act.put, List.setIfInBounds_toArray, List.set_cons_zero, List.set_cons_succ, i64_w, i32_w]; rfl)
  replace H : Hid (ItS (wd.drewN nx) g gi s (.pointer (some ⟨d.blk, 0, none⟩))) := H.out.drewN nx
  replace hF : Hid (Frm [gi] w (wd.drewN nx)) := hF.out.drewN nx
  generalize wd.drewN nx = wf at *
  have hsl := Lib.hid (nodeKey_sl H.out.st OK.out j d HJ.out)
  refine one_ (i := 7) (N := some 13) #[tt,tt,tt,tt,tt,tt,tt,tt,ff,ff,ff,ff,ff,ff] rfl rfl (by kernel_rfl) (by decide) (fun K hK => ?_); refine goes_ Try.func71 (by kernel_rfl) rfl #[.pointer (some ⟨g, 0, none⟩), .slice (some ⟨s.gb, d.ko, none⟩) d.key.length (1048576 - d.ko), .bool true, .bool false] (by rfl) rfl rfl (by (try simp only [List.map_toArray, List.map_cons, List.map_nil]); first | done | rfl) ?_
  refine (findNear_truefalse g B s (some ⟨s.gb, d.ko, none⟩) d.key.length (1048576 - d.ko) d.e.k d.e.v wf H.out.st OK.out HF.out hsl.out (by omega) HKB.out (by omega)).mono ?_
  rintro E wx ⟨⟨nx, rfl⟩, rfl⟩; refine ⟨_, rfl, ?_⟩
  obtain ⟨Ar, hAr⟩ := befP_ptr2 s j
  have e1 : nearV s d.e.k d.e.v true false = .pointer Ar := by rw [← hAr]; unfold nearV; rw [if_pos rfl, Bool.false_and, if_neg (by simp), HPOS.out]
  rw [e1]
  have HAr := Lib.hid hAr
  clear hAr e1
  generalize (false && s.hit d.e.k d.e.v) = bb
  refine hK.out _ _ (hHeld) (fun hHeld => ?_); clear hK K; refine norm_ (a' := ?_) ?_ ?_; rotate_left; (show Act.put _ (some 13) _ = _; simp only [Act.put, List.setIfInBounds_toArray, List.set_cons_zero, List.set_cons_succ, i64_w, i32_w]; rfl)
  replace H : Hid (ItS (wf.drewN nx) g gi s (.pointer (some ⟨d.blk, 0, none⟩))) := H.out.drewN nx
  replace hF : Hid (Frm [gi] w (wf.drewN nx)) := hF.out.drewN nx
  clear hsl
  generalize wf.drewN nx = we at *
  refine pure_ (i := 8) (N := some 5) (v := ?_) (a' := ?_) #[tt,tt,tt,tt,tt,tt,tt,tt,tt,ff,ff,ff,ff,ff] rfl rfl (by kernel_rfl) (fun _ _ _ h => h) (Or.inl ⟨by rfl, ?_⟩) ?_ ?_; rotate_left; (intro w'; go_simp; with_reducible rfl); rotate_left; (simp only [Act.put, List.setIfInBounds_toArray, List.set_cons_zero, List.set_cons_succ, i64_w, i32_w]; rfl)
  refine pure_ (i := 9) (N := some 14) (v := ?_) (a' := ?_) #[tt,tt,tt,tt,tt,tt,tt,tt,tt,tt,ff,ff,ff,ff] rfl rfl (by kernel_rfl) (fun _ _ _ h => h) (Or.inl ⟨by rfl, ?_⟩) ?_ ?_; rotate_left; (intro w'; go_simp; with_reducible rfl); rotate_left; (simp only [Act.put, List.setIfInBounds_toArray, List.set_cons_zero, List.set_cons_succ, i64_w, i32_w]; rfl)
  refine pure_ (i := 10) (N := some 15) (v := ?_) (a' := ?_) #[tt,tt,tt,tt,tt,tt,tt,tt,tt,tt,tt,ff,ff,ff] rfl rfl (by kernel_rfl) (fun _ _ _ h => h) (Or.inl ⟨by rfl, ?_⟩) ?_ ?_; rotate_left; (intro w'; go_simp; with_reducible rfl); rotate_left; (simp only [Act.put, List.setIfInBounds_toArray, List.set_cons_zero, List.set_cons_succ, i64_w, i32_w]; rfl)
  refine pure_ (i := 11) (N := some 16) (v := ?_) (a' := ?_) #[tt,tt,tt,tt,tt,tt,tt,tt,tt,tt,tt,tt,ff,ff] rfl rfl (by kernel_rfl) (fun _ _ _ h => h) (Or.inl ⟨by rfl, ?_⟩) ?_ ?_; rotate_left; (intro w'; go_simp; with_reducible rfl); rotate_left; (simp only [Act.put, List.setIfInBounds_toArray, List.set_cons_zero, List.set_cons_succ, i64_w, i32_w]; rfl)
  refine pure_ (i := 12) (N := some 17) (v := ?_) (a' := ?_) #[tt,tt,tt,tt,tt,tt,tt,tt,tt,tt,tt,tt,tt,ff] rfl rfl (by kernel_rfl) (fun _ _ _ h => h) (Or.inl ⟨by rfl, ?_⟩) ?_ ?_; rotate_left; (intro w'; go_simp; with_reducible rfl); rotate_left; (simp only [Act.put, List.setIfInBounds_toArray, List.set_cons_zero, List.set_cons_succ, i64_w, i32_w]; rfl)
  have f1 := H.out.it.frozen 1
  have c1 := H.out.it.at_ (i := 1) rfl
  have H2 := Lib.hid (H.out.put OK.out (.pointer Ar))
  refine Go.Proofs.YtanmgkpgfmkobaaW.PrintLast.last_ (i := 13) (N := none) #[true, true, true, true, true, true, true, true, true, true, true, true, true, true] rfl rfl (by kernel_rfl) (by decide) (fun K hK => ?_)
  refine Go.Proofs.YtanmgkpgfmkobaaW.PrintLast.skip_ (w1 := we.setCell ⟨gi, 1, none⟩ (.pointer Ar)) (by rfl) rfl ?_ ?_
  · simp [go_sem, f1, c1]
  refine hK.out _ _ ?_; clear hK K
  refine done_ (by kernel_rfl) ?_
  have hfin : MovP g gi s (befP s j) w (.returned (.tuple #[])) (we.setCell ⟨gi, 1, none⟩ (.pointer Ar)) := ⟨rfl, by rw [HAr.out]; exact H2.out, hF.out.andSet _ _ (.inl (by simp))⟩
  have HFin := Lib.hid hfin
  clear hfin f1 c1
  go_wp2
  go_end0
  exact HFin.out
set_option maxRecDepth 100000 in
set_option maxHeartbeats 2000000 in
theorem value_it (g gi B : Nat) (s : SkA) (j : Nat) (d : Nd) (w : World) (h : ItS w g gi s (.pointer (some ⟨d.blk, 0, none⟩))) (ok : SkOk g B s) (hj : s.ns[j]? = some d) :
    Calls Try.prog 52 #[.pointer (some ⟨gi, 0, none⟩)] w fun E w' => ∃ A c, E = .returned (.agg #[.int .u8 d.e.m, .int .u8 d.e.u, .int .u64 d.e.x, .slice A d.e.d.length c, .int .u64 0]) ∧ d.e.d.length ≤ c ∧ Sl w' A d.e.d.length (nums .u8 d.e.d) ∧ Below w.heap.size w w' ∧ ∀ b oo, A = some ⟨b, oo, none⟩ → b = s.gb := by
  have HW : Hid (ItS (w.alloc (.cells #[.int .u8 0, .int .u8 0, .int .u64 0, .slice none 0 0, .int .u64 0] 72)) g gi s (.pointer (some ⟨d.blk, 0, none⟩))) := h.frm ok (Frm.alloc w _) (fun b hb => by cases hb) (by simp)
  have HR : Hid (Blk (w.alloc (.cells #[.int .u8 0, .int .u8 0, .int .u64 0, .slice none 0 0, .int .u64 0] 72)) w.heap.size 72 [.int .u8 0, .int .u8 0, .int .u64 0, .slice none 0 0, .int .u64 0]) := Blk.new w _ _
  have HB : Hid (Below w.heap.size w (w.alloc (.cells #[.int .u8 0, .int .u8 0, .int .u64 0, .slice none 0 0, .int .u64 0] 72))) := (Below.refl w.heap.size w).alloc (Nat.le_refl _) _
  have HGB : Hid (s.gb < w.heap.size) := h.st.arn.buf.lt
  have HSZ : Hid (w.heap.size < (w.alloc (.cells #[.int .u8 0, .int .u8 0, .int .u64 0, .slice none 0 0, .int .u64 0] 72)).heap.size) := HR.out.lt
  have OK := Lib.hid ok
  have HJ := Lib.hid hj
  have hv := ok.val d (List.mem_of_getElem? hj)
  have he := ok.ent d (List.mem_of_getElem? hj)
  have hn1 := ok.n1
  have hdl := he.dlen
  have hvl : d.val.length = 2 + (vint 9 d.e.x).length + d.e.d.length := valB_len _ _ _ _
  have hv9 := vint_len 9 d.e.x
  have hvo : d.vo < 4294967296 := by omega
  have hvn : d.val.length < 4294967296 := by omega
  clear h ok hj hv he hn1 hdl hvl hv9
  go_enter Try.func52, Try.ntmps52
  have a1 := HW.out.it.at_ (i := 1) rfl
  have a0 := HW.out.it.at_ (i := 0) rfl
  have b0 : (w.alloc (.cells #[.int .u8 0, .int .u8 0, .int .u64 0, .slice none 0 0, .int .u64 0] 72)).cell? ⟨d.blk, 0, none⟩ = some (.int .u64 ((d.val.length : Int) * 4294967296 + d.vo)) := (HW.out.st.nodes _ d HJ.out).at_ rfl
  have a3 := HW.out.st.list.at_ (i := 3) (v := .pointer (some ⟨s.ga, 0, none⟩)) rfl
  go_wp2_with fail
  generalize w.alloc (.cells #[.int .u8 0, .int .u8 0, .int .u64 0, .slice none 0 0, .int .u64 0] 72) = w0 at *
  refine (getValueOffset_skl d.blk d.val.length d.vo w0 b0 hvo hvn).mono ?_
  rintro E w1 ⟨rfl, rfl⟩
  clear b0
  go_wp2_with fail
  refine (getVal_skl g B s j d w0 HW.out.st OK.out HJ.out).mono ?_
  rintro E w3 ⟨A, c, rfl, hc, hA, hs, hb⟩
  have hr3 := HR.out.frm (Frm.of_below hb) (by simp)
  have HB3 : Hid (Below w.heap.size w w3) := HB.out.trans (hb.mono (Nat.le_of_lt HSZ.out))
  have HS := Lib.hid hs
  have HA : Hid (∀ b oo, A = some ⟨b, oo, none⟩ → b ≠ w.heap.size) := fun b oo e => by
    have := hA b oo e
    have := HGB.out
    omega
  have r0 := hr3.at_ (i := 0) rfl
  have r1 := hr3.at_ (i := 1) rfl
  have r2 := hr3.at_ (i := 2) rfl
  have r3 := hr3.at_ (i := 3) rfl
  have r4 := hr3.at_ (i := 4) rfl
  have z0 := hr3.frozen 0
  have z1 := hr3.frozen 1
  have z2 := hr3.frozen 2
  have z3 := hr3.frozen 3
  have z4 := hr3.frozen 4
  have HA2 := Lib.hid hA
  clear hr3 hs hb hA a0 a1 a3
  go_wp2
  refine bodyPost_ret (v := .agg #[.int .u8 d.e.m, .int .u8 d.e.u, .int .u64 d.e.x, .slice A d.e.d.length c, .int .u64 0]) (by simp [results, Try.results52, go_sem, r0, r1, r2, r3, r4, z0, z1, z2, z3, z4]) rfl ?_
  refine ⟨A, c, rfl, hc, ?_, put5 HB3.out _ _ _ _ _, HA2.out⟩
  refine HS.out.frm (l := [w.heap.size]) (((((Frm.refl _ w3).andSet _ _ (.inl (by simp))).andSet _ _ (.inl (by simp))).andSet _ _ (.inl (by simp))).andSet _ _ (.inl (by simp))|>.andSet _ _ (.inl (by simp))) (fun b o e => by have := HA.out b o e; simpa using this)
theorem decrRef_skl (g : Nat) (w : World) (hc : w.cell? ⟨g, 2, none⟩ = some (.int .i32 2)) (hf : w.frozen? ⟨g, 2, none⟩ = false) :
    Calls Try.prog 82 #[.pointer (some ⟨g, 0, none⟩)] w fun E w' => E = .returned (.tuple #[]) ∧ Frm [g] w w' := by
  go_enter Try.func82, Try.ntmps82
  go_wp2
  refine bodyPost_ret (results_none rfl _ _ _) rfl ?_
  exact ⟨rfl, Frm.set w ⟨g, 2, none⟩ _⟩
theorem close_it (g gi : Nat) (s : SkA) (v : Value) (w : World) (h : ItS w g gi s v) (hr : s.ref = 2) :
    Calls Try.prog 53 #[.pointer (some ⟨gi, 0, none⟩)] w fun E w' => E = .returned .nilIface ∧ Frm [g] w w' := by
  have q0 := h.it.at_ (i := 0) rfl
  have c2 : w.cell? ⟨g, 2, none⟩ = some (.int .i32 2) := by
    have := h.st.list.at_ (i := 2) (v := .int .i32 s.ref) rfl
    rwa [hr] at this
  have f2 := h.st.list.frozen 2
  clear h
  go_enter Try.func53, Try.ntmps53
  go_wp2_with fail
  refine (decrRef_skl g w c2 f2).mono ?_
  rintro E w1 ⟨rfl, hF⟩
  have HF := Lib.hid hF
  clear hF
  go_wp2
  go_ret
  exact ⟨rfl, HF.out⟩
end Go.Proofs.Ytanmgkpgfmkobaa

/- spec.seek: the nearest entry. -/
namespace Go.Proofs.Ytanmgkpgfmkobaa
open Go.Proofs.YtanmgkpgfmkobaaW.PrintLast
open Go.RowKit
set_option linter.unusedVariables false
set_option linter.unusedSimpArgs false
/-- An entry of a list (its key and version), and a step in a block. -/
def Sk (ga o gq : Nat) (r : ER) (KS : Option Addr) (nk ck : Nat) (v : Int) (w' : World) : Prop := w'.cell? ⟨ga, o, none⟩ = some (.slice r.Ak r.nk r.ck) ∧ w'.cell? ⟨ga, o + 1, none⟩ = some (.int .u64 r.e.v) ∧ w'.cell? ⟨gq, 1, none⟩ = some (.slice KS nk ck) ∧ w'.cell? ⟨gq, 2, none⟩ = some (.int .u64 v)
set_option maxRecDepth 100000 in
set_option maxHeartbeats 4000000 in
theorem seekF_any (ga oa m c nk ck : Nat) (KS : Option Addr) (kd v : Int) (k : List Int) (rs : List ER) (w : World) (hm : rs.length = m) (hm2 : m ≤ 4000000000) (hA : Ers w (some ⟨ga, oa, none⟩) rs) (hk : Sl w KS nk (nums .u8 k)) (hnk : nk ≤ 4000000000) (hl : ∀ r ∈ rs, r.nk ≤ 4000000000) :
    Calls Try.prog 39 #[.slice (some ⟨ga, oa, none⟩) m c, .bool false, .agg #[.int .i64 kd, .slice KS nk ck, .int .u64 v]] w fun E w' => E = .returned (.int .i64 ((posE (rs.map ER.e) k v : Nat) : Int)) ∧ Below w.heap.size w w' := by
  have hA := Lib.hid (hA.alloc (.cells #[.int .i64 kd, .slice KS nk ck, .int .u64 v] 78))
  have hk := Lib.hid (hk.alloc (.cells #[.int .i64 kd, .slice KS nk ck, .int .u64 v] 78))
  have hX : Hid (Blk (w.alloc (.cells #[.int .i64 kd, .slice KS nk ck, .int .u64 v] 78)) w.heap.size 78 [.int .i64 kd, .slice KS nk ck, .int .u64 v]) := Blk.new w _ _
  have hB : Hid (Below w.heap.size w (w.alloc (.cells #[.int .i64 kd, .slice KS nk ck, .int .u64 v] 78))) := (Below.refl _ _).alloc (Nat.le_refl _) _
  have HL := Lib.hid hl
  have HM := Lib.hid hm
  have hpm : posE (rs.map ER.e) k v ≤ m := by have := posE_le (rs.map ER.e) k v; rw [List.length_map] at this; omega
  rename_i hA0 hk0
  clear hl hm hA0 hk0
  go_enter Try.func39, Try.ntmps39
  go_wp2_with fail
  generalize w.alloc (.cells #[.int .i64 kd, .slice KS nk ck, .int .u64 v] 78) = w0 at *
  generalize hgq : w.heap.size = gq at *
  have HGQ := Lib.hid hgq
  clear hgq
  obtain ⟨p, hp⟩ : ∃ p, p = posE (rs.map ER.e) k v := ⟨_, rfl⟩
  rw [← hp] at hpm
  have HP := Lib.hid hp
  clear hp
  go_loopg [8] m (fun f v8 wr => ∃ i : Nat, v8 = .int .i64 i ∧ i ≤ p ∧ Hid (i + f = m) ∧ Hid (Ers wr (some ⟨ga, oa, none⟩) rs) ∧ Hid (Sl wr KS nk (nums .u8 k)) ∧ Hid (Blk wr gq 78 [.int .i64 kd, .slice KS nk ck, .int .u64 v]) ∧ Hid (Below gq w wr))
  case atStart => exact ⟨0, rfl, Nat.zero_le _, by simp [Hid], hA.out, hk.out, hX.out, hB.out⟩
  case round =>
    clear hA hk hX hB
    obtain ⟨i, rfl, hip, hf, hA, hk, hX, hB⟩ := hrel
    by_cases hlt : i < m
    · obtain ⟨r, hr⟩ : ∃ r, rs[i]? = some r := ⟨_, List.getElem?_eq_getElem (by have := HM.out; omega)⟩
      have HR := Lib.hid hr
      have hrn : r.nk ≤ 4000000000 := HL.out r (List.mem_of_getElem? hr)
      have b0 := hA.out.at_ hr (j := 0) rfl
      have b1 := hA.out.at_ hr (j := 1) rfl
      rw [Nat.add_zero] at b0
      have hil : ((i : Int)) < (m : Int) := by omega
      clear hr
      go_wp2
      refine start_ (n := 22) (S := Sk ga (oa + i * 6) gq r KS nk ck v) (ds := []) #[ff,ff,ff,ff,ff,ff,ff,ff,ff,ff,ff,ff,ff,ff,ff,ff,ff,ff,ff,ff,ff,ff] (by kernel_rfl) rfl rfl (⟨b0, b1, hX.out.at_ rfl, hX.out.at_ rfl⟩) (fun hHeld => ?_)
      have hkd : Hid (Sl wr.drew KS nk (nums .u8 k)) := hk.out
      have hAd : Hid (Ers wr.drew (some ⟨ga, oa, none⟩) rs) := ⟨hA.out.sl, fun r hr => (hA.out.each r hr).drewN 1⟩
      have hXd : Hid (Blk wr.drew gq 78 [.int .i64 kd, .slice KS nk ck, .int .u64 v]) := hX.out
      have hBd : Hid (Below gq w wr.drew) := hB.out.drew
      have hrin : Hid (r.In wr.drew) := (hA.out.each r (List.mem_of_getElem? HR.out)).drewN 1
      clear b0 b1 hk hA hX hB
      generalize wr.drew = wd at *
      refine pure_ (i := 0) (N := some 36) (v := ?_) (a' := ?_) #[tt,ff,ff,ff,ff,ff,ff,ff,ff,ff,ff,ff,ff,ff,ff,ff,ff,ff,ff,ff,ff,ff] rfl rfl (by kernel_rfl) (fun _ _ _ h => h) (Or.inl ⟨by rfl, ?_⟩) ?_ ?_; rotate_left; (intro w'; go_simp; with_reducible rfl); rotate_left; (simp only [Act.put, List.setIfInBounds_toArray, List.set_cons_zero, List.set_cons_succ, i64_w, i32_w]; rfl)
      refine pure_ (i := 1) (N := some 37) (v := ?_) (a' := ?_) #[tt,tt,ff,ff,ff,ff,ff,ff,ff,ff,ff,ff,ff,ff,ff,ff,ff,ff,ff,ff,ff,ff] rfl rfl (by kernel_rfl) (fun _ _ _ h => h) (Or.inl ⟨by rfl, ?_⟩) ?_ ?_; rotate_left; (intro w'; go_simp; with_reducible rfl); rotate_left; (simp only [Act.put, List.setIfInBounds_toArray, List.set_cons_zero, List.set_cons_succ, i64_w, i32_w]; rfl)
      refine pure_ (i := 2) (N := some 38) (v := ?_) (a' := ?_) #[tt,tt,tt,ff,ff,ff,ff,ff,ff,ff,ff,ff,ff,ff,ff,ff,ff,ff,ff,ff,ff,ff] rfl rfl (by kernel_rfl) (fun _ _ _ h => h) (Or.inl ⟨by rfl, ?_⟩) ?_ ?_; rotate_left; (intro w'; go_simp; with_reducible rfl); rotate_left; (simp only [Act.put, List.setIfInBounds_toArray, List.set_cons_zero, List.set_cons_succ, i64_w, i32_w]; rfl)
      refine pure_ (i := 3) (N := some 39) (v := ?_) (a' := ?_) #[tt,tt,tt,tt,ff,ff,ff,ff,ff,ff,ff,ff,ff,ff,ff,ff,ff,ff,ff,ff,ff,ff] rfl rfl (by kernel_rfl) (fun _ _ _ h => h) (Or.inl ⟨by rfl, ?_⟩) ?_ ?_; rotate_left; (intro w'; go_simp; with_reducible rfl); rotate_left; (simp only [Act.put, List.setIfInBounds_toArray, List.set_cons_zero, List.set_cons_succ, i64_w, i32_w]; rfl)
      refine pure_ (i := 4) (N := some 40) (v := ?_) (a' := ?_) #[tt,tt,tt,tt,tt,ff,ff,ff,ff,ff,ff,ff,ff,ff,ff,ff,ff,ff,ff,ff,ff,ff] rfl rfl (by kernel_rfl) (fun _ _ _ h => h) (Or.inl ⟨by rfl, ?_⟩) ?_ ?_; rotate_left; (intro w'; go_simp; with_reducible rfl); rotate_left; (simp only [Act.put, List.setIfInBounds_toArray, List.set_cons_zero, List.set_cons_succ, i64_w, i32_w]; rfl)
      refine pure_ (i := 5) (N := some 41) (v := ?_) (a' := ?_) #[tt,tt,tt,tt,tt,tt,ff,ff,ff,ff,ff,ff,ff,ff,ff,ff,ff,ff,ff,ff,ff,ff] rfl rfl (by kernel_rfl) (fun _ _ _ h => h) (Or.inl ⟨by rfl, ?_⟩) ?_ ?_; rotate_left; (intro w'; go_simp; with_reducible rfl); rotate_left; (simp only [Act.put, List.setIfInBounds_toArray, List.set_cons_zero, List.set_cons_succ, i64_w, i32_w]; rfl)
      refine pure_ (i := 6) (N := some 42) (v := ?_) (a' := ?_) #[tt,tt,tt,tt,tt,tt,tt,ff,ff,ff,ff,ff,ff,ff,ff,ff,ff,ff,ff,ff,ff,ff] rfl rfl (by kernel_rfl) (fun _ _ _ h => h) (Or.inl ⟨by rfl, ?_⟩) ?_ ?_; rotate_left; (intro w'; go_simp; with_reducible rfl); rotate_left; (simp only [Act.put, List.setIfInBounds_toArray, List.set_cons_zero, List.set_cons_succ, i64_w, i32_w]; rfl)
      refine pure_ (i := 7) (N := some 43) (v := ?_) (a' := ?_) #[tt,tt,tt,tt,tt,tt,tt,tt,ff,ff,ff,ff,ff,ff,ff,ff,ff,ff,ff,ff,ff,ff] rfl rfl (by kernel_rfl) (fun _ _ _ h => h) (Or.inl ⟨by rfl, ?_⟩) ?_ ?_; rotate_left; (intro w'; go_simp; with_reducible rfl); rotate_left; (simp only [Act.put, List.setIfInBounds_toArray, List.set_cons_zero, List.set_cons_succ, i64_w, i32_w]; rfl)
      refine pure_ (i := 8) (N := some 44) (v := ?_) (a' := ?_) #[tt,tt,tt,tt,tt,tt,tt,tt,tt,ff,ff,ff,ff,ff,ff,ff,ff,ff,ff,ff,ff,ff] rfl rfl (by kernel_rfl) (fun _ _ _ h => h) (Or.inl ⟨by rfl, ?_⟩) ?_ ?_; rotate_left; (intro w'; go_simp; with_reducible rfl); rotate_left; (simp only [Act.put, List.setIfInBounds_toArray, List.set_cons_zero, List.set_cons_succ, i64_w, i32_w]; rfl)
      refine take_ (i := 9) (N := some 45) (v := ?_) (a' := ?_) #[tt,tt,tt,tt,tt,tt,tt,tt,tt,tt,ff,ff,ff,ff,ff,ff,ff,ff,ff,ff,ff,ff] rfl rfl (by kernel_rfl) (fun _ _ _ h => h) (Or.inl ⟨by rfl, ?_⟩) hHeld ?_ ?_; rotate_left; (rintro w' ⟨h0, h1, h2, h3⟩; go_simp; with_reducible rfl); rotate_left; (simp only [Act.put, List.setIfInBounds_toArray, List.set_cons_zero, List.set_cons_succ, i64_w, i32_w]; rfl)
      refine pure_ (i := 10) (N := some 46) (v := ?_) (a' := ?_) #[tt,tt,tt,tt,tt,tt,tt,tt,tt,tt,tt,ff,ff,ff,ff,ff,ff,ff,ff,ff,ff,ff] rfl rfl (by kernel_rfl) (fun _ _ _ h => h) (Or.inl ⟨by rfl, ?_⟩) ?_ ?_; rotate_left; (intro w'; go_simp; with_reducible rfl); rotate_left; (simp only [Act.put, List.setIfInBounds_toArray, List.set_cons_zero, List.set_cons_succ, i64_w, i32_w]; rfl)
      refine pure_ (i := 11) (N := some 47) (v := ?_) (a' := ?_) #[tt,tt,tt,tt,tt,tt,tt,tt,tt,tt,tt,tt,ff,ff,ff,ff,ff,ff,ff,ff,ff,ff] rfl rfl (by kernel_rfl) (fun _ _ _ h => h) (Or.inl ⟨by rfl, ?_⟩) ?_ ?_; rotate_left; (intro w'; go_simp; with_reducible rfl); rotate_left; (simp only [Act.put, List.setIfInBounds_toArray, List.set_cons_zero, List.set_cons_succ, i64_w, i32_w]; rfl)
      refine pure_ (i := 12) (N := some 48) (v := ?_) (a' := ?_) #[tt,tt,tt,tt,tt,tt,tt,tt,tt,tt,tt,tt,tt,ff,ff,ff,ff,ff,ff,ff,ff,ff] rfl rfl (by kernel_rfl) (fun _ _ _ h => h) (Or.inl ⟨by rfl, ?_⟩) ?_ ?_; rotate_left; (intro w'; go_simp; with_reducible rfl); rotate_left; (simp only [Act.put, List.setIfInBounds_toArray, List.set_cons_zero, List.set_cons_succ, i64_w, i32_w]; rfl)
      refine pure_ (i := 13) (N := some 49) (v := ?_) (a' := ?_) #[tt,tt,tt,tt,tt,tt,tt,tt,tt,tt,tt,tt,tt,tt,ff,ff,ff,ff,ff,ff,ff,ff] rfl rfl (by kernel_rfl) (fun _ _ _ h => h) (Or.inl ⟨by rfl, ?_⟩) ?_ ?_; rotate_left; (intro w'; go_simp; with_reducible rfl); rotate_left; (simp only [Act.put, List.setIfInBounds_toArray, List.set_cons_zero, List.set_cons_succ, i64_w, i32_w]; rfl)
      refine take_ (i := 14) (N := some 50) (v := ?_) (a' := ?_) #[tt,tt,tt,tt,tt,tt,tt,tt,tt,tt,tt,tt,tt,tt,tt,ff,ff,ff,ff,ff,ff,ff] rfl rfl (by kernel_rfl) (fun _ _ _ h => h) (Or.inl ⟨by rfl, ?_⟩) hHeld ?_ ?_; rotate_left; (rintro w' ⟨h0, h1, h2, h3⟩; go_simp; with_reducible rfl); rotate_left; (simp only [Act.put, List.setIfInBounds_toArray, List.set_cons_zero, List.set_cons_succ, i64_w, i32_w]; rfl)
      refine pure_ (i := 15) (N := some 51) (v := ?_) (a' := ?_) #[tt,tt,tt,tt,tt,tt,tt,tt,tt,tt,tt,tt,tt,tt,tt,tt,ff,ff,ff,ff,ff,ff] rfl rfl (by kernel_rfl) (fun _ _ _ h => h) (Or.inl ⟨by rfl, ?_⟩) ?_ ?_; rotate_left; (intro w'; go_simp; with_reducible rfl); rotate_left; (simp only [Act.put, List.setIfInBounds_toArray, List.set_cons_zero, List.set_cons_succ, i64_w, i32_w]; rfl)
      refine take_ (i := 16) (N := some 52) (v := ?_) (a' := ?_) #[tt,tt,tt,tt,tt,tt,tt,tt,tt,tt,tt,tt,tt,tt,tt,tt,tt,ff,ff,ff,ff,ff] rfl rfl (by kernel_rfl) (fun _ _ _ h => h) (Or.inl ⟨by rfl, ?_⟩) hHeld ?_ ?_; rotate_left; (rintro w' ⟨h0, h1, h2, h3⟩; go_simp; with_reducible rfl); rotate_left; (simp only [Act.put, List.setIfInBounds_toArray, List.set_cons_zero, List.set_cons_succ, i64_w, i32_w]; rfl)
      refine pure_ (i := 17) (N := some 53) (v := ?_) (a' := ?_) #[tt,tt,tt,tt,tt,tt,tt,tt,tt,tt,tt,tt,tt,tt,tt,tt,tt,tt,ff,ff,ff,ff] rfl rfl (by kernel_rfl) (fun _ _ _ h => h) (Or.inl ⟨by rfl, ?_⟩) ?_ ?_; rotate_left; (intro w'; go_simp; with_reducible rfl); rotate_left; (simp only [Act.put, List.setIfInBounds_toArray, List.set_cons_zero, List.set_cons_succ, i64_w, i32_w]; rfl)
      refine take_ (i := 18) (N := some 54) (v := ?_) (a' := ?_) #[tt,tt,tt,tt,tt,tt,tt,tt,tt,tt,tt,tt,tt,tt,tt,tt,tt,tt,tt,ff,ff,ff] rfl rfl (by kernel_rfl) (fun _ _ _ h => h) (Or.inl ⟨by rfl, ?_⟩) hHeld ?_ ?_; rotate_left; (rintro w' ⟨h0, h1, h2, h3⟩; go_simp; with_reducible rfl); rotate_left; (simp only [Act.put, List.setIfInBounds_toArray, List.set_cons_zero, List.set_cons_succ, i64_w, i32_w]; rfl)
      refine one_ (i := 19) (N := some 55) #[tt,tt,tt,tt,tt,tt,tt,tt,tt,tt,tt,tt,tt,tt,tt,tt,tt,tt,tt,tt,ff,ff] rfl rfl (by kernel_rfl) (by decide) (fun K hK => ?_); refine goes_ Try.func77 (by kernel_rfl) rfl #[.slice r.Ak r.nk r.ck, .int .u64 r.e.v, .slice KS nk ck, .int .u64 v] (by rfl) rfl rfl (by (try simp only [List.map_toArray, List.map_cons, List.map_nil]); first | done | rfl) ?_
      refine (order_big r.Ak KS r.nk nk r.ck ck r.e.k k r.e.v v wd hrin.out.key hkd.out (by omega) (by omega)).mono ?_
      rintro E wx ⟨rfl, nx, rfl⟩; refine ⟨_, rfl, ?_⟩
      refine hK.out _ _ (hHeld) (fun hHeld => ?_); clear hK K; refine norm_ (a' := ?_) ?_ ?_; rotate_left; (show Act.put _ (some 55) _ = _; simp only [Act.put, List.setIfInBounds_toArray, List.set_cons_zero, List.set_cons_succ, i64_w, i32_w]; rfl)
      replace hkd : Hid (Sl (wd.drewN nx) KS nk (nums .u8 k)) := hkd.out
      replace hAd : Hid (Ers (wd.drewN nx) (some ⟨ga, oa, none⟩) rs) := ⟨hAd.out.sl, fun r hr => (hAd.out.each r hr).drewN nx⟩
      replace hXd : Hid (Blk (wd.drewN nx) gq 78 [.int .i64 kd, .slice KS nk ck, .int .u64 v]) := hXd.out
      replace hBd : Hid (Below gq w (wd.drewN nx)) := bel_drewN hBd.out nx
      clear hrin hHeld
      generalize wd.drewN nx = we at *
      rcases orderL_three r.e.k k r.e.v v with h3 | h3 | h3
      · rw [h3]
        refine pure_ (i := 20) (N := some 56) (v := ?_) (a' := ?_) #[tt,tt,tt,tt,tt,tt,tt,tt,tt,tt,tt,tt,tt,tt,tt,tt,tt,tt,tt,tt,tt,ff] rfl rfl (by kernel_rfl) (fun _ _ _ h => h) (Or.inl ⟨by rfl, ?_⟩) ?_ ?_; rotate_left; (intro w'; go_simp; with_reducible rfl); rotate_left; (simp only [Act.put, List.setIfInBounds_toArray, List.set_cons_zero, List.set_cons_succ, i64_w, i32_w]; rfl)
        refine pure_ (i := 21) (N := some 57) (v := ?_) (a' := ?_) #[tt,tt,tt,tt,tt,tt,tt,tt,tt,tt,tt,tt,tt,tt,tt,tt,tt,tt,tt,tt,tt,tt] rfl rfl (by kernel_rfl) (fun _ _ _ h => h) (Or.inl ⟨by rfl, ?_⟩) ?_ ?_; rotate_left; (intro w'; go_simp; with_reducible rfl); rotate_left; (simp only [Act.put, List.setIfInBounds_toArray, List.set_cons_zero, List.set_cons_succ, i64_w, i32_w]; rfl)
        refine done_ (by kernel_rfl) ?_
        have hnx : i < p := by rw [HP.out] at hip ⊢; exact pos_lt_of _ _ _ i r.e hip (by rw [List.getElem?_map, HR.out]; rfl) h3
        clear h3
        go_wp2
        obtain ⟨gkO, rfl⟩ : ∃ q, gk = q + 1 := ⟨gk - 1, by have := hf.out; omega⟩
        go_roundg gkO
        case measure => omega
        case rel => exact ⟨i + 1, by go_num, by omega, by have := hf.out; show _ = _; omega, hAd.out, hkd.out, hXd.out, hBd.out⟩
      · rw [h3]
        refine pure_ (i := 20) (N := some 56) (v := ?_) (a' := ?_) #[tt,tt,tt,tt,tt,tt,tt,tt,tt,tt,tt,tt,tt,tt,tt,tt,tt,tt,tt,tt,tt,ff] rfl rfl (by kernel_rfl) (fun _ _ _ h => h) (Or.inl ⟨by rfl, ?_⟩) ?_ ?_; rotate_left; (intro w'; go_simp; with_reducible rfl); rotate_left; (simp only [Act.put, List.setIfInBounds_toArray, List.set_cons_zero, List.set_cons_succ, i64_w, i32_w]; rfl)
        refine pure_ (i := 21) (N := some 57) (v := ?_) (a' := ?_) #[tt,tt,tt,tt,tt,tt,tt,tt,tt,tt,tt,tt,tt,tt,tt,tt,tt,tt,tt,tt,tt,tt] rfl rfl (by kernel_rfl) (fun _ _ _ h => h) (Or.inl ⟨by rfl, ?_⟩) ?_ ?_; rotate_left; (intro w'; go_simp; with_reducible rfl); rotate_left; (simp only [Act.put, List.setIfInBounds_toArray, List.set_cons_zero, List.set_cons_succ, i64_w, i32_w]; rfl)
        refine done_ (by kernel_rfl) ?_
        have hpi : i = p := by
          rcases Nat.lt_or_eq_of_le hip with h4 | h4
          · exfalso
            rw [HP.out] at h4
            have := posE_lt _ _ _ i r.e h4 (by rw [List.getElem?_map, HR.out]; rfl)
            omega
          · exact h4
        subst hpi
        clear h3
        go_wp2
        go_ret
        exact ⟨by show Ending.returned (.int .i64 (i : Int)) = _; rw [← HP.out], by rw [HGQ.out]; exact hBd.out⟩
      · rw [h3]
        refine pure_ (i := 20) (N := some 56) (v := ?_) (a' := ?_) #[tt,tt,tt,tt,tt,tt,tt,tt,tt,tt,tt,tt,tt,tt,tt,tt,tt,tt,tt,tt,tt,ff] rfl rfl (by kernel_rfl) (fun _ _ _ h => h) (Or.inl ⟨by rfl, ?_⟩) ?_ ?_; rotate_left; (intro w'; go_simp; with_reducible rfl); rotate_left; (simp only [Act.put, List.setIfInBounds_toArray, List.set_cons_zero, List.set_cons_succ, i64_w, i32_w]; rfl)
        refine pure_ (i := 21) (N := some 57) (v := ?_) (a' := ?_) #[tt,tt,tt,tt,tt,tt,tt,tt,tt,tt,tt,tt,tt,tt,tt,tt,tt,tt,tt,tt,tt,tt] rfl rfl (by kernel_rfl) (fun _ _ _ h => h) (Or.inl ⟨by rfl, ?_⟩) ?_ ?_; rotate_left; (intro w'; go_simp; with_reducible rfl); rotate_left; (simp only [Act.put, List.setIfInBounds_toArray, List.set_cons_zero, List.set_cons_succ, i64_w, i32_w]; rfl)
        refine done_ (by kernel_rfl) ?_
        have hpi : i = p := by
          rcases Nat.lt_or_eq_of_le hip with h4 | h4
          · exfalso
            rw [HP.out] at h4
            have := posE_lt _ _ _ i r.e h4 (by rw [List.getElem?_map, HR.out]; rfl)
            omega
          · exact h4
        subst hpi
        clear h3
        go_wp2
        go_ret
        exact ⟨by show Ending.returned (.int .i64 (i : Int)) = _; rw [← HP.out], by rw [HGQ.out]; exact hBd.out⟩
    · have hpi : i = p := by omega
      subst hpi
      have hge : ¬ ((i : Int) < (m : Int)) := by omega
      have him : Hid (i = m) := by show _ = _; omega
      go_wp2
      go_quiet (fail)
      go_wp2
      go_ret
      exact ⟨by show Ending.returned (.int .i64 (i : Int)) = _; rw [← HP.out], by rw [HGQ.out]; exact bel_drewN hB.out _⟩
/-- The last entry that is not behind a key with a version; -1 if there is none. -/
def backE (l : List Ent) (k : List Int) (v : Int) : Int := if hitE l k v = true then (posE l k v : Int) else (posE l k v : Int) - 1
theorem backE_of {l : List Ent} (hs : SortedE l) {k : List Int} {v : Int} {i : Nat} (hi : i ≤ l.length) (hb : ∀ (j : Nat) (a : Ent), i ≤ j → l[j]? = some a → orderL a.k a.v k v = 1) (ha : ∀ a, 0 < i → l[i - 1]? = some a → orderL a.k a.v k v ≠ 1) : backE l k v = (i : Int) - 1 := by
  have hpl := posE_le l k v
  have hpi : posE l k v ≤ i := by
    rcases Nat.lt_or_ge i (posE l k v) with h | h
    · exfalso
      obtain ⟨a, hl⟩ : ∃ a, l[i]? = some a := ⟨_, List.getElem?_eq_getElem (by omega)⟩
      have h1 := posE_lt l k v i a h hl
      have h2 := hb i a (Nat.le_refl _) hl
      omega
    · exact h
  have hit_no : ∀ a, l[posE l k v]? = some a → orderL a.k a.v k v ≠ 0 → hitE l k v = false := fun a hl h0 => by
    unfold hitE
    rw [hl]
    simpa using h0
  rcases Nat.eq_zero_or_pos i with h0 | h0
  · have hp0 : posE l k v = 0 := by omega
    have hh : hitE l k v = false := by
      cases hl : l[posE l k v]? with
      | none => unfold hitE; rw [hl]
      | some a =>
        refine hit_no a hl ?_
        have := hb (posE l k v) a (by omega) hl
        omega
    unfold backE
    rw [hh, if_neg (by simp)]
    omega
  · obtain ⟨a, hl⟩ : ∃ a, l[i - 1]? = some a := ⟨_, List.getElem?_eq_getElem (by omega)⟩
    have hne := ha a h0 hl
    rcases Nat.lt_trichotomy (i - 1) (posE l k v) with h1 | h1 | h1
    · have hpe : posE l k v = i := by omega
      have hh : hitE l k v = false := by
        cases hl2 : l[posE l k v]? with
        | none => unfold hitE; rw [hl2]
        | some b =>
          refine hit_no b hl2 ?_
          have := hb (posE l k v) b (by omega) hl2
          omega
      unfold backE
      rw [hh, if_neg (by simp)]
      omega
    · have h2 := posE_at l k v a (by rw [← h1]; exact hl)
      have h3 : orderL a.k a.v k v = 0 := by
        rcases orderL_three a.k k a.v v with h | h | h
        · exact absurd h h2
        · exact h
        · exact absurd h hne
      have hh : hitE l k v = true := by
        unfold hitE
        rw [← h1, hl]
        simpa using h3
      unfold backE
      rw [hh, if_pos rfl]
      omega
    · exact absurd (posE_gt l hs k v (i - 1) a h1 hl) hne
set_option maxRecDepth 100000 in
set_option maxHeartbeats 4000000 in
theorem seekB_any (ga oa m c nk ck : Nat) (KS : Option Addr) (kd v : Int) (k : List Int) (rs : List ER) (w : World) (hm : rs.length = m) (hm2 : m ≤ 4000000000) (hso : SortedE (rs.map ER.e)) (hA : Ers w (some ⟨ga, oa, none⟩) rs) (hk : Sl w KS nk (nums .u8 k)) (hnk : nk ≤ 4000000000) (hl : ∀ r ∈ rs, r.nk ≤ 4000000000) :
    Calls Try.prog 39 #[.slice (some ⟨ga, oa, none⟩) m c, .bool true, .agg #[.int .i64 kd, .slice KS nk ck, .int .u64 v]] w fun E w' => E = .returned (.int .i64 (backE (rs.map ER.e) k v)) ∧ Below w.heap.size w w' := by
  have hA := Lib.hid (hA.alloc (.cells #[.int .i64 kd, .slice KS nk ck, .int .u64 v] 78))
  have hk := Lib.hid (hk.alloc (.cells #[.int .i64 kd, .slice KS nk ck, .int .u64 v] 78))
  have hX : Hid (Blk (w.alloc (.cells #[.int .i64 kd, .slice KS nk ck, .int .u64 v] 78)) w.heap.size 78 [.int .i64 kd, .slice KS nk ck, .int .u64 v]) := Blk.new w _ _
  have hB : Hid (Below w.heap.size w (w.alloc (.cells #[.int .i64 kd, .slice KS nk ck, .int .u64 v] 78))) := (Below.refl _ _).alloc (Nat.le_refl _) _
  have HL := Lib.hid hl
  have HM := Lib.hid hm
  have HSO := Lib.hid hso
  rename_i hA0 hk0
  clear hl hm hA0 hk0 hso
  go_enter Try.func39, Try.ntmps39
  go_wp2_with fail
  generalize w.alloc (.cells #[.int .i64 kd, .slice KS nk ck, .int .u64 v] 78) = w0 at *
  generalize hgq : w.heap.size = gq at *
  have HGQ := Lib.hid hgq
  clear hgq
  go_loopg [7] m (fun f v7 wr => ∃ (i : Nat) (a : Int), v7 = .int .i64 a ∧ Hid (a = (i : Int) - 1) ∧ i ≤ m ∧ Hid (i ≤ f) ∧ Hid (∀ (j : Nat) (b : Ent), i ≤ j → (rs.map ER.e)[j]? = some b → orderL b.k b.v k v = 1) ∧ Hid (Ers wr (some ⟨ga, oa, none⟩) rs) ∧ Hid (Sl wr KS nk (nums .u8 k)) ∧ Hid (Blk wr gq 78 [.int .i64 kd, .slice KS nk ck, .int .u64 v]) ∧ Hid (Below gq w wr))
  case atStart => exact ⟨m, (m : Int) - 1, rfl, rfl, Nat.le_refl _, Nat.le_refl _, fun j b hj hb => absurd (List.getElem?_eq_some_iff.1 hb).1 (by rw [List.length_map, HM.out]; omega), hA.out, hk.out, hX.out, hB.out⟩
  case round =>
    clear hA hk hX hB
    obtain ⟨i0, a, rfl, ha, hi0, hf, hbh, hA, hk, hX, hB⟩ := hrel
    rcases Nat.eq_zero_or_pos i0 with h00 | h00
    · have hfin : Hid (backE (rs.map ER.e) k v = a) := by
        show _ = _
        rw [ha.out]
        exact backE_of HSO.out (by omega) hbh.out (fun b hb => absurd hb (by omega))
      obtain rfl : a = -1 := by rw [ha.out, h00]; rfl
      go_wp2
      go_quiet (fail)
      go_wp2
      go_ret
      exact ⟨by rw [hfin.out]; rfl, by rw [HGQ.out]; exact bel_drewN hB.out _⟩
    · obtain ⟨i, rfl⟩ : ∃ i, i0 = i + 1 := ⟨i0 - 1, by omega⟩
      obtain rfl : a = (i : Int) := by have := ha.out; omega
      obtain ⟨r, hr⟩ : ∃ r, rs[i]? = some r := ⟨_, List.getElem?_eq_getElem (by have := HM.out; omega)⟩
      have HR := Lib.hid hr
      have hrn : r.nk ≤ 4000000000 := HL.out r (List.mem_of_getElem? hr)
      have b0 := hA.out.at_ hr (j := 0) rfl
      have b1 := hA.out.at_ hr (j := 1) rfl
      rw [Nat.add_zero] at b0
      have hil : ((i : Int)) < (m : Int) := by omega
      have hig : (0 : Int) ≤ (i : Int) := by omega
      have hil2 : i < m := by omega
      clear hr ha h00
      go_wp2
      refine start_ (n := 20) (S := Sk ga (oa + i * 6) gq r KS nk ck v) (ds := []) #[ff,ff,ff,ff,ff,ff,ff,ff,ff,ff,ff,ff,ff,ff,ff,ff,ff,ff,ff,ff] (by kernel_rfl) rfl rfl (⟨b0, b1, hX.out.at_ rfl, hX.out.at_ rfl⟩) (fun hHeld => ?_)
      have hkd : Hid (Sl wr.drew KS nk (nums .u8 k)) := hk.out
      have hAd : Hid (Ers wr.drew (some ⟨ga, oa, none⟩) rs) := ⟨hA.out.sl, fun r hr => (hA.out.each r hr).drewN 1⟩
      have hXd : Hid (Blk wr.drew gq 78 [.int .i64 kd, .slice KS nk ck, .int .u64 v]) := hX.out
      have hBd : Hid (Below gq w wr.drew) := hB.out.drew
      have hrin : Hid (r.In wr.drew) := (hA.out.each r (List.mem_of_getElem? HR.out)).drewN 1
      clear b0 b1 hk hA hX hB
      generalize wr.drew = wd at *
      refine pure_ (i := 0) (N := some 13) (v := ?_) (a' := ?_) #[tt,ff,ff,ff,ff,ff,ff,ff,ff,ff,ff,ff,ff,ff,ff,ff,ff,ff,ff,ff] rfl rfl (by kernel_rfl) (fun _ _ _ h => h) (Or.inl ⟨by rfl, ?_⟩) ?_ ?_; rotate_left; (intro w'; go_simp; with_reducible rfl); rotate_left; (simp only [Act.put, List.setIfInBounds_toArray, List.set_cons_zero, List.set_cons_succ, i64_w, i32_w]; rfl)
      refine pure_ (i := 1) (N := some 14) (v := ?_) (a' := ?_) #[tt,tt,ff,ff,ff,ff,ff,ff,ff,ff,ff,ff,ff,ff,ff,ff,ff,ff,ff,ff] rfl rfl (by kernel_rfl) (fun _ _ _ h => h) (Or.inl ⟨by rfl, ?_⟩) ?_ ?_; rotate_left; (intro w'; go_simp; with_reducible rfl); rotate_left; (simp only [Act.put, List.setIfInBounds_toArray, List.set_cons_zero, List.set_cons_succ, i64_w, i32_w]; rfl)
      refine pure_ (i := 2) (N := some 15) (v := ?_) (a' := ?_) #[tt,tt,tt,ff,ff,ff,ff,ff,ff,ff,ff,ff,ff,ff,ff,ff,ff,ff,ff,ff] rfl rfl (by kernel_rfl) (fun _ _ _ h => h) (Or.inl ⟨by rfl, ?_⟩) ?_ ?_; rotate_left; (intro w'; go_simp; with_reducible rfl); rotate_left; (simp only [Act.put, List.setIfInBounds_toArray, List.set_cons_zero, List.set_cons_succ, i64_w, i32_w]; rfl)
      refine pure_ (i := 3) (N := some 16) (v := ?_) (a' := ?_) #[tt,tt,tt,tt,ff,ff,ff,ff,ff,ff,ff,ff,ff,ff,ff,ff,ff,ff,ff,ff] rfl rfl (by kernel_rfl) (fun _ _ _ h => h) (Or.inl ⟨by rfl, ?_⟩) ?_ ?_; rotate_left; (intro w'; go_simp; with_reducible rfl); rotate_left; (simp only [Act.put, List.setIfInBounds_toArray, List.set_cons_zero, List.set_cons_succ, i64_w, i32_w]; rfl)
      refine pure_ (i := 4) (N := some 17) (v := ?_) (a' := ?_) #[tt,tt,tt,tt,tt,ff,ff,ff,ff,ff,ff,ff,ff,ff,ff,ff,ff,ff,ff,ff] rfl rfl (by kernel_rfl) (fun _ _ _ h => h) (Or.inl ⟨by rfl, ?_⟩) ?_ ?_; rotate_left; (intro w'; go_simp; with_reducible rfl); rotate_left; (simp only [Act.put, List.setIfInBounds_toArray, List.set_cons_zero, List.set_cons_succ, i64_w, i32_w]; rfl)
      refine pure_ (i := 5) (N := some 18) (v := ?_) (a' := ?_) #[tt,tt,tt,tt,tt,tt,ff,ff,ff,ff,ff,ff,ff,ff,ff,ff,ff,ff,ff,ff] rfl rfl (by kernel_rfl) (fun _ _ _ h => h) (Or.inl ⟨by rfl, ?_⟩) ?_ ?_; rotate_left; (intro w'; go_simp; with_reducible rfl); rotate_left; (simp only [Act.put, List.setIfInBounds_toArray, List.set_cons_zero, List.set_cons_succ, i64_w, i32_w]; rfl)
      refine pure_ (i := 6) (N := some 19) (v := ?_) (a' := ?_) #[tt,tt,tt,tt,tt,tt,tt,ff,ff,ff,ff,ff,ff,ff,ff,ff,ff,ff,ff,ff] rfl rfl (by kernel_rfl) (fun _ _ _ h => h) (Or.inl ⟨by rfl, ?_⟩) ?_ ?_; rotate_left; (intro w'; go_simp; with_reducible rfl); rotate_left; (simp only [Act.put, List.setIfInBounds_toArray, List.set_cons_zero, List.set_cons_succ, i64_w, i32_w]; rfl)
      refine take_ (i := 7) (N := some 20) (v := ?_) (a' := ?_) #[tt,tt,tt,tt,tt,tt,tt,tt,ff,ff,ff,ff,ff,ff,ff,ff,ff,ff,ff,ff] rfl rfl (by kernel_rfl) (fun _ _ _ h => h) (Or.inl ⟨by rfl, ?_⟩) hHeld ?_ ?_; rotate_left; (rintro w' ⟨h0, h1, h2, h3⟩; go_simp; with_reducible rfl); rotate_left; (simp only [Act.put, List.setIfInBounds_toArray, List.set_cons_zero, List.set_cons_succ, i64_w, i32_w]; rfl)
      refine pure_ (i := 8) (N := some 21) (v := ?_) (a' := ?_) #[tt,tt,tt,tt,tt,tt,tt,tt,tt,ff,ff,ff,ff,ff,ff,ff,ff,ff,ff,ff] rfl rfl (by kernel_rfl) (fun _ _ _ h => h) (Or.inl ⟨by rfl, ?_⟩) ?_ ?_; rotate_left; (intro w'; go_simp; with_reducible rfl); rotate_left; (simp only [Act.put, List.setIfInBounds_toArray, List.set_cons_zero, List.set_cons_succ, i64_w, i32_w]; rfl)
      refine pure_ (i := 9) (N := some 22) (v := ?_) (a' := ?_) #[tt,tt,tt,tt,tt,tt,tt,tt,tt,tt,ff,ff,ff,ff,ff,ff,ff,ff,ff,ff] rfl rfl (by kernel_rfl) (fun _ _ _ h => h) (Or.inl ⟨by rfl, ?_⟩) ?_ ?_; rotate_left; (intro w'; go_simp; with_reducible rfl); rotate_left; (simp only [Act.put, List.setIfInBounds_toArray, List.set_cons_zero, List.set_cons_succ, i64_w, i32_w]; rfl)
      refine pure_ (i := 10) (N := some 23) (v := ?_) (a' := ?_) #[tt,tt,tt,tt,tt,tt,tt,tt,tt,tt,tt,ff,ff,ff,ff,ff,ff,ff,ff,ff] rfl rfl (by kernel_rfl) (fun _ _ _ h => h) (Or.inl ⟨by rfl, ?_⟩) ?_ ?_; rotate_left; (intro w'; go_simp; with_reducible rfl); rotate_left; (simp only [Act.put, List.setIfInBounds_toArray, List.set_cons_zero, List.set_cons_succ, i64_w, i32_w]; rfl)
      refine pure_ (i := 11) (N := some 24) (v := ?_) (a' := ?_) #[tt,tt,tt,tt,tt,tt,tt,tt,tt,tt,tt,tt,ff,ff,ff,ff,ff,ff,ff,ff] rfl rfl (by kernel_rfl) (fun _ _ _ h => h) (Or.inl ⟨by rfl, ?_⟩) ?_ ?_; rotate_left; (intro w'; go_simp; with_reducible rfl); rotate_left; (simp only [Act.put, List.setIfInBounds_toArray, List.set_cons_zero, List.set_cons_succ, i64_w, i32_w]; rfl)
      refine take_ (i := 12) (N := some 25) (v := ?_) (a' := ?_) #[tt,tt,tt,tt,tt,tt,tt,tt,tt,tt,tt,tt,tt,ff,ff,ff,ff,ff,ff,ff] rfl rfl (by kernel_rfl) (fun _ _ _ h => h) (Or.inl ⟨by rfl, ?_⟩) hHeld ?_ ?_; rotate_left; (rintro w' ⟨h0, h1, h2, h3⟩; go_simp; with_reducible rfl); rotate_left; (simp only [Act.put, List.setIfInBounds_toArray, List.set_cons_zero, List.set_cons_succ, i64_w, i32_w]; rfl)
      refine pure_ (i := 13) (N := some 26) (v := ?_) (a' := ?_) #[tt,tt,tt,tt,tt,tt,tt,tt,tt,tt,tt,tt,tt,tt,ff,ff,ff,ff,ff,ff] rfl rfl (by kernel_rfl) (fun _ _ _ h => h) (Or.inl ⟨by rfl, ?_⟩) ?_ ?_; rotate_left; (intro w'; go_simp; with_reducible rfl); rotate_left; (simp only [Act.put, List.setIfInBounds_toArray, List.set_cons_zero, List.set_cons_succ, i64_w, i32_w]; rfl)
      refine take_ (i := 14) (N := some 27) (v := ?_) (a' := ?_) #[tt,tt,tt,tt,tt,tt,tt,tt,tt,tt,tt,tt,tt,tt,tt,ff,ff,ff,ff,ff] rfl rfl (by kernel_rfl) (fun _ _ _ h => h) (Or.inl ⟨by rfl, ?_⟩) hHeld ?_ ?_; rotate_left; (rintro w' ⟨h0, h1, h2, h3⟩; go_simp; with_reducible rfl); rotate_left; (simp only [Act.put, List.setIfInBounds_toArray, List.set_cons_zero, List.set_cons_succ, i64_w, i32_w]; rfl)
      refine pure_ (i := 15) (N := some 28) (v := ?_) (a' := ?_) #[tt,tt,tt,tt,tt,tt,tt,tt,tt,tt,tt,tt,tt,tt,tt,tt,ff,ff,ff,ff] rfl rfl (by kernel_rfl) (fun _ _ _ h => h) (Or.inl ⟨by rfl, ?_⟩) ?_ ?_; rotate_left; (intro w'; go_simp; with_reducible rfl); rotate_left; (simp only [Act.put, List.setIfInBounds_toArray, List.set_cons_zero, List.set_cons_succ, i64_w, i32_w]; rfl)
      refine take_ (i := 16) (N := some 29) (v := ?_) (a' := ?_) #[tt,tt,tt,tt,tt,tt,tt,tt,tt,tt,tt,tt,tt,tt,tt,tt,tt,ff,ff,ff] rfl rfl (by kernel_rfl) (fun _ _ _ h => h) (Or.inl ⟨by rfl, ?_⟩) hHeld ?_ ?_; rotate_left; (rintro w' ⟨h0, h1, h2, h3⟩; go_simp; with_reducible rfl); rotate_left; (simp only [Act.put, List.setIfInBounds_toArray, List.set_cons_zero, List.set_cons_succ, i64_w, i32_w]; rfl)
      refine one_ (i := 17) (N := some 30) #[tt,tt,tt,tt,tt,tt,tt,tt,tt,tt,tt,tt,tt,tt,tt,tt,tt,tt,ff,ff] rfl rfl (by kernel_rfl) (by decide) (fun K hK => ?_); refine goes_ Try.func77 (by kernel_rfl) rfl #[.slice r.Ak r.nk r.ck, .int .u64 r.e.v, .slice KS nk ck, .int .u64 v] (by rfl) rfl rfl (by (try simp only [List.map_toArray, List.map_cons, List.map_nil]); first | done | rfl) ?_
      refine (order_big r.Ak KS r.nk nk r.ck ck r.e.k k r.e.v v wd hrin.out.key hkd.out (by omega) (by omega)).mono ?_
      rintro E wx ⟨rfl, nx, rfl⟩; refine ⟨_, rfl, ?_⟩
      refine hK.out _ _ (hHeld) (fun hHeld => ?_); clear hK K; refine norm_ (a' := ?_) ?_ ?_; rotate_left; (show Act.put _ (some 30) _ = _; simp only [Act.put, List.setIfInBounds_toArray, List.set_cons_zero, List.set_cons_succ, i64_w, i32_w]; rfl)
      replace hkd : Hid (Sl (wd.drewN nx) KS nk (nums .u8 k)) := hkd.out
      replace hAd : Hid (Ers (wd.drewN nx) (some ⟨ga, oa, none⟩) rs) := ⟨hAd.out.sl, fun r hr => (hAd.out.each r hr).drewN nx⟩
      replace hXd : Hid (Blk (wd.drewN nx) gq 78 [.int .i64 kd, .slice KS nk ck, .int .u64 v]) := hXd.out
      replace hBd : Hid (Below gq w (wd.drewN nx)) := bel_drewN hBd.out nx
      clear hrin hHeld
      generalize wd.drewN nx = we at *
      rcases orderL_three r.e.k k r.e.v v with h3 | h3 | h3
      · rw [h3]
        refine pure_ (i := 18) (N := some 31) (v := ?_) (a' := ?_) #[tt,tt,tt,tt,tt,tt,tt,tt,tt,tt,tt,tt,tt,tt,tt,tt,tt,tt,tt,ff] rfl rfl (by kernel_rfl) (fun _ _ _ h => h) (Or.inl ⟨by rfl, ?_⟩) ?_ ?_; rotate_left; (intro w'; go_simp; with_reducible rfl); rotate_left; (simp only [Act.put, List.setIfInBounds_toArray, List.set_cons_zero, List.set_cons_succ, i64_w, i32_w]; rfl)
        refine pure_ (i := 19) (N := some 32) (v := ?_) (a' := ?_) #[tt,tt,tt,tt,tt,tt,tt,tt,tt,tt,tt,tt,tt,tt,tt,tt,tt,tt,tt,tt] rfl rfl (by kernel_rfl) (fun _ _ _ h => h) (Or.inl ⟨by rfl, ?_⟩) ?_ ?_; rotate_left; (intro w'; go_simp; with_reducible rfl); rotate_left; (simp only [Act.put, List.setIfInBounds_toArray, List.set_cons_zero, List.set_cons_succ, i64_w, i32_w]; rfl)
        refine done_ (by kernel_rfl) ?_
        have hfin : Hid (backE (rs.map ER.e) k v = (i : Int)) := by
          show _ = _
          have := backE_of HSO.out (i := i + 1) (by rw [List.length_map, HM.out]; omega) hbh.out (fun b _ hb => by
            rw [Nat.add_sub_cancel, List.getElem?_map, HR.out] at hb
            injection hb with hb
            rw [← hb]
            omega)
          rw [this]
          omega
        clear h3
        go_wp2
        go_ret
        exact ⟨by rw [hfin.out]; rfl, by rw [HGQ.out]; exact hBd.out⟩
      · rw [h3]
        refine pure_ (i := 18) (N := some 31) (v := ?_) (a' := ?_) #[tt,tt,tt,tt,tt,tt,tt,tt,tt,tt,tt,tt,tt,tt,tt,tt,tt,tt,tt,ff] rfl rfl (by kernel_rfl) (fun _ _ _ h => h) (Or.inl ⟨by rfl, ?_⟩) ?_ ?_; rotate_left; (intro w'; go_simp; with_reducible rfl); rotate_left; (simp only [Act.put, List.setIfInBounds_toArray, List.set_cons_zero, List.set_cons_succ, i64_w, i32_w]; rfl)
        refine pure_ (i := 19) (N := some 32) (v := ?_) (a' := ?_) #[tt,tt,tt,tt,tt,tt,tt,tt,tt,tt,tt,tt,tt,tt,tt,tt,tt,tt,tt,tt] rfl rfl (by kernel_rfl) (fun _ _ _ h => h) (Or.inl ⟨by rfl, ?_⟩) ?_ ?_; rotate_left; (intro w'; go_simp; with_reducible rfl); rotate_left; (simp only [Act.put, List.setIfInBounds_toArray, List.set_cons_zero, List.set_cons_succ, i64_w, i32_w]; rfl)
        refine done_ (by kernel_rfl) ?_
        have hfin : Hid (backE (rs.map ER.e) k v = (i : Int)) := by
          show _ = _
          have := backE_of HSO.out (i := i + 1) (by rw [List.length_map, HM.out]; omega) hbh.out (fun b _ hb => by
            rw [Nat.add_sub_cancel, List.getElem?_map, HR.out] at hb
            injection hb with hb
            rw [← hb]
            omega)
          rw [this]
          omega
        clear h3
        go_wp2
        go_ret
        exact ⟨by rw [hfin.out]; rfl, by rw [HGQ.out]; exact hBd.out⟩
      · rw [h3]
        refine pure_ (i := 18) (N := some 31) (v := ?_) (a' := ?_) #[tt,tt,tt,tt,tt,tt,tt,tt,tt,tt,tt,tt,tt,tt,tt,tt,tt,tt,tt,ff] rfl rfl (by kernel_rfl) (fun _ _ _ h => h) (Or.inl ⟨by rfl, ?_⟩) ?_ ?_; rotate_left; (intro w'; go_simp; with_reducible rfl); rotate_left; (simp only [Act.put, List.setIfInBounds_toArray, List.set_cons_zero, List.set_cons_succ, i64_w, i32_w]; rfl)
        refine pure_ (i := 19) (N := some 32) (v := ?_) (a' := ?_) #[tt,tt,tt,tt,tt,tt,tt,tt,tt,tt,tt,tt,tt,tt,tt,tt,tt,tt,tt,tt] rfl rfl (by kernel_rfl) (fun _ _ _ h => h) (Or.inl ⟨by rfl, ?_⟩) ?_ ?_; rotate_left; (intro w'; go_simp; with_reducible rfl); rotate_left; (simp only [Act.put, List.setIfInBounds_toArray, List.set_cons_zero, List.set_cons_succ, i64_w, i32_w]; rfl)
        refine done_ (by kernel_rfl) ?_
        have hnx : Hid (∀ (j : Nat) (b : Ent), i ≤ j → (rs.map ER.e)[j]? = some b → orderL b.k b.v k v = 1) := fun j b hj hb => by
          rcases Nat.lt_or_eq_of_le hj with h4 | h4
          · exact hbh.out j b h4 hb
          · rw [← h4, List.getElem?_map, HR.out] at hb
            injection hb with hb
            rw [← hb]
            exact h3
        clear h3
        go_wp2
        obtain ⟨gkO, rfl⟩ : ∃ q, gk = q + 1 := ⟨gk - 1, by have := hf.out; omega⟩
        go_roundg gkO
        case measure => omega
        case rel => exact ⟨i, (i : Int) - 1, by go_num, rfl, by omega, by have := hf.out; show _ ≤ _; omega, hnx.out, hAd.out, hkd.out, hXd.out, hBd.out⟩
end Go.Proofs.Ytanmgkpgfmkobaa

/- Lists of places, cell by cell. -/
namespace Go.Proofs.Ytanmgkpgfmkobaa
open Go.RowKit
set_option linter.unusedVariables false
set_option linter.unusedSimpArgs false
/-- A place as it lies: whether there is an entry, and the entry. -/
structure PR where
  ok : Bool
  r : ER
def PR.cells (p : PR) : List Value := .bool p.ok :: p.r.cells
def flatP (l : List PR) : List Value := l.flatMap PR.cells
theorem flatP_cons (a : PR) (l : List PR) : flatP (a :: l) = a.cells ++ flatP l := List.flatMap_cons ..
theorem flatP_append (a b : List PR) : flatP (a ++ b) = flatP a ++ flatP b := List.flatMap_append ..
theorem flatP_at : ∀ (l : List PR) (i j : Nat) (r : PR), l[i]? = some r → j < 7 → (flatP l)[i * 7 + j]? = r.cells[j]? := by
  intro l
  induction l with
  | nil => intro i j r h; simp at h
  | cons a l ih =>
    intro i j r h hj
    have hl : a.cells.length = 7 := rfl
    rw [flatP_cons]
    cases i with
    | zero =>
      simp only [List.getElem?_cons_zero, Option.some.injEq] at h
      subst h
      rw [List.getElem?_append_left (by omega), Nat.zero_mul, Nat.zero_add]
    | succ i =>
      rw [List.getElem?_append_right (by omega), show (i + 1) * 7 + j - a.cells.length = i * 7 + j by omega]
      exact ih i j r (by simpa using h) hj
theorem flatP_one (l : List PR) : ∀ u ∈ flatP l, u.oneCell' = true := by
  intro u hu
  obtain ⟨r, _, hr⟩ := List.mem_flatMap.1 hu
  unfold PR.cells at hr
  rcases List.mem_cons.1 hr with rfl | h
  · rfl
  · exact cells_one r.r u h
/-- A slice that reads as a list of places. -/
structure Prs (w : World) (A : Option Addr) (l : List PR) : Prop where
  sl : Sl w A (l.length * 7) (flatP l)
  each : ∀ p ∈ l, p.r.In w
theorem Prs.below {w w' : World} {A : Option Addr} {l : List PR} (h : Prs w A l) (hb : Below w.heap.size w w') : Prs w' A l := ⟨h.sl.below hb, fun r hr => (h.each r hr).below hb⟩
theorem Prs.nil (w : World) (A : Option Addr) : Prs w A [] := ⟨Sl.nil w A, fun r hr => by cases hr⟩
theorem infoPl : (Try.prog.info? 82).map (fun i => (i.zero, i.size, i.bytes)) = some (some (.agg #[.bool false, .slice none 0 0, .int .u64 0, .int .u8 0, .int .u8 0, .int .u64 0, .slice none 0 0]), 7, 80) := by kernel_rfl
/-- append of whatever slice of places. -/
theorem run_append_pl (w : World) (base ty : Nat) (v : Value) (n : Nat) (xs : List Value) (hown : w.ownsRow base 82 7 v n xs)
    (A : Option Addr) (m c : Nat) (news : List Value) (hr : Sl w A (m * 7) news) (h1 : ∀ u ∈ news, u.oneCell' = true) (hb : n + m ≤ 10000000000) (hbase : base ≤ w.heap.size) :
    ∃ v' w', (Builtin.append_ #[41, 41] ty #[v, .slice A m c]).run Try.prog w = .ok v' w' ∧ w'.ownsRow base 82 7 v' (n + m) (xs ++ news) ∧ w.grownBy w' v.ownBlock ∧ (v'.ownBlock = v.ownBlock ∨ v'.ownBlock = some w.heap.size) := by
  obtain ⟨i, hi, hz0, hz1, hz2⟩ := info_parts infoPl
  rcases Nat.eq_zero_or_pos m with h0 | h0
  · subst h0
    have hn : news = [] := List.eq_nil_of_length_eq_zero (by have := hr.1; omega)
    subst hn
    exact ⟨v, w, run_append_nothing w base 41 ty 82 i 7 Try.underlying41 hi v n xs hown A c (by cases A <;> simp), by simpa using hown, World.grownBy.refl w _, .inl rfl⟩
  · obtain ⟨g, o, rfl, hc⟩ := hr.2 (by omega)
    obtain ⟨v', w', hrun, h2, h3, _, h5⟩ := run_append_own_at (P := Try.prog) w base 41 ty 82 i _ 7 80 Try.underlying41 hi hz0 hz1 hz2 rfl (by omega) v n xs hown ⟨g, o, none⟩ m c news (by rw [hr.1])
      (Sl.adds ⟨hr.1, fun _ => ⟨g, o, rfl, hc⟩⟩) h1 (by simp only [maxLen]; omega) (by omega) hbase
    exact ⟨v', w', hrun, h2, h3, h5⟩
theorem wpList_append_pl {w : World} {ops : Array Oper} {rest : List Oper} {o : Oper} {a : Act} {Q : Exit → Act → World → Prop} (hgd : o.guard = none) (s x : Operand)
    (ho : o.op = .call { callee := .builtin .append, args := #[s, x], argTypes := #[41, 41] })
    (base : Nat) (v : Value) (n : Nat) (xs : List Value) (hs : a.eval s = v) (hown : w.ownsRow base 82 7 v n xs)
    (A : Option Addr) (m c : Nat) (news : List Value) (hx : a.eval x = .slice A m c) (hr : Sl w A (m * 7) news) (h1 : ∀ u ∈ news, u.oneCell' = true) (hb : n + m ≤ 10000000000) (hbase : base ≤ w.heap.size)
    (h : ∀ v' w', w'.ownsRow base 82 7 v' (n + m) (xs ++ news) → w.grownBy w' v.ownBlock → (v'.ownBlock = v.ownBlock ∨ v'.ownBlock = some w.heap.size) → wpList Try.prog ops Q rest (a.put o.dst v') w') : wpList Try.prog ops Q (o :: rest) a w := by
  refine wpList_plain hgd fun K hK => ?_
  obtain ⟨v', w', hrun, h2, h3, h4⟩ := run_append_pl w base o.type v n xs hown A m c news hr h1 hb hbase
  unfold Oper.wp execOp
  simp only [ho, resolve, invoke, builtin, Sem.run_bind, Sem.run_pure, Result.andThen_ok, List.map_toArray, List.map_cons, List.map_nil, hs, hx, hrun]
  exact hK _ _ (h v' w' h2 h3 h4)
theorem own_pl {w : World} {base n : Nat} {v : Value} {xs : List Value} (h : w.ownsRow base 82 7 v n xs) : ∃ A c, v = .slice A n c ∧ n ≤ c ∧ Sl w A (n * 7) xs ∧ ∀ b o, A = some ⟨b, o, none⟩ → base ≤ b ∧ b < w.heap.size := by
  have hlt := h.lt
  obtain ⟨hl, h2⟩ := h
  rcases h2 with ⟨rfl, rfl⟩ | ⟨g, cap, cur, rfl, hg, hh, hnc, hcm, hcs, ht⟩
  · exact ⟨none, 0, rfl, Nat.le_refl _, ⟨by simpa using hl, fun h => absurd h (by omega)⟩, fun b o e => by cases e⟩
  · refine ⟨some ⟨g, 0, none⟩, cap, rfl, hnc, ⟨by simpa using hl, fun _ => ⟨g, 0, rfl, fun j u hu => ?_⟩⟩, fun b o e => by injection e with e; injection e with e1 e2; subst e1; exact hlt g rfl⟩
    have h0 : w.ownsRow base 82 7 (.slice (some ⟨g, 0, none⟩) n cap) n xs := ⟨hl, .inr ⟨g, cap, cur, rfl, hg, hh, hnc, hcm, hcs, ht⟩⟩
    have hj : j < n * 7 := by have := (List.getElem?_eq_some_iff.1 hu).1; omega
    rw [Nat.zero_add, h0.cellAt j hj]
    exact hu
/-- A step, and where an iterator of both directions goes by it (out of range: nowhere). -/
structure StE where
  kind : Int
  k : List Int
  v : Int
def moveE (l : List Ent) (at_ : Int) (s : StE) : Option Int :=
  if s.kind = 0 then some 0 else if s.kind = 1 then some ((l.length : Int) - 1) else if s.kind = 4 then some (posE l s.k s.v) else if s.kind = 5 then some (backE l s.k s.v)
  else if s.kind = 2 ∧ 0 ≤ at_ ∧ at_ < l.length then some (at_ + 1) else if s.kind = 3 ∧ 0 ≤ at_ ∧ at_ < l.length then some (at_ - 1) else none
/-- The places behind each step, if all steps can be taken. -/
def walkE (l : List Ent) : Int → List StE → Option (List Int)
  | _, [] => some []
  | a, s :: r => (moveE l a s).bind fun b => (walkE l b r).map fun m => b :: m
end Go.Proofs.Ytanmgkpgfmkobaa

/- Where an iterator stands, as a number. -/
namespace Go.Proofs.Ytanmgkpgfmkobaa
open Go.RowKit
set_option linter.unusedVariables false
set_option linter.unusedSimpArgs false
/-- The node at which an iterator stands: none if the number is out of range. -/
def itV (s : SkA) (a : Int) : Value := if 0 ≤ a then ndP s a.toNat else .pointer none
theorem itV_nat (s : SkA) (j : Nat) : itV s (j : Int) = ndP s j := by unfold itV; rw [if_pos (by omega), Int.toNat_natCast]
theorem itV_in {s : SkA} {a : Int} (h0 : 0 ≤ a) (h1 : a < s.ns.length) : ∃ (j : Nat) (d : Nd), a = (j : Int) ∧ s.ns[j]? = some d ∧ itV s a = .pointer (some ⟨d.blk, 0, none⟩) := by
  obtain ⟨j, rfl⟩ := Int.eq_ofNat_of_zero_le h0
  obtain ⟨d, hd⟩ : ∃ d, s.ns[j]? = some d := ⟨_, List.getElem?_eq_getElem (by omega)⟩
  exact ⟨j, d, rfl, hd, by rw [itV_nat]; exact ndP_some hd⟩
theorem itV_out {s : SkA} {a : Int} (h : ¬ (0 ≤ a ∧ a < s.ns.length)) : itV s a = .pointer none := by
  unfold itV
  split
  · exact ndP_none (List.getElem?_eq_none (by omega))
  · rfl
theorem itV_bef {s : SkA} (p : Nat) (hp : p ≤ s.ns.length) : befP s p = itV s ((p : Int) - 1) := by
  cases p with
  | zero => rfl
  | succ j =>
    obtain ⟨d, hd⟩ : ∃ d, s.ns[j]? = some d := ⟨_, List.getElem?_eq_getElem (by omega)⟩
    rw [show ((j + 1 : Nat) : Int) - 1 = (j : Int) by omega, itV_nat, ndP_some hd]
    unfold befP
    rw [if_neg (by omega), plcP_succ s j d hd]
theorem itV_seek (s : SkA) (k : List Int) (v : Int) : ndP s (s.pos k v) = itV s (posE (s.ns.map Nd.e) k v) := (itV_nat s _).symm
theorem itV_back (s : SkA) (k : List Int) (v : Int) : backV s k v = itV s (backE (s.ns.map Nd.e) k v) := by
  unfold backV backE SkA.hit
  by_cases h : hitE (s.ns.map Nd.e) k v = true
  · rw [if_pos h, if_pos h]
    exact itV_seek s k v
  · rw [if_neg h, if_neg h]
    exact itV_bef _ (s.pos_le k v)
end Go.Proofs.Ytanmgkpgfmkobaa
