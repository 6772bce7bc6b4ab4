/- A commit. -/
import Derived.Test.YtanmgkpgfmkobaaOR
namespace Go.Proofs.Ytanmgkpgfmkobaa
open Go.Proofs.YtanmgkpgfmkobaaW.PrintLast
open Go.RowKit
set_option linter.unusedVariables false
set_option linter.unusedSimpArgs false
set_option maxRecDepth 100000
/-- append of one commit, in a region that draws. -/
theorem step_append_ct {ops : Array Oper} {o : Oper} {a : Act} {w : World} {K : Act → World → Prop} {Q : Exit → Act → World → Prop} {E : Prop} (hgd : o.guard = none) (s x : Operand)
    (ho : o.op = .call { callee := .builtin .append, args := #[s, x], argTypes := #[143, 143] })
    (base : Nat) (v : Value) (n : Nat) (xs : List Value) (hs : a.eval s = v) (hown : w.ownsRow base 184 2 v n xs)
    (g c : Nat) (news : List Value) (hx : a.eval x = .slice (some ⟨g, 0, none⟩) 1 c) (hl : news.length = 2) (hb : Blk w g 184 news) (h1 : ∀ u ∈ news, u.oneCell' = true)
    (hn : n ≤ 1000000) (hbase : base ≤ w.heap.size)
    (h : ∀ v' w', w'.ownsRow base 184 2 v' (n + 1) (xs ++ news) → w.grownBy w' v.ownBlock → (v'.ownBlock = v.ownBlock ∨ v'.ownBlock = some w.heap.size) → K (a.put o.dst v') w') :
    if Region.wanted o (yielded ops a.tmps) = true then Oper.wp Try.prog o a w K Q else E := by
  have hw : Region.wanted o (yielded ops a.tmps) = true := by simp [Region.wanted, hgd]
  rw [if_pos hw]
  obtain ⟨i, hi, hf⟩ := info_someO infoCT
  simp only [Prod.mk.injEq] at hf
  obtain ⟨hz0, hz1, hz2⟩ := hf
  obtain ⟨v', w', hrun, h2, h3, _, h4⟩ := run_append_own_at (P := Try.prog) w base 143 o.type 184 i _ 2 16 Try.underlying143 hi hz0 hz1 hz2 rfl (by omega) v n xs hown ⟨g, 0, none⟩ 1 c news (by omega)
    (fun j u hu => by
      have e : (⟨g, 0, none⟩ : Addr).add j = ⟨g, j, none⟩ := by cases j <;> simp [Addr.add]
      rw [e, hb.cell]
      exact hu) h1 (by simp [maxLen]; omega) (by omega) hbase
  unfold Oper.wp execOp
  simp only [ho, resolve, invoke, builtin, Sem.run_bind, Sem.run_pure, Result.andThen_ok, List.map_toArray, List.map_cons, List.map_nil, hs, hx, hrun]
  exact h v' w' h2 h3 h4
section
variable {B N K : Nat} {p : OP} {cf : Bool} {r : ORun} {w : World} {ow : Nat → Nat}
theorem done_com (s : OSt) (t : Nat) (x : OTx) : (s.done t x).com = s.com := by unfold OSt.done; split <;> rfl
/-- The number of the next commit. -/
theorem Ora.incr (h : Ora B N p cf r w ow) : ∃ ow', Ora B N p cf { r with s := { r.s with next := r.s.next + 1 } } (w.setCell ⟨p.O, 2, none⟩ (.int .u64 ((r.s.next + 1 : Nat) : Int))) ow' ∧ Stp ow w ow' (w.setCell ⟨p.O, 2, none⟩ (.int .u64 ((r.s.next + 1 : Nat) : Int))) := by
  obtain ⟨cv, h1, h2, h3, h4, h5⟩ := h.comp 1
  have hf := Frm.set w ⟨p.O, 2, none⟩ (.int .u64 ((r.s.next + 1 : Nat) : Int))
  refine ⟨_, h.turn (k0 := 1) (N' := N) (L := [p.O]) hf (fun b hb _ => by rw [List.mem_singleton] at hb; subst hb; exact h5 _ (by simp)) (Nat.le_refl _) h.len ⟨cv, h1.frm hf ?_, h2.set_ 2 _, owns_of h3 (fun b hb => hf.block b (h3.lt b (Option.mem_toList.1 hb)).2 ?_), h4, fun b hb => ?_⟩ fun k hk hc => ?_⟩
  · rw [List.mem_singleton]
    exact blk_neO h1 h2 (by decide)
  · rw [List.mem_singleton]
    intro e
    rcases h3.2 with ⟨hv, _⟩ | ⟨g, cap, cur, hv, _, hh, _⟩
    · rw [hv] at hb; cases hb
    · rw [hv] at hb
      simp only [Value.ownBlock, Option.toList_some, List.mem_singleton] at hb
      have hb2 : Blk w g 184 cur.toList := by unfold Blk; rw [Array.toArray_toList]; exact hh
      exact blk_neO hb2 h2 (by decide) (by rw [← hb, e])
  · have hbo := h5 b hb
    rw [upO_old (ow_lt h (by rw [hbo]; decide)), hbo]
  · match k, hk, hc with
    | 0, _, _ => trivial
    | 1, hk, _ => exact absurd rfl hk
    | 2, _, hc => exact hc
    | 3, _, hc => exact hc
    | t + 4, _, hc => exact hc
def comP (cf : Bool) (r : ORun) (t : Nat) (x : OTx) : ORun :=
  let s1 := (r.s.done t x).clean cf
  ⟨{ s1 with next := s1.next + 1, com := if cf = true then s1.com ++ [(s1.next, t)] else s1.com }, r.tm.proc s1.next 1, r.gs⟩
set_option maxHeartbeats 4000000 in
theorem newCommit_hit (h : Ora B N p cf r w ow) {t : Nat} {x : OTx} {q : Nat × Nat} (hx : r.s.txs[t]? = some x) (hq : r.gs[t]? = some q) (hl : x.reads.length ≤ 1000000) (hlc : r.s.com.length ≤ 1000000) (hwf : ∀ k ∈ x.reads, (Lit.int .u64 k).wf = true) (hh : r.s.hits x = true) :
    Calls Try.prog 88 #[.pointer (some ⟨p.O, 0, none⟩), .pointer (some ⟨q.1, 0, none⟩)] w (ActP B N p cf r (.tuple #[.int .u64 0, .bool true]) ow w) := by
  have HC := Lib.hid (hasConflict_any h hx hq hl hlc hwf)
  have H := Lib.hid h
  have HH := Lib.hid hh
  clear h hx hq hwf hh
  rw [HH.out] at HC
  go_enter Try.func88, Try.ntmps88
  go_wp2_with fail
  refine HC.out.mono ?_
  rintro E w' ⟨rfl, hf⟩
  have HF := Lib.hid hf
  clear hf
  go_wp2
  go_ret2
  exact ⟨rfl, ow, H.out.idle HF.out (fun b hb => by cases hb), Stp.of_frm HF.out (fun b hb => by cases hb)⟩
set_option maxHeartbeats 4000000 in
theorem newCommit_ok (h : Ora B N p cf r w ow) (ok : OOk r.s) (hm : MB K r.s.rmk) (hm2 : MB K r.tm) (hK : K ≤ 10000) (hN : N ≤ 100000) {t : Nat} {x : OTx} {q : Nat × Nat} (hx : r.s.txs[t]? = some x) (hq : r.gs[t]? = some q) (hl : x.reads.length ≤ 1000000) (hlc : r.s.com.length ≤ 1000000) (hwf : ∀ k ∈ x.reads, (Lit.int .u64 k).wf = true) (hh : r.s.hits x = false) (hr : x.rts ≤ 100000) (hnx : r.s.next ≤ 100000) :
    Calls Try.prog 88 #[.pointer (some ⟨p.O, 0, none⟩), .pointer (some ⟨q.1, 0, none⟩)] w (ActP B (N + 2) p cf (comP cf r t x) (.tuple #[.int .u64 ((((r.s.done t x).clean cf).next : Nat) : Int), .bool false]) ow w) := by
  have HC := Lib.hid (hasConflict_any h hx hq hl hlc hwf)
  have H := Lib.hid h
  have HH := Lib.hid hh
  have HX := Lib.hid hx
  have HQ := Lib.hid hq
  have HM := Lib.hid hm
  have HM2 := Lib.hid hm2
  obtain ⟨k1, k2, k3⟩ := ok.done hx
  obtain ⟨l1, l2, l3, l4⟩ := k1.clean cf
  have hlcd : Hid ((r.s.done t x).lc ≤ (r.s.done t x).rmk.til) := k1.lc
  have hs1n : ((r.s.done t x).clean cf).next = r.s.next := by rw [l3, k3]
  have hs1l : ((r.s.done t x).clean cf).lc ≤ ((r.s.done t x).clean cf).next := by
    have := l1.lc
    have := l1.mok.til
    omega
  have HS1N := Lib.hid hs1n
  have HS1L := Lib.hid hs1l
  have HCL : Hid (((r.s.done t x).clean cf).com.length ≤ 1000000) := by
    unfold OSt.clean
    have e := done_com r.s t x
    split
    · split
      · rw [Hid, e]; exact hlc
      · have h1 := List.length_filter_le (fun c : Nat × Nat => decide ((r.s.done t x).rmk.til < c.1)) (r.s.done t x).com
        rw [e] at h1
        show (List.filter _ (r.s.done t x).com).length ≤ _
        rw [e]
        omega
    · rw [Hid, e]; exact hlc
  clear h hx hq hwf hh hm hm2 k1 k2 k3 l1 l2 l3 l4 hs1n hs1l ok
  rw [HH.out] at HC
  go_enter Try.func88, Try.ntmps88
  go_wp2_with fail
  refine HC.out.mono ?_
  rintro E w1 ⟨rfl, hf⟩
  have HO1 : Hid (Ora B N p cf r w1 ow) := H.out.idle hf (fun b hb => by cases hb)
  have HS1 : Hid (Stp ow w ow w1) := Stp.of_frm hf (fun b hb => by cases hb)
  clear hf HC H
  have o0 := HO1.out.o0
  go_wp2_with fail
  refine (doneRead_any HO1.out HM.out (by omega) (by omega) HX.out HQ.out (by omega)).mono ?_
  rintro E w2 ⟨rfl, ow2, ho2, hs2⟩
  have HO2 := Lib.hid ho2
  have HS2 := Lib.hid (HS1.out.trans hs2)
  clear ho2 hs2 HS1 HO1 o0
  go_wp2_with fail
  refine (cleanup_any HO2.out hlcd.out (by show (r.s.done t x).com.length ≤ _; rw [done_com]; exact hlc)).mono ?_
  rintro E w3 ⟨rfl, ow3, ho3, hs3⟩
  have HO3 : Hid (Ora B (N + 1) p cf { r with s := (r.s.done t x).clean cf } w3 ow3) := ho3
  have HS3 := Lib.hid (HS2.out.trans hs3)
  clear ho3 hs3 HS2 HO2
  have hcp : Hid (comP cf r t x = ⟨{ (r.s.done t x).clean cf with next := ((r.s.done t x).clean cf).next + 1, com := if cf = true then ((r.s.done t x).clean cf).com ++ [(((r.s.done t x).clean cf).next, t)] else ((r.s.done t x).clean cf).com }, r.tm.proc ((r.s.done t x).clean cf).next 1, r.gs⟩) := rfl
  generalize (r.s.done t x).clean cf = s1 at *
  have o2 := HO3.out.o2
  obtain ⟨_, _, hob, _⟩ := HO3.out.comp 1
  have f2 := hob.frozen 2
  clear hob
  have hn0 : (0 : Int) ≤ (s1.next : Int) := by omega
  have hn1 : (s1.next : Int) ≤ 100000 := by have := HS1N.out; omega
  go_upto_region 9 with fail
  obtain ⟨ow4, ho4, hs4⟩ := HO3.out.incr
  have e1 : (((s1.next + 1 : Nat)) : Int) = (s1.next : Int) + 1 := by omega
  rw [show (({ r with s := s1 } : ORun).s.next + 1 : Nat) = s1.next + 1 from rfl, e1] at ho4 hs4
  have HO4 := Lib.hid ho4
  have HS4 := Lib.hid (HS3.out.trans hs4)
  clear ho4 hs4 HS3 HO3 o2 f2 e1
  generalize w3.setCell ⟨p.O, 2, none⟩ (.int .u64 ((s1.next : Int) + 1)) = w4 at *
  have o3 := HO4.out.o3
  go_wp2_with fail
  refine (begin2 HO4.out (K := K) HM2.out (by omega) s1.next (by have := HS1N.out; omega) (by omega)).mono ?_
  rintro E w5 ⟨rfl, ow5, ho5, hs5⟩
  have HO5 : Hid (Ora B (N + 2) p cf ⟨{ s1 with next := s1.next + 1 }, r.tm.proc s1.next 1, r.gs⟩ w5 ow5) := ho5
  have HS5 := Lib.hid (HS4.out.trans hs5)
  clear ho5 hs5 HS4 HO4 o3
  have o7 : w5.cell? ⟨p.O, 7, none⟩ = some (.int .u64 (s1.lc : Int)) := HO5.out.o7
  have hle : (s1.lc : Int) ≤ (s1.next : Int) := by have := HS1L.out; omega
  go_wp2_with fail
  refine (assertO w5).mono ?_
  rintro E w6 ⟨rfl, rfl⟩
  have o1 := HO5.out.o1
  cases cf with
  | false =>
    go_wp2
    go_ret2
    exact ⟨rfl, ow5, by rw [hcp.out]; exact HO5.out, HS5.out⟩
  | true =>
    obtain ⟨cv, hp1, ho1, hcr, hcl, hco⟩ := HO5.out.comp 1
    have HP1 := Lib.hid hp1
    have HOB : Hid (Blk w5 p.O 145 (oraC true (s1.next + 1) p cv s1.lc)) := ho1
    have HCR : Hid (w5.ownsRow B 184 2 cv s1.com.length (comV r.gs s1.com)) := hcr
    have HCLL := Lib.hid hcl
    have HCO := Lib.hid hco
    obtain ⟨x1, hx1⟩ : ∃ x1, s1.txs[t]? = some x1 := ⟨_, List.getElem?_eq_getElem (by
      have h1 : r.gs.length = s1.txs.length := HO5.out.len
      have h2 := (List.getElem?_eq_some_iff.1 HQ.out).1
      omega)⟩
    obtain ⟨rv, htx, htxo⟩ := HO5.out.tx (t := t) hx1 HQ.out
    have o6 : w5.cell? ⟨p.O, 6, none⟩ = some cv := HOB.out.at_ rfl
    have x3 : w5.cell? ⟨q.1, 3, none⟩ = some (.map (some q.2)) := htx.1.at_ rfl
    have HTX := Lib.hid htx
    clear hp1 ho1 hcr hcl hco hx1 htx htxo o7 hle
    have hBB : Hid (B ≤ w5.heap.size) := HO5.out.base
    go_wp2_with fail
    refine start_ (n := 16) (S := fun w' => w'.cell? ⟨p.O, 6, none⟩ = some cv ∧ w'.cell? ⟨q.1, 3, none⟩ = some (.map (some q.2))) (ds := [15]) #[ff,ff,ff,ff,ff,ff,ff,ff,ff,ff,ff,ff,ff,ff,ff,ff] (by kernel_rfl) rfl rfl (⟨o6, x3⟩) (fun hHeld => ?_)
    have hO6 : Hid (Ora B (N + 2) p true ⟨{ s1 with next := s1.next + 1 }, r.tm.proc s1.next 1, r.gs⟩ w5.drew ow5) := HO5.out.idle (Frm.refl [] w5).drew (fun b hb => by cases hb)
    have hS6 : Hid (Stp ow w ow5 w5.drew) := HS5.out.trans (Stp.of_frm (Frm.refl [] w5).drew (fun b hb => by cases hb))
    have hK6 : Hid (Blk w5.drew p.O 145 (oraC true (s1.next + 1) p cv s1.lc)) := HOB.out
    have hR6 : Hid (w5.drew.ownsRow B 184 2 cv s1.com.length (comV r.gs s1.com)) := HCR.out
    have hP6 : Hid (Blk w5.drew p.P 147 [.pointer (some ⟨p.O, 0, none⟩)]) := HP1.out
    have hX6 : Hid (Blk w5.drew q.1 150 [.int .u64 (x1.rts : Int), .int .u64 0, rv, .map (some q.2), .bool x1.dr]) := HTX.out.1
    clear HO5 HS5 HOB HCR HP1 HTX o6 x3 o1 hBB
    generalize w5.drew = w6 at *
    refine pure_ (i := 0) (N := some 52) (v := ?_) (a' := ?_) #[tt,ff,ff,ff,ff,ff,ff,ff,ff,ff,ff,ff,ff,ff,ff,ff] rfl rfl (by kernel_rfl) (fun _ _ _ h => h) (Or.inl ⟨by rfl, ?_⟩) ?_ ?_; rotate_left; (intro w'; go_simp; with_reducible rfl); rotate_left; (simp only [Act.put, List.setIfInBounds_toArray, List.set_cons_zero, List.set_cons_succ, i64_w, i32_w]; rfl)
    refine pure_ (i := 1) (N := some 53) (v := ?_) (a' := ?_) #[tt,tt,ff,ff,ff,ff,ff,ff,ff,ff,ff,ff,ff,ff,ff,ff] rfl rfl (by kernel_rfl) (fun _ _ _ h => h) (Or.inl ⟨by rfl, ?_⟩) ?_ ?_; rotate_left; (intro w'; go_simp; with_reducible rfl); rotate_left; (simp only [Act.put, List.setIfInBounds_toArray, List.set_cons_zero, List.set_cons_succ, i64_w, i32_w]; rfl)
    refine pure_ (i := 2) (N := some 54) (v := ?_) (a' := ?_) #[tt,tt,tt,ff,ff,ff,ff,ff,ff,ff,ff,ff,ff,ff,ff,ff] rfl rfl (by kernel_rfl) (fun _ _ _ h => h) (Or.inl ⟨by rfl, ?_⟩) ?_ ?_; rotate_left; (intro w'; go_simp; with_reducible rfl); rotate_left; (simp only [Act.put, List.setIfInBounds_toArray, List.set_cons_zero, List.set_cons_succ, i64_w, i32_w]; rfl)
    refine pure_ (i := 3) (N := some 55) (v := ?_) (a' := ?_) #[tt,tt,tt,tt,ff,ff,ff,ff,ff,ff,ff,ff,ff,ff,ff,ff] rfl rfl (by kernel_rfl) (fun _ _ _ h => h) (Or.inl ⟨by rfl, ?_⟩) ?_ ?_; rotate_left; (intro w'; go_simp; with_reducible rfl); rotate_left; (simp only [Act.put, List.setIfInBounds_toArray, List.set_cons_zero, List.set_cons_succ, i64_w, i32_w]; rfl)
    refine take_ (i := 4) (N := some 56) (v := ?_) (a' := ?_) #[tt,tt,tt,tt,tt,ff,ff,ff,ff,ff,ff,ff,ff,ff,ff,ff] rfl rfl (by kernel_rfl) (fun _ _ _ h => h) (Or.inl ⟨by rfl, ?_⟩) hHeld ?_ ?_; rotate_left; (rintro w' ⟨d0, d1⟩; go_simp; with_reducible rfl); rotate_left; (simp only [Act.put, List.setIfInBounds_toArray, List.set_cons_zero, List.set_cons_succ, i64_w, i32_w]; rfl)
    refine pure_ (i := 5) (N := some 57) (v := ?_) (a' := ?_) #[tt,tt,tt,tt,tt,tt,ff,ff,ff,ff,ff,ff,ff,ff,ff,ff] rfl rfl (by kernel_rfl) (fun _ _ _ h => h) (Or.inl ⟨by rfl, ?_⟩) ?_ ?_; rotate_left; (intro w'; go_simp; with_reducible rfl); rotate_left; (simp only [Act.put, List.setIfInBounds_toArray, List.set_cons_zero, List.set_cons_succ, i64_w, i32_w]; rfl)
    refine pure_ (i := 6) (N := some 58) (v := ?_) (a' := ?_) #[tt,tt,tt,tt,tt,tt,tt,ff,ff,ff,ff,ff,ff,ff,ff,ff] rfl rfl (by kernel_rfl) (fun _ _ _ h => h) (Or.inl ⟨by rfl, ?_⟩) ?_ ?_; rotate_left; (intro w'; go_simp; with_reducible rfl); rotate_left; (simp only [Act.put, List.setIfInBounds_toArray, List.set_cons_zero, List.set_cons_succ, i64_w, i32_w]; rfl)
    refine pure_ (i := 7) (N := some 59) (v := ?_) (a' := ?_) #[tt,tt,tt,tt,tt,tt,tt,tt,ff,ff,ff,ff,ff,ff,ff,ff] rfl rfl (by kernel_rfl) (fun _ _ _ h => h) (Or.inl ⟨by rfl, ?_⟩) ?_ ?_; rotate_left; (intro w'; go_simp; with_reducible rfl); rotate_left; (simp only [Act.put, List.setIfInBounds_toArray, List.set_cons_zero, List.set_cons_succ, i64_w, i32_w]; rfl)
    refine pure_ (i := 8) (N := some 60) (v := ?_) (a' := ?_) #[tt,tt,tt,tt,tt,tt,tt,tt,tt,ff,ff,ff,ff,ff,ff,ff] rfl rfl (by kernel_rfl) (fun _ _ _ h => h) (Or.inl ⟨by rfl, ?_⟩) ?_ ?_; rotate_left; (intro w'; go_simp; with_reducible rfl); rotate_left; (simp only [Act.put, List.setIfInBounds_toArray, List.set_cons_zero, List.set_cons_succ, i64_w, i32_w]; rfl)
    refine take_ (i := 9) (N := some 61) (v := ?_) (a' := ?_) #[tt,tt,tt,tt,tt,tt,tt,tt,tt,tt,ff,ff,ff,ff,ff,ff] rfl rfl (by kernel_rfl) (fun _ _ _ h => h) (Or.inl ⟨by rfl, ?_⟩) hHeld ?_ ?_; rotate_left; (rintro w' ⟨d0, d1⟩; go_simp; with_reducible rfl); rotate_left; (simp only [Act.put, List.setIfInBounds_toArray, List.set_cons_zero, List.set_cons_succ, i64_w, i32_w]; rfl)
    refine pure_ (i := 10) (N := some 62) (v := ?_) (a' := ?_) #[tt,tt,tt,tt,tt,tt,tt,tt,tt,tt,tt,ff,ff,ff,ff,ff] rfl rfl (by kernel_rfl) (fun _ _ _ h => h) (Or.inl ⟨by rfl, ?_⟩) ?_ ?_; rotate_left; (intro w'; go_simp; with_reducible rfl); rotate_left; (simp only [Act.put, List.setIfInBounds_toArray, List.set_cons_zero, List.set_cons_succ, i64_w, i32_w]; rfl)
    refine one_ (i := 11) (N := some 63) #[tt,tt,tt,tt,tt,tt,tt,tt,tt,tt,tt,tt,ff,ff,ff,ff] rfl rfl (by kernel_rfl) (by decide) (fun K hK => ?_)
    refine Go.Proofs.YtanmgkpgfmkobaaW.PrintLast.value_ (v := .slice (some ⟨w6.heap.size, 0, none⟩) 1 1) (w1 := w6.alloc (.cells #[.int .u64 (s1.next : Int), .map (some q.2)] 184)) (by rfl) rfl ?_ ?_
    · go_simp
      try rfl
    refine hK.out _ _ (⟨cell_frm hHeld.1 (Frm.alloc w6 _) (by simp), cell_frm hHeld.2 (Frm.alloc w6 _) (by simp)⟩) (fun hHeld => ?_); clear hK K; refine norm_ (a' := ?_) ?_ ?_; rotate_left; (show Act.put _ (some 63) _ = _; simp only [Act.put, List.setIfInBounds_toArray, List.set_cons_zero, List.set_cons_succ, i64_w, i32_w]; rfl)
    have hn7 : Hid (Blk (w6.alloc (.cells #[.int .u64 (s1.next : Int), .map (some q.2)] 184)) w6.heap.size 184 [.int .u64 (s1.next : Int), .map (some q.2)]) := Blk.new w6 _ _
    have hf7 : Hid (Frm [] w6 (w6.alloc (.cells #[.int .u64 (s1.next : Int), .map (some q.2)] 184))) := Frm.alloc w6 _
    have hB7 : Hid (B ≤ (w6.alloc (.cells #[.int .u64 (s1.next : Int), .map (some q.2)] 184)).heap.size) := by have h1 := hO6.out.base; rw [Hid, World.size_alloc]; omega
    have hR7 : Hid ((w6.alloc (.cells #[.int .u64 (s1.next : Int), .map (some q.2)] 184)).ownsRow B 184 2 cv s1.com.length (comV r.gs s1.com)) := owns_of hR6.out (fun b hb => hf7.out.block b (hR6.out.lt b (Option.mem_toList.1 hb)).2 (by simp))
    have hz7 : Hid ((w6.alloc (.cells #[.int .u64 (s1.next : Int), .map (some q.2)] 184)).heap.size = w6.heap.size + 1) := World.size_alloc w6 _
    generalize hg6 : w6.heap.size = g6 at *
    generalize w6.alloc (.cells #[.int .u64 (s1.next : Int), .map (some q.2)] 184) = w7 at *
    refine one_ (i := 12) (N := some 64) #[tt,tt,tt,tt,tt,tt,tt,tt,tt,tt,tt,tt,tt,ff,ff,ff] rfl rfl (by kernel_rfl) (by decide) (fun K hK => ?_)
    refine step_append_ct rfl (.tmp 56) (.tmp 63) rfl B cv s1.com.length (comV r.gs s1.com) rfl hR7.out g6 1 [.int .u64 (s1.next : Int), .map (some q.2)] rfl rfl hn7.out (by simp [Value.oneCell']) HCL.out hB7.out ?_
    intro v8 w8 ho8 hg8 hat8
    obtain ⟨A8, c8, rfl⟩ : ∃ A c, v8 = .slice A (s1.com.length + 1) c := by
      rcases ho8.2 with ⟨_, h0⟩ | ⟨g, cap, cur, rfl, _⟩
      · omega
      · exact ⟨_, _, rfl⟩
    have HO8 := Lib.hid ho8
    have HA8 := Lib.hid hat8
    have HF8 : Hid (Frm cv.ownBlock.toList w6 w8) := (hf7.out.mono (fun _ h => by cases h)).trans (frmRowO hg8) (fun j hj => .inl hj)
    have hne : Hid (∀ g t cs, Blk w6 g t cs → t ≠ 184 → g ∉ cv.ownBlock.toList) := fun g t cs hb ht hm => by
      rcases hR6.out.2 with ⟨rfl, _⟩ | ⟨g', cap, cur, rfl, _, hh, _⟩
      · cases hm
      · simp only [Value.ownBlock, Option.toList_some, List.mem_singleton] at hm
        subst hm
        have hb2 : Blk w6 g 184 cur.toList := by unfold Blk; rw [Array.toArray_toList]; exact hh
        exact blk_neO hb hb2 ht rfl
    have hK8 : Hid (Blk w8 p.O 145 (oraC true (s1.next + 1) p cv s1.lc)) := hK6.out.frm HF8.out (hne.out _ _ _ hK6.out (by decide))
    have hP8 : Hid (Blk w8 p.P 147 [.pointer (some ⟨p.O, 0, none⟩)]) := hP6.out.frm HF8.out (hne.out _ _ _ hP6.out (by decide))
    have hX8 : Hid (Blk w8 q.1 150 [.int .u64 (x1.rts : Int), .int .u64 0, rv, .map (some q.2), .bool x1.dr]) := hX6.out.frm HF8.out (hne.out _ _ _ hX6.out (by decide))
    have z6 : w8.cell? ⟨p.O, 6, none⟩ = some cv := hK8.out.at_ rfl
    clear ho8 hg8 hat8
    refine hK.out _ _ (⟨hK8.out.at_ rfl, hX8.out.at_ rfl⟩) (fun hHeld => ?_); clear hK K; refine norm_ (a' := ?_) ?_ ?_; rotate_left; (show Act.put _ (some 64) _ = _; simp only [Act.put, List.setIfInBounds_toArray, List.set_cons_zero, List.set_cons_succ, i64_w, i32_w]; rfl)
    refine pure_ (i := 13) (N := some 65) (v := ?_) (a' := ?_) #[tt,tt,tt,tt,tt,tt,tt,tt,tt,tt,tt,tt,tt,tt,ff,ff] rfl rfl (by kernel_rfl) (fun _ _ _ h => h) (Or.inl ⟨by rfl, ?_⟩) ?_ ?_; rotate_left; (intro w'; go_simp; with_reducible rfl); rotate_left; (simp only [Act.put, List.setIfInBounds_toArray, List.set_cons_zero, List.set_cons_succ, i64_w, i32_w]; rfl)
    refine pure_ (i := 14) (N := some 66) (v := ?_) (a' := ?_) #[tt,tt,tt,tt,tt,tt,tt,tt,tt,tt,tt,tt,tt,tt,tt,ff] rfl rfl (by kernel_rfl) (fun _ _ _ h => h) (Or.inl ⟨by rfl, ?_⟩) ?_ ?_; rotate_left; (intro w'; go_simp; with_reducible rfl); rotate_left; (simp only [Act.put, List.setIfInBounds_toArray, List.set_cons_zero, List.set_cons_succ, i64_w, i32_w]; rfl)
    have f6 := hK8.out.frozen 6
    refine last_ (i := 15) (N := none) #[tt,tt,tt,tt,tt,tt,tt,tt,tt,tt,tt,tt,tt,tt,tt,tt] rfl rfl (by kernel_rfl) (by decide) (fun K hK => ?_)
    refine Go.Proofs.YtanmgkpgfmkobaaW.PrintLast.skip_ (w1 := w8.setCell ⟨p.O, 6, none⟩ (.slice A8 (s1.com.length + 1) c8)) (by rfl) rfl ?_ ?_
    · simp [go_sem, f6, z6]
    refine hK.out _ _ ?_; clear hK K
    refine done_ (by kernel_rfl) ?_
    clear z6 f6 hHeld
    have hfin : ∃ ow', Ora B (N + 2) p true (comP true r t x) (w8.setCell ⟨p.O, 6, none⟩ (.slice A8 (s1.com.length + 1) c8)) ow' ∧ Stp ow w ow' (w8.setCell ⟨p.O, 6, none⟩ (.slice A8 (s1.com.length + 1) c8)) := by
      have hfs := Frm.set w8 ⟨p.O, 6, none⟩ (.slice A8 (s1.com.length + 1) c8)
      have hff : Frm (p.O :: cv.ownBlock.toList) w6 (w8.setCell ⟨p.O, 6, none⟩ (.slice A8 (s1.com.length + 1) c8)) := (HF8.out.mono (fun b hb => .inl (List.mem_cons_of_mem _ hb))).andSet _ _ (.inl (List.mem_cons_self ..))
      have hne8 : p.O ∉ (Value.slice A8 (s1.com.length + 1) c8).ownBlock.toList := fun hm => by
        rcases HO8.out.2 with ⟨h0, _⟩ | ⟨g', cap, cur, hv, _, hh, _⟩
        · rw [h0] at hm; cases hm
        · rw [hv] at hm
          simp only [Value.ownBlock, Option.toList_some, List.mem_singleton] at hm
          have hb2 : Blk w8 g' 184 cur.toList := by unfold Blk; rw [Array.toArray_toList]; exact hh
          exact blk_neO hK8.out hb2 (by decide) hm
      rw [hcp.out]
      obtain ⟨h1, h2⟩ := hO6.out.turn (k0 := 1) (N' := N + 2) (r' := ⟨{ s1 with next := s1.next + 1, com := s1.com ++ [(s1.next, t)] }, r.tm.proc s1.next 1, r.gs⟩) hff (fun b hb _ => HCO.out b (List.mem_cons_of_mem _ hb)) (Nat.le_refl _) hO6.out.len
        ⟨.slice A8 (s1.com.length + 1) c8, hP8.out.frm hfs (by rw [List.mem_singleton]; exact blk_neO hP8.out hK8.out (by decide)), hK8.out.set_ 6 _, owns_of (by
          show World.ownsRow _ _ _ _ _ (s1.com ++ [(s1.next, t)]).length (comV r.gs (s1.com ++ [(s1.next, t)]))
          rw [comV_app, List.length_append, show comV r.gs [(s1.next, t)] = [.int .u64 (s1.next : Int), .map (some q.2)] by show [Value.int .u64 (s1.next : Int), .map ((r.gs[t]?).map (·.2))] ++ [] = _; rw [HQ.out]; rfl]
          exact HO8.out) (fun b hb => hfs.block b (HO8.out.lt b (Option.mem_toList.1 hb)).2 (by rw [List.mem_singleton]; exact fun e => hne8 (by have e : b = p.O := e; rw [← e]; exact hb))), (fun c hc => by
          rcases List.mem_append.1 hc with hc | hc
          · exact HCLL.out c hc
          · rw [List.mem_singleton] at hc
            subst hc
            exact (List.getElem?_eq_some_iff.1 HQ.out).1), fun b hb => upO_at (by
          rcases List.mem_cons.1 hb with rfl | hb
          · have := (hP8.out.frm hfs (by rw [List.mem_singleton]; exact blk_neO hP8.out hK8.out (by decide))).lt; exact this
          · rcases List.mem_cons.1 hb with rfl | hb
            · exact (hK8.out.set_ 6 (.slice A8 (s1.com.length + 1) c8)).lt
            · exact Nat.lt_of_lt_of_le (HO8.out.lt b (Option.mem_toList.1 hb)).2 hfs.size) fun hlt => by
          rcases List.mem_cons.1 hb with rfl | hb
          · exact HCO.out _ (by simp)
          · rcases List.mem_cons.1 hb with rfl | hb
            · exact HCO.out _ (by simp)
            · rcases HA8.out with e | e
              · exact HCO.out b (by rw [e] at hb; simp only [List.mem_cons]; exact .inr (.inr hb))
              · rw [e] at hb
                simp only [Option.toList_some, List.mem_singleton] at hb
                have := hz7.out
                omega⟩ (fun k hk hc => by
        match k, hk, hc with
        | 0, _, _ => trivial
        | 1, hk, _ => exact absurd rfl hk
        | 2, _, hc => exact hc
        | 3, _, hc => exact hc
        | t + 4, _, hc => exact hc)
      exact ⟨_, h1, hS6.out.trans h2⟩
    have HFIN := Lib.hid hfin
    clear hfin
    go_wp2
    go_ret2
    exact ⟨rfl, HFIN.out⟩
end
end Go.Proofs.Ytanmgkpgfmkobaa
