/- Commits that none can meet any more are let go. -/
import Derived.Test.YtanmgkpgfmkobaaOQ
namespace Go.Proofs.Ytanmgkpgfmkobaa
open Go.RowKit
set_option linter.unusedVariables false
set_option linter.unusedSimpArgs false
set_option maxRecDepth 100000
theorem infoCT : (Try.prog.info? 184).map (fun i => (i.zero, i.size, i.bytes)) = some (some (.agg #[.int .u64 0, .map none]), 2, 16) := by kernel_rfl
/-- append of one commit where there is room. -/
theorem wpList_append_in {ops : Array Oper} {rest : List Oper} {o : Oper} {a : Act} {w : World} {Q : Exit → Act → World → Prop} (hgd : o.guard = none) (s x : Operand)
    (ho : o.op = .call { callee := .builtin .append, args := #[s, x], argTypes := #[143, 143] })
    (g m c : Nat) (cs : List Value) (hs : a.eval s = .slice (some ⟨g, 0, none⟩) m c) (hb : Blk w g 184 cs)
    (gx cx : Nat) (news : List Value) (hx : a.eval x = .slice (some ⟨gx, 0, none⟩) 1 cx) (hl : news.length = 2) (hn : Blk w gx 184 news) (h1 : ∀ u ∈ news, u.oneCell' = true)
    (hroom : m + 1 ≤ c) (hfit : (m + 1) * 2 ≤ cs.length)
    (h : ∀ w', Blk w' g 184 (cs.take (m * 2) ++ news ++ cs.drop (m * 2 + 2)) → Frm [g] w w' → wpList Try.prog ops Q rest (a.put o.dst (.slice (some ⟨g, 0, none⟩) (m + 1) c)) w') :
    wpList Try.prog ops Q (o :: rest) a w := by
  refine wpList_plain hgd fun K' hK' => ?_
  obtain ⟨i, hi, hf⟩ := info_someO infoCT
  simp only [Prod.mk.injEq] at hf
  obtain ⟨hz0, hz1, hz2⟩ := hf
  have hr := run_append_roomO (P := Try.prog) w 143 o.type 184 i Try.underlying143 hi g 0 m c cs.toArray hb ⟨gx, 0, none⟩ 1 cx news (by rw [hz1, hl]) (fun j u hu => by
    rw [add_none, Nat.zero_add, hn.cell]
    exact hu) h1 hroom (by rw [hz1, hl]; simp; omega)
  rw [hz1, hl] at hr
  simp only [Nat.zero_add] at hr
  unfold Oper.wp execOp
  simp only [ho, resolve, invoke, builtin, Sem.run_bind, Sem.run_pure, Result.andThen_ok, List.map_toArray, List.map_cons, List.map_nil, hs, hx, hr]
  exact hK' _ _ (h _ (setRow_heap w g cs.toArray _ _ _ hb) ⟨rfl, rfl, rfl, by simp [World.setRow], fun k hk hn => setRow_other w g k _ (fun e => hn (by simp [e]))⟩)
/-- The row in which what stays is put ahead of what is still to be looked at. -/
def RowC (w : World) (A6 : Option Addr) (c6 m i : Nat) (all kept : List Value) : Prop :=
  ∀ g, A6 = some ⟨g, 0, none⟩ → ∃ cs, Blk w g 184 cs ∧ cs.length = c6 * 2 ∧ cs.take (m * 2) = kept ∧ ∀ j v, i * 2 ≤ j → all[j]? = some v → cs[j]? = some v
def keptC (u : Nat) (l : List (Nat × Nat)) : List (Nat × Nat) := l.filter fun c => decide (u < c.1)
theorem keptC_len (u : Nat) (l : List (Nat × Nat)) : (keptC u l).length ≤ l.length := List.length_filter_le _ _
theorem comV_app (gs : List (Nat × Nat)) (l l' : List (Nat × Nat)) : comV gs (l ++ l') = comV gs l ++ comV gs l' := by simp [comV]
section
variable {B N K : Nat} {p : OP} {cf : Bool} {r : ORun} {w : World} {ow : Nat → Nat}
set_option maxHeartbeats 4000000 in
theorem cleanup_any (h : Ora B N p cf r w ow) (hlt : r.s.lc ≤ r.s.rmk.til) (hlc : r.s.com.length ≤ 1000000) :
    Calls Try.prog 114 #[.pointer (some ⟨p.O, 0, none⟩)] w (ActP B N p cf { r with s := r.s.clean cf } (.tuple #[]) ow w) := by
  have H := Lib.hid h
  have o1 := h.o1
  cases cf with
  | false =>
    clear h
    go_enter Try.func114, Try.ntmps114
    go_wp2
    go_end0
    exact ⟨rfl, ow, H.out, Stp.refl ow w⟩
  | true =>
    obtain ⟨cv, hp1, ho1, hcr, hcl, hco⟩ := h.comp 1
    have o0 := h.o0
    have o5 := h.o5
    have o7 := h.o7
    have HD := Lib.hid (doneUntil_any p.M2 _ w h.m2)
    have HO1 := Lib.hid ho1
    have HCR := Lib.hid hcr
    have HCL := Lib.hid hcl
    have HCO := Lib.hid hco
    have HP1 := Lib.hid hp1
    have f7 := ho1.frozen 7
    clear h hp1 ho1 hcr hcl hco
    have hge : (r.s.lc : Int) ≤ (r.s.rmk.til : Int) := by omega
    go_enter Try.func114, Try.ntmps114
    go_wp2_with fail
    refine HD.out.mono ?_
    rintro E w' ⟨rfl, rfl⟩
    go_wp2_with fail
    refine (assertO w').mono ?_
    rintro E w2 ⟨rfl, rfl⟩
    by_cases heq : r.s.rmk.til = r.s.lc
    · have heb : ((r.s.rmk.til : Int) == (r.s.lc : Int)) = true := by rw [heq]; exact beq_self_eq_true _
      go_wp2
      go_end0
      refine ⟨rfl, ow, ?_, Stp.refl ow w'⟩
      have e : r.s.clean true = r.s := by unfold OSt.clean; rw [if_pos rfl, if_pos heq]
      rw [e]
      exact H.out
    · have heb : ((r.s.rmk.til : Int) == (r.s.lc : Int)) = false := by rw [beq_eq_false_iff_ne]; omega
      go_upto_region 8 with fail
      obtain ⟨A6, c6, hcv⟩ : ∃ A c, cv = .slice A r.s.com.length c := by
        rcases HCR.out.2 with ⟨rfl, h0⟩ | ⟨g, cap, cur, rfl, _⟩
        · exact ⟨none, 0, by rw [h0]⟩
        · exact ⟨_, _, rfl⟩
      subst hcv
      have hfs := Lib.hid (Frm.set w' ⟨p.O, 7, none⟩ (.int .u64 (r.s.rmk.til : Int)))
      have hk2 : Hid (Blk (w'.setCell ⟨p.O, 7, none⟩ (.int .u64 (r.s.rmk.til : Int))) p.O 145 (oraC true r.s.next p (.slice A6 r.s.com.length c6) r.s.rmk.til)) := HO1.out.set_ 7 _
      have hneO : Hid (∀ g, A6 = some ⟨g, 0, none⟩ → B ≤ g ∧ r.s.com.length ≤ c6 ∧ c6 ≤ maxLen ∧ g ≠ p.O ∧ g ≠ p.P ∧ ow g = 1) := fun g hg => by
        rcases HCR.out.2 with ⟨h0, _⟩ | ⟨g', cap, cur, hv, h1, h2, h3, h4, _⟩
        · rw [hg] at h0; cases h0
        · rw [hg] at hv
          injection hv with ha _ hc
          injection ha with ha
          injection ha with ha
          subst ha hc
          have hb : Blk w' g 184 cur.toList := by unfold Blk; rw [Array.toArray_toList]; exact h2
          refine ⟨h1, h3, h4, blk_neO hb HO1.out (by decide), blk_neO hb HP1.out (by decide), HCO.out g ?_⟩
          rw [hg]
          simp [Value.ownBlock]
      have hnil : Hid (A6 = none → r.s.com.length = 0 ∧ c6 = 0) := fun hA => by
        rcases HCR.out.2 with ⟨h0, h1⟩ | ⟨g', cap, cur, hv, _⟩
        · injection h0 with _ _ h2
          exact ⟨h1, h2⟩
        · rw [hA] at hv
          cases hv
      have hfm : Hid (∀ a, A6 = some a → ∃ g, a = ⟨g, 0, none⟩) := fun a ha => by
        rcases HCR.out.2 with ⟨h0, h1⟩ | ⟨g', cap, cur, hv, _⟩
        · rw [ha] at h0; cases h0
        · rw [ha] at hv
          injection hv with h1
          injection h1 with h1
          exact ⟨g', h1⟩
      have hrow : Hid (RowC (w'.setCell ⟨p.O, 7, none⟩ (.int .u64 (r.s.rmk.til : Int))) A6 c6 0 0 (comV r.gs r.s.com) []) := fun g hg => by
        rcases HCR.out.2 with ⟨h0, _⟩ | ⟨g', cap, cur, hv, h1, h2, h3, h4, h5, h6⟩
        · rw [hg] at h0; cases h0
        · have hne := (hneO.out g hg).2.2.2.1
          rw [hg] at hv
          injection hv with ha _ hc
          injection ha with ha
          injection ha with ha
          subst ha hc
          have hb : Blk w' g 184 cur.toList := by unfold Blk; rw [Array.toArray_toList]; exact h2
          refine ⟨cur.toList, hb.frm hfs.out (by rw [List.mem_singleton]; exact hne), by rw [Array.length_toList]; exact h5, rfl, fun j v _ hv => ?_⟩
          have hj := (List.getElem?_eq_some_iff.1 hv).1
          rw [comV_len] at hj
          rw [← hv, ← h6, List.getElem?_take_of_lt hj]
      have o6 : (w'.setCell ⟨p.O, 7, none⟩ (.int .u64 (r.s.rmk.til : Int))).cell? ⟨p.O, 6, none⟩ = some (.slice A6 r.s.com.length c6) := hk2.out.at_ rfl
      clear o0 o1 o5 o7 f7 HO1 HCR HD
      generalize w'.setCell ⟨p.O, 7, none⟩ (.int .u64 (r.s.rmk.til : Int)) = w1 at *
      have c60 : (0 : Int) ≤ (c6 : Int) := by omega
      go_upto_region 9 with fail
      clear c60
      go_wp2
      go_loopg [3, 51] r.s.com.length (fun f v3 v51 wr => ∃ i : Nat, v51 = .int .i64 (i : Int) ∧ v3 = .slice A6 (keptC r.s.rmk.til (r.s.com.take i)).length c6 ∧ i ≤ r.s.com.length ∧ Hid (i + f = r.s.com.length) ∧
        Hid (Blk wr p.O 145 (oraC true r.s.next p (.slice A6 r.s.com.length c6) r.s.rmk.til)) ∧ Hid (RowC wr A6 c6 (keptC r.s.rmk.til (r.s.com.take i)).length i (comV r.gs r.s.com) (comV r.gs (keptC r.s.rmk.til (r.s.com.take i)))) ∧
        Hid (Frm (p.O :: (Value.slice A6 r.s.com.length c6).ownBlock.toList) w' wr))
      case atStart => exact ⟨0, rfl, rfl, Nat.zero_le _, by simp [Hid], hk2.out, hrow.out, hfs.out.mono (fun b hb => by rw [List.mem_singleton] at hb; exact .inl (by simp [hb]))⟩
      case round =>
        obtain ⟨i, rfl, rfl, hin, hf, hkr, hrr, hfr⟩ := hrel
        by_cases hil : i < r.s.com.length
        · obtain ⟨c, hc⟩ : ∃ c, r.s.com[i]? = some c := ⟨_, List.getElem?_eq_getElem hil⟩
          obtain ⟨g6, hA6⟩ : ∃ g6, A6 = some ⟨g6, 0, none⟩ := by
            cases hA : A6 with
            | none => have := (hnil.out hA).1; omega
            | some a => obtain ⟨g, rfl⟩ := hfm.out a hA; exact ⟨g, rfl⟩
          subst hA6
          obtain ⟨cs, hbk, hcl2, hct, hcall⟩ := hrr.out g6 rfl
          have hng := hneO.out g6 rfl
          have hil2 : (i : Int) < (r.s.com.length : Int) := by omega
          obtain ⟨v0, hv0⟩ : ∃ v0, (r.gs[c.2]?).map (·.2) = v0 := ⟨_, rfl⟩
          have hc0 := comV_at r.gs r.s.com i c hc
          rw [hv0] at hc0
          have e0 : wr.cell? ⟨g6, i * 2, none⟩ = some (.int .u64 (c.1 : Int)) := by rw [hbk.cell]; exact hcall _ _ (Nat.le_refl _) hc0.1
          have e1 : wr.cell? ⟨g6, i * 2 + 1, none⟩ = some (.map v0) := by rw [hbk.cell]; exact hcall _ _ (Nat.le_succ _) hc0.2
          have htk : r.s.com.take (i + 1) = r.s.com.take i ++ [c] := by rw [List.take_add_one, hc]; rfl
          have HTK := Lib.hid htk
          have HBK := Lib.hid hbk
          have HV0 := Lib.hid hv0
          have HNG := Lib.hid hng
          have HC := Lib.hid (And.intro hcl2 (And.intro hct hcall))
          obtain ⟨gkO, rfl⟩ : ∃ g, gk = g + 1 := ⟨gk - 1, by have := hf.out; omega⟩
          have hmi : (keptC r.s.rmk.til (r.s.com.take i)).length ≤ i := by
            have h1 := keptC_len r.s.rmk.til (r.s.com.take i)
            rw [List.length_take] at h1
            omega
          clear hc hv0 hc0 htk hbk hng hcl2 hct hcall
          by_cases hle : c.1 ≤ r.s.rmk.til
          · have hle2 : (c.1 : Int) ≤ (r.s.rmk.til : Int) := by omega
            have hke : Hid (keptC r.s.rmk.til (r.s.com.take (i + 1)) = keptC r.s.rmk.til (r.s.com.take i)) := by
              rw [Hid, HTK.out]
              unfold keptC
              rw [List.filter_append, List.filter_cons_of_neg (by simp; omega)]
              simp
            go_wp2
            go_roundg gkO
            case measure => omega
            case rel =>
              refine ⟨i + 1, rfl, by rw [hke.out], by omega, by have := hf.out; show _ = _; omega, hkr.out.alloc _, ?_, hfr.out.andAlloc _⟩
              intro g hg
              injection hg with hg
              injection hg with hg
              subst hg
              obtain ⟨h1, h2, h3⟩ := HC.out
              exact ⟨cs, HBK.out.alloc _, h1, by rw [hke.out]; exact h2, fun j v hj hv => h3 j v (by omega) hv⟩
          · have hle2 : ¬ (c.1 : Int) ≤ (r.s.rmk.til : Int) := by omega
            have hke : Hid (keptC r.s.rmk.til (r.s.com.take (i + 1)) = keptC r.s.rmk.til (r.s.com.take i) ++ [c]) := by
              rw [Hid, HTK.out]
              unfold keptC
              rw [List.filter_append, List.filter_cons_of_pos (by simp; omega)]
              rfl
            generalize hkp : keptC r.s.rmk.til (r.s.com.take i) = kp at *
            have HKP := Lib.hid hkp
            clear hkp
            have hmm : Hid (kp.length + 1 ≤ c6 ∧ (kp.length + 1) * 2 ≤ cs.length) := by
              have h1 := HC.out.1
              have h2 := HNG.out.2.1
              exact ⟨by omega, by rw [h1]; omega⟩
            have hb2 : Hid (Blk ((wr.alloc (.cells #[.int .u64 (c.1 : Int), .map v0] 184)).alloc (.cells #[.int .u64 (c.1 : Int), .map v0] 184)) g6 184 cs) := (HBK.out.alloc _).alloc _
            have hn2 : Hid (Blk ((wr.alloc (.cells #[.int .u64 (c.1 : Int), .map v0] 184)).alloc (.cells #[.int .u64 (c.1 : Int), .map v0] 184)) (wr.heap.size + 1) 184 [.int .u64 (c.1 : Int), .map v0]) := by
              have := Blk.new (wr.alloc (.cells #[.int .u64 (c.1 : Int), .map v0] 184)) 184 [.int .u64 (c.1 : Int), .map v0]
              rw [World.size_alloc] at this
              exact this
            have hf2 : Hid (Frm (p.O :: (Value.slice (some ⟨g6, 0, none⟩) r.s.com.length c6).ownBlock.toList) w' ((wr.alloc (.cells #[.int .u64 (c.1 : Int), .map v0] 184)).alloc (.cells #[.int .u64 (c.1 : Int), .map v0] 184))) := (hfr.out.andAlloc _).andAlloc _
            have hk3 : Hid (Blk ((wr.alloc (.cells #[.int .u64 (c.1 : Int), .map v0] 184)).alloc (.cells #[.int .u64 (c.1 : Int), .map v0] 184)) p.O 145 (oraC true r.s.next p (.slice (some ⟨g6, 0, none⟩) r.s.com.length c6) r.s.rmk.til)) := (hkr.out.alloc _).alloc _
            go_wp2_with (at_builtin; (refine wpList_append_in rfl (.tmp 59) (.tmp 61) rfl g6 kp.length c6 cs rfl hb2.out (wr.heap.size + 1) 1 [.int .u64 (c.1 : Int), .map v0] rfl rfl hn2.out (by simp [Value.oneCell']) hmm.out.1 hmm.out.2 ?_; intro w3 hb3 hf3))
            go_roundg gkO
            case measure => omega
            case rel =>
              refine ⟨i + 1, rfl, by rw [hke.out, List.length_append]; rfl, by omega, by have := hf.out; show _ = _; omega, hk3.out.frm hf3 (by rw [List.mem_singleton]; exact fun e => HNG.out.2.2.2.1 e.symm), ?_, hf2.out.trans hf3 (fun b hb => by rw [List.mem_singleton] at hb; subst hb; exact .inl (by simp [Value.ownBlock]))⟩
              intro g hg
              injection hg with hg
              injection hg with hg
              subst hg
              obtain ⟨h1, h2, h3⟩ := HC.out
              obtain ⟨q1, q2⟩ := hmm.out
              refine ⟨_, hb3, by simp only [List.length_append, List.length_take, List.length_drop, List.length_cons, List.length_nil]; omega, ?_, fun j v hj hv => ?_⟩
              · have hl2 : (cs.take (kp.length * 2) ++ [Value.int .u64 (c.1 : Int), Value.map v0]).length = (kp.length + 1) * 2 := by simp only [List.length_append, List.length_take, List.length_cons, List.length_nil]; omega
                rw [hke.out, List.length_append, List.length_singleton, List.take_left' hl2, h2, comV_app]
                congr 1
                show _ = [Value.int .u64 (c.1 : Int), .map ((r.gs[c.2]?).map (·.2))] ++ []
                rw [HV0.out]
                rfl
              · have h4 := h3 j v (by omega) hv
                have hl2 : (cs.take (kp.length * 2) ++ [Value.int .u64 (c.1 : Int), Value.map v0]).length = kp.length * 2 + 2 := by simp only [List.length_append, List.length_take, List.length_cons, List.length_nil]; omega
                rw [List.getElem?_append_right (by omega), hl2, List.getElem?_drop]
                rw [← h4]
                congr 1
                omega
        · have hie : i = r.s.com.length := by omega
          have hil2 : ¬ (i : Int) < (r.s.com.length : Int) := by omega
          have f6 := hkr.out.frozen 6
          have z6 : wr.cell? ⟨p.O, 6, none⟩ = some (.slice A6 r.s.com.length c6) := hkr.out.at_ rfl
          go_wp2
          go_end0
          have htot : r.s.com.take i = r.s.com := by rw [hie, List.take_length]
          rw [htot] at hrr
          have hend := Frm.set wr ⟨p.O, 6, none⟩ (.slice A6 (keptC r.s.rmk.til r.s.com).length c6)
          have hff := hfr.out.andSet ⟨p.O, 6, none⟩ (.slice A6 (keptC r.s.rmk.til r.s.com).length c6) (.inl (by simp))
          have hll : (keptC r.s.rmk.til r.s.com).length ≤ r.s.com.length := by
            have h1 := keptC_len r.s.rmk.til r.s.com
            omega
          have hcle : r.s.clean true = { r.s with lc := r.s.rmk.til, com := keptC r.s.rmk.til r.s.com } := by
            unfold OSt.clean
            rw [if_pos rfl, if_neg heq]
            rfl
          rw [hcle]
          have hown : ∀ b ∈ p.P :: p.O :: (Value.slice A6 (keptC r.s.rmk.til r.s.com).length c6).ownBlock.toList, ow b = 1 := fun b hb => HCO.out b (by
            cases A6 with
            | none => simpa [Value.ownBlock] using hb
            | some a => simpa [Value.ownBlock] using hb)
          refine ⟨rfl, _, H.out.turn (k0 := 1) (N' := N) (r' := { r with s := { r.s with lc := r.s.rmk.til, com := keptC r.s.rmk.til r.s.com } }) hff (fun b hb _ => HCO.out b (List.mem_cons_of_mem _ hb)) (Nat.le_refl _) H.out.len
            ⟨.slice A6 (keptC r.s.rmk.til r.s.com).length c6, HP1.out.frm hff (fun hm => ?_), hkr.out.set_ 6 _, ⟨comV_len _ _, ?_⟩, fun c hc => HCL.out c ?_, fun b hb => by
              have hbo := hown b hb
              have hbl : b < w'.heap.size := ow_lt H.out (by rw [hbo]; decide)
              rw [upO_old hbl, hbo]⟩ (fun k hk hc => by
            match k, hk, hc with
            | 0, _, _ => trivial
            | 1, hk, _ => exact absurd rfl hk
            | 2, _, hc => exact hc
            | 3, _, hc => exact hc
            | t + 4, _, hc => exact hc)⟩
          · rcases List.mem_cons.1 hm with e | hm
            · obtain ⟨cv', _, ho', _⟩ := H.out.comp 1
              exact blk_neO HP1.out ho' (by decide) e
            · cases hA : A6 with
              | none => rw [hA] at hm; cases hm
              | some a =>
                obtain ⟨g, rfl⟩ := hfm.out a hA
                rw [hA] at hm
                simp only [Value.ownBlock, Option.toList_some, List.mem_singleton] at hm
                exact (hneO.out g hA).2.2.2.2.1 hm.symm
          · cases hA : A6 with
            | none =>
              obtain ⟨h1, h2⟩ := hnil.out hA
              have h3 : (keptC r.s.rmk.til r.s.com).length = 0 := by omega
              exact .inl ⟨by show Value.slice none _ _ = _; rw [h3, h2], h3⟩
            | some a =>
              obtain ⟨g, rfl⟩ := hfm.out a hA
              obtain ⟨q1, q2, q3, q4, q5, q6⟩ := hneO.out g hA
              obtain ⟨cs, hb, hl, ht, _⟩ := hrr.out g hA
              exact .inr ⟨g, c6, cs.toArray, rfl, q1, hb.frm (by rw [hA] at hend; exact hend) (by rw [List.mem_singleton]; exact q4), Nat.le_trans hll q2, q3, by simpa using hl, ht⟩
          · exact (List.mem_filter.1 hc).1
end
end Go.Proofs.Ytanmgkpgfmkobaa
