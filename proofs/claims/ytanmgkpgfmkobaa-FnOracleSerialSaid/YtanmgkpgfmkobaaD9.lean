/- The law of the order of commits: its walk. -/
import Derived.Test.YtanmgkpgfmkobaaD7
import Derived.Test.YtanmgkpgfmkobaaPB
namespace Go.Proofs.Ytanmgkpgfmkobaa
open Go.Proofs.YtanmgkpgfmkobaaW.PrintLast
open Go.RowKit Go.Proofs.YtanmgkpgfmkobaaQ.QT Go.Proofs.YtanmgkpgfmkobaaQ.Ext Go.Proofs.YtanmgkpgfmkobaaW.PrintWords
set_option linter.unusedVariables false
set_option linter.unusedSimpArgs false
set_option maxRecDepth 100000
theorem Acts.cut {w : World} {A : Option Addr} {l : List OAct} (h : Acts w A l) (m : Nat) : Acts w A (l.take m) := by
  have e : flatA (l.take m) = (flatA l).take (m * 3) := by
    refine List.ext_getElem? fun j => ?_
    by_cases hj : j < (l.take m).length * 3
    · obtain ⟨a, ha⟩ : ∃ a, (l.take m)[j / 3]? = some a := ⟨_, List.getElem?_eq_getElem (by omega)⟩
      have h1 := flatA_at (l.take m) (j / 3) (j % 3) a ha (Nat.mod_lt _ (by omega))
      rw [List.length_take] at hj
      rw [List.getElem?_take_of_lt (by omega)] at ha
      have h2 := flatA_at l (j / 3) (j % 3) a ha (Nat.mod_lt _ (by omega))
      rw [show j / 3 * 3 + j % 3 = j by omega] at h1 h2
      rw [h1, List.getElem?_take_of_lt (by omega), h2]
    · rw [List.getElem?_eq_none (by rw [flatA_len]; omega), List.getElem?_eq_none (by rw [List.length_take, flatA_len]; rw [List.length_take] at hj; omega)]
  unfold Acts
  rw [e, List.length_take]
  have h2 := Sl.take h (m := min m l.length * 3) (by omega)
  rw [show (flatA l).take (m * 3) = (flatA l).take (min m l.length * 3) by
    refine List.ext_getElem? fun j => ?_
    rw [List.getElem?_take, List.getElem?_take]
    by_cases hj : j < l.length * 3
    · by_cases hm : j < m * 3
      · rw [if_pos hm, if_pos (by omega)]
      · rw [if_neg hm, if_neg (by omega)]
    · rw [List.getElem?_eq_none (by rw [flatA_len]; omega)]
      split <;> split <;> rfl]
  exact h2
theorem act_ver {cf : Bool} {q : SSt} {a : OAct} {r : SSt × Nat × Bool} (hr : q.act cf a = some r) (h3 : a.kind = 3) (hn : q.next ≤ 1000) : r.2.1 ≤ 1000 := by
  unfold SSt.act at hr
  rw [if_neg (by omega)] at hr
  by_cases hn : a.txn < 0
  · rw [if_pos hn] at hr; cases hr
  rw [if_neg hn] at hr
  cases hx : q.txs[a.txn.toNat]? with
  | none => rw [hx] at hr; cases hr
  | some x =>
    rw [hx] at hr
    simp only at hr
    by_cases he : x.ended = true
    · rw [if_pos he] at hr; cases hr
    rw [if_neg he, if_neg (by omega), if_neg (by omega), if_neg (by omega), if_pos h3] at hr
    by_cases hh : q.hits cf x = true
    · rw [if_pos hh] at hr
      injection hr with hr
      subst hr
      exact Nat.zero_le _
    · rw [if_neg hh] at hr
      injection hr with hr
      subst hr
      assumption
def comA (c : Int × Nat) : OAct := ⟨0, (c.2 : Int), c.1⟩
theorem infoAC : (Try.prog.info? 55).map (fun i => (i.zero, i.size, i.bytes)) = some (some (.agg #[.int .i64 0, .int .i64 0, .int .u64 0]), 3, 24) := by kernel_rfl
/-- append of one act, in a region that draws. -/
theorem step_append_ac {ops : Array Oper} {o : Oper} {a : Act} {w : World} {K : Act → World → Prop} {Q : Exit → Act → World → Prop} {E : Prop} (hgd : o.guard = none) (s x : Operand)
    (ho : o.op = .call { callee := .builtin .append, args := #[s, x], argTypes := #[47, 47] })
    (base : Nat) (v : Value) (n : Nat) (xs : List Value) (hs : a.eval s = v) (hown : w.ownsRow base 55 3 v n xs)
    (g c : Nat) (news : List Value) (hx : a.eval x = .slice (some ⟨g, 0, none⟩) 1 c) (hl : news.length = 3) (hb : Blk w g 55 news) (h1 : ∀ u ∈ news, u.oneCell' = true)
    (hn : n ≤ 1000000) (hbase : base ≤ w.heap.size)
    (h : ∀ v' w', w'.ownsRow base 55 3 v' (n + 1) (xs ++ news) → w.grownBy w' v.ownBlock → (v'.ownBlock = v.ownBlock ∨ v'.ownBlock = some w.heap.size) → K (a.put o.dst v') w') :
    if Region.wanted o (yielded ops a.tmps) = true then Oper.wp Try.prog o a w K Q else E := by
  have hw : Region.wanted o (yielded ops a.tmps) = true := by simp [Region.wanted, hgd]
  rw [if_pos hw]
  obtain ⟨i, hi, hf⟩ := info_someO infoAC
  simp only [Prod.mk.injEq] at hf
  obtain ⟨hz0, hz1, hz2⟩ := hf
  obtain ⟨v', w', hrun, h2, h3, _, h4⟩ := run_append_own_at (P := Try.prog) w base 47 o.type 55 i _ 3 24 Try.underlying47 hi hz0 hz1 hz2 rfl (by omega) v n xs hown ⟨g, 0, none⟩ 1 c news (by omega)
    (fun j u hu => by
      have e : (⟨g, 0, none⟩ : Addr).add j = ⟨g, j, none⟩ := by cases j <;> simp [Addr.add]
      rw [e, hb.cell]
      exact hu) h1 (by simp [maxLen]; omega) (by omega) hbase
  unfold Oper.wp execOp
  simp only [ho, resolve, invoke, builtin, Sem.run_bind, Sem.run_pure, Result.andThen_ok, List.map_toArray, List.map_cons, List.map_nil, hs, hx, hrun]
  exact h v' w' h2 h3 h4
set_option maxHeartbeats 4000000 in
theorem serial_walk (A1 : Option Addr) (c1 : Nat) (x1 : List S55) (w : World) (h1 : Kd.C k55 w A1 x1.length x1) (hc1 : x1.length ≤ c1) (wf1 : ∀ x ∈ x1, actWf x) :
    Calls Try.prog 8 #[.slice A1 x1.length c1] w fun E w' => E = .returned (.bool true) ∧ Below w.heap.size w w' := by
  have HAC := Lib.hid (acts_of_C h1)
  have H1 := Lib.hid h1
  have HW := Lib.hid wf1
  have hLL : (x1.map toAct).length = x1.length := List.length_map ..
  have HLL := Lib.hid hLL
  have HWF : Hid (∀ a ∈ x1.map toAct, (Lit.int .u64 a.key).wf = true ∧ (Lit.int .i64 a.kind).wf = true ∧ (Lit.int .i64 a.txn).wf = true) := fun a ha => by
    obtain ⟨x, hx, rfl⟩ := List.mem_map.1 ha
    obtain ⟨k1, k2, k3⟩ := wf1 x hx
    exact ⟨k3, k1, k2⟩
  clear h1 wf1 hLL
  by_cases hA : 2147483647 < x1.length
  · go_enter Try.func8, Try.ntmps8
    go_wp2
    go_ret
    exact ⟨rfl, Below.refl _ _⟩
  have hA2 : (x1.length : Int) ≤ 2147483647 := by omega
  go_enter Try.func8, Try.ntmps8
  go_wp2_with fail
  obtain ⟨rr, hrr⟩ : ∃ rr, decide ((x1.length : Int) ≤ 100) = rr := ⟨_, rfl⟩
  refine (laws_actsOk.calls A1 c1 x1 rr w H1.out hc1 (by rw [← hrr]; rfl)).mono ?_
  rintro E w1 ⟨rfl, hb1⟩
  have HB1 : Hid (Below w.heap.size w w1) := hb1.below
  clear hb1
  cases rr with
  | false =>
    clear hrr
    go_wp2
    go_ret
    exact ⟨rfl, HB1.out⟩
  | true =>
  have hle2 : (x1.length : Int) ≤ 100 := of_decide_eq_true hrr
  have hle : x1.length ≤ 100 := by omega
  clear hrr
  have HA1 : Hid (Acts w1 A1 (x1.map toAct)) := HAC.out.below HB1.out
  clear HAC
  go_wp2_with fail
  refine (runOracle_any true A1 x1.length c1 (x1.map toAct) w1 HA1.out HLL.out hle HWF.out).mono ?_
  rintro E w2 ⟨A2, c2, rfl, ho2, hb2⟩
  have HO2 := Lib.hid ho2
  have HB2 : Hid (Below w.heap.size w w2) := HB1.out.trans (hb2.mono HB1.out.size)
  have HA2 : Hid (Acts w2 A1 (x1.map toAct)) := HA1.out.below hb2
  clear ho2 hb2 HB1 HA1
  go_wp2_with fail
  refine (specOracle_any true 1 A1 x1.length c1 (x1.map toAct) w2 HA2.out HLL.out hle (Nat.le_refl _) (by omega)).mono ?_
  rintro E w3 ⟨hb3, hq3⟩
  have HB3 : Hid (Below w.heap.size w w3) := HB2.out.trans (hb3.mono HB2.out.size)
  have HB23 := Lib.hid hb3
  clear hb3
  cases hrun : sRun true (sInit 1) (x1.map toAct) with
  | none =>
    rw [hrun] at hq3
    obtain rfl := hq3
    clear hrun
    go_wp2
    go_ret
    exact ⟨rfl, HB3.out⟩
  | some L =>
    rw [hrun] at hq3
    obtain ⟨A3, c3, rfl, ho3⟩ := hq3
    have HO3 := Lib.hid ho3
    have HRUN := Lib.hid hrun
    clear hrun ho3
    have HO23 : Hid (w3.ownsRow w1.heap.size 57 4 (.slice A2 x1.length c2) x1.length (flatT (oRun true oInit (x1.map toAct)))) := owns_below HO2.out HB23.out
    have HA3 : Hid (Acts w3 A1 (x1.map toAct)) := HA2.out.below HB23.out
    clear HO2 HB2 HA2 HB23
    have HEQ : Hid ((oRun true oInit (x1.map toAct)).map (fun t => (t.ver, t.conf, t.next)) = L) := run_sim true _ _ _ (oInit_sim true) L HRUN.out
    have hB3 : Hid (w.heap.size ≤ w3.heap.size) := HB3.out.size
    have hr0 : Hid (OwnO ((w3.alloc (.cells #[] 28)).alloc (.cells #[] 55)) w3.heap.size 28 (.slice (some ⟨w3.heap.size, 0, none⟩) 0 0) (nums .u64 [])) := by
      refine .inr ⟨w3.heap.size, 0, 0, #[], rfl, Nat.le_refl _, ?_, Nat.le_refl _, by simp [maxLen], Nat.le_refl _, rfl⟩
      exact (Blk.new w3 28 []).alloc _
    have he0 : Hid (((w3.alloc (.cells #[] 28)).alloc (.cells #[] 55)).ownsRow w3.heap.size 55 3 (.slice (some ⟨w3.heap.size + 1, 0, none⟩) 0 0) 0 []) := by
      have h3 := World.ownsRow_made (base := w3.heap.size) (e := 55) (size := 3) (w3.alloc (.cells #[] 28)) #[] 0 (by rw [World.size_alloc]; omega) (by simp [maxLen]) rfl
      rw [World.size_alloc] at h3
      exact h3
    have hb0 : Hid (Below w3.heap.size w3 ((w3.alloc (.cells #[] 28)).alloc (.cells #[] 55))) := ((Frm.alloc w3 _).andAlloc _).below (Nat.le_refl _) (fun b hb => by cases hb)
    clear HO3
    go_wp2
    go_loopg [7, 8, 49] x1.length (fun f v7 v8 v49 wr => ∃ (i : Nat) (q : SSt) (A7 : Option Addr) (c7 : Nat) (A8 : Option Addr) (c8 : Nat), v7 = .slice A7 q.txs.length c7 ∧ v8 = .slice A8 q.last.length c8 ∧ v49 = .int .i64 (i : Int) ∧ i ≤ x1.length ∧ Hid (i + f = x1.length) ∧
      Hid (sRun true q ((x1.map toAct).drop i) = some (L.drop i)) ∧ Hid (SIn q ((x1.map toAct).take i)) ∧ Hid (SQ 1 i q ∧ ∀ c ∈ q.last, c.2 ≤ 10000) ∧ Hid (OwnO wr w3.heap.size 28 (.slice A7 q.txs.length c7) (nums .u64 (q.txs.map fun x => (x.rds : Int)))) ∧
      Hid (wr.ownsRow w3.heap.size 55 3 (.slice A8 q.last.length c8) q.last.length (flatA (q.last.map comA))) ∧ Hid (Below w3.heap.size w3 wr))
    case atStart => exact ⟨0, sInit 1, some ⟨w3.heap.size, 0, none⟩, 0, some ⟨w3.heap.size + 1, 0, none⟩, 0, rfl, rfl, rfl, Nat.zero_le _, by simp [Hid], by rw [Hid, List.drop_zero, List.drop_zero]; exact HRUN.out, sIn_init 1, ⟨sq_init 1 (Nat.le_refl _), fun c hc => by cases hc⟩, hr0.out, he0.out, hb0.out⟩
    case round =>
      obtain ⟨i, q, A7, c7, A8, c8, rfl, rfl, rfl, hin, hf, hsr, hsi, hsq, hrr, hcr, hbr⟩ := hrel
      by_cases hlt : i < x1.length
      · obtain ⟨a, ha⟩ : ∃ a, (x1.map toAct)[i]? = some a := ⟨_, List.getElem?_eq_getElem (by rw [List.length_map]; exact hlt)⟩
        have hlt2 : (i : Int) < (x1.length : Int) := by omega
        obtain ⟨r, hact, hLi, hrn⟩ := run_next hsr.out ha
        obtain ⟨t, ht⟩ : ∃ t, (oRun true oInit (x1.map toAct))[i]? = some t := ⟨_, List.getElem?_eq_getElem (by rw [oRun_len, List.length_map]; exact hlt)⟩
        have hte : t.ver = r.2.1 ∧ t.conf = r.2.2 := by
          rw [← HEQ.out, List.getElem?_map, ht] at hLi
          injection hLi with hLi
          simp only [Prod.mk.injEq] at hLi
          exact ⟨hLi.1, hLi.2.1⟩
        obtain ⟨ga, oa, hAe, e0, e1, e2⟩ := (HA3.out.below hbr.out).cells ha
        obtain ⟨gt, hA2, t0, t1, _, _, hgt⟩ := told_cells (owns_below HO23.out hbr.out) ht
        subst hAe hA2
        rw [hte.1] at t0
        rw [hte.2] at t1
        have HGTB : Hid (gt < w3.heap.size) := by
          obtain ⟨g', hA', _, _, _, _, hl'⟩ := told_cells HO23.out ht
          injection hA' with hA'
          injection hA' with hA'
          subst hA'
          exact hl'
        have HSO := Lib.hid (serial_ok hsi.out hact)
        have hver : r.2.1 ≤ 1000 ∨ a.kind ≠ 3 := by
          by_cases h3 : a.kind = 3
          · exact .inl (act_ver hact h3 (by have := hsq.out.1.nx; omega))
          · exact .inr h3
        have HSN := Lib.hid (sIn_act hsi.out hact)
        have HSQ := Lib.hid (hsq.out.1.act (by omega) hact)
        have HRN := Lib.hid hrn
        have HTK : Hid ((x1.map toAct).take (i + 1) = (x1.map toAct).take i ++ [a]) := by rw [Hid, List.take_add_one, ha]; rfl
        have HAA := Lib.hid ha
        have hrl0 : (q.txs.map fun x => (x.rds : Int)).length ≤ 1000000 := by have := hsq.out.1.tx; rw [List.length_map]; omega
        have htxl : q.txs.length ≤ 100 := by have := hsq.out.1.tx; omega
        have hlal : q.last.length ≤ 10000 := by have := hsq.out.1.la; omega
        obtain ⟨gkO, rfl⟩ : ∃ g, gk = g + 1 := ⟨gk - 1, by have := hf.out; omega⟩
        obtain ⟨V, hV⟩ : ∃ V, r.2.1 = V := ⟨_, rfl⟩
        obtain ⟨C, hC⟩ : ∃ C, r.2.2 = C := ⟨_, rfl⟩
        rw [hV] at t0
        rw [hC] at t1
        rw [hV, hC] at HSO
        rw [hV] at hver
        clear ha hact hLi hrn hV hC hsr hsi ht hte
        go_upto_region 15 with fail
        have t0' : (wr.alloc (.cells #[.int .i64 a.kind, .int .i64 a.txn, .int .u64 a.key] 55)).cell? ⟨gt, i * 4, none⟩ = some (.int .u64 (V : Int)) := cell_frm t0 (Frm.alloc wr _) (by simp)
        have t1' : (wr.alloc (.cells #[.int .i64 a.kind, .int .i64 a.txn, .int .u64 a.key] 55)).cell? ⟨gt, i * 4 + 1, none⟩ = some (.bool C) := cell_frm t1 (Frm.alloc wr _) (by simp)
        have hba : Hid (Blk (wr.alloc (.cells #[.int .i64 a.kind, .int .i64 a.txn, .int .u64 a.key] 55)) wr.heap.size 55 a.cells) := Blk.new wr _ _
        have hra : Hid (OwnO (wr.alloc (.cells #[.int .i64 a.kind, .int .i64 a.txn, .int .u64 a.key] 55)) w3.heap.size 28 (.slice A7 q.txs.length c7) (nums .u64 (q.txs.map fun x => (x.rds : Int)))) := hrr.out.frm (Frm.alloc wr _) (fun _ _ h => by cases h)
        have hca : Hid ((wr.alloc (.cells #[.int .i64 a.kind, .int .i64 a.txn, .int .u64 a.key] 55)).ownsRow w3.heap.size 55 3 (.slice A8 q.last.length c8) q.last.length (flatA (q.last.map comA))) := owns_of hcr.out (fun b hb => (Frm.alloc wr _).block b (hcr.out.lt b (Option.mem_toList.1 hb)).2 (by simp))
        have hBa : Hid (Below w3.heap.size w3 (wr.alloc (.cells #[.int .i64 a.kind, .int .i64 a.txn, .int .u64 a.key] 55))) := hbr.out.alloc hbr.out.size _
        have hga : Hid (wr.heap.size ∉ (Value.slice A8 q.last.length c8).ownBlock.toList) := fun hm => by have := (hcr.out.lt _ (Option.mem_toList.1 hm)).2; omega
        clear e0 e1 e2 t0 t1 hrr hcr hbr hgt
        generalize wr.alloc (.cells #[.int .i64 a.kind, .int .i64 a.txn, .int .u64 a.key] 55) = wa at *
        generalize wr.heap.size = gx at *
        have k0 : wa.cell? ⟨gx, 0, none⟩ = some (.int .i64 a.kind) := hba.out.at_ rfl
        have k1 : wa.cell? ⟨gx, 1, none⟩ = some (.int .i64 a.txn) := hba.out.at_ rfl
        by_cases hk0 : a.kind = 0
        · have hk0b : (a.kind == 0) = true := by rw [hk0]; rfl
          have HK0 := Lib.hid hk0
          clear hk0
          have hc1 : Hid ((wa.alloc (.cells #[.int .u64 (V : Int)] 28)).cell? ⟨wa.heap.size, 0, none⟩ = some (.int .u64 (V : Int))) := Blk.at_ (Blk.new wa 28 [.int .u64 (V : Int)]) rfl
          have hr1 : Hid (OwnO (wa.alloc (.cells #[.int .u64 (V : Int)] 28)) w3.heap.size 28 (.slice A7 q.txs.length c7) (nums .u64 (q.txs.map fun x => (x.rds : Int)))) := hra.out.frm (Frm.alloc wa _) (fun _ _ h => by cases h)
          have hf1 : Hid (Frm [] wa (wa.alloc (.cells #[.int .u64 (V : Int)] 28))) := Frm.alloc wa _
          have hB1 : Hid (w3.heap.size ≤ (wa.alloc (.cells #[.int .u64 (V : Int)] 28)).heap.size) := Nat.le_trans hBa.out.size hf1.out.size
          go_wp2_with (at_builtin; (refine wpList_appendO rfl (.tmp 58) (.tmp 64) rfl w3.heap.size (.slice A7 q.txs.length c7) (q.txs.map fun x => (x.rds : Int)) rfl hr1.out wa.heap.size 1 (V : Int) rfl hc1.out hrl0 hB1.out ?_; intro v5 w5 ho5 hg5 hat5))
          obtain ⟨A7', c7', hv5, _, _⟩ := ho5.sl
          rw [nums_length, List.length_append, List.length_map, List.length_singleton] at hv5
          subst hv5
          have HF5 : Frm (Value.slice A7 q.txs.length c7).ownBlock.toList wa w5 := ((hf1.out.mono (fun _ h => by cases h)).trans (frmRowO hg5) (fun j hj => .inl hj))
          obtain ⟨_, s2, s3⟩ := HSO.out
          rw [if_pos HK0.out] at s3
          have s2 := s2 (fun h => by have h1 := h.1; have h2 := HK0.out; omega)
          have hlen' : r.1.txs.length = q.txs.length + 1 := by have := congrArg List.length s3; simpa using this
          go_roundg gkO
          case measure => omega
          case rel =>
            refine ⟨i + 1, r.1, A7', c7', A8, c8, by rw [hlen'], by rw [s2], rfl, by omega, by have := hf.out; show _ = _; omega, HRN.out, by rw [Hid, HTK.out]; exact HSN.out, ⟨HSQ.out, by rw [s2]; exact hsq.out.2⟩, ?_, ?_, hBa.out.trans (HF5.below hBa.out.size (fun b hb => by (obtain ⟨cs, _, h⟩ := hra.out.blk hb); exact h))⟩
            · rw [Hid, hlen']
              have e : (r.1.txs.map fun x => (x.rds : Int)) = (q.txs.map fun x => (x.rds : Int)) ++ [(V : Int)] := by
                have h1 := congrArg (List.map fun k : Nat => (k : Int)) s3
                rw [List.map_append, List.map_map, List.map_map] at h1
                exact h1
              rw [e]
              exact ho5
            · rw [Hid, s2]
              refine owns_of hca.out (fun b hb => HF5.block b (hca.out.lt b (Option.mem_toList.1 hb)).2 (fun hm => ?_))
              obtain ⟨cs, hk, _⟩ := hra.out.blk hm
              exact own_ne_blk hca.out hk (by decide) hb
        have hk0b : (a.kind == 0) = false := by rw [beq_eq_false_iff_ne]; exact hk0
        by_cases hk3 : a.kind = 3 ∧ C = false
        case neg =>
          obtain ⟨_, s2, s3⟩ := HSO.out
          rw [if_neg hk0] at s3
          have s2 := s2 hk3
          have hlen' : r.1.txs.length = q.txs.length := by have := congrArg List.length s3; simpa using this
          have e : (r.1.txs.map fun x => (x.rds : Int)) = (q.txs.map fun x => (x.rds : Int)) := by
            have h1 := congrArg (List.map fun k : Nat => (k : Int)) s3
            rw [List.map_map, List.map_map] at h1
            exact h1
          have HFIN : Hid (∃ (i' : Nat) (q' : SSt) (A7' : Option Addr) (c7' : Nat) (A8' : Option Addr) (c8' : Nat), Value.slice A7 q.txs.length c7 = .slice A7' q'.txs.length c7' ∧ Value.slice A8 q.last.length c8 = .slice A8' q'.last.length c8' ∧ Value.int .i64 ((i : Int) + 1) = .int .i64 (i' : Int) ∧ i' ≤ x1.length ∧ Hid (i' + gkO = x1.length) ∧
              Hid (sRun true q' ((x1.map toAct).drop i') = some (L.drop i')) ∧ Hid (SIn q' ((x1.map toAct).take i')) ∧ Hid (SQ 1 i' q' ∧ ∀ c ∈ q'.last, c.2 ≤ 10000) ∧ Hid (OwnO wa w3.heap.size 28 (.slice A7' q'.txs.length c7') (nums .u64 (q'.txs.map fun x => (x.rds : Int)))) ∧
              Hid (wa.ownsRow w3.heap.size 55 3 (.slice A8' q'.last.length c8') q'.last.length (flatA (q'.last.map comA))) ∧ Hid (Below w3.heap.size w3 wa)) :=
            ⟨i + 1, r.1, A7, c7, A8, c8, by rw [hlen'], by rw [s2], rfl, by omega, by have := hf.out; show _ = _; omega, HRN.out, by rw [Hid, HTK.out]; exact HSN.out, ⟨HSQ.out, by rw [s2]; exact hsq.out.2⟩, by rw [Hid, hlen', e]; exact hra.out, by rw [Hid, s2]; exact hca.out, hBa.out⟩
          clear s2 s3 hlen' e
          by_cases hkk : a.kind = 3
          · have hkkb : (a.kind == 3) = true := by rw [hkk]; rfl
            have hC : C = true := by
              cases C with
              | true => rfl
              | false => exact absurd ⟨hkk, rfl⟩ hk3
            subst hC
            clear hkk hk3
            go_wp2
            go_roundg gkO
            case measure => omega
            case rel => exact HFIN.out
          · have hkkb : (a.kind == 3) = false := by rw [beq_eq_false_iff_ne]; exact hkk
            clear hk3
            go_wp2
            go_roundg gkO
            case measure => omega
            case rel => exact HFIN.out
        case pos =>
          obtain ⟨s1, _, s3⟩ := HSO.out
          obtain ⟨hr0, x, hx, hno, hla⟩ := s1 hk3
          rw [if_neg hk0] at s3
          have HNO := Lib.hid hno
          have HLA := Lib.hid hla
          have HS3 := Lib.hid s3
          obtain ⟨hk3', hC⟩ := hk3
          subst hC
          have hk3b : (a.kind == 3) = true := by rw [hk3']; rfl
          have hVb : V ≤ 1000 := by
            rcases hver with h | h
            · exact h
            · exact absurd hk3' h
          obtain ⟨tz, htt⟩ : ∃ tz : Nat, a.txn = (tz : Int) := ⟨a.txn.toNat, by omega⟩
          have hton : a.txn.toNat = tz := by omega
          rw [hton] at hx
          have HTT := Lib.hid (And.intro htt hton)
          rw [htt] at k1
          have htl : tz < q.txs.length := (List.getElem?_eq_some_iff.1 hx).1
          obtain ⟨g7, o7, u7, hA7, hu7, hcell7⟩ : ∃ ga o u, A7 = some ⟨ga, o, none⟩ ∧ (nums .u64 (q.txs.map fun x => (x.rds : Int)))[tz]? = some u ∧ wa.cell? ⟨ga, o + tz, none⟩ = some u := by
            obtain ⟨A', c', h1, _, h2⟩ := hra.out.sl
            rw [nums_length, List.length_map] at h1 h2
            injection h1 with h3 h4 h5
            subst h3
            exact h2.at_ htl
          obtain rfl : Value.int .u64 (x.rds : Int) = u7 := by
            unfold nums at hu7
            rw [List.getElem?_map, List.getElem?_map, hx] at hu7
            injection hu7
          subst hA7
          have HC7 := Lib.hid hcell7
          have htl2 : (tz : Int) < (q.txs.length : Int) := by omega
          have hic : (i : Int) ≤ (c1 : Int) := by omega
          have hi0 : (0 : Int) ≤ (i : Int) := by omega
          have K1 := Lib.hid k1
          have T0 := Lib.hid t0'
          clear hno hla s1 s3 hr0 hk3' htt hton hx hu7 hcell7 hver
          go_wp2
          go_loopg [82] i (fun f v82 wr => ∃ j : Nat, v82 = .int .i64 (j : Int) ∧ j ≤ i ∧ Hid (j + f = i) ∧ Hid (Frm [] wa wr))
          case atStart => exact ⟨0, rfl, Nat.zero_le _, by simp [Hid], Frm.refl _ _⟩
          case round =>
            obtain ⟨j, rfl, hjn, hjf, hfj⟩ := hrel
            by_cases hjl : j < i
            · obtain ⟨rb, hrb⟩ : ∃ rb, (x1.map toAct)[j]? = some rb := ⟨_, List.getElem?_eq_getElem (by rw [List.length_map]; omega)⟩
              have hjl2 : (j : Int) < (i : Int) := by omega
              obtain ⟨ga2, oa2, hAe2, e0, e1, e2⟩ := (HA3.out.below (hBa.out.trans (hfj.out.below hBa.out.size (fun b hb => by cases hb)))).cells hrb
              injection hAe2 with hAe2
              injection hAe2 with hAe3 hAe4
              subst hAe3 hAe4
              have HRB := Lib.hid hrb
              clear hrb
              obtain ⟨gjO, rfl⟩ : ∃ g, gk = g + 1 := ⟨gk - 1, by have := hjf.out; omega⟩
              go_upto_region 21 with fail
              have hfb : Hid (Frm [] wa (wr.alloc (.cells #[.int .i64 rb.kind, .int .i64 rb.txn, .int .u64 rb.key] 55))) := hfj.out.andAlloc _
              have hbb : Hid (Blk (wr.alloc (.cells #[.int .i64 rb.kind, .int .i64 rb.txn, .int .u64 rb.key] 55)) wr.heap.size 55 rb.cells) := Blk.new wr _ _
              clear e0 e1 e2 hfj
              generalize wr.alloc (.cells #[.int .i64 rb.kind, .int .i64 rb.txn, .int .u64 rb.key] 55) = wb at *
              generalize wr.heap.size = gr at *
              have j0 : wb.cell? ⟨gr, 0, none⟩ = some (.int .i64 rb.kind) := hbb.out.at_ rfl
              have j1 : wb.cell? ⟨gr, 1, none⟩ = some (.int .i64 rb.txn) := hbb.out.at_ rfl
              have k1b : wb.cell? ⟨gx, 1, none⟩ = some (.int .i64 (tz : Int)) := cell_frm K1.out hfb.out (by simp)
              by_cases hk1 : rb.kind = 1
              case neg =>
                have hk1b : (rb.kind == 1) = false := by rw [beq_eq_false_iff_ne]; exact hk1
                go_wp2
                go_roundg gjO
                case measure => omega
                case rel => exact ⟨j + 1, rfl, by omega, by have := hjf.out; show _ = _; omega, hfb.out⟩
              case pos =>
              have hk1b : (rb.kind == 1) = true := by rw [hk1]; rfl
              by_cases htx : rb.txn = (tz : Int)
              case neg =>
                have htxb : (rb.txn == (tz : Int)) = false := by rw [beq_eq_false_iff_ne]; exact htx
                have HK1 := Lib.hid hk1
                clear hk1
                go_wp2
                go_roundg gjO
                case measure => omega
                case rel => exact ⟨j + 1, rfl, by omega, by have := hjf.out; show _ = _; omega, hfb.out⟩
              case pos =>
              have htxb : (rb.txn == (tz : Int)) = true := by rw [htx]; exact beq_self_eq_true _
              have hkey : Hid (rb.key ∈ keysOf 1 a.txn.toNat ((x1.map toAct).take i)) := by
                unfold keysOf
                refine List.mem_map.2 ⟨rb, List.mem_filter.2 ⟨?_, ?_⟩, rfl⟩
                · refine List.mem_of_getElem? (i := j) ?_
                  rw [List.getElem?_take_of_lt (by omega)]
                  exact HRB.out
                · simp only [decide_eq_true_eq]
                  exact ⟨hk1, by rw [htx, HTT.out.2]⟩
              have HK1 := Lib.hid (And.intro hk1 htx)
              have hcb : Hid (wb.ownsRow w3.heap.size 55 3 (.slice A8 q.last.length c8) q.last.length (flatA (q.last.map comA))) := owns_of hca.out (fun b hb => hfb.out.block b (hca.out.lt b (Option.mem_toList.1 hb)).2 (by simp))
              rw [hk1] at j0
              rw [htx] at j1
              clear hk1 htx hk1b htxb
              go_wp2
              go_loopg [98] q.last.length (fun f v98 wr => ∃ m : Nat, v98 = .int .i64 (m : Int) ∧ m ≤ q.last.length ∧ Hid (m + f = q.last.length) ∧ Hid (Frm [] wb wr))
              case atStart => exact ⟨0, rfl, Nat.zero_le _, by simp [Hid], Frm.refl _ _⟩
              case round =>
                obtain ⟨m, rfl, hmn, hmf, hfm⟩ := hrel
                by_cases hml : m < q.last.length
                · obtain ⟨c, hc⟩ : ∃ c, q.last[m]? = some c := ⟨_, List.getElem?_eq_getElem hml⟩
                  have hml2 : (m : Int) < (q.last.length : Int) := by omega
                  obtain ⟨g8, cs8, hA8, hbk8, _, _, _, _, htk8⟩ := own_cells hcb.out (by omega)
                  subst hA8
                  have hcs : ∀ jj v, jj < 3 → (comA c).cells[jj]? = some v → wr.cell? ⟨g8, m * 3 + jj, none⟩ = some v := fun jj v hj hv => by
                    have h1 := flatA_at (q.last.map comA) m jj (comA c) (by rw [List.getElem?_map, hc]; rfl) hj
                    rw [hv] at h1
                    rw [(hbk8.frm hfm.out (by simp)).cell, ← h1, ← htk8, List.getElem?_take_of_lt (by omega)]
                  have y0 : wr.cell? ⟨g8, m * 3, none⟩ = some (.int .i64 0) := hcs 0 _ (by omega) rfl
                  have y1 : wr.cell? ⟨g8, m * 3 + 1, none⟩ = some (.int .i64 (c.2 : Int)) := hcs 1 _ (by omega) rfl
                  have y2 : wr.cell? ⟨g8, m * 3 + 2, none⟩ = some (.int .u64 c.1) := hcs 2 _ (by omega) rfl
                  have hcm := List.mem_of_getElem? hc
                  have hnoc : ¬ (c.1 = rb.key ∧ x.rds < c.2) := HNO.out rb.key hkey.out c hcm
                  have hc2 : (c.2 : Int) ≤ 10000 := by have := hsq.out.2 c hcm; omega
                  have hc20 : (0 : Int) ≤ (c.2 : Int) := by omega
                  clear hcs hbk8 htk8 hc hcm
                  obtain ⟨gmO, rfl⟩ : ∃ g, gk = g + 1 := ⟨gk - 1, by have := hmf.out; omega⟩
                  have hmb : (m : Int) ≤ 10000 := by omega
                  go_upto_region 25 with fail
                  have hfc : Hid (Frm [] wb (wr.alloc (.cells #[.int .i64 0, .int .i64 (c.2 : Int), .int .u64 c.1] 55))) := hfm.out.andAlloc _
                  have hbc : Hid (Blk (wr.alloc (.cells #[.int .i64 0, .int .i64 (c.2 : Int), .int .u64 c.1] 55)) wr.heap.size 55 [.int .i64 0, .int .i64 (c.2 : Int), .int .u64 c.1]) := Blk.new wr _ _
                  clear y0 y1 y2 hfm
                  generalize wr.alloc (.cells #[.int .i64 0, .int .i64 (c.2 : Int), .int .u64 c.1] 55) = wc at *
                  generalize wr.heap.size = gc at *
                  have d0 : wc.cell? ⟨gc, 2, none⟩ = some (.int .u64 c.1) := hbc.out.at_ rfl
                  have d1 : wc.cell? ⟨gr, 2, none⟩ = some (.int .u64 rb.key) := (hbb.out.frm hfc.out (by simp)).at_ rfl
                  have d2 : wc.cell? ⟨gc, 1, none⟩ = some (.int .i64 (c.2 : Int)) := hbc.out.at_ rfl
                  have d3 : wc.cell? ⟨gx, 1, none⟩ = some (.int .i64 (tz : Int)) := cell_frm k1b hfc.out (by simp)
                  have d4 : wc.cell? ⟨g7, o7 + tz, none⟩ = some (.int .u64 (x.rds : Int)) := cell_frm (cell_frm HC7.out hfb.out (by simp)) hfc.out (by simp)
                  by_cases hke : c.1 = rb.key
                  · have hkeb : (c.1 == rb.key) = true := by rw [hke]; exact beq_self_eq_true _
                    have hle : ¬ (c.2 : Int) > (x.rds : Int) := by
                      intro h
                      exact hnoc ⟨hke, by omega⟩
                    have hle2 : decide ((x.rds : Int) < (c.2 : Int)) = false := by simp; omega
                    have hcw : IntKind.u64.wrap (c.2 : Int) = (c.2 : Int) := IntWalk.u64_in _ (by omega)
                    have HKE := Lib.hid hke
                    clear hke hnoc
                    refine start_ (n := 16) (S := fun w' => w'.cell? ⟨gc, 2, none⟩ = some (.int .u64 c.1) ∧ w'.cell? ⟨gr, 2, none⟩ = some (.int .u64 rb.key) ∧ w'.cell? ⟨gc, 1, none⟩ = some (.int .i64 (c.2 : Int)) ∧ w'.cell? ⟨gx, 1, none⟩ = some (.int .i64 (tz : Int)) ∧ w'.cell? ⟨g7, o7 + tz, none⟩ = some (.int .u64 (x.rds : Int))) (ds := []) #[ff,ff,ff,ff,ff,ff,ff,ff,ff,ff,ff,ff,ff,ff,ff,ff] (by kernel_rfl) rfl rfl (⟨d0, d1, d2, d3, d4⟩) (fun hHeld => ?_)
                    clear d0 d1 d2 d3 d4
                    refine pure_ (i := 0) (N := some 102) (v := ?_) (a' := ?_) #[tt,ff,ff,ff,ff,ff,ff,ff,ff,ff,ff,ff,ff,ff,ff,ff] rfl rfl (by kernel_rfl) (fun _ _ _ h => h) (Or.inl ⟨by rfl, ?_⟩) ?_ ?_; rotate_left; (intro w'; go_simp; with_reducible rfl); rotate_left; (simp only [Act.put, List.setIfInBounds_toArray, List.set_cons_zero, List.set_cons_succ, i64_w, i32_w]; rfl)
                    refine take_ (i := 1) (N := some 103) (v := ?_) (a' := ?_) #[tt,tt,ff,ff,ff,ff,ff,ff,ff,ff,ff,ff,ff,ff,ff,ff] rfl rfl (by kernel_rfl) (fun _ _ _ h => h) (Or.inl ⟨by rfl, ?_⟩) hHeld ?_ ?_; rotate_left; (rintro w' ⟨d0, d1, d2, d3, d4⟩; go_simp; with_reducible rfl); rotate_left; (simp only [Act.put, List.setIfInBounds_toArray, List.set_cons_zero, List.set_cons_succ, i64_w, i32_w]; rfl)
                    refine pure_ (i := 2) (N := some 104) (v := ?_) (a' := ?_) #[tt,tt,tt,ff,ff,ff,ff,ff,ff,ff,ff,ff,ff,ff,ff,ff] rfl rfl (by kernel_rfl) (fun _ _ _ h => h) (Or.inl ⟨by rfl, ?_⟩) ?_ ?_; rotate_left; (intro w'; go_simp; with_reducible rfl); rotate_left; (simp only [Act.put, List.setIfInBounds_toArray, List.set_cons_zero, List.set_cons_succ, i64_w, i32_w]; rfl)
                    refine take_ (i := 3) (N := some 105) (v := ?_) (a' := ?_) #[tt,tt,tt,tt,ff,ff,ff,ff,ff,ff,ff,ff,ff,ff,ff,ff] rfl rfl (by kernel_rfl) (fun _ _ _ h => h) (Or.inl ⟨by rfl, ?_⟩) hHeld ?_ ?_; rotate_left; (rintro w' ⟨d0, d1, d2, d3, d4⟩; go_simp; with_reducible rfl); rotate_left; (simp only [Act.put, List.setIfInBounds_toArray, List.set_cons_zero, List.set_cons_succ, i64_w, i32_w]; rfl)
                    refine pure_ (i := 4) (N := some 106) (v := ?_) (a' := ?_) #[tt,tt,tt,tt,tt,ff,ff,ff,ff,ff,ff,ff,ff,ff,ff,ff] rfl rfl (by kernel_rfl) (fun _ _ _ h => h) (Or.inl ⟨by rfl, ?_⟩) ?_ ?_; rotate_left; (intro w'; go_simp; with_reducible rfl); rotate_left; (simp only [Act.put, List.setIfInBounds_toArray, List.set_cons_zero, List.set_cons_succ, i64_w, i32_w]; rfl)
                    refine pure_ (i := 5) (N := some 107) (v := ?_) (a' := ?_) #[tt,tt,tt,tt,tt,tt,ff,ff,ff,ff,ff,ff,ff,ff,ff,ff] rfl rfl (by kernel_rfl) (fun _ _ _ h => h) (Or.inl ⟨by rfl, ?_⟩) ?_ ?_; rotate_left; (intro w'; go_simp; with_reducible rfl); rotate_left; (simp only [Act.put, List.setIfInBounds_toArray, List.set_cons_zero, List.set_cons_succ, i64_w, i32_w]; rfl)
                    refine pure_ (i := 6) (N := some 108) (v := ?_) (a' := ?_) #[tt,tt,tt,tt,tt,tt,tt,ff,ff,ff,ff,ff,ff,ff,ff,ff] rfl rfl (by kernel_rfl) (fun _ _ _ h => h) (Or.inl ⟨by rfl, ?_⟩) ?_ ?_; rotate_left; (intro w'; go_simp; with_reducible rfl); rotate_left; (simp only [Act.put, List.setIfInBounds_toArray, List.set_cons_zero, List.set_cons_succ, i64_w, i32_w]; rfl)
                    refine take_ (i := 7) (N := some 109) (v := ?_) (a' := ?_) #[tt,tt,tt,tt,tt,tt,tt,tt,ff,ff,ff,ff,ff,ff,ff,ff] rfl rfl (by kernel_rfl) (fun _ _ _ h => h) (Or.inl ⟨by rfl, ?_⟩) hHeld ?_ ?_; rotate_left; (rintro w' ⟨d0, d1, d2, d3, d4⟩; go_simp; with_reducible rfl); rotate_left; (simp only [Act.put, List.setIfInBounds_toArray, List.set_cons_zero, List.set_cons_succ, i64_w, i32_w]; rfl)
                    refine pure_ (i := 8) (N := some 110) (v := ?_) (a' := ?_) #[tt,tt,tt,tt,tt,tt,tt,tt,tt,ff,ff,ff,ff,ff,ff,ff] rfl rfl (by kernel_rfl) (fun _ _ _ h => h) (Or.inl ⟨by rfl, ?_⟩) ?_ ?_; rotate_left; (intro w'; go_simp; with_reducible rfl); rotate_left; (simp only [Act.put, List.setIfInBounds_toArray, List.set_cons_zero, List.set_cons_succ, i64_w, i32_w]; rfl)
                    refine pure_ (i := 9) (N := some 111) (v := ?_) (a' := ?_) #[tt,tt,tt,tt,tt,tt,tt,tt,tt,tt,ff,ff,ff,ff,ff,ff] rfl rfl (by kernel_rfl) (fun _ _ _ h => h) (Or.inl ⟨by rfl, ?_⟩) ?_ ?_; rotate_left; (intro w'; go_simp; with_reducible rfl); rotate_left; (simp only [Act.put, List.setIfInBounds_toArray, List.set_cons_zero, List.set_cons_succ, i64_w, i32_w]; rfl)
                    refine pure_ (i := 10) (N := some 112) (v := ?_) (a' := ?_) #[tt,tt,tt,tt,tt,tt,tt,tt,tt,tt,tt,ff,ff,ff,ff,ff] rfl rfl (by kernel_rfl) (fun _ _ _ h => h) (Or.inl ⟨by rfl, ?_⟩) ?_ ?_; rotate_left; (intro w'; go_simp; with_reducible rfl); rotate_left; (simp only [Act.put, List.setIfInBounds_toArray, List.set_cons_zero, List.set_cons_succ, i64_w, i32_w]; rfl)
                    refine take_ (i := 11) (N := some 113) (v := ?_) (a' := ?_) #[tt,tt,tt,tt,tt,tt,tt,tt,tt,tt,tt,tt,ff,ff,ff,ff] rfl rfl (by kernel_rfl) (fun _ _ _ h => h) (Or.inl ⟨by rfl, ?_⟩) hHeld ?_ ?_; rotate_left; (rintro w' ⟨d0, d1, d2, d3, d4⟩; go_simp; with_reducible rfl); rotate_left; (simp only [Act.put, List.setIfInBounds_toArray, List.set_cons_zero, List.set_cons_succ, i64_w, i32_w]; rfl)
                    refine pure_ (i := 12) (N := some 114) (v := ?_) (a' := ?_) #[tt,tt,tt,tt,tt,tt,tt,tt,tt,tt,tt,tt,tt,ff,ff,ff] rfl rfl (by kernel_rfl) (fun _ _ _ h => h) (Or.inl ⟨by rfl, ?_⟩) ?_ ?_; rotate_left; (intro w'; go_simp; with_reducible rfl); rotate_left; (simp only [Act.put, List.setIfInBounds_toArray, List.set_cons_zero, List.set_cons_succ, i64_w, i32_w]; rfl)
                    refine take_ (i := 13) (N := some 115) (v := ?_) (a' := ?_) #[tt,tt,tt,tt,tt,tt,tt,tt,tt,tt,tt,tt,tt,tt,ff,ff] rfl rfl (by kernel_rfl) (fun _ _ _ h => h) (Or.inl ⟨by rfl, ?_⟩) hHeld ?_ ?_; rotate_left; (rintro w' ⟨d0, d1, d2, d3, d4⟩; go_simp; with_reducible rfl); rotate_left; (simp only [Act.put, List.setIfInBounds_toArray, List.set_cons_zero, List.set_cons_succ, i64_w, i32_w]; rfl)
                    refine pure_ (i := 14) (N := some 116) (v := ?_) (a' := ?_) #[tt,tt,tt,tt,tt,tt,tt,tt,tt,tt,tt,tt,tt,tt,tt,ff] rfl rfl (by kernel_rfl) (fun _ _ _ h => h) (Or.inl ⟨by rfl, ?_⟩) ?_ ?_; rotate_left; (intro w'; go_simp; with_reducible rfl); rotate_left; (simp only [Act.put, List.setIfInBounds_toArray, List.set_cons_zero, List.set_cons_succ, i64_w, i32_w]; rfl)
                    refine pure_ (i := 15) (N := some 117) (v := ?_) (a' := ?_) #[tt,tt,tt,tt,tt,tt,tt,tt,tt,tt,tt,tt,tt,tt,tt,tt] rfl rfl (by kernel_rfl) (fun _ _ _ h => h) (Or.inl ⟨by rfl, ?_⟩) ?_ ?_; rotate_left; (intro w'; go_simp; with_reducible rfl); rotate_left; (simp only [Act.put, List.setIfInBounds_toArray, List.set_cons_zero, List.set_cons_succ, i64_w, i32_w]; rfl)
                    refine done_ (by kernel_rfl) ?_
                    go_wp2
                    go_roundg gmO
                    case measure => omega
                    case rel => exact ⟨m + 1, rfl, by omega, by have := hmf.out; show _ = _; omega, hfc.out.drew⟩
                  · have hkeb : (c.1 == rb.key) = false := by rw [beq_eq_false_iff_ne]; exact hke
                    clear hnoc
                    refine start_ (n := 16) (S := fun w' => w'.cell? ⟨gc, 2, none⟩ = some (.int .u64 c.1) ∧ w'.cell? ⟨gr, 2, none⟩ = some (.int .u64 rb.key) ∧ w'.cell? ⟨gc, 1, none⟩ = some (.int .i64 (c.2 : Int)) ∧ w'.cell? ⟨gx, 1, none⟩ = some (.int .i64 (tz : Int)) ∧ w'.cell? ⟨g7, o7 + tz, none⟩ = some (.int .u64 (x.rds : Int))) (ds := []) #[ff,ff,ff,ff,ff,ff,ff,ff,ff,ff,ff,ff,ff,ff,ff,ff] (by kernel_rfl) rfl rfl (⟨d0, d1, d2, d3, d4⟩) (fun hHeld => ?_)
                    clear d0 d1 d2 d3 d4
                    refine pure_ (i := 0) (N := some 102) (v := ?_) (a' := ?_) #[tt,ff,ff,ff,ff,ff,ff,ff,ff,ff,ff,ff,ff,ff,ff,ff] rfl rfl (by kernel_rfl) (fun _ _ _ h => h) (Or.inl ⟨by rfl, ?_⟩) ?_ ?_; rotate_left; (intro w'; go_simp; with_reducible rfl); rotate_left; (simp only [Act.put, List.setIfInBounds_toArray, List.set_cons_zero, List.set_cons_succ, i64_w, i32_w]; rfl)
                    refine take_ (i := 1) (N := some 103) (v := ?_) (a' := ?_) #[tt,tt,ff,ff,ff,ff,ff,ff,ff,ff,ff,ff,ff,ff,ff,ff] rfl rfl (by kernel_rfl) (fun _ _ _ h => h) (Or.inl ⟨by rfl, ?_⟩) hHeld ?_ ?_; rotate_left; (rintro w' ⟨d0, d1, d2, d3, d4⟩; go_simp; with_reducible rfl); rotate_left; (simp only [Act.put, List.setIfInBounds_toArray, List.set_cons_zero, List.set_cons_succ, i64_w, i32_w]; rfl)
                    refine pure_ (i := 2) (N := some 104) (v := ?_) (a' := ?_) #[tt,tt,tt,ff,ff,ff,ff,ff,ff,ff,ff,ff,ff,ff,ff,ff] rfl rfl (by kernel_rfl) (fun _ _ _ h => h) (Or.inl ⟨by rfl, ?_⟩) ?_ ?_; rotate_left; (intro w'; go_simp; with_reducible rfl); rotate_left; (simp only [Act.put, List.setIfInBounds_toArray, List.set_cons_zero, List.set_cons_succ, i64_w, i32_w]; rfl)
                    refine take_ (i := 3) (N := some 105) (v := ?_) (a' := ?_) #[tt,tt,tt,tt,ff,ff,ff,ff,ff,ff,ff,ff,ff,ff,ff,ff] rfl rfl (by kernel_rfl) (fun _ _ _ h => h) (Or.inl ⟨by rfl, ?_⟩) hHeld ?_ ?_; rotate_left; (rintro w' ⟨d0, d1, d2, d3, d4⟩; go_simp; with_reducible rfl); rotate_left; (simp only [Act.put, List.setIfInBounds_toArray, List.set_cons_zero, List.set_cons_succ, i64_w, i32_w]; rfl)
                    refine pure_ (i := 4) (N := some 106) (v := ?_) (a' := ?_) #[tt,tt,tt,tt,tt,ff,ff,ff,ff,ff,ff,ff,ff,ff,ff,ff] rfl rfl (by kernel_rfl) (fun _ _ _ h => h) (Or.inl ⟨by rfl, ?_⟩) ?_ ?_; rotate_left; (intro w'; go_simp; with_reducible rfl); rotate_left; (simp only [Act.put, List.setIfInBounds_toArray, List.set_cons_zero, List.set_cons_succ, i64_w, i32_w]; rfl)
                    refine pure_ (i := 5) (N := some 107) (v := ?_) (a' := ?_) #[tt,tt,tt,tt,tt,tt,ff,ff,ff,ff,ff,ff,ff,ff,ff,ff] rfl rfl (by kernel_rfl) (fun _ _ _ h => h) (Or.inl ⟨by rfl, ?_⟩) ?_ ?_; rotate_left; (intro w'; go_simp; with_reducible rfl); rotate_left; (simp only [Act.put, List.setIfInBounds_toArray, List.set_cons_zero, List.set_cons_succ, i64_w, i32_w]; rfl)
                    refine pure_ (i := 6) (N := some 108) (v := undef) (a' := ?_) #[tt,tt,tt,tt,tt,tt,tt,ff,ff,ff,ff,ff,ff,ff,ff,ff] rfl rfl (by kernel_rfl) (fun _ _ _ h => h) (Or.inr ⟨by rfl, rfl⟩) ?_ ?_; rotate_left; (simp only [Act.put, List.setIfInBounds_toArray, List.set_cons_zero, List.set_cons_succ, i64_w, i32_w]; rfl)
                    refine pure_ (i := 7) (N := some 109) (v := undef) (a' := ?_) #[tt,tt,tt,tt,tt,tt,tt,tt,ff,ff,ff,ff,ff,ff,ff,ff] rfl rfl (by kernel_rfl) (fun _ _ _ h => h) (Or.inr ⟨by rfl, rfl⟩) ?_ ?_; rotate_left; (simp only [Act.put, List.setIfInBounds_toArray, List.set_cons_zero, List.set_cons_succ, i64_w, i32_w]; rfl)
                    refine pure_ (i := 8) (N := some 110) (v := undef) (a' := ?_) #[tt,tt,tt,tt,tt,tt,tt,tt,tt,ff,ff,ff,ff,ff,ff,ff] rfl rfl (by kernel_rfl) (fun _ _ _ h => h) (Or.inr ⟨by rfl, rfl⟩) ?_ ?_; rotate_left; (simp only [Act.put, List.setIfInBounds_toArray, List.set_cons_zero, List.set_cons_succ, i64_w, i32_w]; rfl)
                    refine pure_ (i := 9) (N := some 111) (v := undef) (a' := ?_) #[tt,tt,tt,tt,tt,tt,tt,tt,tt,tt,ff,ff,ff,ff,ff,ff] rfl rfl (by kernel_rfl) (fun _ _ _ h => h) (Or.inr ⟨by rfl, rfl⟩) ?_ ?_; rotate_left; (simp only [Act.put, List.setIfInBounds_toArray, List.set_cons_zero, List.set_cons_succ, i64_w, i32_w]; rfl)
                    refine pure_ (i := 10) (N := some 112) (v := undef) (a' := ?_) #[tt,tt,tt,tt,tt,tt,tt,tt,tt,tt,tt,ff,ff,ff,ff,ff] rfl rfl (by kernel_rfl) (fun _ _ _ h => h) (Or.inr ⟨by rfl, rfl⟩) ?_ ?_; rotate_left; (simp only [Act.put, List.setIfInBounds_toArray, List.set_cons_zero, List.set_cons_succ, i64_w, i32_w]; rfl)
                    refine pure_ (i := 11) (N := some 113) (v := undef) (a' := ?_) #[tt,tt,tt,tt,tt,tt,tt,tt,tt,tt,tt,tt,ff,ff,ff,ff] rfl rfl (by kernel_rfl) (fun _ _ _ h => h) (Or.inr ⟨by rfl, rfl⟩) ?_ ?_; rotate_left; (simp only [Act.put, List.setIfInBounds_toArray, List.set_cons_zero, List.set_cons_succ, i64_w, i32_w]; rfl)
                    refine pure_ (i := 12) (N := some 114) (v := undef) (a' := ?_) #[tt,tt,tt,tt,tt,tt,tt,tt,tt,tt,tt,tt,tt,ff,ff,ff] rfl rfl (by kernel_rfl) (fun _ _ _ h => h) (Or.inr ⟨by rfl, rfl⟩) ?_ ?_; rotate_left; (simp only [Act.put, List.setIfInBounds_toArray, List.set_cons_zero, List.set_cons_succ, i64_w, i32_w]; rfl)
                    refine pure_ (i := 13) (N := some 115) (v := undef) (a' := ?_) #[tt,tt,tt,tt,tt,tt,tt,tt,tt,tt,tt,tt,tt,tt,ff,ff] rfl rfl (by kernel_rfl) (fun _ _ _ h => h) (Or.inr ⟨by rfl, rfl⟩) ?_ ?_; rotate_left; (simp only [Act.put, List.setIfInBounds_toArray, List.set_cons_zero, List.set_cons_succ, i64_w, i32_w]; rfl)
                    refine pure_ (i := 14) (N := some 116) (v := undef) (a' := ?_) #[tt,tt,tt,tt,tt,tt,tt,tt,tt,tt,tt,tt,tt,tt,tt,ff] rfl rfl (by kernel_rfl) (fun _ _ _ h => h) (Or.inr ⟨by rfl, rfl⟩) ?_ ?_; rotate_left; (simp only [Act.put, List.setIfInBounds_toArray, List.set_cons_zero, List.set_cons_succ, i64_w, i32_w]; rfl)
                    refine pure_ (i := 15) (N := some 117) (v := ?_) (a' := ?_) #[tt,tt,tt,tt,tt,tt,tt,tt,tt,tt,tt,tt,tt,tt,tt,tt] rfl rfl (by kernel_rfl) (fun _ _ _ h => h) (Or.inl ⟨by rfl, ?_⟩) ?_ ?_; rotate_left; (intro w'; go_simp; with_reducible rfl); rotate_left; (simp only [Act.put, List.setIfInBounds_toArray, List.set_cons_zero, List.set_cons_succ, i64_w, i32_w]; rfl)
                    refine done_ (by kernel_rfl) ?_
                    go_wp2
                    go_roundg gmO
                    case measure => omega
                    case rel => exact ⟨m + 1, rfl, by omega, by have := hmf.out; show _ = _; omega, hfc.out.drew⟩
                · have hme : m = q.last.length := by omega
                  have hml2 : ¬ (m : Int) < (q.last.length : Int) := by omega
                  go_wp2
                  go_roundg gjO
                  case measure => omega
                  case rel => exact ⟨j + 1, rfl, by omega, by have := hjf.out; show _ = _; omega, hfb.out.trans hfm.out (fun b hb => by cases hb)⟩
            · have hje : j = i := by omega
              have hjl2 : ¬ (j : Int) < (i : Int) := by omega
              clear hje
              have hrw : Hid (OwnO wr w3.heap.size 28 (.slice (some ⟨g7, o7, none⟩) q.txs.length c7) (nums .u64 (q.txs.map fun x => (x.rds : Int)))) := hra.out.frm hfj.out (fun _ _ h => by cases h)
              have hcw2 : Hid (wr.ownsRow w3.heap.size 55 3 (.slice A8 q.last.length c8) q.last.length (flatA (q.last.map comA))) := owns_of hca.out (fun b hb => hfj.out.block b (hca.out.lt b (Option.mem_toList.1 hb)).2 (by simp))
              have hBw : Hid (Below w3.heap.size w3 wr) := hBa.out.trans (hfj.out.below hBa.out.size (fun b hb => by cases hb))
              have k1w : wr.cell? ⟨gx, 1, none⟩ = some (.int .i64 (tz : Int)) := cell_frm K1.out hfj.out (by simp)
              have t0w : wr.cell? ⟨gt, i * 4, none⟩ = some (.int .u64 (V : Int)) := cell_frm T0.out hfj.out (by simp)
              have gxw : Hid (gx < wr.heap.size) := Nat.lt_of_lt_of_le hba.out.lt hfj.out.size
              have K1W := Lib.hid k1w
              have T0W := Lib.hid t0w
              clear hfj hra hca hba K1 T0 HC7 k0 k1 t0' t1' k1w t0w
              go_wp2
              go_loopg [8, 124] i (fun f v8 v124 wr => ∃ (j : Nat) (ls : List (Int × Nat)) (A8' : Option Addr) (c8' : Nat), v8 = .slice A8' ls.length c8' ∧ v124 = .int .i64 (j : Int) ∧ j ≤ i ∧ Hid (j + f = i) ∧ Hid (ls = q.last ++ (keysOf 2 tz ((x1.map toAct).take (j))).map fun k => (k, V)) ∧ ls.length ≤ 10000 + j ∧
                Hid (OwnO wr w3.heap.size 28 (.slice (some ⟨g7, o7, none⟩) q.txs.length c7) (nums .u64 (q.txs.map fun x => (x.rds : Int)))) ∧ Hid (wr.ownsRow w3.heap.size 55 3 (.slice A8' ls.length c8') ls.length (flatA (ls.map comA))) ∧ Hid (Below w3.heap.size w3 wr) ∧
                Hid (wr.cell? ⟨gx, 1, none⟩ = some (.int .i64 (tz : Int))) ∧ Hid (wr.cell? ⟨gt, i * 4, none⟩ = some (.int .u64 (V : Int))) ∧ Hid (gx ∉ (Value.slice A8' ls.length c8').ownBlock.toList))
              case atStart => exact ⟨0, q.last, A8, c8, rfl, rfl, Nat.zero_le _, by simp [Hid], by simp [Hid, keysOf], by omega, hrw.out, hcw2.out, hBw.out, K1W.out, T0W.out, hga.out⟩
              case round =>
                obtain ⟨j, ls, A8', c8', rfl, rfl, hjn, hjf, hls, hlb0, horj, hcrj, hBj, k1j, t0j, hgxj⟩ := hrel
                by_cases hjl : j < i
                · obtain ⟨rb, hrb⟩ : ∃ rb, (x1.map toAct)[j]? = some rb := ⟨_, List.getElem?_eq_getElem (by rw [List.length_map]; omega)⟩
                  have hjl2 : (j : Int) < (i : Int) := by omega
                  have hlb : ls.length ≤ 10000 + (j + 1) := by omega
                  obtain ⟨ga2, oa2, hAe2, e0, e1, e2⟩ := (HA3.out.below hBj.out).cells hrb
                  injection hAe2 with hAe2
                  injection hAe2 with hAe3 hAe4
                  subst hAe3 hAe4
                  have HTKJ : Hid ((x1.map toAct).take (j + 1) = (x1.map toAct).take j ++ [rb]) := by rw [Hid, List.take_add_one, hrb]; rfl
                  clear hrb
                  obtain ⟨gjO, rfl⟩ : ∃ g, gk = g + 1 := ⟨gk - 1, by have := hjf.out; omega⟩
                  go_upto_region 32 with fail
                  have hob : Hid (OwnO (wr.alloc (.cells #[.int .i64 rb.kind, .int .i64 rb.txn, .int .u64 rb.key] 55)) w3.heap.size 28 (.slice (some ⟨g7, o7, none⟩) q.txs.length c7) (nums .u64 (q.txs.map fun x => (x.rds : Int)))) := horj.out.frm (Frm.alloc wr _) (fun _ _ h => by cases h)
                  have hcb : Hid ((wr.alloc (.cells #[.int .i64 rb.kind, .int .i64 rb.txn, .int .u64 rb.key] 55)).ownsRow w3.heap.size 55 3 (.slice A8' ls.length c8') ls.length (flatA (ls.map comA))) := owns_of hcrj.out (fun b hb => (Frm.alloc wr _).block b (hcrj.out.lt b (Option.mem_toList.1 hb)).2 (by simp))
                  have hBb : Hid (Below w3.heap.size w3 (wr.alloc (.cells #[.int .i64 rb.kind, .int .i64 rb.txn, .int .u64 rb.key] 55))) := hBj.out.alloc hBj.out.size _
                  have k1b : (wr.alloc (.cells #[.int .i64 rb.kind, .int .i64 rb.txn, .int .u64 rb.key] 55)).cell? ⟨gx, 1, none⟩ = some (.int .i64 (tz : Int)) := cell_frm k1j.out (Frm.alloc wr _) (by simp)
                  have t0b : (wr.alloc (.cells #[.int .i64 rb.kind, .int .i64 rb.txn, .int .u64 rb.key] 55)).cell? ⟨gt, i * 4, none⟩ = some (.int .u64 (V : Int)) := cell_frm t0j.out (Frm.alloc wr _) (by simp)
                  have hbb : Hid (Blk (wr.alloc (.cells #[.int .i64 rb.kind, .int .i64 rb.txn, .int .u64 rb.key] 55)) wr.heap.size 55 rb.cells) := Blk.new wr _ _
                  have hgr : Hid (wr.heap.size ∉ (Value.slice A8' ls.length c8').ownBlock.toList) := fun hm => by have := (hcrj.out.lt _ (Option.mem_toList.1 hm)).2; omega
                  clear e0 e1 e2 horj hcrj hBj k1j t0j
                  generalize wr.alloc (.cells #[.int .i64 rb.kind, .int .i64 rb.txn, .int .u64 rb.key] 55) = wb at *
                  generalize wr.heap.size = gr at *
                  have j0 : wb.cell? ⟨gr, 0, none⟩ = some (.int .i64 rb.kind) := hbb.out.at_ rfl
                  have j1 : wb.cell? ⟨gr, 1, none⟩ = some (.int .i64 rb.txn) := hbb.out.at_ rfl
                  have j2 : wb.cell? ⟨gr, 2, none⟩ = some (.int .u64 rb.key) := hbb.out.at_ rfl
                  by_cases hk2 : rb.kind = 2
                  case neg =>
                    have hk2b : (rb.kind == 2) = false := by rw [beq_eq_false_iff_ne]; exact hk2
                    go_wp2
                    go_roundg gjO
                    case measure => omega
                    case rel =>
                      refine ⟨j + 1, ls, A8', c8', rfl, rfl, by omega, by have := hjf.out; show _ = _; omega, ?_, hlb, hob.out, hcb.out, hBb.out, k1b, t0b, hgxj.out⟩
                      rw [Hid, hls.out, HTKJ.out, keysOf_app, if_neg (fun h => hk2 h.1), List.append_nil]
                  case pos =>
                  by_cases htx : rb.txn = (tz : Int)
                  case neg =>
                    have htxb : (rb.txn == (tz : Int)) = false := by rw [beq_eq_false_iff_ne]; exact htx
                    rw [hk2] at j0
                    have HK2 := Lib.hid hk2
                    clear hk2
                    go_wp2
                    go_roundg gjO
                    case measure => omega
                    case rel =>
                      refine ⟨j + 1, ls, A8', c8', rfl, rfl, by omega, by have := hjf.out; show _ = _; omega, ?_, hlb, hob.out, hcb.out, hBb.out, k1b, t0b, hgxj.out⟩
                      rw [Hid, hls.out, HTKJ.out, keysOf_app, if_neg (fun h => htx h.2), List.append_nil]
                  case pos =>
                  rw [hk2] at j0
                  rw [htx] at j1
                  have hkk : Hid (rb.kind = 2 ∧ rb.txn = (tz : Int)) := ⟨hk2, htx⟩
                  clear hk2 htx
                  have hVw : IntKind.i64.wrap (V : Int) = (V : Int) := IntWalk.i64_in _ (by omega)
                  have hBs : Hid (w3.heap.size ≤ wb.heap.size) := hBb.out.size
                  go_upto_region 33 with fail
                  refine start_ (n := 13) (S := fun w' => w'.cell? ⟨gt, i * 4, none⟩ = some (.int .u64 (V : Int)) ∧ w'.cell? ⟨gr, 2, none⟩ = some (.int .u64 rb.key)) (ds := []) #[ff,ff,ff,ff,ff,ff,ff,ff,ff,ff,ff,ff,ff] (by kernel_rfl) rfl rfl (⟨t0b, j2⟩) (fun hHeld => ?_)
                  have hod : Hid (OwnO wb.drew w3.heap.size 28 (.slice (some ⟨g7, o7, none⟩) q.txs.length c7) (nums .u64 (q.txs.map fun x => (x.rds : Int)))) := hob.out.frm (L := []) (Frm.refl [] wb).drew (fun _ _ h => by cases h)
                  have hcd : Hid (wb.drew.ownsRow w3.heap.size 55 3 (.slice A8' ls.length c8') ls.length (flatA (ls.map comA))) := hcb.out
                  have hBd : Hid (Below w3.heap.size w3 wb.drew) := hBb.out.drew
                  have k1d : Hid (wb.drew.cell? ⟨gx, 1, none⟩ = some (.int .i64 (tz : Int))) := k1b
                  have hbd : Hid (Blk wb.drew gr 55 rb.cells) := hbb.out
                  have hgxs : Hid (gx < wb.drew.heap.size) := World.block_lt_of_cell? wb _ k1b
                  have hgt0 : Hid (wb.drew.cell? ⟨gt, i * 4, none⟩ = some (.int .u64 (V : Int))) := t0b
                  clear hob hcb hBb k1b t0b hbb j0 j1 j2 hBs
                  generalize wb.drew = wd at *
                  refine pure_ (i := 0) (N := some 138) (v := ?_) (a' := ?_) #[tt,ff,ff,ff,ff,ff,ff,ff,ff,ff,ff,ff,ff] rfl rfl (by kernel_rfl) (fun _ _ _ h => h) (Or.inl ⟨by rfl, ?_⟩) ?_ ?_; rotate_left; (intro w'; go_simp; with_reducible rfl); rotate_left; (simp only [Act.put, List.setIfInBounds_toArray, List.set_cons_zero, List.set_cons_succ, i64_w, i32_w]; rfl)
                  refine pure_ (i := 1) (N := some 139) (v := ?_) (a' := ?_) #[tt,tt,ff,ff,ff,ff,ff,ff,ff,ff,ff,ff,ff] rfl rfl (by kernel_rfl) (fun _ _ _ h => h) (Or.inl ⟨by rfl, ?_⟩) ?_ ?_; rotate_left; (intro w'; go_simp; with_reducible rfl); rotate_left; (simp only [Act.put, List.setIfInBounds_toArray, List.set_cons_zero, List.set_cons_succ, i64_w, i32_w]; rfl)
                  refine pure_ (i := 2) (N := some 140) (v := ?_) (a' := ?_) #[tt,tt,tt,ff,ff,ff,ff,ff,ff,ff,ff,ff,ff] rfl rfl (by kernel_rfl) (fun _ _ _ h => h) (Or.inl ⟨by rfl, ?_⟩) ?_ ?_; rotate_left; (intro w'; go_simp; with_reducible rfl); rotate_left; (simp only [Act.put, List.setIfInBounds_toArray, List.set_cons_zero, List.set_cons_succ, i64_w, i32_w]; rfl)
                  refine pure_ (i := 3) (N := some 141) (v := ?_) (a' := ?_) #[tt,tt,tt,tt,ff,ff,ff,ff,ff,ff,ff,ff,ff] rfl rfl (by kernel_rfl) (fun _ _ _ h => h) (Or.inl ⟨by rfl, ?_⟩) ?_ ?_; rotate_left; (intro w'; go_simp; with_reducible rfl); rotate_left; (simp only [Act.put, List.setIfInBounds_toArray, List.set_cons_zero, List.set_cons_succ, i64_w, i32_w]; rfl)
                  refine pure_ (i := 4) (N := some 142) (v := ?_) (a' := ?_) #[tt,tt,tt,tt,tt,ff,ff,ff,ff,ff,ff,ff,ff] rfl rfl (by kernel_rfl) (fun _ _ _ h => h) (Or.inl ⟨by rfl, ?_⟩) ?_ ?_; rotate_left; (intro w'; go_simp; with_reducible rfl); rotate_left; (simp only [Act.put, List.setIfInBounds_toArray, List.set_cons_zero, List.set_cons_succ, i64_w, i32_w]; rfl)
                  refine take_ (i := 5) (N := some 143) (v := ?_) (a' := ?_) #[tt,tt,tt,tt,tt,tt,ff,ff,ff,ff,ff,ff,ff] rfl rfl (by kernel_rfl) (fun _ _ _ h => h) (Or.inl ⟨by rfl, ?_⟩) hHeld ?_ ?_; rotate_left; (rintro w' ⟨d0, d1⟩; go_simp; with_reducible rfl); rotate_left; (simp only [Act.put, List.setIfInBounds_toArray, List.set_cons_zero, List.set_cons_succ, i64_w, i32_w]; rfl)
                  refine pure_ (i := 6) (N := some 144) (v := ?_) (a' := ?_) #[tt,tt,tt,tt,tt,tt,tt,ff,ff,ff,ff,ff,ff] rfl rfl (by kernel_rfl) (fun _ _ _ h => h) (Or.inl ⟨by rfl, ?_⟩) ?_ ?_; rotate_left; (intro w'; go_simp; with_reducible rfl); rotate_left; (simp only [Act.put, List.setIfInBounds_toArray, List.set_cons_zero, List.set_cons_succ, i64_w, i32_w]; rfl)
                  refine pure_ (i := 7) (N := some 145) (v := ?_) (a' := ?_) #[tt,tt,tt,tt,tt,tt,tt,tt,ff,ff,ff,ff,ff] rfl rfl (by kernel_rfl) (fun _ _ _ h => h) (Or.inl ⟨by rfl, ?_⟩) ?_ ?_; rotate_left; (intro w'; go_simp; with_reducible rfl); rotate_left; (simp only [Act.put, List.setIfInBounds_toArray, List.set_cons_zero, List.set_cons_succ, i64_w, i32_w]; rfl)
                  refine take_ (i := 8) (N := some 146) (v := ?_) (a' := ?_) #[tt,tt,tt,tt,tt,tt,tt,tt,tt,ff,ff,ff,ff] rfl rfl (by kernel_rfl) (fun _ _ _ h => h) (Or.inl ⟨by rfl, ?_⟩) hHeld ?_ ?_; rotate_left; (rintro w' ⟨d0, d1⟩; go_simp; with_reducible rfl); rotate_left; (simp only [Act.put, List.setIfInBounds_toArray, List.set_cons_zero, List.set_cons_succ, i64_w, i32_w]; rfl)
                  refine pure_ (i := 9) (N := some 147) (v := ?_) (a' := ?_) #[tt,tt,tt,tt,tt,tt,tt,tt,tt,tt,ff,ff,ff] rfl rfl (by kernel_rfl) (fun _ _ _ h => h) (Or.inl ⟨by rfl, ?_⟩) ?_ ?_; rotate_left; (intro w'; go_simp; with_reducible rfl); rotate_left; (simp only [Act.put, List.setIfInBounds_toArray, List.set_cons_zero, List.set_cons_succ, i64_w, i32_w]; rfl)
                  refine one_ (i := 10) (N := some 148) #[tt,tt,tt,tt,tt,tt,tt,tt,tt,tt,tt,ff,ff] rfl rfl (by kernel_rfl) (by decide) (fun K hK => ?_)
                  refine Go.Proofs.YtanmgkpgfmkobaaW.PrintLast.value_ (v := .slice (some ⟨wd.heap.size, 0, none⟩) 1 1) (w1 := wd.alloc (.cells #[.int .i64 0, .int .i64 (V : Int), .int .u64 rb.key] 55)) (by rfl) rfl ?_ ?_
                  · go_simp
                    try rfl
                  refine hK.out _ _ (⟨cell_frm hHeld.1 (Frm.alloc wd _) (by simp), cell_frm hHeld.2 (Frm.alloc wd _) (by simp)⟩) (fun hHeld => ?_); clear hK K; refine norm_ (a' := ?_) ?_ ?_; rotate_left; (show Act.put _ (some 148) _ = _; simp only [Act.put, List.setIfInBounds_toArray, List.set_cons_zero, List.set_cons_succ, i64_w, i32_w]; rfl)
                  have hfa : Hid (Frm [] wd (wd.alloc (.cells #[.int .i64 0, .int .i64 (V : Int), .int .u64 rb.key] 55))) := Frm.alloc wd _
                  have hna : Hid (Blk (wd.alloc (.cells #[.int .i64 0, .int .i64 (V : Int), .int .u64 rb.key] 55)) wd.heap.size 55 [.int .i64 0, .int .i64 (V : Int), .int .u64 rb.key]) := Blk.new wd _ _
                  have hcaa : Hid ((wd.alloc (.cells #[.int .i64 0, .int .i64 (V : Int), .int .u64 rb.key] 55)).ownsRow w3.heap.size 55 3 (.slice A8' ls.length c8') ls.length (flatA (ls.map comA))) := owns_of hcd.out (fun b hb => hfa.out.block b (hcd.out.lt b (Option.mem_toList.1 hb)).2 (by simp))
                  have hza : Hid ((wd.alloc (.cells #[.int .i64 0, .int .i64 (V : Int), .int .u64 rb.key] 55)).heap.size = wd.heap.size + 1) := World.size_alloc wd _
                  have hBa2 : Hid (w3.heap.size ≤ (wd.alloc (.cells #[.int .i64 0, .int .i64 (V : Int), .int .u64 rb.key] 55)).heap.size) := Nat.le_trans hBd.out.size hfa.out.size
                  have hba2 : Hid (Blk (wd.alloc (.cells #[.int .i64 0, .int .i64 (V : Int), .int .u64 rb.key] 55)) gr 55 rb.cells) := hbd.out.alloc _
                  have hgta : Hid ((wd.alloc (.cells #[.int .i64 0, .int .i64 (V : Int), .int .u64 rb.key] 55)).cell? ⟨gt, i * 4, none⟩ = some (.int .u64 (V : Int))) := cell_frm hgt0.out hfa.out (by simp)
                  generalize hwa : wd.alloc (.cells #[.int .i64 0, .int .i64 (V : Int), .int .u64 rb.key] 55) = wy at *
                  generalize hgy : wd.heap.size = gy at *
                  have HWY := Lib.hid (And.intro hwa hgy)
                  clear hwa hgy
                  refine one_ (i := 11) (N := some 149) #[tt,tt,tt,tt,tt,tt,tt,tt,tt,tt,tt,tt,ff] rfl rfl (by kernel_rfl) (by decide) (fun K hK => ?_)
                  refine step_append_ac rfl (.tmp 138) (.tmp 148) rfl w3.heap.size (.slice A8' ls.length c8') ls.length (flatA (ls.map comA)) rfl hcaa.out gy 1 [.int .i64 0, .int .i64 (V : Int), .int .u64 rb.key] rfl rfl hna.out (by simp [Value.oneCell']) (by omega) hBa2.out ?_
                  intro v8 w8 ho8 hg8 hat8
                  obtain ⟨A11, c11, rfl⟩ : ∃ A c, v8 = .slice A (ls.length + 1) c := by
                    rcases ho8.2 with ⟨_, h0⟩ | ⟨g, cap, cur, rfl, _⟩
                    · omega
                    · exact ⟨_, _, rfl⟩
                  have HO8 := Lib.hid ho8
                  have HA8 := Lib.hid hat8
                  have HF8 : Hid (Frm (Value.slice A8' ls.length c8').ownBlock.toList wd w8) := (hfa.out.mono (fun _ h => by cases h)).trans (frmRowO hg8) (fun j hj => .inl hj)
                  have t8 : w8.cell? ⟨gt, i * 4, none⟩ = some (.int .u64 (V : Int)) := by
                    refine cell_frm hgta.out (frmRowO hg8) (fun hm => ?_)
                    have h1 := (hcaa.out.lt gt (Option.mem_toList.1 hm)).1
                    have h2 := HGTB.out
                    omega
                  have j8 : w8.cell? ⟨gr, 2, none⟩ = some (.int .u64 rb.key) := (hba2.out.frm (frmRowO hg8) hgr.out).at_ rfl
                  clear ho8 hg8 hat8
                  refine hK.out _ _ (⟨t8, j8⟩) (fun hHeld => ?_); clear hK K; refine norm_ (a' := ?_) ?_ ?_; rotate_left; (show Act.put _ (some 149) _ = _; simp only [Act.put, List.setIfInBounds_toArray, List.set_cons_zero, List.set_cons_succ, i64_w, i32_w]; rfl)
                  refine pure_ (i := 12) (N := some 8) (v := ?_) (a' := ?_) #[tt,tt,tt,tt,tt,tt,tt,tt,tt,tt,tt,tt,tt] rfl rfl (by kernel_rfl) (fun _ _ _ h => h) (Or.inl ⟨by rfl, ?_⟩) ?_ ?_; rotate_left; (intro w'; go_simp; with_reducible rfl); rotate_left; (simp only [Act.put, List.setIfInBounds_toArray, List.set_cons_zero, List.set_cons_succ, i64_w, i32_w]; rfl)
                  refine done_ (by kernel_rfl) ?_
                  clear t8 j8
                  have HJN : Hid ((q.last ++ (keysOf 2 tz ((x1.map toAct).take (j + 1))).map fun k => (k, V)) = ls ++ [(rb.key, V)]) := by
                    rw [Hid, HTKJ.out, keysOf_app, if_pos hkk.out, List.map_append, ← List.append_assoc, ← hls.out]
                    rfl
                  clear hHeld
                  go_wp2
                  go_roundg gjO
                  case measure => omega
                  case rel =>
                    refine ⟨j + 1, (ls ++ [(rb.key, V)] : List (Int × Nat)), A11, c11, by rw [List.length_append]; rfl, rfl, by omega, by have := hjf.out; show _ = _; omega, HJN.out.symm, by rw [List.length_append, List.length_singleton]; omega, ?_, ?_, ?_, ?_, ?_, ?_⟩
                    · refine ownO_of hod.out (fun b hb => HF8.out.block b (ownO_lt hod.out b hb) (fun hm => ?_))
                      obtain ⟨cs, hk, _⟩ := hod.out.blk hb
                      exact own_ne_blk hcd.out hk (by decide) hm
                    · rw [Hid, List.map_append, List.length_append, List.length_singleton, show flatA (ls.map comA ++ [(rb.key, V)].map comA) = flatA (ls.map comA) ++ [.int .i64 0, .int .i64 (V : Int), .int .u64 rb.key] by simp [flatA, comA, OAct.cells]]
                      exact HO8.out
                    · exact hBd.out.trans (HF8.out.below hBd.out.size (fun b hb => (hcd.out.lt b (Option.mem_toList.1 hb)).1))
                    · exact cell_frm k1d.out HF8.out hgxj.out
                    · refine cell_frm hgt0.out HF8.out (fun hm => ?_)
                      have h1 := (hcd.out.lt gt (Option.mem_toList.1 hm)).1
                      have h2 := HGTB.out
                      omega
                    · intro hm
                      rw [List.length_append, List.length_singleton] at hm
                      rcases HA8.out with e | e
                      · rw [e] at hm; exact hgxj.out hm
                      · rw [e] at hm
                        simp only [Option.toList_some, List.mem_singleton] at hm
                        have h1 := hgxs.out
                        have h2 := hza.out
                        omega
                · have hje : j = i := by omega
                  have hjl2 : ¬ (j : Int) < (i : Int) := by omega
                  have HJE := Lib.hid hje
                  clear hje
                  go_wp2
                  go_roundg gkO
                  case measure => omega
                  case rel =>
                    have hlq : ls = r.1.last := by rw [hls.out, HJE.out, HLA.out, ← HTT.out.2]
                    have s3 := HS3.out
                    have hlen' : r.1.txs.length = q.txs.length := by have := congrArg List.length s3; simpa using this
                    have e : (r.1.txs.map fun x => (x.rds : Int)) = (q.txs.map fun x => (x.rds : Int)) := by
                      have h1 := congrArg (List.map fun k : Nat => (k : Int)) s3
                      rw [List.map_map, List.map_map] at h1
                      exact h1
                    refine ⟨i + 1, r.1, some ⟨g7, o7, none⟩, c7, A8', c8', by rw [hlen'], by rw [hlq], rfl, by omega, by have := hf.out; show _ = _; omega, HRN.out, by rw [Hid, HTK.out]; exact HSN.out, ⟨HSQ.out, fun c hc => ?_⟩, by rw [Hid, hlen', e]; exact horj.out, by rw [Hid, ← hlq]; exact hcrj.out, hBj.out⟩
                    rw [HLA.out] at hc
                    rcases List.mem_append.1 hc with hc | hc
                    · exact hsq.out.2 c hc
                    · obtain ⟨k, _, rfl⟩ := List.mem_map.1 hc
                      show V ≤ 10000
                      omega
      · have hie : i = x1.length := by omega
        have hlt2 : ¬ (i : Int) < (x1.length : Int) := by omega
        have HBR : Hid (Below w.heap.size w wr) := HB3.out.trans (hbr.out.mono HB3.out.size)
        go_wp2
        go_ret
        exact ⟨rfl, HBR.out⟩
end Go.Proofs.Ytanmgkpgfmkobaa
