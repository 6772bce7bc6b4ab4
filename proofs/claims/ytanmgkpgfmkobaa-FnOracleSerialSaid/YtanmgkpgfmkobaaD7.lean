/- spec.Open: where transactions read that have not ended. -/
import Derived.Test.YtanmgkpgfmkobaaD5
namespace Go.Proofs.Ytanmgkpgfmkobaa
open Go.RowKit
set_option linter.unusedVariables false
set_option linter.unusedSimpArgs false
set_option maxRecDepth 100000
theorem act_range {cf : Bool} {q : SSt} {a : OAct} {r : SSt × Nat × Bool} (hr : q.act cf a = some r) (h0 : a.kind ≠ 0) : 0 ≤ a.txn ∧ a.txn.toNat < q.txs.length := by
  unfold SSt.act at hr
  rw [if_neg h0] at hr
  by_cases hn : a.txn < 0
  · rw [if_pos hn] at hr; cases hr
  · rw [if_neg hn] at hr
    cases hx : q.txs[a.txn.toNat]? with
    | none => rw [hx] at hr; cases hr
    | some x => exact ⟨by omega, (List.getElem?_eq_some_iff.1 hx).1⟩
/-- One act on, in both. -/
theorem run_next {cf : Bool} {q : SSt} {l : List OAct} {L : List (Nat × Bool × Nat)} {i : Nat} {a : OAct} (h : sRun cf q (l.drop i) = some (L.drop i)) (ha : l[i]? = some a) : ∃ r, q.act cf a = some r ∧ L[i]? = some (r.2.1, r.2.2, r.1.next) ∧ sRun cf r.1 (l.drop (i + 1)) = some (L.drop (i + 1)) := by
  have hi := List.getElem?_eq_some_iff.1 ha
  have hd : l.drop i = a :: l.drop (i + 1) := by rw [← List.getElem_cons_drop hi.1, hi.2]
  rw [hd] at h
  unfold sRun at h
  cases hr : q.act cf a with
  | none => rw [hr] at h; cases h
  | some r =>
    rw [hr] at h
    simp only at h
    obtain ⟨L', hL', e⟩ := Option.map_eq_some_iff.1 h
    refine ⟨r, rfl, ?_, ?_⟩
    · have h2 : (L.drop i)[0]? = some (r.2.1, r.2.2, r.1.next) := by rw [← e]; rfl
      rwa [List.getElem?_drop, Nat.add_zero] at h2
    · have h2 : (L.drop i).drop 1 = L' := by rw [← e]; rfl
      rw [List.drop_drop] at h2
      rw [h2]
      exact hL'
def openF (l : List STx) : List Int := (l.filter fun x => !x.ended).map fun x => (x.rds : Int)
def rdsO (l : List (Nat × Bool)) : List Int := l.map fun p => (p.1 : Int)
def endO (l : List (Nat × Bool)) : List Value := l.map fun p => .bool p.2
theorem openF_o (l : List STx) : rdsO ((l.map STx.o).filter fun p => !p.2) = openF l := by
  unfold rdsO openF
  rw [List.filter_map, List.map_map]
  rfl
theorem rdsO_mod (l : List (Nat × Bool)) (t : Nat) : rdsO (l.modify t fun p => (p.1, true)) = rdsO l := by
  unfold rdsO
  refine List.ext_getElem? fun i => ?_
  rw [List.getElem?_map, List.getElem?_map, List.getElem?_modify]
  cases l[i]? with
  | none => rfl
  | some p => by_cases h : t = i <;> simp [h]
theorem endO_mod (l : List (Nat × Bool)) (t : Nat) : endO (l.modify t fun p => (p.1, true)) = (endO l).set t (.bool true) := by
  unfold endO
  refine List.ext_getElem? fun i => ?_
  rw [List.getElem?_map, List.getElem?_modify, List.getElem?_set, List.getElem?_map, List.length_map]
  by_cases h : t = i
  · subst h
    by_cases hl : t < l.length
    · rw [if_pos rfl, if_pos hl, List.getElem?_eq_getElem hl]
      simp
    · rw [if_pos rfl, if_neg hl, List.getElem?_eq_none (by omega)]
      rfl
  · rw [if_neg h]
    cases l[i]? <;> simp [h]
theorem infoBO : (Try.prog.info? 4).map (fun i => (i.zero, i.size, i.bytes)) = some (some (.bool false), 1, 1) := by kernel_rfl
theorem wpList_append_bo {ops : Array Oper} {rest : List Oper} {o : Oper} {a : Act} {w : World} {Q : Exit → Act → World → Prop} (hgd : o.guard = none) (s x : Operand)
    (ho : o.op = .call { callee := .builtin .append, args := #[s, x], argTypes := #[110, 110] })
    (base : Nat) (v : Value) (n : Nat) (xs : List Value) (hs : a.eval s = v) (hown : w.ownsRow base 4 1 v n xs)
    (g c : Nat) (u : Value) (hx : a.eval x = .slice (some ⟨g, 0, none⟩) 1 c) (hb : w.cell? ⟨g, 0, none⟩ = some u) (h1 : u.oneCell' = true)
    (hn : n ≤ 1000000) (hbase : base ≤ w.heap.size)
    (h : ∀ v' w', w'.ownsRow base 4 1 v' (n + 1) (xs ++ [u]) → w.grownBy w' v.ownBlock → (v'.ownBlock = v.ownBlock ∨ v'.ownBlock = some w.heap.size) → wpList Try.prog ops Q rest (a.put o.dst v') w') :
    wpList Try.prog ops Q (o :: rest) a w := by
  obtain ⟨i, hi, hf⟩ := info_someO infoBO
  simp only [Prod.mk.injEq] at hf
  obtain ⟨hz0, hz1, hz2⟩ := hf
  exact wpList_append_own_at w hgd s x 110 ho base 4 i _ 1 1 Try.underlying110 hi hz0 hz1 hz2 rfl (by omega) v n xs hs hown ⟨g, 0, none⟩ 1 c [u] hx rfl (fun j y hy => by
    match j, hy with
    | 0, hy =>
      simp only [List.getElem?_cons_zero, Option.some.injEq] at hy
      subst hy
      have e : (⟨g, 0, none⟩ : Addr).add 0 = ⟨g, 0, none⟩ := by simp [Addr.add]
      rw [e]; exact hb) (fun y hy => by rw [List.mem_singleton] at hy; subst hy; exact h1) (by simp [maxLen]; omega) (by omega) hbase (fun v' w' h2 h3 _ h4 => h v' w' h2 h3 h4)
/-- A cell of a row of one's own is written. -/
theorem own_set {w : World} {base e n c g t : Nat} {xs : List Value} {u : Value} (h : w.ownsRow base e 1 (.slice (some ⟨g, 0, none⟩) n c) n xs) (ht : t < n) : (w.setCell ⟨g, t, none⟩ u).ownsRow base e 1 (.slice (some ⟨g, 0, none⟩) n c) n (xs.set t u) := by
  obtain ⟨h1, h2⟩ := h
  refine ⟨by rw [List.length_set]; exact h1, ?_⟩
  rcases h2 with ⟨hv, _⟩ | ⟨g', cap, cur, hv, hb, hh, h3, h4, h5, h6⟩
  · cases hv
  · injection hv with ha hn hc
    injection ha with ha
    injection ha with ha
    subst ha hc
    have hbk : Blk w g e cur.toList := by unfold Blk; rw [Array.toArray_toList]; exact hh
    have hs := hbk.set_ t u
    refine .inr ⟨g, c, (cur.toList.set t u).toArray, rfl, hb, hs, h3, h4, by simpa using h5, ?_⟩
    rw [Nat.mul_one] at h6 ⊢
    show (cur.toList.set t u).take n = _
    rw [List.take_set, h6]
set_option maxHeartbeats 4000000 in
theorem specOpen_any (cf : Bool) (first : Nat) (A : Option Addr) (n c : Nat) (l : List OAct) (L : List (Nat × Bool × Nat)) (w : World) (hA : Acts w A l) (hn : l.length = n) (hl : n ≤ 100) (q1 : 1 ≤ first) (q2 : first ≤ 1000) (hrun : sRun cf (sInit first) l = some L) :
    Calls Try.prog 26 #[.bool cf, .int .u64 (first : Int), .slice A n c] w fun E w' => Below w.heap.size w w' ∧ ∃ q v, sState cf (sInit first) l = some q ∧ E = .returned v ∧ OwnO w' w.heap.size 28 v (nums .u64 (openF q.txs)) := by
  have HA := Lib.hid hA
  have HN := Lib.hid hn
  have HRUN := Lib.hid hrun
  clear hA hn hrun
  go_enter Try.func26, Try.ntmps26
  have hf0 : Hid (Frm [] w ((w.alloc (.cells #[] 28)).alloc (.cells #[] 4))) := (Frm.alloc w _).andAlloc _
  have hz0 : Hid (((w.alloc (.cells #[] 28)).alloc (.cells #[] 4)).heap.size = w.heap.size + 1 + 1) := by rw [Hid, World.size_alloc, World.size_alloc]
  have hr0 : Hid (OwnO ((w.alloc (.cells #[] 28)).alloc (.cells #[] 4)) w.heap.size 28 (.slice (some ⟨w.heap.size, 0, none⟩) 0 0) (nums .u64 [])) := by
    refine .inr ⟨w.heap.size, 0, 0, #[], rfl, Nat.le_refl _, ?_, Nat.le_refl _, by simp [maxLen], Nat.le_refl _, rfl⟩
    exact (Blk.new w 28 []).alloc _
  have he0 : Hid (((w.alloc (.cells #[] 28)).alloc (.cells #[] 4)).ownsRow w.heap.size 4 1 (.slice (some ⟨w.heap.size + 1, 0, none⟩) 0 0) 0 []) := by
    have h3 := World.ownsRow_made (base := w.heap.size) (e := 4) (size := 1) (w.alloc (.cells #[] 28)) #[] 0 (by rw [World.size_alloc]; omega) (by simp [maxLen]) rfl
    rw [World.size_alloc] at h3
    exact h3
  have hB0 : Hid (Below w.heap.size w ((w.alloc (.cells #[] 28)).alloc (.cells #[] 4))) := hf0.out.below (Nat.le_refl _) (fun b hb => by cases hb)
  have hA0 : Hid (Acts ((w.alloc (.cells #[] 28)).alloc (.cells #[] 4)) A l) := HA.out.below hB0.out
  go_wp2_with fail
  refine (specOracle_any cf first A n c l _ hA0.out HN.out hl q1 q2).mono ?_
  rintro E w2 ⟨hb2, hq2⟩
  rw [HRUN.out] at hq2
  obtain ⟨A9, c9, rfl, ho2⟩ := hq2
  have HO2 : Hid (w2.ownsRow 0 57 4 (.slice A9 n c9) n (flatT (L.map toT))) := ⟨ho2.1, by
    rcases ho2.2 with h | ⟨g, cap, cur, h1, _, h2⟩
    · exact .inl h
    · exact .inr ⟨g, cap, cur, h1, Nat.zero_le _, h2⟩⟩
  have HR2 : Hid (OwnO w2 w.heap.size 28 (.slice (some ⟨w.heap.size, 0, none⟩) 0 0) (nums .u64 [])) := ownO_of hr0.out (fun b hb => hb2.block b (ownO_lt hr0.out b hb))
  have HE2 : Hid (w2.ownsRow w.heap.size 4 1 (.slice (some ⟨w.heap.size + 1, 0, none⟩) 0 0) 0 []) := owns_below he0.out hb2
  have HB2 : Hid (Below w.heap.size w w2) := hB0.out.trans (hb2.mono (by have := hz0.out; omega))
  have hTT : Hid (∀ b ∈ (Value.slice A9 n c9).ownBlock.toList, w.heap.size + 1 + 1 ≤ b) := fun b hb => by
    have h1 := (ho2.lt b (Option.mem_toList.1 hb)).1
    have h2 := hz0.out
    omega
  clear hb2 ho2 hr0 he0 hB0 hA0 hf0
  go_wp2
  go_loopg [7, 8, 27] n (fun f v7 v8 v27 wr => ∃ (i : Nat) (q : SSt) (st : List (Nat × Bool)) (A7 : Option Addr) (c7 : Nat) (A8 : Option Addr) (c8 : Nat), v27 = .int .i64 (i : Int) ∧ v7 = .slice A7 st.length c7 ∧ v8 = .slice A8 st.length c8 ∧ i ≤ n ∧ Hid (i + f = n) ∧ st.length ≤ 100 ∧
    Hid (st = q.txs.map STx.o ∧ st.length ≤ i) ∧ Hid (sState cf (sInit first) (l.take i) = some q) ∧ Hid (sRun cf q (l.drop i) = some (L.drop i)) ∧ Hid (OwnO wr w.heap.size 28 (.slice A7 st.length c7) (nums .u64 (rdsO st))) ∧ Hid (wr.ownsRow w.heap.size 4 1 (.slice A8 st.length c8) st.length (endO st)) ∧
    Hid (wr.ownsRow 0 57 4 (.slice A9 n c9) n (flatT (L.map toT))) ∧ Hid (Below w.heap.size w wr))
  case atStart => exact ⟨0, sInit first, [], some ⟨w.heap.size, 0, none⟩, 0, some ⟨w.heap.size + 1, 0, none⟩, 0, rfl, rfl, rfl, Nat.zero_le _, by simp [Hid], Nat.zero_le _, ⟨rfl, Nat.le_refl _⟩, rfl, by rw [Hid, List.drop_zero, List.drop_zero]; exact HRUN.out, HR2.out, HE2.out, HO2.out, HB2.out⟩
  case round =>
    obtain ⟨i, q, st, A7, c7, A8, c8, rfl, rfl, rfl, hin, hf, hst100, hst1, hss, hsr, hrr, her, hor, hbr⟩ := hrel
    by_cases hlt : i < n
    · obtain ⟨a, ha⟩ : ∃ a, l[i]? = some a := ⟨_, List.getElem?_eq_getElem (by have := HN.out; omega)⟩
      have hlt2 : (i : Int) < (n : Int) := by omega
      obtain ⟨r, hact, hLi, hrn⟩ := run_next hsr.out ha
      obtain ⟨ga, oa, hAe, e0, e1, e2⟩ := (HA.out.below hbr.out).cells ha
      obtain ⟨gt, hA9, t0, t1, _, _, _⟩ := told_cells (t := ⟨r.2.1, r.2.2, 0, r.1.next⟩) hor.out (by rw [List.getElem?_map, hLi]; rfl)
      subst hAe hA9
      simp only at t0 t1
      have HOP := Lib.hid (op_act hact)
      have HACT := Lib.hid hact
      have HRN := Lib.hid hrn
      have HSS : Hid (sState cf (sInit first) (l.take (i + 1)) = some r.1) := by
        have htk : l.take (i + 1) = l.take i ++ [a] := by rw [List.take_add_one, ha]; rfl
        rw [Hid, htk]
        exact sState_app cf _ a _ q r hss.out hact
      obtain ⟨gkO, rfl⟩ : ∃ g, gk = g + 1 := ⟨gk - 1, by have := hf.out; omega⟩
      obtain ⟨V, hV⟩ : ∃ V, r.2.1 = V := ⟨_, rfl⟩
      obtain ⟨C, hC⟩ : ∃ C, r.2.2 = C := ⟨_, rfl⟩
      rw [hV] at t0
      rw [hC] at t1
      rw [hV, hC] at HOP
      clear ha hact hLi hrn hV hC hss hsr
      go_upto_region 6 with fail
      have t0' : (wr.alloc (.cells #[.int .i64 a.kind, .int .i64 a.txn, .int .u64 a.key] 55)).cell? ⟨gt, i * 4, none⟩ = some (.int .u64 (V : Int)) := cell_frm t0 (Frm.alloc wr _) (by simp)
      have t1' : (wr.alloc (.cells #[.int .i64 a.kind, .int .i64 a.txn, .int .u64 a.key] 55)).cell? ⟨gt, i * 4 + 1, none⟩ = some (.bool C) := cell_frm t1 (Frm.alloc wr _) (by simp)
      have hba : Hid (Blk (wr.alloc (.cells #[.int .i64 a.kind, .int .i64 a.txn, .int .u64 a.key] 55)) wr.heap.size 55 a.cells) := Blk.new wr _ _
      have hra : Hid (OwnO (wr.alloc (.cells #[.int .i64 a.kind, .int .i64 a.txn, .int .u64 a.key] 55)) w.heap.size 28 (.slice A7 st.length c7) (nums .u64 (rdsO st))) := hrr.out.frm (Frm.alloc wr _) (fun _ _ h => by cases h)
      have hea : Hid ((wr.alloc (.cells #[.int .i64 a.kind, .int .i64 a.txn, .int .u64 a.key] 55)).ownsRow w.heap.size 4 1 (.slice A8 st.length c8) st.length (endO st)) := owns_of her.out (fun b hb => (Frm.alloc wr _).block b (her.out.lt b (Option.mem_toList.1 hb)).2 (by simp))
      have hoa : Hid ((wr.alloc (.cells #[.int .i64 a.kind, .int .i64 a.txn, .int .u64 a.key] 55)).ownsRow 0 57 4 (.slice (some ⟨gt, 0, none⟩) n c9) n (flatT (L.map toT))) := owns_of hor.out (fun b hb => (Frm.alloc wr _).block b (hor.out.lt b (Option.mem_toList.1 hb)).2 (by simp))
      have hbs : Hid (w.heap.size ≤ wr.heap.size) := HB2.out.size |> fun _ => hbr.out.size
      have hBa : Hid (Below w.heap.size w (wr.alloc (.cells #[.int .i64 a.kind, .int .i64 a.txn, .int .u64 a.key] 55))) := hbr.out.alloc hbs.out _
      clear e0 e1 e2 t0 t1 hrr her hor hbr hbs
      generalize wr.alloc (.cells #[.int .i64 a.kind, .int .i64 a.txn, .int .u64 a.key] 55) = wa at *
      generalize wr.heap.size = gx at *
      have k0 : wa.cell? ⟨gx, 0, none⟩ = some (.int .i64 a.kind) := hba.out.at_ rfl
      have k1 : wa.cell? ⟨gx, 1, none⟩ = some (.int .i64 a.txn) := hba.out.at_ rfl
      have hwB : Hid (w.heap.size ≤ wa.heap.size) := hBa.out.size
      by_cases hk0 : a.kind = 0
      · have hk0b : (a.kind == 0) = true := by rw [hk0]; rfl
        have HK0 := Lib.hid hk0
        clear hk0
        have hc1 : Hid ((wa.alloc (.cells #[.int .u64 (V : Int)] 28)).cell? ⟨wa.heap.size, 0, none⟩ = some (.int .u64 (V : Int))) := Blk.at_ (Blk.new wa 28 [.int .u64 (V : Int)]) rfl
        have hr1 : Hid (OwnO (wa.alloc (.cells #[.int .u64 (V : Int)] 28)) w.heap.size 28 (.slice A7 st.length c7) (nums .u64 (rdsO st))) := hra.out.frm (Frm.alloc wa _) (fun _ _ h => by cases h)
        have hf1 : Hid (Frm [] wa (wa.alloc (.cells #[.int .u64 (V : Int)] 28))) := Frm.alloc wa _
        have hrl : (rdsO st).length ≤ 1000000 := by rw [rdsO, List.length_map]; omega
        have hB1 : Hid (w.heap.size ≤ (wa.alloc (.cells #[.int .u64 (V : Int)] 28)).heap.size) := Nat.le_trans hwB.out hf1.out.size
        have he1 : Hid ((wa.alloc (.cells #[.int .u64 (V : Int)] 28)).ownsRow w.heap.size 4 1 (.slice A8 st.length c8) st.length (endO st)) := owns_of hea.out (fun b hb => hf1.out.block b (hea.out.lt b (Option.mem_toList.1 hb)).2 (by simp))
        have hne : Hid (∀ b ∈ (Value.slice A8 st.length c8).ownBlock.toList, b ∉ (Value.slice A7 st.length c7).ownBlock.toList) := fun b hb hm => by
          obtain ⟨cs, hk, _⟩ := hr1.out.blk hm
          exact own_ne_blk he1.out hk (by decide) hb
        go_wp2_with (at_builtin; first | (refine wpList_appendO rfl (.tmp 40) (.tmp 46) rfl w.heap.size (.slice A7 st.length c7) (rdsO st) rfl hr1.out wa.heap.size 1 (V : Int) rfl hc1.out hrl hB1.out ?_; intro v3 w3 ho3 hg3 hat3; have HR3 := Lib.hid ho3; have HF3 : Hid (Frm (Value.slice A7 st.length c7).ownBlock.toList (wa.alloc (.cells #[.int .u64 (V : Int)] 28)) w3) := frmRowO hg3; have HE3 : Hid (w3.ownsRow w.heap.size 4 1 (.slice A8 st.length c8) st.length (endO st)) := owns_of he1.out (fun b hb => HF3.out.block b (he1.out.lt b (Option.mem_toList.1 hb)).2 (hne.out b hb)); have HE4 : Hid ((w3.alloc (.cells #[.bool false] 4)).ownsRow w.heap.size 4 1 (.slice A8 st.length c8) st.length (endO st)) := owns_of HE3.out (fun b hb => (Frm.alloc w3 _).block b (HE3.out.lt b (Option.mem_toList.1 hb)).2 (by simp)); have HC4 : Hid ((w3.alloc (.cells #[.bool false] 4)).cell? ⟨w3.heap.size, 0, none⟩ = some (.bool false)) := Blk.at_ (Blk.new w3 4 [.bool false]) rfl; have HB4 : Hid (w.heap.size ≤ (w3.alloc (.cells #[.bool false] 4)).heap.size) := Nat.le_trans hB1.out (Nat.le_trans HF3.out.size (Frm.alloc w3 (.cells #[.bool false] 4)).size); clear ho3 hg3 hat3) | (refine wpList_append_bo rfl (.tmp 48) (.tmp 49) rfl w.heap.size (.slice A8 st.length c8) st.length (endO st) rfl HE4.out w3.heap.size 1 (.bool false) rfl HC4.out rfl (by omega) HB4.out ?_; intro v5 w5 ho5 hg5 hat5))
        have HF5 : Frm (Value.slice A8 st.length c8).ownBlock.toList (w3.alloc (.cells #[.bool false] 4)) w5 := frmRowO hg5
        have hst' : st ++ [(V, false)] = r.1.txs.map STx.o := by
          rw [← HOP.out, ← hst1.out.1]
          unfold opStep
          rw [if_pos HK0.out]
        have hlen' : (st ++ [(V, false)]).length = st.length + 1 := by rw [List.length_append]; rfl
        have hrds' : nums .u64 (rdsO (st ++ [(V, false)])) = nums .u64 (rdsO st ++ [(V : Int)]) := by unfold rdsO; rw [List.map_append]; rfl
        obtain ⟨A7', c7', hv3, _, _⟩ := HR3.out.sl
        rw [nums_length, List.length_append, rdsO, List.length_map, List.length_singleton] at hv3
        subst hv3
        obtain ⟨A8', c8', rfl⟩ : ∃ A c, v5 = .slice A (st.length + 1) c := by
          rcases ho5.2 with ⟨_, h0⟩ | ⟨g, cap, cur, rfl, _⟩
          · omega
          · exact ⟨_, _, rfl⟩
        go_roundg gkO
        case measure => omega
        case rel =>
          have hkt : ∀ b ∈ (Value.slice (some ⟨gt, 0, none⟩) n c9).ownBlock.toList, ∃ cs, Blk wa b 57 cs := fun b hb => by
            rcases hoa.out.2 with ⟨h0, _⟩ | ⟨g', cap, cur, hv, _, hh, _⟩
            · rw [h0] at hb; cases hb
            · rw [hv] at hb
              simp only [Value.ownBlock, Option.toList_some, List.mem_singleton] at hb
              exact ⟨cur.toList, by unfold Blk; rw [Array.toArray_toList, hb]; exact hh⟩
          have hf3 : Frm (Value.slice A7 st.length c7).ownBlock.toList wa (w3.alloc (.cells #[.bool false] 4)) := ((hf1.out.mono (fun _ h => by cases h)).trans HF3.out (fun j hj => .inl hj)).andAlloc _
          have ho4 : (w3.alloc (.cells #[.bool false] 4)).ownsRow 0 57 4 (.slice (some ⟨gt, 0, none⟩) n c9) n (flatT (L.map toT)) := owns_of hoa.out (fun b hb => hf3.block b (hoa.out.lt b (Option.mem_toList.1 hb)).2 (fun hm => by
            obtain ⟨cs, hk⟩ := hkt b hb
            obtain ⟨cs', hk', _⟩ := hra.out.blk hm
            exact blk_neO hk hk' (by decide) rfl))
          refine ⟨i + 1, r.1, st ++ [(V, false)], A7', c7', A8', c8', rfl, by rw [hlen'], by rw [hlen'], by omega, by have := hf.out; show _ = _; omega, ?_, ⟨hst', ?_⟩, HSS.out, HRN.out, ?_, ?_, ?_, ?_⟩
          · have := hst1.out.2; rw [hlen']; omega
          · have := hst1.out.2; rw [hlen']; omega
          · rw [Hid, hlen', hrds']
            have h6 := HR3.out.frm (Frm.alloc w3 (.cells #[.bool false] 4)) (fun _ _ h => by cases h)
            refine ownO_of h6 (fun b hb => HF5.block b (ownO_lt h6 b hb) (fun hm => ?_))
            obtain ⟨cs, hk, _⟩ := h6.blk hb
            exact own_ne_blk HE4.out hk (by decide) hm
          · rw [Hid, hlen', show endO (st ++ [(V, false)]) = endO st ++ [.bool false] by simp [endO]]
            exact ho5
          · refine owns_of ho4 (fun b hb => HF5.block b (ho4.lt b (Option.mem_toList.1 hb)).2 (fun hm => ?_))
            rcases HE4.out.2 with ⟨h0, _⟩ | ⟨g', cap, cur, hv, _, hh, _⟩
            · rw [h0] at hm; cases hm
            · rw [hv] at hm
              simp only [Value.ownBlock, Option.toList_some, List.mem_singleton] at hm
              have hb2 : Blk (w3.alloc (.cells #[.bool false] 4)) b 4 cur.toList := by unfold Blk; rw [Array.toArray_toList, hm]; exact hh
              exact own_ne_blk ho4 hb2 (by decide) hb
          · have hb3 : Below w.heap.size wa (w3.alloc (.cells #[.bool false] 4)) := hf3.below hwB.out (fun b hb => by
              obtain ⟨cs, _, h⟩ := hra.out.blk hb
              exact h)
            exact (hBa.out.trans hb3).trans (HF5.below HB4.out (fun b hb => (HE4.out.lt b (Option.mem_toList.1 hb)).1))
      have hk0b : (a.kind == 0) = false := by rw [beq_eq_false_iff_ne]; exact hk0
      obtain ⟨hr0, hr1⟩ := act_range HACT.out hk0
      obtain ⟨t, ht⟩ : ∃ t : Nat, a.txn = (t : Int) := ⟨a.txn.toNat, by omega⟩
      have HT := Lib.hid ht
      have htl : t < st.length := by rw [hst1.out.1, List.length_map]; rw [ht, Int.toNat_natCast] at hr1; exact hr1
      have htl2 : (t : Int) < (st.length : Int) := by omega
      rw [ht] at k1
      clear hr0 hr1 ht
      obtain ⟨g8, cs8, hA8, hbk8, hg8, _, _, hln8, htk8⟩ := own_cells hea.out (by omega)
      subst hA8
      have HB8 := Lib.hid hbk8
      have HG8 := Lib.hid hg8
      obtain ⟨bo, e8⟩ : ∃ bo, wa.cell? ⟨g8, t, none⟩ = some (.bool bo) := by
        obtain ⟨p, hp⟩ : ∃ p, st[t]? = some p := ⟨_, List.getElem?_eq_getElem htl⟩
        refine ⟨p.2, ?_⟩
        have h1 : (endO st)[t]? = some (.bool p.2) := by unfold endO; rw [List.getElem?_map, hp]; rfl
        rw [hbk8.cell, ← h1, ← htk8, List.getElem?_take_of_lt (by omega)]
      have f8 := hbk8.frozen t
      clear hbk8 hg8 hln8 htk8
      by_cases hk4 : a.kind = 4
      · have hk4b : (a.kind == 4) = true := by rw [hk4]; rfl
        have HK4 := Lib.hid hk4
        clear hk4
        go_wp2
        go_roundg gkO
        case measure => omega
        case rel =>
          have hst' : st.modify t (fun p => (p.1, true)) = r.1.txs.map STx.o := by
            rw [← HOP.out, ← hst1.out.1]
            unfold opStep
            rw [if_neg hk0, if_pos (.inl HK4.out), HT.out, Int.toNat_natCast]
          have hs := Frm.set wa ⟨g8, t, none⟩ (.bool true)
          have hlm : (st.modify t (fun p => (p.1, true))).length = st.length := List.length_modify ..
          refine ⟨i + 1, r.1, st.modify t (fun p => (p.1, true)), A7, c7, some ⟨g8, 0, none⟩, c8, rfl, by rw [hlm], by rw [hlm], by omega, by have := hf.out; show _ = _; omega, by rw [hlm]; have := hst1.out.2; omega, ⟨hst', by rw [hlm]; have := hst1.out.2; omega⟩, HSS.out, HRN.out, ?_, ?_, ?_, hBa.out.trans (hs.below hwB.out (fun b hb => by rw [List.mem_singleton] at hb; subst hb; exact HG8.out))⟩
          · rw [Hid, hlm, rdsO_mod]
            refine hra.out.frm hs (fun b hb hm => ?_)
            rw [List.mem_singleton] at hm
            obtain ⟨cs, hk, _⟩ := hra.out.blk hb
            exact blk_neO hk HB8.out (by decide) (show b = g8 from hm)
          · rw [Hid, hlm, endO_mod]
            exact own_set hea.out (by omega)
          · refine owns_of hoa.out (fun b hb => hs.block b (hoa.out.lt b (Option.mem_toList.1 hb)).2 (fun hm => ?_))
            rw [List.mem_singleton] at hm
            have hm : b = g8 := hm
            subst hm
            exact own_ne_blk hoa.out HB8.out (by decide) hb
      have hk4b : (a.kind == 4) = false := by rw [beq_eq_false_iff_ne]; exact hk4
      by_cases hk3 : a.kind = 3
      · have hk3b : (a.kind == 3) = true := by rw [hk3]; rfl
        have HK3 := Lib.hid hk3
        clear hk3
        cases C with
        | false =>
          go_wp2
          go_roundg gkO
          case measure => omega
          case rel =>
            have hst' : st.modify t (fun p => (p.1, true)) = r.1.txs.map STx.o := by
              rw [← HOP.out, ← hst1.out.1]
              unfold opStep
              rw [if_neg hk0, if_pos (.inr ⟨HK3.out, rfl⟩), HT.out, Int.toNat_natCast]
            have hs := Frm.set wa ⟨g8, t, none⟩ (.bool true)
            have hlm : (st.modify t (fun p => (p.1, true))).length = st.length := List.length_modify ..
            refine ⟨i + 1, r.1, st.modify t (fun p => (p.1, true)), A7, c7, some ⟨g8, 0, none⟩, c8, rfl, by rw [hlm], by rw [hlm], by omega, by have := hf.out; show _ = _; omega, by rw [hlm]; have := hst1.out.2; omega, ⟨hst', by rw [hlm]; have := hst1.out.2; omega⟩, HSS.out, HRN.out, ?_, ?_, ?_, hBa.out.trans (hs.below hwB.out (fun b hb => by rw [List.mem_singleton] at hb; subst hb; exact HG8.out))⟩
            · rw [Hid, hlm, rdsO_mod]
              refine hra.out.frm hs (fun b hb hm => ?_)
              rw [List.mem_singleton] at hm
              obtain ⟨cs, hk, _⟩ := hra.out.blk hb
              exact blk_neO hk HB8.out (by decide) (show b = g8 from hm)
            · rw [Hid, hlm, endO_mod]
              exact own_set hea.out (by omega)
            · refine owns_of hoa.out (fun b hb => hs.block b (hoa.out.lt b (Option.mem_toList.1 hb)).2 (fun hm => ?_))
              rw [List.mem_singleton] at hm
              have hm : b = g8 := hm
              subst hm
              exact own_ne_blk hoa.out HB8.out (by decide) hb
        | true =>
          go_wp2
          go_roundg gkO
          case measure => omega
          case rel =>
            have hst' : st = r.1.txs.map STx.o := by
              rw [← HOP.out, ← hst1.out.1]
              unfold opStep
              rw [if_neg hk0, if_neg (by simp [hk4])]
            exact ⟨i + 1, r.1, st, A7, c7, some ⟨g8, 0, none⟩, c8, rfl, rfl, rfl, by omega, by have := hf.out; show _ = _; omega, by have := hst1.out.2; omega, ⟨hst', by have := hst1.out.2; omega⟩, HSS.out, HRN.out, hra.out, hea.out, hoa.out, hBa.out⟩
      have hk3b : (a.kind == 3) = false := by rw [beq_eq_false_iff_ne]; exact hk3
      go_wp2
      go_roundg gkO
      case measure => omega
      case rel =>
        have hst' : st = r.1.txs.map STx.o := by
          rw [← HOP.out, ← hst1.out.1]
          unfold opStep
          rw [if_neg hk0, if_neg (by simp [hk4, hk3])]
        exact ⟨i + 1, r.1, st, A7, c7, some ⟨g8, 0, none⟩, c8, rfl, rfl, rfl, by omega, by have := hf.out; show _ = _; omega, by have := hst1.out.2; omega, ⟨hst', by have := hst1.out.2; omega⟩, HSS.out, HRN.out, hra.out, hea.out, hoa.out, hBa.out⟩
    · have hie : i = n := by omega
      have hlt2 : ¬ (i : Int) < (n : Int) := by omega
      have hlr : l.take i = l := by rw [hie, ← HN.out, List.take_length]
      have HQ : Hid (sState cf (sInit first) l = some q) := by have := hss.out; rwa [hlr] at this
      have hwB : Hid (w.heap.size ≤ wr.heap.size) := hbr.out.size
      have hfa : Hid (Frm [] wr (wr.alloc (.cells #[] 28))) := Frm.alloc wr _
      have hra : Hid (OwnO (wr.alloc (.cells #[] 28)) w.heap.size 28 (.slice A7 st.length c7) (nums .u64 (rdsO st))) := hrr.out.frm hfa.out (fun _ _ h => by cases h)
      have hea : Hid ((wr.alloc (.cells #[] 28)).ownsRow w.heap.size 4 1 (.slice A8 st.length c8) st.length (endO st)) := owns_of her.out (fun b hb => hfa.out.block b (her.out.lt b (Option.mem_toList.1 hb)).2 (by simp))
      have hna : Hid (OwnO (wr.alloc (.cells #[] 28)) wr.heap.size 28 (.slice (some ⟨wr.heap.size, 0, none⟩) 0 0) (nums .u64 [])) := .inr ⟨wr.heap.size, 0, 0, #[], rfl, Nat.le_refl _, Blk.new wr 28 [], Nat.le_refl _, by simp [maxLen], Nat.le_refl _, rfl⟩
      have hBa : Hid (Below w.heap.size w (wr.alloc (.cells #[] 28))) := hbr.out.alloc hwB.out _
      have hsz : Hid (wr.heap.size ≤ (wr.alloc (.cells #[] 28)).heap.size) := hfa.out.size
      have hlo : Hid (∀ b ∈ (Value.slice A7 st.length c7).ownBlock.toList, b < wr.heap.size) := ownO_lt hrr.out
      have hst2 := Lib.hid hst1.out.1
      have hwg : Hid (w.heap.size ≤ wr.heap.size) := hwB.out
      clear hie hss hsr hrr her hor hbr hst1
      go_upto_region 13 with fail
      generalize wr.alloc (.cells #[] 28) = wx at *
      generalize wr.heap.size = gw at *
      go_wp2
      go_loopg [13, 76] st.length (fun f v13 v76 wq => ∃ j : Nat, v76 = .int .i64 (j : Int) ∧ j ≤ st.length ∧ Hid (j + f = st.length) ∧ Hid (OwnO wq gw 28 v13 (nums .u64 (rdsO ((st.take j).filter fun p => !p.2)))) ∧ Hid (OwnO wq w.heap.size 28 (.slice A7 st.length c7) (nums .u64 (rdsO st))) ∧ Hid (wq.ownsRow w.heap.size 4 1 (.slice A8 st.length c8) st.length (endO st)) ∧ Hid (Below w.heap.size w wq) ∧ Hid (gw ≤ wq.heap.size))
      case atStart => exact ⟨0, rfl, Nat.zero_le _, by simp [Hid], hna.out, hra.out, hea.out, hBa.out, hsz.out⟩
      case round =>
        obtain ⟨j, rfl, hjn, hjf, hoj, hrj, hej, hbj, hgj⟩ := hrel
        by_cases hjl : j < st.length
        · obtain ⟨p, hp⟩ : ∃ p, st[j]? = some p := ⟨_, List.getElem?_eq_getElem hjl⟩
          have hjl2 : (j : Int) < (st.length : Int) := by omega
          obtain ⟨g7, o7, u7', hA7, hu7, hcell⟩ : ∃ ga o u, A7 = some ⟨ga, o, none⟩ ∧ (nums .u64 (rdsO st))[j]? = some u ∧ wr.cell? ⟨ga, o + j, none⟩ = some u := by
            obtain ⟨A', c', h1, _, h2⟩ := hrj.out.sl
            rw [nums_length, rdsO, List.length_map] at h1 h2
            injection h1 with h3 h4 h5
            subst h3
            exact h2.at_ hjl
          obtain rfl : Value.int .u64 (p.1 : Int) = u7' := by
            unfold nums rdsO at hu7
            rw [List.getElem?_map, List.getElem?_map, hp] at hu7
            injection hu7
          subst hA7
          obtain ⟨g8, cs8, hA8, hbk8, hg8, _, _, hln8, htk8⟩ := own_cells hej.out (by omega)
          subst hA8
          have e8 : wr.cell? ⟨g8, j, none⟩ = some (.bool p.2) := by
            have h1 : (endO st)[j]? = some (.bool p.2) := by unfold endO; rw [List.getElem?_map, hp]; rfl
            rw [hbk8.cell, ← h1, ← htk8, List.getElem?_take_of_lt (by omega)]
          have htk : st.take (j + 1) = st.take j ++ [p] := by rw [List.take_add_one, hp]; rfl
          have HTK := Lib.hid htk
          have HB8 := Lib.hid hbk8
          obtain ⟨gjO, rfl⟩ : ∃ g, gk = g + 1 := ⟨gk - 1, by have := hjf.out; omega⟩
          obtain ⟨pe, hpe⟩ : ∃ b, p.2 = b := ⟨_, rfl⟩
          have HPE := Lib.hid hpe
          rw [hpe] at e8
          clear hp hu7 hbk8 hg8 hln8 htk8 htk hpe
          cases pe with
          | true =>
            go_wp2
            go_roundg gjO
            case measure => omega
            case rel =>
              refine ⟨j + 1, rfl, by omega, by have := hjf.out; show _ = _; omega, ?_, hrj.out, hej.out, hbj.out, hgj.out⟩
              rw [Hid, HTK.out, List.filter_append, List.filter_cons_of_neg (by simp [HPE.out]), List.filter_nil, List.append_nil]
              exact hoj.out
          | false =>
            have hfa : Hid (Frm [] wr (wr.alloc (.cells #[.int .u64 (p.1 : Int)] 28))) := Frm.alloc wr _
            have ho1 := Lib.hid (hoj.out.frm hfa.out (fun _ _ h => by cases h))
            have hc1 : Hid ((wr.alloc (.cells #[.int .u64 (p.1 : Int)] 28)).cell? ⟨wr.heap.size, 0, none⟩ = some (.int .u64 (p.1 : Int))) := Blk.at_ (Blk.new wr 28 [.int .u64 (p.1 : Int)]) rfl
            have hrl : (rdsO ((st.take j).filter fun p => !p.2)).length ≤ 1000000 := by
              have h1 := List.length_filter_le (fun p : Nat × Bool => !p.2) (st.take j)
              rw [List.length_take] at h1
              rw [rdsO, List.length_map]
              omega
            have hB1 : Hid (gw ≤ (wr.alloc (.cells #[.int .u64 (p.1 : Int)] 28)).heap.size) := Nat.le_trans hgj.out hfa.out.size
            have hwB : Hid (w.heap.size ≤ (wr.alloc (.cells #[.int .u64 (p.1 : Int)] 28)).heap.size) := Nat.le_trans hbj.out.size hfa.out.size
            go_wp2_with (at_builtin; (refine wpList_appendO rfl (.tmp 86) (.tmp 88) rfl gw _ (rdsO ((st.take j).filter fun p => !p.2)) rfl ho1.out wr.heap.size 1 (p.1 : Int) rfl hc1.out hrl hB1.out ?_; intro v3 w3 ho3 hg3 hat3))
            go_roundg gjO
            case measure => omega
            case rel =>
              have hf3 := hfa.out.mono (l2 := _) (fun _ h => by cases h) |>.trans (frmRowO hg3) (fun j hj => .inl hj)
              refine ⟨j + 1, rfl, by omega, by have := hjf.out; show _ = _; omega, ?_, ?_, ?_, ?_, Nat.le_trans hgj.out hf3.size⟩
              · rw [Hid, HTK.out, List.filter_append, List.filter_cons_of_pos (by simp [HPE.out]), List.filter_nil, show rdsO ((st.take j).filter (fun p => !p.2) ++ [p]) = rdsO ((st.take j).filter fun p => !p.2) ++ [(p.1 : Int)] by simp [rdsO]]
                exact ho3
              · refine hrj.out.frm hf3 (fun b hb hm => ?_)
                have h1 := hlo.out b hb
                obtain ⟨cs, _, h2⟩ := ho1.out.blk hm
                omega
              · refine owns_of hej.out (fun b hb => hf3.block b (hej.out.lt b (Option.mem_toList.1 hb)).2 (fun hm => ?_))
                obtain ⟨cs, hk, _⟩ := hoj.out.blk hm
                exact own_ne_blk hej.out hk (by decide) hb
              · exact hbj.out.trans (hf3.below hbj.out.size (fun b hb => by
                  obtain ⟨cs, _, h⟩ := hoj.out.blk hb
                  have h2 := hwg.out
                  omega))
        · have hje : j = st.length := by omega
          have hjl2 : ¬ (j : Int) < (st.length : Int) := by omega
          have HJE := Lib.hid hje
          clear hje
          go_wp2
          go_ret
          have h := hoj.out
          rw [HJE.out, List.take_length, hst2.out, openF_o] at h
          refine ⟨hbj.out, q, HQ.out, _, rfl, ?_⟩
          rcases h with h | ⟨g', o', c', cur, h1, h2, h3⟩
          · exact .inl h
          · exact .inr ⟨g', o', c', cur, h1, by have := hwg.out; omega, h3⟩
end Go.Proofs.Ytanmgkpgfmkobaa
