/- The law of what may go: its walk. -/
import Derived.Test.YtanmgkpgfmkobaaD7
namespace Go.Proofs.Ytanmgkpgfmkobaa
open Go.RowKit Go.Proofs.YtanmgkpgfmkobaaQ.QT Go.Proofs.YtanmgkpgfmkobaaQ.Ext Go.Proofs.YtanmgkpgfmkobaaW.PrintWords
set_option linter.unusedVariables false
set_option linter.unusedSimpArgs false
set_option maxRecDepth 100000
theorem Acts.take {w : World} {A : Option Addr} {l : List OAct} (h : Acts w A l) (m : Nat) : Acts w A (l.take m) := by
  have e : flatA (l.take m) = (flatA l).take (m * 3) := by
    refine List.ext_getElem? fun j => ?_
    by_cases hj : j < (l.take m).length * 3
    · obtain ⟨a, ha⟩ : ∃ a, (l.take m)[j / 3]? = some a := ⟨_, List.getElem?_eq_getElem (by omega)⟩
      have h1 := flatA_at (l.take m) (j / 3) (j % 3) a ha (Nat.mod_lt _ (by omega))
      rw [List.length_take] at hj
      rw [List.getElem?_take_of_lt (by omega)] at ha
      have h2 := flatA_at l (j / 3) (j % 3) a ha (Nat.mod_lt _ (by omega))
      rw [show j / 3 * 3 + j % 3 = j by omega] at h1 h2
      rw [h1, List.getElem?_take_of_lt (by omega), h2]
    · rw [List.getElem?_eq_none (by rw [flatA_len]; omega), List.getElem?_eq_none (by rw [List.length_take, flatA_len]; rw [List.length_take] at hj; omega)]
  unfold Acts
  rw [e, List.length_take]
  have h2 := Sl.take h (m := min m l.length * 3) (by omega)
  rw [show (flatA l).take (m * 3) = (flatA l).take (min m l.length * 3) by
    refine List.ext_getElem? fun j => ?_
    rw [List.getElem?_take, List.getElem?_take]
    by_cases hj : j < l.length * 3
    · by_cases hm : j < m * 3
      · rw [if_pos hm, if_pos (by omega)]
      · rw [if_neg hm, if_neg (by omega)]
    · rw [List.getElem?_eq_none (by rw [flatA_len]; omega)]
      split <;> split <;> rfl]
  exact h2
set_option maxHeartbeats 4000000 in
theorem below_walk (cf : Bool) (A1 : Option Addr) (c1 : Nat) (x1 : List S55) (w : World) (h1 : Kd.C k55 w A1 x1.length x1) (hc1 : x1.length ≤ c1) (wf1 : ∀ x ∈ x1, actWf x) :
    Calls Try.prog 7 #[.bool cf, .slice A1 x1.length c1] w fun E w' => E = .returned (.bool true) ∧ Below w.heap.size w w' := by
  have HAC := Lib.hid (acts_of_C h1)
  have H1 := Lib.hid h1
  have HW := Lib.hid wf1
  have hLL : (x1.map toAct).length = x1.length := List.length_map ..
  have HLL := Lib.hid hLL
  have HWF : Hid (∀ a ∈ x1.map toAct, (Lit.int .u64 a.key).wf = true ∧ (Lit.int .i64 a.kind).wf = true ∧ (Lit.int .i64 a.txn).wf = true) := fun a ha => by
    obtain ⟨x, hx, rfl⟩ := List.mem_map.1 ha
    obtain ⟨k1, k2, k3⟩ := wf1 x hx
    exact ⟨k3, k1, k2⟩
  clear h1 wf1 hLL
  by_cases hA : 2147483647 < x1.length
  · go_enter Try.func7, Try.ntmps7
    go_wp2
    go_ret
    exact ⟨rfl, Below.refl _ _⟩
  have hA2 : (x1.length : Int) ≤ 2147483647 := by omega
  go_enter Try.func7, Try.ntmps7
  go_wp2_with fail
  obtain ⟨rr, hrr⟩ : ∃ rr, decide ((x1.length : Int) ≤ 100) = rr := ⟨_, rfl⟩
  refine (laws_actsOk.calls A1 c1 x1 rr w H1.out hc1 (by rw [← hrr]; rfl)).mono ?_
  rintro E w1 ⟨rfl, hb1⟩
  have HB1 : Hid (Below w.heap.size w w1) := hb1.below
  clear hb1
  cases rr with
  | false =>
    clear hrr
    go_wp2
    go_ret
    exact ⟨rfl, HB1.out⟩
  | true =>
  have hle2 : (x1.length : Int) ≤ 100 := of_decide_eq_true hrr
  have hle : x1.length ≤ 100 := by omega
  clear hrr
  have HA1 : Hid (Acts w1 A1 (x1.map toAct)) := HAC.out.below HB1.out
  clear HAC
  go_wp2_with fail
  refine (runOracle_any cf A1 x1.length c1 (x1.map toAct) w1 HA1.out HLL.out hle HWF.out).mono ?_
  rintro E w2 ⟨A2, c2, rfl, ho2, hb2⟩
  have HO2 := Lib.hid ho2
  have HB2 : Hid (Below w.heap.size w w2) := HB1.out.trans (hb2.mono HB1.out.size)
  have HA2 : Hid (Acts w2 A1 (x1.map toAct)) := HA1.out.below hb2
  clear ho2 hb2 HB1 HA1
  go_wp2_with fail
  refine (specOracle_any cf 1 A1 x1.length c1 (x1.map toAct) w2 HA2.out HLL.out hle (Nat.le_refl _) (by omega)).mono ?_
  rintro E w3 ⟨hb3, hq3⟩
  have HB3 : Hid (Below w.heap.size w w3) := HB2.out.trans (hb3.mono HB2.out.size)
  have HB23 := Lib.hid hb3
  clear hb3
  cases hrun : sRun cf (sInit 1) (x1.map toAct) with
  | none =>
    rw [hrun] at hq3
    obtain rfl := hq3
    clear hrun
    go_wp2
    go_ret
    exact ⟨rfl, HB3.out⟩
  | some L =>
    rw [hrun] at hq3
    obtain ⟨A3, c3, rfl, ho3⟩ := hq3
    have HO3 := Lib.hid ho3
    have HRUN := Lib.hid hrun
    clear hrun ho3
    have HO23 : Hid (w3.ownsRow w1.heap.size 57 4 (.slice A2 x1.length c2) x1.length (flatT (oRun cf oInit (x1.map toAct)))) := owns_below HO2.out HB23.out
    have HA3 : Hid (Acts w3 A1 (x1.map toAct)) := HA2.out.below HB23.out
    clear HO2 HB2 HA2 HB23
    have HEQ : Hid ((oRun cf oInit (x1.map toAct)).map (fun t => (t.ver, t.conf, t.next)) = L) := run_sim cf _ _ _ (oInit_sim cf) L HRUN.out
    clear HO3
    go_wp2
    go_loopg [9, 46] x1.length (fun f v9 v46 wr => ∃ (i : Nat) (lst : Nat), v9 = .int .u64 (lst : Int) ∧ v46 = .int .i64 (i : Int) ∧ i ≤ x1.length ∧ Hid (i + f = x1.length) ∧ Hid (lst = 0 ∨ ∃ j u, j < i ∧ (oRun cf oInit (x1.map toAct))[j]? = some u ∧ u.below = lst) ∧ Hid (Below w3.heap.size w3 wr))
    case atStart => exact ⟨0, 0, rfl, rfl, Nat.zero_le _, by simp [Hid], .inl rfl, Below.refl _ _⟩
    case round =>
      obtain ⟨i, lst, rfl, rfl, hin, hf, hlst, hbr⟩ := hrel
      by_cases hlt : i < x1.length
      · obtain ⟨t, ht⟩ : ∃ t, (oRun cf oInit (x1.map toAct))[i]? = some t := ⟨_, List.getElem?_eq_getElem (by rw [oRun_len, List.length_map]; exact hlt)⟩
        have hlt2 : (i : Int) < (x1.length : Int) := by omega
        obtain ⟨ga, hA2, a0, a1, a2, a3, hga⟩ := told_cells (owns_below HO23.out hbr.out) ht
        subst hA2
        obtain ⟨z1, z2, z3⟩ := below_ok cf (x1.map toAct) i t ht
        have hll : (lst : Int) ≤ (t.below : Int) := by
          rcases hlst.out with h | ⟨j, u, hj, hu, hb⟩
          · omega
          · have := z2 j u (by omega) hu; omega
        have hbn : (t.below : Int) < (t.next : Int) := by omega
        have HZ3 := Lib.hid z3
        have HTT := Lib.hid ht
        clear z1 z2 z3 hlst hga ht
        obtain ⟨gkO, rfl⟩ : ∃ g, gk = g + 1 := ⟨gk - 1, by have := hf.out; omega⟩
        have hcap : (i : Int) + 1 ≤ (c1 : Int) := by omega
        have hi0 : (0 : Int) ≤ (i : Int) + 1 := by omega
        go_upto_region 15 with fail
        have hba : Hid (Below w3.heap.size w3 (wr.alloc (.cells #[.int .u64 (t.ver : Int), .bool t.conf, .int .u64 (t.below : Int), .int .u64 (t.next : Int)] 57))) := hbr.out.alloc hbr.out.size _
        have hbq : Hid (Blk (wr.alloc (.cells #[.int .u64 (t.ver : Int), .bool t.conf, .int .u64 (t.below : Int), .int .u64 (t.next : Int)] 57)) wr.heap.size 57 t.cells) := Blk.new wr _ _
        clear a0 a1 a2 a3 hbr
        generalize wr.alloc (.cells #[.int .u64 (t.ver : Int), .bool t.conf, .int .u64 (t.below : Int), .int .u64 (t.next : Int)] 57) = wa at *
        generalize wr.heap.size = gq at *
        have hacts : Hid (Acts wa A1 ((x1.map toAct).take (i + 1))) := (HA3.out.below hba.out).take (i + 1)
        have hlen : Hid (((x1.map toAct).take (i + 1)).length = i + 1) := by rw [Hid, List.length_take, List.length_map]; omega
        go_wp2_with fail
        refine (specOpen_any cf 1 A1 (i + 1) c1 ((x1.map toAct).take (i + 1)) (L.take (i + 1)) wa hacts.out hlen.out (by omega) (Nat.le_refl _) (by omega) (sRun_take cf _ _ L HRUN.out (i + 1))).mono ?_
        rintro E w5 ⟨hb5, q, v, hq, rfl, ho5⟩
        obtain ⟨A5, c5, hv5, _, hs5⟩ := ho5.sl
        subst hv5
        rw [nums_length] at hs5
        rw [nums_length]
        have HS5 := Lib.hid hs5
        have hl63 : (openF q.txs).length ≤ 9223372036854775807 := by
          rcases ho5 with ⟨_, h0⟩ | ⟨g', o', c', cur, _, _, _, h3, h4, _⟩
          · have := congrArg List.length h0
            rw [nums_length] at this
            simp only [List.length_nil] at this
            omega
          · rw [nums_length] at h3
            simp only [maxLen] at h4
            omega
        have hbz : Hid (∀ k ∈ openF q.txs, (t.below : Int) ≤ k) := fun k hk => by
          unfold openF at hk
          obtain ⟨x, hx, rfl⟩ := List.mem_map.1 hk
          obtain ⟨hx1, hx2⟩ := List.mem_filter.1 hx
          have := HZ3.out q hq x hx1 (by simpa using hx2)
          omega
        have hb6 : Hid (Below w3.heap.size w3 w5) := hba.out.trans (hb5.mono hba.out.size)
        have hbq5 : Hid (Blk w5 gq 57 t.cells) := hbq.out.below hb5 hbq.out.lt
        generalize hF : openF q.txs = F at *
        clear ho5 hb5 hba hbq hacts hF hq
        have hFl : (0 : Int) ≤ (F.length : Int) := by omega
        have hFl2 : (F.length : Int) ≤ 9223372036854775807 := by omega
        go_wp2
        go_loopg [59] F.length (fun f v59 wr => ∃ j : Nat, v59 = .int .i64 (j : Int) ∧ j ≤ F.length ∧ Hid (j + f = F.length) ∧ Hid (Frm [] w5 wr))
        case atStart => exact ⟨0, rfl, Nat.zero_le _, by simp [Hid], Frm.refl _ _⟩
        case round =>
          obtain ⟨j, rfl, hjn, hjf, hfj⟩ := hrel
          have t2 : wr.cell? ⟨gq, 2, none⟩ = some (.int .u64 (t.below : Int)) := (hbq5.out.frm hfj.out (by simp)).at_ rfl
          have t3 : wr.cell? ⟨gq, 3, none⟩ = some (.int .u64 (t.next : Int)) := (hbq5.out.frm hfj.out (by simp)).at_ rfl
          by_cases hjl : j < F.length
          · obtain ⟨k, hk⟩ : ∃ k, F[j]? = some k := ⟨_, List.getElem?_eq_getElem hjl⟩
            have hjl2 : (j : Int) < (F.length : Int) := by omega
            obtain ⟨g7, o7, u7', hA7, hu7, hcell⟩ := (HS5.out.frm hfj.out (fun _ _ _ => by simp)).at_ hjl
            obtain rfl : Value.int .u64 k = u7' := by
              unfold nums at hu7
              rw [List.getElem?_map, hk] at hu7
              injection hu7
            subst hA7
            have hkb := hbz.out k (List.mem_of_getElem? hk)
            have hkb2 : ¬ (t.below : Int) > k := by omega
            clear hu7 hk
            obtain ⟨gjO, rfl⟩ : ∃ g, gk = g + 1 := ⟨gk - 1, by have := hjf.out; omega⟩
            go_wp2
            go_roundg gjO
            case measure => omega
            case rel => exact ⟨j + 1, rfl, by omega, by have := hjf.out; show _ = _; omega, hfj.out⟩
          · have hje : j = F.length := by omega
            have hjl2 : ¬ (j : Int) < (F.length : Int) := by omega
            have hlast : ¬ (t.below : Int) < (lst : Int) := by omega
            have hbn2 : ¬ (t.below : Int) ≥ (t.next : Int) := by omega
            go_wp2
            go_roundg gkO
            case measure => omega
            case rel =>
              refine ⟨i + 1, t.below, rfl, rfl, by omega, by have := hf.out; show _ = _; omega, .inr ⟨i, t, Nat.lt_succ_self _, HTT.out, rfl⟩, hb6.out.trans (hfj.out.below hb6.out.size (fun b hb => by cases hb))⟩
      · have hie : i = x1.length := by omega
        have hlt2 : ¬ (i : Int) < (x1.length : Int) := by omega
        have HBR : Hid (Below w.heap.size w wr) := HB3.out.trans (hbr.out.mono HB3.out.size)
        go_wp2
        go_ret
        exact ⟨rfl, HBR.out⟩
end Go.Proofs.Ytanmgkpgfmkobaa
