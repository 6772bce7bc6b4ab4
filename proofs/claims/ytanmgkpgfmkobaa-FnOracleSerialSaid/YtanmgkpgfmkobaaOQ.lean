/- Is there a conflict? -/
import Derived.Test.YtanmgkpgfmkobaaON
import Derived.Deep.LoopGhost
import Derived.BigQuiet
namespace Go.Proofs.Ytanmgkpgfmkobaa
open Go.RowKit
set_option linter.unusedVariables false
set_option linter.unusedSimpArgs false
set_option maxRecDepth 100000
def wroteB (s : OSt) (j : Nat) (k : Int) : Bool := match s.txs[j]? with
  | some y => y.writes.contains k
  | none => false
def hitC (s : OSt) (x : OTx) (c : Nat × Nat) : Bool := decide (x.rts < c.1) && x.reads.any (wroteB s c.2)
theorem hits_def (s : OSt) (x : OTx) : s.hits x = s.com.any (hitC s x) := rfl
theorem zeroU (w : World) : (zeroValue 151).run Try.prog w = .ok (.agg #[]) w := by kernel_rfl
theorem comV_at (gs : List (Nat × Nat)) : ∀ (l : List (Nat × Nat)) (i : Nat) (c : Nat × Nat), l[i]? = some c → (comV gs l)[i * 2]? = some (.int .u64 (c.1 : Int)) ∧ (comV gs l)[i * 2 + 1]? = some (.map ((gs[c.2]?).map (·.2)))
  | [], i, c, h => by simp at h
  | d :: l, 0, c, h => by
    rw [List.getElem?_cons_zero] at h
    injection h with h
    subst h
    exact ⟨rfl, rfl⟩
  | d :: l, i + 1, c, h => by
    rw [List.getElem?_cons_succ] at h
    have ih := comV_at gs l i c h
    have e : comV gs (d :: l) = .int .u64 (d.1 : Int) :: .map ((gs[d.2]?).map (·.2)) :: comV gs l := rfl
    rw [e, Nat.succ_mul]
    exact ih
theorem own_cells {w : World} {base e s n c : Nat} {A : Option Addr} {xs : List Value} (h : w.ownsRow base e s (.slice A n c) n xs) (hn : 0 < n) : ∃ g cs, A = some ⟨g, 0, none⟩ ∧ Blk w g e cs ∧ base ≤ g ∧ n ≤ c ∧ c ≤ maxLen ∧ cs.length = c * s ∧ cs.take (n * s) = xs := by
  rcases h.2 with ⟨_, h0⟩ | ⟨g, cap, cur, hv, h1, h2, h3, h4, h5, h6⟩
  · omega
  · injection hv with ha _ hc
    subst hc
    exact ⟨g, cur.toList, ha, by unfold Blk; rw [Array.toArray_toList]; exact h2, h1, h3, h4, by rw [Array.length_toList]; exact h5, h6⟩
section
variable {B N K : Nat} {p : OP} {cf : Bool} {r : ORun} {w : World} {ow : Nat → Nat}
set_option maxHeartbeats 4000000 in
theorem hasConflict_any (h : Ora B N p cf r w ow) {t : Nat} {x : OTx} {q : Nat × Nat} (hx : r.s.txs[t]? = some x) (hq : r.gs[t]? = some q) (hl : x.reads.length ≤ 1000000) (hlc : r.s.com.length ≤ 1000000) (hwf : ∀ k ∈ x.reads, (Lit.int .u64 k).wf = true) :
    Calls Try.prog 113 #[.pointer (some ⟨p.O, 0, none⟩), .pointer (some ⟨q.1, 0, none⟩)] w fun E w' => E = .returned (.bool (r.s.hits x)) ∧ Frm [] w w' := by
  have H := Lib.hid h
  have HW := Lib.hid hwf
  obtain ⟨rv, ht, hto⟩ := h.tx hx hq
  obtain ⟨cv, hp1, ho1, hcr, hcl, hco⟩ := h.comp 1
  have HT := Lib.hid ht
  have HOB := Lib.hid ho1
  have HCR := Lib.hid hcr
  have HCL := Lib.hid hcl
  obtain ⟨A2, c2, hrv, _, hsl⟩ := ht.2.1.sl
  subst hrv
  have HSL := Lib.hid hsl
  rw [nums_length] at *
  obtain ⟨A6, c6, hcv⟩ : ∃ A c, cv = .slice A r.s.com.length c := by
    rcases hcr.2 with ⟨rfl, h0⟩ | ⟨g, cap, cur, rfl, _⟩
    · exact ⟨none, 0, by rw [h0]⟩
    · exact ⟨_, _, rfl⟩
  subst hcv
  have x2 : w.cell? ⟨q.1, 2, none⟩ = some (.slice A2 x.reads.length c2) := ht.1.at_ rfl
  have o6 : w.cell? ⟨p.O, 6, none⟩ = some (.slice A6 r.s.com.length c6) := ho1.at_ rfl
  have hll := h.len
  clear h hx hq ht hto hp1 ho1 hcr hcl hco hsl hwf
  go_enter Try.func113, Try.ntmps113
  rcases Nat.eq_zero_or_pos x.reads.length with hz | hz
  · have HZ := Lib.hid hz
    rw [hz] at x2
    clear hz
    go_wp2
    go_ret
    refine ⟨?_, Frm.refl _ _⟩
    have : x.reads = [] := List.eq_nil_of_length_eq_zero HZ.out
    rw [hits_def]
    have e : r.s.com.any (hitC r.s x) = false := by
      rw [Bool.eq_false_iff]
      intro h
      obtain ⟨c, _, hc⟩ := List.any_eq_true.1 h
      simp [hitC, this] at hc
    rw [e]
    rfl
  · have hz2 : (0 : Int) < (x.reads.length : Int) := by omega
    have hzb : ((x.reads.length : Int) == 0) = false := by rw [beq_eq_false_iff_ne]; omega
    go_wp2
    go_loopg [22] r.s.com.length (fun f v22 wr => ∃ i : Nat, v22 = .int .i64 (i : Int) ∧ i ≤ r.s.com.length ∧ Hid (i + f = r.s.com.length) ∧ Hid ((r.s.com.take i).any (hitC r.s x) = false) ∧ Hid (Frm [] w wr))
    case atStart => exact ⟨0, rfl, Nat.zero_le _, by simp [Hid], rfl, Frm.refl _ _⟩
    case round =>
      obtain ⟨i, rfl, hin, hf, hany, hfr⟩ := hrel
      by_cases hlt : i < r.s.com.length
      · obtain ⟨c, hc⟩ : ∃ c, r.s.com[i]? = some c := ⟨_, List.getElem?_eq_getElem hlt⟩
        obtain ⟨g6, cs, hA6, hbk, _, _, _, _, htk⟩ := own_cells HCR.out (by omega)
        subst hA6
        have hlt2 : (i : Int) < (r.s.com.length : Int) := by omega
        have hcs : ∀ j v, (comV r.gs r.s.com)[j]? = some v → wr.cell? ⟨g6, j, none⟩ = some v := fun j v hv => by
          have hj := (List.getElem?_eq_some_iff.1 hv).1
          rw [comV_len] at hj
          rw [(hbk.frm hfr.out (by simp)).cell, ← hv, ← htk, List.getElem?_take_of_lt hj]
        have e0 : wr.cell? ⟨g6, i * 2, none⟩ = some (.int .u64 (c.1 : Int)) := hcs _ _ (comV_at _ _ i c hc).1
        have e1 : wr.cell? ⟨g6, i * 2 + 1, none⟩ = some (.map ((r.gs[c.2]?).map (·.2))) := hcs _ _ (comV_at _ _ i c hc).2
        have hcm := List.mem_of_getElem? hc
        obtain ⟨qc, hqc⟩ : ∃ q, r.gs[c.2]? = some q := ⟨_, List.getElem?_eq_getElem (HCL.out c hcm)⟩
        obtain ⟨y, hy⟩ : ∃ y, r.s.txs[c.2]? = some y := ⟨_, List.getElem?_eq_getElem (by have := HCL.out c hcm; omega)⟩
        rw [hqc] at e1
        have e1 : wr.cell? ⟨g6, i * 2 + 1, none⟩ = some (.map (some qc.2)) := e1
        have x0 : wr.cell? ⟨q.1, 0, none⟩ = some (.int .u64 (x.rts : Int)) := (HT.out.1.frm hfr.out (by simp)).at_ rfl
        have x2r : wr.cell? ⟨q.1, 2, none⟩ = some (.slice A2 x.reads.length c2) := (HT.out.1.frm hfr.out (by simp)).at_ rfl
        have HQC := Lib.hid hqc
        have HY := Lib.hid hy
        have HC := Lib.hid hc
        have HBK := Lib.hid hbk
        clear hcs hcm hqc hy hc hbk htk
        go_wp2
        have hfa : Hid (Frm [] w (wr.alloc (Obj.cells #[Value.int IntKind.u64 (c.1 : Int), Value.map (some qc.2)] 184))) := hfr.out.andAlloc _
        have hgs : Hid (w.heap.size ≤ wr.heap.size) := hfr.out.size
        have hbb : Hid (Blk (wr.alloc (Obj.cells #[Value.int IntKind.u64 (c.1 : Int), Value.map (some qc.2)] 184)) wr.heap.size 184 [.int .u64 (c.1 : Int), .map (some qc.2)]) := Blk.new wr _ _
        clear e0 e1 x0 x2r hfr
        generalize (wr.alloc (Obj.cells #[Value.int IntKind.u64 (c.1 : Int), Value.map (some qc.2)] 184)) = wa at *
        generalize wr.heap.size = gb at *
        have b0 : wa.cell? ⟨gb, 0, none⟩ = some (.int .u64 (c.1 : Int)) := hbb.out.at_ rfl
        have x0 : wa.cell? ⟨q.1, 0, none⟩ = some (.int .u64 (x.rts : Int)) := (HT.out.1.frm hfa.out (by simp)).at_ rfl
        obtain ⟨gkO, rfl⟩ : ∃ g, gk = g + 1 := ⟨gk - 1, by have := hf.out; omega⟩
        have htk : r.s.com.take (i + 1) = r.s.com.take i ++ [c] := by rw [List.take_add_one, HC.out]; rfl
        have HTK := Lib.hid htk
        clear htk
        by_cases hle : c.1 ≤ x.rts
        · have hle2 : (c.1 : Int) ≤ (x.rts : Int) := by omega
          go_quiet (fail)
          have hfd : Hid (Frm [] w (wa.drewN nq)) := hfa.out.drewN nq
          clear hfa b0 x0 hbb
          generalize wa.drewN nq = wd at *
          go_wp2
          go_roundg gkO
          case measure => omega
          case rel =>
            refine ⟨i + 1, rfl, by omega, by have := hf.out; show _ = _; omega, ?_, hfd.out⟩
            rw [Hid, HTK.out, List.any_append, hany.out]
            simp [hitC]
            intro h
            omega
        · have hle2 : ¬ (c.1 : Int) ≤ (x.rts : Int) := by omega
          go_quiet (fail)
          have hfd : Hid (Frm [] w (wa.drewN nq)) := hfa.out.drewN nq
          have hbd : Hid (Blk (wa.drewN nq) gb 184 [.int .u64 (c.1 : Int), .map (some qc.2)]) := hbb.out
          clear hfa b0 x0 hbb
          generalize wa.drewN nq = wd at *
          have x2r : wd.cell? ⟨q.1, 2, none⟩ = some (.slice A2 x.reads.length c2) := (HT.out.1.frm hfd.out (by simp)).at_ rfl
          go_wp2
          go_loopg [38] x.reads.length (fun f v38 wq => ∃ j : Nat, v38 = .int .i64 (j : Int) ∧ j ≤ x.reads.length ∧ Hid (j + f = x.reads.length) ∧ Hid ((x.reads.take j).any (wroteB r.s c.2) = false) ∧ Hid (Frm [] w wq) ∧ Hid (Blk wq gb 184 [.int .u64 (c.1 : Int), .map (some qc.2)]))
          case atStart => exact ⟨0, rfl, Nat.zero_le _, by simp [Hid], rfl, hfd.out, hbd.out⟩
          case round =>
            obtain ⟨j, rfl, hjn, hjf, hjany, hfq, hbq⟩ := hrel
            by_cases hjlt : j < x.reads.length
            · obtain ⟨k, hk⟩ : ∃ k, x.reads[j]? = some k := ⟨_, List.getElem?_eq_getElem hjlt⟩
              obtain ⟨ga, oa, u, hA2, hu, hcell⟩ := (HSL.out.frm hfq.out (fun _ _ _ => by simp)).at_ hjlt
              obtain rfl : Value.int .u64 k = u := by
                unfold nums at hu
                rw [List.getElem?_map, hk] at hu
                injection hu
              subst hA2
              have hjlt2 : (j : Int) < (x.reads.length : Int) := by omega
              have hkw : (Lit.int .u64 k).wf = true := HW.out k (List.mem_of_getElem? hk)
              have b1 : wr.cell? ⟨gb, 1, none⟩ = some (.map (some qc.2)) := hbq.out.at_ rfl
              obtain ⟨rvc, hty, _⟩ := H.out.tx HY.out HQC.out
              have hlk : (Instr.lookup 148 (.map (some qc.2)) (.int .u64 k) true).run Try.prog wr = .ok (.tuple #[.agg #[], .bool (y.writes.contains k)]) wr := by
                have h1 := (hty.2.2.frm hfq.out (by simp)).look_ok u64intO Try.underlying148 (zeroU _) k hkw
                have e : (wrF y.writes k).getD (.agg #[]) = .agg #[] ∧ (wrF y.writes k).isSome = y.writes.contains k := by
                  unfold wrF
                  cases y.writes.contains k <;> exact ⟨rfl, rfl⟩
                rw [e.1, e.2] at h1
                exact h1
              have HK := Lib.hid hk
              have hkb : Hid (wroteB r.s c.2 k = y.writes.contains k) := by rw [Hid]; unfold wroteB; rw [HY.out]
              clear hu hk hty
              generalize hct : y.writes.contains k = bt at *
              have HCT := Lib.hid hct
              clear hct
              obtain ⟨gjO, rfl⟩ : ∃ g, gk = g + 1 := ⟨gk - 1, by have := hjf.out; omega⟩
              cases bt with
              | true =>
                go_wp2
                go_ret
                refine ⟨?_, (hfq.out.andAlloc _)⟩
                have e : r.s.hits x = true := by
                  rw [hits_def, List.any_eq_true]
                  refine ⟨c, List.mem_of_getElem? HC.out, ?_⟩
                  simp only [hitC, Bool.and_eq_true, decide_eq_true_eq]
                  exact ⟨by omega, List.any_eq_true.2 ⟨k, List.mem_of_getElem? HK.out, hkb.out⟩⟩
                rw [e]
                rfl
              | false =>
                go_wp2
                go_roundg gjO
                case measure => omega
                case rel =>
                  refine ⟨j + 1, rfl, by omega, by have := hjf.out; show _ = _; omega, ?_, hfq.out.andAlloc _, hbq.out.alloc _⟩
                  rw [Hid, List.take_add_one, HK.out, List.any_append, hjany.out]
                  first | (simp [hkb.out, HCT.out]; done) | simp [hkb.out]
            · have hje : j = x.reads.length := by omega
              have hjlt2 : ¬ (j : Int) < (x.reads.length : Int) := by omega
              go_wp2
              go_roundg gkO
              case measure => omega
              case rel =>
                refine ⟨i + 1, rfl, by omega, by have := hf.out; show _ = _; omega, ?_, hfq.out⟩
                rw [Hid, HTK.out, List.any_append, hany.out]
                have := hjany.out
                rw [hje, List.take_length] at this
                simp [hitC, this]
      · have hie : i = r.s.com.length := by omega
        have hlt2 : ¬ (i : Int) < (r.s.com.length : Int) := by omega
        go_wp2
        go_ret
        refine ⟨?_, hfr.out⟩
        rw [hits_def]
        have := hany.out
        rw [hie, List.take_length] at this
        rw [this]
        rfl
end
end Go.Proofs.Ytanmgkpgfmkobaa
