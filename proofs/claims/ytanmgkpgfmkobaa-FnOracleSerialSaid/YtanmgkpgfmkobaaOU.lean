/- A commit through the thin type; a new oracle. -/
import Derived.Test.YtanmgkpgfmkobaaOT
namespace Go.Proofs.Ytanmgkpgfmkobaa
open Go.RowKit
set_option linter.unusedVariables false
set_option linter.unusedSimpArgs false
set_option maxRecDepth 100000
theorem tm_twice (i u : Nat) : ((OMk.mk [] u).proc i 1).proc i (-1) = ⟨[], i⟩ := by
  have e1 : (OMk.mk [] u).proc i 1 = ⟨[(i, 1)], u⟩ := by show popM [(i, 1)] u = _; unfold popM; rw [if_pos (by omega)]
  rw [e1]
  show popM (insM i (-1) [(i, 1)]) u = _
  have e2 : insM i (-1) [(i, 1)] = [(i, 0)] := by unfold insM; rw [if_neg (by omega), if_pos rfl]; rfl
  rw [e2]
  unfold popM
  rw [if_neg (by omega)]
  rfl
theorem MB.nil (K u : Nat) : MB K ⟨[], u⟩ := ⟨trivial, Nat.zero_le _, fun p hp => by cases hp⟩
section
variable {B N K : Nat} {p : OP} {cf : Bool} {r : ORun} {w : World} {ow : Nat → Nat}
/-- A commit that meets a conflict. -/
theorem commit_hit (h : Ora B N p cf r w ow) {t : Nat} {x : OTx} {q : Nat × Nat} (hx : r.s.txs[t]? = some x) (hq : r.gs[t]? = some q) (hl : x.reads.length ≤ 1000000) (hlc : r.s.com.length ≤ 1000000) (hwf : ∀ k ∈ x.reads, (Lit.int .u64 k).wf = true) (hh : r.s.hits x = true) :
    Calls Try.prog 60 #[.pointer (some ⟨p.P, 0, none⟩), .pointer (some ⟨q.1, 0, none⟩)] w (ActP B N p cf r (.tuple #[.int .u64 0, .bool true]) ow w) := by
  have p0 := h.p0
  have H := Lib.hid (newCommit_hit h hx hq hl hlc hwf hh)
  clear h hx hq hwf hh
  go_enter Try.func60, Try.ntmps60
  go_wp2_with fail
  refine H.out.mono ?_
  rintro E w' ⟨rfl, hr⟩
  have HR := Lib.hid hr
  clear hr
  go_wp2
  go_ret2
  exact ⟨rfl, HR.out⟩
theorem commit_ok (h : Ora B N p cf r w ow) (ok : OOk r.s) (hm : MB K r.s.rmk) (u : Nat) (hm2 : r.tm = ⟨[], u⟩) (hK : K ≤ 10000) (hN : N ≤ 100000) {t : Nat} {x : OTx} {q : Nat × Nat} (hx : r.s.txs[t]? = some x) (hq : r.gs[t]? = some q) (hl : x.reads.length ≤ 1000000) (hlc : r.s.com.length ≤ 1000000) (hwf : ∀ k ∈ x.reads, (Lit.int .u64 k).wf = true) (hh : r.s.hits x = false) (hr : x.rts ≤ 100000) (hnx : r.s.next ≤ 10000) :
    Calls Try.prog 60 #[.pointer (some ⟨p.P, 0, none⟩), .pointer (some ⟨q.1, 0, none⟩)] w (ActP B (N + 3) p cf ⟨(comP cf r t x).s, ⟨[], ((r.s.done t x).clean cf).next⟩, r.gs⟩ (.tuple #[.int .u64 ((((r.s.done t x).clean cf).next : Nat) : Int), .bool false]) ow w) := by
  have p0 := h.p0
  have H := Lib.hid (newCommit_ok (K := 10000) h ok (hm.mono hK) (by rw [hm2]; exact MB.nil _ _) (by omega) hN hx hq hl hlc hwf hh hr (by omega))
  obtain ⟨k1, k2, k3⟩ := ok.done hx
  obtain ⟨l1, l2, l3, l4⟩ := k1.clean cf
  have hs1n : ((r.s.done t x).clean cf).next ≤ 10000 := by rw [l3, k3]; exact hnx
  have HTM : Hid ((comP cf r t x).tm = (OMk.mk [] u).proc ((r.s.done t x).clean cf).next 1) := by rw [Hid, ← hm2]; rfl
  have hgs : Hid ((comP cf r t x).gs = r.gs) := rfl
  clear h hx hq hwf hh ok k1 k2 k3 l1 l2 l3 l4 hm2 hm
  generalize ((r.s.done t x).clean cf).next = ts at *
  generalize comP cf r t x = r2 at *
  go_enter Try.func60, Try.ntmps60
  go_wp2_with fail
  refine H.out.mono ?_
  rintro E w1 ⟨rfl, ow1, hO1, hS1⟩
  have HO1 := Lib.hid hO1
  have HS1 := Lib.hid hS1
  have p1 := hO1.p0
  clear hO1 hS1 H p0
  go_wp2_with fail
  refine (doneCommit_any HO1.out (K := 10001) (by rw [HTM.out]; exact (MB.nil 10000 u).proc hs1n (by omega)) (by omega) (by omega) ts (by omega)).mono ?_
  rintro E w2 ⟨rfl, ow2, hO2, hS2⟩
  have HO2 := Lib.hid hO2
  have HS2 := Lib.hid (HS1.out.trans hS2)
  clear hO2 hS2 HO1 HS1 p1
  go_wp2
  go_ret2
  have e := HO2.out
  rw [HTM.out, tm_twice] at e
  refine ⟨rfl, ow2, ?_, HS2.out⟩
  have e2 : ({ r2 with tm := ⟨[], ts⟩ } : ORun) = ⟨r2.s, ⟨[], ts⟩, r.gs⟩ := by rw [← hgs.out]
  rw [← e2]
  exact e
end
theorem incrementNextTs_any (o : Nat) (cs : List Value) (w : World) (hk : Blk w o 145 cs) (h2 : cs[2]? = some (.int .u64 0)) :
    Calls Try.prog 85 #[.pointer (some ⟨o, 0, none⟩)] w fun E w' => E = .returned (.tuple #[]) ∧ w' = w.setCell ⟨o, 2, none⟩ (.int .u64 1) := by
  have f2 := hk.frozen 2
  have c2 : w.cell? ⟨o, 2, none⟩ = some (.int .u64 0) := hk.at_ h2
  clear hk h2
  go_enter Try.func85, Try.ntmps85
  go_wp2
  go_end0
  exact ⟨rfl, rfl⟩
end Go.Proofs.Ytanmgkpgfmkobaa
