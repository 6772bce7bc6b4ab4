/- The oracle's small functions. -/
import Derived.Test.YtanmgkpgfmkobaaOJ
namespace Go.Proofs.Ytanmgkpgfmkobaa
open Go.RowKit
set_option linter.unusedVariables false
set_option linter.unusedSimpArgs false
set_option maxRecDepth 100000
/-- A mark's bounds. -/
def MB (K : Nat) (m : OMk) : Prop := SortM m.pend ∧ m.pend.length ≤ K ∧ ∀ p ∈ m.pend, -(K : Int) ≤ p.2 ∧ p.2 ≤ K ∧ p.1 ≤ K
theorem MB.proc {K i : Nat} {d : Int} {m : OMk} (h : MB K m) (hi : i ≤ K) (hd : -1 ≤ d ∧ d ≤ 1) : MB (K + 1) (m.proc i d) := by
  refine ⟨popM_sort _ _ (insM_sort i d _ h.1), ?_, fun p hp => ?_⟩
  · have h1 := popM_len (insM i d m.pend) m.til
    have h2 := insM_len i d m.pend
    have h3 := h.2.1
    show (popM _ _).pend.length ≤ _
    omega
  · have h1 := popM_mem _ _ p hp
    have h2 := insM_cnt i d hd K (by omega) m.pend (fun q hq => ⟨(h.2.2 q hq).1, (h.2.2 q hq).2.1⟩) p h1
    have h3 := insM_le i d K m.pend hi (fun q hq => (h.2.2 q hq).2.2) p h1
    omega
theorem MB.mono {K K' : Nat} {m : OMk} (h : MB K m) (hk : K ≤ K') : MB K' m := ⟨h.1, Nat.le_trans h.2.1 hk, fun p hp => by have := h.2.2 p hp; omega⟩
theorem proc_of {B g bp n i K : Nat} {d : Int} {v : Value} {m : OMk} {w : World} (h : MkS w B g bp n v m.pend m.til) (hm : MB K m) (hK : K ≤ 100000) (hd : -1 ≤ d ∧ d ≤ 1) (hi : i ≤ 1000000) (hn : n ≤ 1000000) (hB : B ≤ w.heap.size) :
    Calls Try.prog 111 #[.pointer (some ⟨g, 0, none⟩), .int .u64 (i : Int), .int .i64 d] w (ProcP B g bp n v (m.proc i d) w) :=
  process_any B g bp n m.til i d v m.pend w h hm.1 hd hi (Nat.le_trans hm.2.1 hK) hn hB (fun p hp => by have := hm.2.2 p hp; omega) (fun p hp => by have := hm.2.2 p hp; omega)
theorem begin_any {B g bp n i K : Nat} {v : Value} {m : OMk} {w : World} (h : MkS w B g bp n v m.pend m.til) (hm : MB K m) (hK : K ≤ 100000) (hi : i ≤ 1000000) (hn : n ≤ 1000000) (hB : B ≤ w.heap.size) :
    Calls Try.prog 112 #[.pointer (some ⟨g, 0, none⟩), .int .u64 (i : Int)] w (ProcP B g bp n v (m.proc i 1) w) := by
  have H := Lib.hid (proc_of h hm hK (d := 1) (by omega) hi hn hB)
  clear h hm hK hi hn hB
  go_enter Try.func112, Try.ntmps112
  go_wp2_with fail
  refine H.out.mono ?_
  rintro E w' ⟨rfl, hr⟩
  have HR := Lib.hid hr
  clear hr
  go_wp2
  go_end0
  exact ⟨rfl, HR.out⟩
theorem done_any {B g bp n i K : Nat} {v : Value} {m : OMk} {w : World} (h : MkS w B g bp n v m.pend m.til) (hm : MB K m) (hK : K ≤ 100000) (hi : i ≤ 1000000) (hn : n ≤ 1000000) (hB : B ≤ w.heap.size) :
    Calls Try.prog 84 #[.pointer (some ⟨g, 0, none⟩), .int .u64 (i : Int)] w (ProcP B g bp n v (m.proc i (-1)) w) := by
  have H := Lib.hid (proc_of h hm hK (d := -1) (by omega) hi hn hB)
  clear h hm hK hi hn hB
  go_enter Try.func84, Try.ntmps84
  go_wp2_with fail
  refine H.out.mono ?_
  rintro E w' ⟨rfl, hr⟩
  have HR := Lib.hid hr
  clear hr
  go_wp2
  go_end0
  exact ⟨rfl, HR.out⟩
theorem doneUntil_any (g : Nat) (x : Int) (w : World) (h : w.cell? ⟨g, 2, none⟩ = some (.int .u64 x)) :
    Calls Try.prog 115 #[.pointer (some ⟨g, 0, none⟩)] w fun E w' => E = .returned (.int .u64 x) ∧ w' = w := by
  go_enter Try.func115, Try.ntmps115
  go_wp2
  go_ret
  exact ⟨rfl, rfl⟩
/-- A new mark. -/
theorem newMark_any (B : Nat) (w : World) (hB : B ≤ w.heap.size) :
    Calls Try.prog 83 #[] w fun E w' => E = .returned (.pointer (some ⟨w.heap.size + 1, 0, none⟩)) ∧ MkS w' B (w.heap.size + 1) w.heap.size 0 (.slice none 0 0) [] 0 ∧ Frm [] w w' ∧ w'.heap.size = w.heap.size + 2 := by
  have hmm := @run_makeMap Try.prog
  have HB := Lib.hid hB
  clear hB
  go_enter Try.func83, Try.ntmps83
  go_wp2
  go_ret
  refine ⟨by simp [World.size_alloc], ⟨?_, .inl ⟨rfl, rfl⟩, ?_⟩, (Frm.alloc w _).andAlloc _, by rw [World.size_alloc, World.size_alloc]⟩
  · have := Blk.new (w.alloc (.map #[] 0)) 180 [.slice none 0 0, .map (some w.heap.size), .int .u64 ((0 : Nat) : Int)]
    rw [World.size_alloc] at this
    exact this
  · rw [pendF_nil]
    exact (MapAt.made Try.prog w 28 .u64).alloc _
section
variable {B N : Nat} {p : OP} {cf : Bool} {r : ORun} {w : World} {ow : Nat → Nat}
theorem Ora.o0 (h : Ora B N p cf r w ow) : w.cell? ⟨p.O, 0, none⟩ = some (.bool false) := by obtain ⟨cv, _, h2, _⟩ := h.comp 1; exact h2.at_ rfl
theorem Ora.o1 (h : Ora B N p cf r w ow) : w.cell? ⟨p.O, 1, none⟩ = some (.bool cf) := by obtain ⟨cv, _, h2, _⟩ := h.comp 1; exact h2.at_ rfl
theorem Ora.o2 (h : Ora B N p cf r w ow) : w.cell? ⟨p.O, 2, none⟩ = some (.int .u64 (r.s.next : Int)) := by obtain ⟨cv, _, h2, _⟩ := h.comp 1; exact h2.at_ rfl
theorem Ora.o3 (h : Ora B N p cf r w ow) : w.cell? ⟨p.O, 3, none⟩ = some (.pointer (some ⟨p.M1, 0, none⟩)) := by obtain ⟨cv, _, h2, _⟩ := h.comp 1; exact h2.at_ rfl
theorem Ora.o5 (h : Ora B N p cf r w ow) : w.cell? ⟨p.O, 5, none⟩ = some (.pointer (some ⟨p.M2, 0, none⟩)) := by obtain ⟨cv, _, h2, _⟩ := h.comp 1; exact h2.at_ rfl
theorem Ora.o7 (h : Ora B N p cf r w ow) : w.cell? ⟨p.O, 7, none⟩ = some (.int .u64 (r.s.lc : Int)) := by obtain ⟨cv, _, h2, _⟩ := h.comp 1; exact h2.at_ rfl
theorem Ora.p0 (h : Ora B N p cf r w ow) : w.cell? ⟨p.P, 0, none⟩ = some (.pointer (some ⟨p.O, 0, none⟩)) := by obtain ⟨cv, h1, _⟩ := h.comp 1; exact h1.at_ rfl
theorem Ora.m2 (h : Ora B N p cf r w ow) : w.cell? ⟨p.M2, 2, none⟩ = some (.int .u64 (r.s.rmk.til : Int)) := by obtain ⟨v, h1, _⟩ := h.comp 3; exact h1.blk.at_ rfl
theorem Ora.tx (h : Ora B N p cf r w ow) {t : Nat} {x : OTx} {q : Nat × Nat} (hx : r.s.txs[t]? = some x) (hq : r.gs[t]? = some q) : ∃ rv, TxS w B N q.1 q.2 rv x ∧ ∀ b ∈ q.1 :: q.2 :: rv.ownBlock.toList, ow b = t + 4 := h.comp (t + 4) x q hx hq
/-- The mark of those that read turns. -/
theorem Ora.mark3 {w' : World} {m : OMk} {v : Value} (h : Ora B N p cf r w ow) (hv : ∀ b ∈ footM p.M2 p.b2 v, ow b = 3) (hr : ∃ v', MkS w' B p.M2 p.b2 (N + 1) v' m.pend m.til ∧ Frm (footM p.M2 p.b2 v) w w' ∧ ∀ k ∈ v'.ownBlock.toList, k ∈ v.ownBlock.toList ∨ w.heap.size ≤ k) :
    ∃ ow', Ora B (N + 1) p cf { r with s := { r.s with rmk := m } } w' ow' ∧ Stp ow w ow' w' := by
  obtain ⟨v', h1, h2, h3⟩ := hr
  refine ⟨_, h.turn (N' := N + 1) h2 (fun b hb _ => hv b hb) (by omega) h.len ⟨v', h1, fun b hb => upO_at (h1.lt b hb) fun hlt => ?_⟩ fun k hk hc => ?_⟩
  · rcases List.mem_cons.1 hb with rfl | hb
    · exact hv _ (by simp [footM])
    · rcases List.mem_cons.1 hb with rfl | hb
      · exact hv _ (by simp [footM])
      · rcases h3 b hb with h4 | h4
        · exact hv b (by simp only [footM, List.mem_cons]; exact .inr (.inr h4))
        · omega
  · match k, hk, hc with
    | 0, _, _ => trivial
    | 1, _, hc => exact hc
    | 2, _, hc => exact Comp.more hc (Nat.le_succ N)
    | 3, hk, _ => exact absurd rfl hk
    | t + 4, _, hc => exact Comp.more hc (Nat.le_succ N)
theorem Ora.mark2 {w' : World} {m : OMk} {v : Value} (h : Ora B N p cf r w ow) (hv : ∀ b ∈ footM p.M1 p.b1 v, ow b = 2) (hr : ∃ v', MkS w' B p.M1 p.b1 (N + 1) v' m.pend m.til ∧ Frm (footM p.M1 p.b1 v) w w' ∧ ∀ k ∈ v'.ownBlock.toList, k ∈ v.ownBlock.toList ∨ w.heap.size ≤ k) :
    ∃ ow', Ora B (N + 1) p cf { r with tm := m } w' ow' ∧ Stp ow w ow' w' := by
  obtain ⟨v', h1, h2, h3⟩ := hr
  refine ⟨_, h.turn (N' := N + 1) h2 (fun b hb _ => hv b hb) (by omega) h.len ⟨v', h1, fun b hb => upO_at (h1.lt b hb) fun hlt => ?_⟩ fun k hk hc => ?_⟩
  · rcases List.mem_cons.1 hb with rfl | hb
    · exact hv _ (by simp [footM])
    · rcases List.mem_cons.1 hb with rfl | hb
      · exact hv _ (by simp [footM])
      · rcases h3 b hb with h4 | h4
        · exact hv b (by simp only [footM, List.mem_cons]; exact .inr (.inr h4))
        · omega
  · match k, hk, hc with
    | 0, _, _ => trivial
    | 1, _, hc => exact hc
    | 2, hk, _ => exact absurd rfl hk
    | 3, _, hc => exact Comp.more hc (Nat.le_succ N)
    | t + 4, _, hc => exact Comp.more hc (Nat.le_succ N)
end
/-- What an act leaves. -/
def ActP (B N : Nat) (p : OP) (cf : Bool) (r' : ORun) (v : Value) (ow : Nat → Nat) (w : World) (E : Ending) (w' : World) : Prop := E = .returned v ∧ ∃ ow', Ora B N p cf r' w' ow' ∧ Stp ow w ow' w'
section
variable {B N K : Nat} {p : OP} {cf : Bool} {r : ORun} {w : World} {ow : Nat → Nat}
theorem done3 (h : Ora B N p cf r w ow) (hm : MB K r.s.rmk) (hK : K ≤ 100000) (i : Nat) (hi : i ≤ 1000000) (hn : N ≤ 1000000) :
    Calls Try.prog 84 #[.pointer (some ⟨p.M2, 0, none⟩), .int .u64 (i : Int)] w (ActP B (N + 1) p cf { r with s := { r.s with rmk := r.s.rmk.proc i (-1) } } (.tuple #[]) ow w) := by
  obtain ⟨v, h1, h2⟩ := h.comp 3
  exact (done_any h1 hm hK hi hn h.base).mono fun E w' hr => ⟨hr.1, h.mark3 h2 hr.2⟩
theorem begin3 (h : Ora B N p cf r w ow) (hm : MB K r.s.rmk) (hK : K ≤ 100000) (i : Nat) (hi : i ≤ 1000000) (hn : N ≤ 1000000) :
    Calls Try.prog 112 #[.pointer (some ⟨p.M2, 0, none⟩), .int .u64 (i : Int)] w (ActP B (N + 1) p cf { r with s := { r.s with rmk := r.s.rmk.proc i 1 } } (.tuple #[]) ow w) := by
  obtain ⟨v, h1, h2⟩ := h.comp 3
  exact (begin_any h1 hm hK hi hn h.base).mono fun E w' hr => ⟨hr.1, h.mark3 h2 hr.2⟩
theorem done2 (h : Ora B N p cf r w ow) (hm : MB K r.tm) (hK : K ≤ 100000) (i : Nat) (hi : i ≤ 1000000) (hn : N ≤ 1000000) :
    Calls Try.prog 84 #[.pointer (some ⟨p.M1, 0, none⟩), .int .u64 (i : Int)] w (ActP B (N + 1) p cf { r with tm := r.tm.proc i (-1) } (.tuple #[]) ow w) := by
  obtain ⟨v, h1, h2⟩ := h.comp 2
  exact (done_any h1 hm hK hi hn h.base).mono fun E w' hr => ⟨hr.1, h.mark2 h2 hr.2⟩
theorem begin2 (h : Ora B N p cf r w ow) (hm : MB K r.tm) (hK : K ≤ 100000) (i : Nat) (hi : i ≤ 1000000) (hn : N ≤ 1000000) :
    Calls Try.prog 112 #[.pointer (some ⟨p.M1, 0, none⟩), .int .u64 (i : Int)] w (ActP B (N + 1) p cf { r with tm := r.tm.proc i 1 } (.tuple #[]) ow w) := by
  obtain ⟨v, h1, h2⟩ := h.comp 2
  exact (begin_any h1 hm hK hi hn h.base).mono fun E w' hr => ⟨hr.1, h.mark2 h2 hr.2⟩
end
end Go.Proofs.Ytanmgkpgfmkobaa
