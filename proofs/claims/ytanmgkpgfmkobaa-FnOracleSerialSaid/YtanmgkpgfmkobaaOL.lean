/- The oracle's functions: what each leaves. -/
import Derived.Test.YtanmgkpgfmkobaaOK
namespace Go.Proofs.Ytanmgkpgfmkobaa
open Go.RowKit
set_option linter.unusedVariables false
set_option linter.unusedSimpArgs false
set_option maxRecDepth 100000
theorem assertO (w : World) : Calls Try.prog 80 #[.bool true] w fun E w' => E = .returned (.tuple #[]) ∧ w = w' := by
  go_enter Try.func80, Try.ntmps80
  go_wp2
  go_end0
  exact ⟨rfl, rfl⟩
theorem ow_lt {B N : Nat} {p : OP} {cf : Bool} {r : ORun} {w : World} {ow : Nat → Nat} (h : Ora B N p cf r w ow) {b : Nat} (hb : ow b ≠ 0) : b < w.heap.size := by
  by_cases hl : b < w.heap.size
  · exact hl
  · exact absurd (h.out b (by omega)) hb
/-- A transaction turns. -/
theorem Ora.setTx {B N N' t : Nat} {p : OP} {cf : Bool} {r : ORun} {w w' : World} {ow : Nat → Nat} {L : List Nat} {x' : OTx} {q : Nat × Nat} {rv' : Value} (h : Ora B N p cf r w ow) (hq : r.gs[t]? = some q) (hf : Frm L w w') (hL : ∀ b ∈ L, b < w.heap.size → ow b = t + 4)
    (hnew : TxS w' B N' q.1 q.2 rv' x') (hown : ∀ b ∈ q.1 :: q.2 :: rv'.ownBlock.toList, b < w.heap.size → ow b = t + 4) (hN : N ≤ N') :
    ∃ ow', Ora B N' p cf { r with s := { r.s with txs := r.s.txs.set t x' } } w' ow' ∧ Stp ow w ow' w' := by
  have htl : t < r.s.txs.length := by rw [← h.len]; exact (List.getElem?_eq_some_iff.1 hq).1
  refine ⟨_, h.turn (k0 := t + 4) (N' := N') hf hL (by omega) (by show _ = (r.s.txs.set t x').length; rw [List.length_set]; exact h.len) (fun x2 q2 hx2 hq2 => ?_) fun k hk hc => ?_⟩
  · have hx2 : (r.s.txs.set t x')[t]? = some x2 := hx2
    have hq2 : r.gs[t]? = some q2 := hq2
    rw [List.getElem?_set_self htl] at hx2
    injection hx2 with hx2
    rw [hq] at hq2
    injection hq2 with hq2
    subst hx2 hq2
    refine ⟨rv', hnew, fun b hb => upO_at ?_ (hown b hb)⟩
    rcases List.mem_cons.1 hb with rfl | hb
    · exact hnew.1.lt
    · rcases List.mem_cons.1 hb with rfl | hb
      · exact hnew.2.2.lt
      · exact ownO_lt hnew.2.1 b hb
  · match k, hk, hc with
    | 0, _, _ => trivial
    | 1, _, hc => exact hc
    | 2, _, hc => exact Comp.more hc hN
    | 3, _, hc => exact Comp.more hc hN
    | j + 4, hk, hc =>
      intro x2 q2 hx2 hq2
      have hx2 : (r.s.txs.set t x')[j]? = some x2 := hx2
      rw [List.getElem?_set_ne (by omega)] at hx2
      obtain ⟨rv, ⟨h1, h2, h3⟩, h5⟩ := hc x2 q2 hx2 hq2
      exact ⟨rv, ⟨h1, h2, h3.mono hN⟩, h5⟩
/-- A transaction more. -/
theorem Ora.addTx {B N : Nat} {p : OP} {cf : Bool} {r : ORun} {w w' : World} {ow : Nat → Nat} {x' : OTx} {q : Nat × Nat} {rv' : Value} (h : Ora B N p cf r w ow) (hf : Frm [] w w')
    (hnew : TxS w' B N q.1 q.2 rv' x') (hown : ∀ b ∈ q.1 :: q.2 :: rv'.ownBlock.toList, w.heap.size ≤ b) :
    ∃ ow', Ora B N p cf { r with s := { r.s with txs := r.s.txs ++ [x'] }, gs := r.gs ++ [q] } w' ow' ∧ Stp ow w ow' w' := by
  refine ⟨_, h.turn (k0 := r.s.txs.length + 4) (N' := N) hf (fun b hb => by cases hb) (by omega) (by show (r.gs ++ [q]).length = (r.s.txs ++ [x']).length; rw [List.length_append, List.length_append, h.len]; rfl) (fun x2 q2 hx2 hq2 => ?_) fun k hk hc => ?_⟩
  · have hx2 : (r.s.txs ++ [x'])[r.s.txs.length]? = some x2 := hx2
    have hq2 : (r.gs ++ [q])[r.s.txs.length]? = some q2 := hq2
    rw [List.getElem?_append_right (Nat.le_refl _), Nat.sub_self] at hx2
    rw [← h.len, List.getElem?_append_right (Nat.le_refl _), Nat.sub_self] at hq2
    injection hx2 with hx2
    injection hq2 with hq2
    subst hx2 hq2
    refine ⟨rv', hnew, fun b hb => upO_at ?_ (fun hlt => by have := hown b hb; omega)⟩
    rcases List.mem_cons.1 hb with rfl | hb
    · exact hnew.1.lt
    · rcases List.mem_cons.1 hb with rfl | hb
      · exact hnew.2.2.lt
      · exact ownO_lt hnew.2.1 b hb
  · match k, hk, hc with
    | 0, _, _ => trivial
    | 1, _, ⟨cv, h1, h2, h3, h4, h5⟩ =>
      exact ⟨cv, h1, h2, by show World.ownsRow _ _ _ _ _ _ (comV (r.gs ++ [q]) r.s.com); rw [comV_grow _ _ _ h4]; exact h3, fun c hc => by show _ < (r.gs ++ [q]).length; rw [List.length_append]; exact Nat.lt_add_right _ (h4 c hc), h5⟩
    | 2, _, hc => exact hc
    | 3, _, hc => exact hc
    | j + 4, hk, hc =>
      intro x2 q2 hx2 hq2
      have hx2 : (r.s.txs ++ [x'])[j]? = some x2 := hx2
      have hq2 : (r.gs ++ [q])[j]? = some q2 := hq2
      have hj : j < r.s.txs.length := by
        have := (List.getElem?_eq_some_iff.1 hx2).1
        rw [List.length_append, List.length_singleton] at this
        omega
      rw [List.getElem?_append_left hj] at hx2
      rw [List.getElem?_append_left (by rw [h.len]; exact hj)] at hq2
      exact hc x2 q2 hx2 hq2
section
variable {B N K : Nat} {p : OP} {cf : Bool} {r : ORun} {w : World} {ow : Nat → Nat}
theorem nextTs_any (o : Nat) (n : Int) (w : World) (h : w.cell? ⟨o, 2, none⟩ = some (.int .u64 n)) :
    Calls Try.prog 86 #[.pointer (some ⟨o, 0, none⟩)] w fun E w' => E = .returned (.int .u64 n) ∧ w' = w := by
  go_enter Try.func86, Try.ntmps86
  go_wp2
  go_ret
  exact ⟨rfl, rfl⟩
theorem next_any (h : Ora B N p cf r w ow) :
    Calls Try.prog 55 #[.pointer (some ⟨p.P, 0, none⟩)] w fun E w' => E = .returned (.int .u64 (r.s.next : Int)) ∧ w' = w := by
  have p0 := h.p0
  have H := Lib.hid (nextTs_any p.O _ w h.o2)
  clear h
  go_enter Try.func55, Try.ntmps55
  go_wp2_with fail
  refine H.out.mono ?_
  rintro E w' ⟨rfl, rfl⟩
  go_wp2
  go_ret
  exact ⟨rfl, rfl⟩
theorem discardAt_any (h : Ora B N p cf r w ow) :
    Calls Try.prog 91 #[.pointer (some ⟨p.O, 0, none⟩)] w fun E w' => E = .returned (.int .u64 (r.s.rmk.til : Int)) ∧ w' = w := by
  have o0 := h.o0
  have o5 := h.o5
  have H := Lib.hid (doneUntil_any p.M2 _ w h.m2)
  clear h
  go_enter Try.func91, Try.ntmps91
  go_wp2_with fail
  refine H.out.mono ?_
  rintro E w' ⟨rfl, rfl⟩
  go_wp2
  go_ret
  exact ⟨rfl, rfl⟩
theorem below_any (h : Ora B N p cf r w ow) :
    Calls Try.prog 62 #[.pointer (some ⟨p.P, 0, none⟩)] w fun E w' => E = .returned (.int .u64 (r.s.rmk.til : Int)) ∧ w' = w := by
  have p0 := h.p0
  have H := Lib.hid (discardAt_any h)
  clear h
  go_enter Try.func62, Try.ntmps62
  go_wp2_with fail
  refine H.out.mono ?_
  rintro E w' ⟨rfl, rfl⟩
  go_wp2
  go_ret
  exact ⟨rfl, rfl⟩
theorem readTs_any (h : Ora B N p cf r w ow) (hm : MB K r.s.rmk) (hK : K ≤ 100000) (n : Nat) (hnx : r.s.next = n + 1) (hi : n ≤ 1000000) (hn : N ≤ 1000000) :
    Calls Try.prog 87 #[.pointer (some ⟨p.O, 0, none⟩)] w (ActP B (N + 1) p cf { r with s := { r.s with rmk := r.s.rmk.proc n 1 } } (.int .u64 (n : Int)) ow w) := by
  have o0 := h.o0
  have o2 := h.o2
  have o5 := h.o5
  have H := Lib.hid (begin3 h hm hK n hi hn)
  rw [hnx] at o2
  have hi2 : (n : Int) ≤ 1000000 := by omega
  have hi3 : (0 : Int) ≤ (n : Int) := by omega
  clear h hnx hi
  go_enter Try.func87, Try.ntmps87
  go_wp2_with fail
  trace_state
  refine H.out.mono ?_
  rintro E w' ⟨rfl, hr⟩
  have HR := Lib.hid hr
  clear hr
  go_wp2
  go_ret
  exact ⟨rfl, HR.out⟩
end
end Go.Proofs.Ytanmgkpgfmkobaa
