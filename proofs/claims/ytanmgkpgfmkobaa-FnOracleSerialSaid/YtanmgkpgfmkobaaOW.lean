/- An oracle's bounds, act by act; acts and what is told, cell by cell. -/
import Derived.Test.YtanmgkpgfmkobaaOV
import Derived.Test.YtanmgkpgfmkobaaOF
namespace Go.Proofs.Ytanmgkpgfmkobaa
open Go.RowKit
set_option linter.unusedVariables false
set_option linter.unusedSimpArgs false
structure SB (i : Nat) (s : OSt) : Prop where
  nx : s.next ≤ i + 1
  tx : s.txs.length ≤ i
  co : s.com.length ≤ i
  each : ∀ x ∈ s.txs, x.reads.length ≤ i ∧ x.rts ≤ i ∧ ∀ k ∈ x.reads, (Lit.int .u64 k).wf = true
  mkb : MB i s.rmk
theorem SB.more {i : Nat} {s : OSt} (h : SB i s) : SB (i + 1) s := ⟨by have := h.nx; omega, by have := h.tx; omega, by have := h.co; omega, fun x hx => ⟨by have := (h.each x hx).1; omega, by have := (h.each x hx).2.1; omega, (h.each x hx).2.2⟩, h.mkb.mono (Nat.le_succ i)⟩
theorem SB.done {i t : Nat} {s : OSt} {x : OTx} (h : SB i s) (hx : s.txs[t]? = some x) : SB (i + 1) (s.done t x) ∧ (s.done t x).next = s.next ∧ (s.done t x).com = s.com := by
  have hm := List.mem_of_getElem? hx
  unfold OSt.done
  split
  · exact ⟨h.more, rfl, rfl⟩
  · refine ⟨⟨by have := h.nx; show s.next ≤ _; omega, by rw [List.length_set]; have := h.tx; omega, by have := h.co; show s.com.length ≤ _; omega, fun y hy => ?_, h.mkb.proc (h.each x hm).2.1 (by omega)⟩, rfl, rfl⟩
    rcases List.mem_or_eq_of_mem_set hy with hy | rfl
    · exact ⟨by have := (h.each y hy).1; omega, by have := (h.each y hy).2.1; omega, (h.each y hy).2.2⟩
    · exact ⟨by have := (h.each x hm).1; show x.reads.length ≤ _; omega, by have := (h.each x hm).2.1; show x.rts ≤ _; omega, (h.each x hm).2.2⟩
theorem SB.clean {i : Nat} {s : OSt} (cf : Bool) (h : SB i s) : SB i (s.clean cf) ∧ (s.clean cf).next = s.next ∧ (s.clean cf).com.length ≤ s.com.length := by
  unfold OSt.clean
  split
  · split
    · exact ⟨h, rfl, Nat.le_refl _⟩
    · have hl := List.length_filter_le (fun c : Nat × Nat => decide (s.rmk.til < c.1)) s.com
      exact ⟨⟨h.nx, h.tx, Nat.le_trans hl h.co, h.each, h.mkb⟩, rfl, hl⟩
  · exact ⟨h, rfl, Nat.le_refl _⟩
theorem SB.act {i : Nat} {s : OSt} (cf : Bool) (h : SB i s) (a : OAct) (hk : (Lit.int .u64 a.key).wf = true) : SB (i + 1) (s.act cf a).1 := by
  have hset : ∀ (t : Nat) (x y : OTx), s.txs[t]? = some x → y.rts = x.rts → (y.reads = x.reads ∨ y.reads = x.reads ++ [a.key]) → SB (i + 1) { s with txs := s.txs.set t y } := fun t x y hx h1 h2 => by
    have hm := List.mem_of_getElem? hx
    refine ⟨h.more.nx, by rw [List.length_set]; exact h.more.tx, h.more.co, fun z hz => ?_, h.more.mkb⟩
    rcases List.mem_or_eq_of_mem_set hz with hz | rfl
    · exact h.more.each z hz
    · obtain ⟨b1, b2, b3⟩ := h.each x hm
      refine ⟨?_, by rw [h1]; omega, ?_⟩
      · rcases h2 with h2 | h2
        · rw [h2]; omega
        · rw [h2, List.length_append]; simp; omega
      · rcases h2 with h2 | h2
        · rw [h2]; exact b3
        · rw [h2]
          intro k hk'
          rcases List.mem_append.1 hk' with hk' | hk'
          · exact b3 k hk'
          · rw [List.mem_singleton] at hk'; subst hk'; exact hk
  unfold OSt.act
  split
  · refine ⟨h.more.nx, by rw [List.length_append]; have := h.tx; simp; omega, h.more.co, fun z hz => ?_, h.mkb.proc (by have := h.nx; omega) (by omega)⟩
    rcases List.mem_append.1 hz with hz | hz
    · exact h.more.each z hz
    · rw [List.mem_singleton] at hz
      subst hz
      exact ⟨Nat.zero_le _, by have := h.nx; show s.next - 1 ≤ _; omega, fun k hk2 => by cases hk2⟩
  · split
    · exact h.more
    · split
      · exact h.more
      · rename_i x hx
        split
        · exact hset _ x _ hx rfl (.inr rfl)
        · split
          · exact hset _ x _ hx rfl (.inl rfl)
          · split
            · split
              · exact h.more
              · obtain ⟨d1, d2, d3⟩ := h.done hx
                obtain ⟨c1, c2, c3⟩ := d1.clean cf
                refine ⟨?_, c1.tx, ?_, c1.each, c1.mkb⟩
                · show ((s.done a.txn.toNat x).clean cf).next + 1 ≤ _
                  rw [c2, d2]; have := h.nx; omega
                · rw [d3] at c3
                  have := h.co
                  show (if cf = true then ((s.done a.txn.toNat x).clean cf).com ++ [_] else ((s.done a.txn.toNat x).clean cf).com).length ≤ _
                  split
                  · rw [List.length_append]; simp; omega
                  · omega
            · split
              · exact (h.done hx).1
              · exact h.more
theorem sb_init : SB 0 oInit := ⟨Nat.le_refl _, Nat.le_refl _, Nat.le_refl _, fun x hx => (by cases hx), MB.nil 0 0⟩
/-- Acts, cell by cell. -/
def OAct.cells (a : OAct) : List Value := [.int .i64 a.kind, .int .i64 a.txn, .int .u64 a.key]
def flatA (l : List OAct) : List Value := l.flatMap OAct.cells
theorem flatA_len (l : List OAct) : (flatA l).length = l.length * 3 := by
  induction l with
  | nil => rfl
  | cons a l ih =>
    have e : flatA (a :: l) = a.cells ++ flatA l := rfl
    rw [e, List.length_append, ih, List.length_cons]
    simp [OAct.cells]
    omega
theorem flatA_at : ∀ (l : List OAct) (i j : Nat) (a : OAct), l[i]? = some a → j < 3 → (flatA l)[i * 3 + j]? = a.cells[j]? := by
  intro l
  induction l with
  | nil => intro i j a h; simp at h
  | cons b l ih =>
    intro i j a h hj
    have hl : b.cells.length = 3 := rfl
    have e : flatA (b :: l) = b.cells ++ flatA l := rfl
    rw [e]
    cases i with
    | zero =>
      simp only [List.getElem?_cons_zero, Option.some.injEq] at h
      subst h
      rw [List.getElem?_append_left (by omega), Nat.zero_mul, Nat.zero_add]
    | succ i =>
      rw [List.getElem?_append_right (by omega), show (i + 1) * 3 + j - b.cells.length = i * 3 + j by omega]
      exact ih i j a (by simpa using h) hj
/-- A slice that reads as a list of acts. -/
def Acts (w : World) (A : Option Addr) (l : List OAct) : Prop := Sl w A (l.length * 3) (flatA l)
theorem Acts.cells {w : World} {A : Option Addr} {l : List OAct} (h : Acts w A l) {i : Nat} {a : OAct} (hi : l[i]? = some a) : ∃ g o, A = some ⟨g, o, none⟩ ∧ w.cell? ⟨g, o + i * 3, none⟩ = some (.int .i64 a.kind) ∧ w.cell? ⟨g, o + i * 3 + 1, none⟩ = some (.int .i64 a.txn) ∧ w.cell? ⟨g, o + i * 3 + 2, none⟩ = some (.int .u64 a.key) := by
  have hl := (List.getElem?_eq_some_iff.1 hi).1
  obtain ⟨g, o, rfl, hc⟩ := h.2 (by omega)
  refine ⟨g, o, rfl, ?_, ?_, ?_⟩
  · have := hc (i * 3 + 0) _ (by rw [flatA_at l i 0 a hi (by omega)]; rfl)
    simpa using this
  · have := hc (i * 3 + 1) _ (by rw [flatA_at l i 1 a hi (by omega)]; rfl)
    rwa [← Nat.add_assoc] at this
  · have := hc (i * 3 + 2) _ (by rw [flatA_at l i 2 a hi (by omega)]; rfl)
    rwa [← Nat.add_assoc] at this
theorem Acts.below {w w' : World} {A : Option Addr} {l : List OAct} (h : Acts w A l) (hb : Below w.heap.size w w') : Acts w' A l := Sl.below h hb
/-- What is told, cell by cell. -/
def OTold.cells (t : OTold) : List Value := [.int .u64 (t.ver : Int), .bool t.conf, .int .u64 (t.below : Int), .int .u64 (t.next : Int)]
def flatT (l : List OTold) : List Value := l.flatMap OTold.cells
theorem flatT_len (l : List OTold) : (flatT l).length = l.length * 4 := by
  induction l with
  | nil => rfl
  | cons a l ih =>
    have e : flatT (a :: l) = a.cells ++ flatT l := rfl
    rw [e, List.length_append, ih, List.length_cons]
    simp [OTold.cells]
    omega
theorem flatT_app (l m : List OTold) : flatT (l ++ m) = flatT l ++ flatT m := by simp [flatT]
theorem flatT_at : ∀ (l : List OTold) (i j : Nat) (a : OTold), l[i]? = some a → j < 4 → (flatT l)[i * 4 + j]? = a.cells[j]? := by
  intro l
  induction l with
  | nil => intro i j a h; simp at h
  | cons b l ih =>
    intro i j a h hj
    have hl : b.cells.length = 4 := rfl
    have e : flatT (b :: l) = b.cells ++ flatT l := rfl
    rw [e]
    cases i with
    | zero =>
      simp only [List.getElem?_cons_zero, Option.some.injEq] at h
      subst h
      rw [List.getElem?_append_left (by omega), Nat.zero_mul, Nat.zero_add]
    | succ i =>
      rw [List.getElem?_append_right (by omega), show (i + 1) * 4 + j - b.cells.length = i * 4 + j by omega]
      exact ih i j a (by simpa using h) hj
def ptrL (gs : List (Nat × Nat)) : List Value := gs.map fun q => .pointer (some ⟨q.1, 0, none⟩)
end Go.Proofs.Ytanmgkpgfmkobaa
