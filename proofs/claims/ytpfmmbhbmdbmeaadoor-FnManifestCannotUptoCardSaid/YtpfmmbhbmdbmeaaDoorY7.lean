/- Lists of changes, cell by cell; append of them. -/
import Derived.Test.YtpfmmbhbmdbmeaaDoorY6
import Derived.Test.YtpfmmbhbmdbmeaaDoorF5
import Derived.Test.YtpfmmbhbmdbmeaaDoorF7
namespace Go.Proofs.YtpfmmbhbmdbmeaaDoor
open Go.RowKit
set_option linter.unusedVariables false
set_option linter.unusedSimpArgs false
theorem cellsL_cons (a : Chg) (l : List Chg) : cellsL (a :: l) = a.cells ++ cellsL l := List.flatMap_cons ..
theorem cellsL_len (l : List Chg) : (cellsL l).length = l.length * 5 := by
  induction l with
  | nil => rfl
  | cons a l ih => rw [cellsL_cons, List.length_append, ih, List.length_cons]; simp [Chg.cells]; omega
theorem cellsL_append (a b : List Chg) : cellsL (a ++ b) = cellsL a ++ cellsL b := List.flatMap_append ..
theorem cellsL_at : ∀ (l : List Chg) (i j : Nat) (r : Chg), l[i]? = some r → j < 5 → (cellsL l)[i * 5 + j]? = r.cells[j]? := by
  intro l
  induction l with
  | nil => intro i j r h; simp at h
  | cons a l ih =>
    intro i j r h hj
    have hl : a.cells.length = 5 := rfl
    rw [cellsL_cons]
    cases i with
    | zero =>
      simp only [List.getElem?_cons_zero, Option.some.injEq] at h
      subst h
      rw [List.getElem?_append_left (by omega), Nat.zero_mul, Nat.zero_add]
    | succ i =>
      rw [List.getElem?_append_right (by omega), show (i + 1) * 5 + j - a.cells.length = i * 5 + j by omega]
      exact ih i j r (by simpa using h) hj
theorem cellsL_take (l : List Chg) (p : Nat) : (cellsL l).take (p * 5) = cellsL (l.take p) := by
  by_cases hp : p ≤ l.length
  · have e : cellsL l = cellsL (l.take p) ++ cellsL (l.drop p) := by rw [← cellsL_append, List.take_append_drop]
    rw [e, List.take_left' (by rw [cellsL_len, List.length_take]; omega)]
  · rw [List.take_of_length_le (by rw [cellsL_len]; omega), List.take_of_length_le (by omega)]
theorem cellsL_drop (l : List Chg) (p : Nat) (hp : p ≤ l.length) : (cellsL l).drop (p * 5) = cellsL (l.drop p) := by
  have e : cellsL l = cellsL (l.take p) ++ cellsL (l.drop p) := by rw [← cellsL_append, List.take_append_drop]
  rw [e, List.drop_left' (by rw [cellsL_len, List.length_take]; omega)]
theorem chg_one (c : Chg) : ∀ u ∈ c.cells, u.oneCell' = true := by
  intro u hu
  unfold Chg.cells at hu
  simp only [List.mem_cons, List.not_mem_nil, or_false] at hu
  rcases hu with rfl | rfl | rfl | rfl | rfl <;> rfl
theorem cellsL_one (l : List Chg) : ∀ u ∈ cellsL l, u.oneCell' = true := by
  intro u hu
  obtain ⟨c, _, hc⟩ := List.mem_flatMap.1 hu
  exact chg_one c u hc
theorem run_append_chg (w : World) (base ty : Nat) (v : Value) (n : Nat) (xs : List Value) (hown : w.ownsRow base 45 5 v n xs)
    (A : Option Addr) (m c : Nat) (news : List Value) (hr : Sl w A (m * 5) news) (h1 : ∀ u ∈ news, u.oneCell' = true) (hb : n + m ≤ 10000000000) (hbase : base ≤ w.heap.size) :
    ∃ v' w', (Builtin.append_ #[25, 25] ty #[v, .slice A m c]).run Tryd.prog w = .ok v' w' ∧ w'.ownsRow base 45 5 v' (n + m) (xs ++ news) ∧ w.grownBy w' v.ownBlock ∧ (v'.ownBlock = v.ownBlock ∨ v'.ownBlock = some w.heap.size) := by
  obtain ⟨i, hi, hz0, hz1, hz2⟩ := info_parts infoChg
  rcases Nat.eq_zero_or_pos m with h0 | h0
  · subst h0
    have hn : news = [] := List.eq_nil_of_length_eq_zero (by have := hr.1; omega)
    subst hn
    exact ⟨v, w, run_append_nothing w base 25 ty 45 i 5 Tryd.underlying25 hi v n xs hown A c (by cases A <;> simp), by simpa using hown, World.grownBy.refl w _, .inl rfl⟩
  · obtain ⟨g, o, rfl, hc⟩ := hr.2 (by omega)
    obtain ⟨v', w', hrun, h2, h3, _, h5⟩ := run_append_own_at (P := Tryd.prog) w base 25 ty 45 i _ 5 32 Tryd.underlying25 hi hz0 hz1 hz2 rfl (by omega) v n xs hown ⟨g, o, none⟩ m c news (by rw [hr.1])
      (Sl.adds ⟨hr.1, fun _ => ⟨g, o, rfl, hc⟩⟩) h1 (by simp only [maxLen]; omega) (by omega) hbase
    exact ⟨v', w', hrun, h2, h3, h5⟩
theorem step_append_chg {ops : Array Oper} {o : Oper} {a : Act} {w : World} {K : Act → World → Prop} {Q : Exit → Act → World → Prop} {E : Prop} (hgd : o.guard = none) (s x : Operand)
    (ho : o.op = .call { callee := .builtin .append, args := #[s, x], argTypes := #[25, 25] })
    (base : Nat) (v : Value) (n : Nat) (xs : List Value) (hs : a.eval s = v) (hown : w.ownsRow base 45 5 v n xs)
    (A : Option Addr) (m c : Nat) (news : List Value) (hx : a.eval x = .slice A m c) (hr : Sl w A (m * 5) news) (h1 : ∀ u ∈ news, u.oneCell' = true) (hb : n + m ≤ 10000000000) (hbase : base ≤ w.heap.size)
    (h : ∀ v' w', w'.ownsRow base 45 5 v' (n + m) (xs ++ news) → w.grownBy w' v.ownBlock → (v'.ownBlock = v.ownBlock ∨ v'.ownBlock = some w.heap.size) → K (a.put o.dst v') w') :
    if Region.wanted o (yielded ops a.tmps) = true then Oper.wp Tryd.prog o a w K Q else E := by
  have hw : Region.wanted o (yielded ops a.tmps) = true := by simp [Region.wanted, hgd]
  rw [if_pos hw]
  obtain ⟨v', w', hrun, h2, h3, h4⟩ := run_append_chg w base o.type v n xs hown A m c news hr h1 hb hbase
  unfold Oper.wp execOp
  simp only [ho, resolve, invoke, builtin, Sem.run_bind, Sem.run_pure, Result.andThen_ok, List.map_toArray, List.map_cons, List.map_nil, hs, hx, hrun]
  exact h v' w' h2 h3 h4
theorem wpList_append_chg {w : World} {ops : Array Oper} {rest : List Oper} {o : Oper} {a : Act} {Q : Exit → Act → World → Prop} (hgd : o.guard = none) (s x : Operand)
    (ho : o.op = .call { callee := .builtin .append, args := #[s, x], argTypes := #[25, 25] })
    (base : Nat) (v : Value) (n : Nat) (xs : List Value) (hs : a.eval s = v) (hown : w.ownsRow base 45 5 v n xs)
    (A : Option Addr) (m c : Nat) (news : List Value) (hx : a.eval x = .slice A m c) (hr : Sl w A (m * 5) news) (h1 : ∀ u ∈ news, u.oneCell' = true) (hb : n + m ≤ 10000000000) (hbase : base ≤ w.heap.size)
    (h : ∀ v' w', w'.ownsRow base 45 5 v' (n + m) (xs ++ news) → w.grownBy w' v.ownBlock → (v'.ownBlock = v.ownBlock ∨ v'.ownBlock = some w.heap.size) → wpList Tryd.prog ops Q rest (a.put o.dst v') w') : wpList Tryd.prog ops Q (o :: rest) a w := by
  refine wpList_plain hgd fun K hK => ?_
  obtain ⟨v', w', hrun, h2, h3, h4⟩ := run_append_chg w base o.type v n xs hown A m c news hr h1 hb hbase
  unfold Oper.wp execOp
  simp only [ho, resolve, invoke, builtin, Sem.run_bind, Sem.run_pure, Result.andThen_ok, List.map_toArray, List.map_cons, List.map_nil, hs, hx, hrun]
  exact hK _ _ (h v' w' h2 h3 h4)
/-- What stands ahead of a place of an owned row is an owned row. -/
theorem own_take {w : World} {base e s n p c : Nat} {A : Option Addr} {xs : List Value} (h : w.ownsRow base e s (.slice A n c) n xs) (hp : p ≤ n) (hs : 0 < s) : w.ownsRow base e s (.slice A p c) p (xs.take (p * s)) := by
  obtain ⟨hl, h2⟩ := h
  have hps : p * s ≤ n * s := Nat.mul_le_mul_right s hp
  rcases h2 with ⟨h3, h0⟩ | ⟨g, cap, cur, h3, hg, hh, hnc, hcm, hcs, ht⟩
  · injection h3 with h4 h5 h6
    subst h4 h6
    have : p = 0 := by omega
    subst this
    refine ⟨by rw [List.length_take]; omega, .inl ⟨rfl, rfl⟩⟩
  · injection h3 with h4 h5 h6
    subst h4 h6
    refine ⟨by rw [List.length_take]; omega, .inr ⟨g, c, cur, rfl, hg, hh, by omega, hcm, hcs, ?_⟩⟩
    rw [← ht, List.take_take]
    congr 1
    omega
theorem own_chg {w : World} {base n : Nat} {v : Value} {xs : List Value} (h : w.ownsRow base 45 5 v n xs) : ∃ A c, v = .slice A n c ∧ n ≤ c ∧ Sl w A (n * 5) xs ∧ (A = none ∧ n = 0 ∧ c = 0 ∨ ∃ g, A = some ⟨g, 0, none⟩ ∧ base ≤ g ∧ g < w.heap.size) := by
  have hlt := h.lt
  obtain ⟨hl, h2⟩ := h
  rcases h2 with ⟨rfl, rfl⟩ | ⟨g, cap, cur, rfl, hg, hh, hnc, hcm, hcs, ht⟩
  · exact ⟨none, 0, rfl, Nat.le_refl _, ⟨by simpa using hl, fun h => absurd h (by omega)⟩, .inl ⟨rfl, rfl, rfl⟩⟩
  · refine ⟨some ⟨g, 0, none⟩, cap, rfl, hnc, ⟨by simpa using hl, fun _ => ⟨g, 0, rfl, fun j u hu => ?_⟩⟩, .inr ⟨g, rfl, (hlt g rfl).1, (hlt g rfl).2⟩⟩
    have h0 : w.ownsRow base 45 5 (.slice (some ⟨g, 0, none⟩) n cap) n xs := ⟨hl, .inr ⟨g, cap, cur, rfl, hg, hh, hnc, hcm, hcs, ht⟩⟩
    have hj : j < n * 5 := by have := (List.getElem?_eq_some_iff.1 hu).1; omega
    rw [Nat.zero_add, h0.cellAt j hj]
    exact hu
theorem insC_cells (l : List Chg) (c : Chg) : cellsL (insC l c) = (cellsL l).take (posC l c.id * 5) ++ (c.cells ++ (cellsL l).drop (posC l c.id * 5)) := by
  unfold insC
  rw [cellsL_append, cellsL_cons, cellsL_take, cellsL_drop l _ (posC_le l c.id)]
theorem delC_cells (l : List Chg) (x : Int) (h : posC l x < l.length) : cellsL (delC l x) = (cellsL l).take (posC l x * 5) ++ (cellsL l).drop ((posC l x + 1) * 5) := by
  unfold delC
  rw [cellsL_append, cellsL_take, cellsL_drop l _ (by omega)]
end Go.Proofs.YtpfmmbhbmdbmeaaDoor
