/- Changes as the package has them, told. -/
import Derived.Test.YtpfmmbhbmdbmeaaDoorF2
import Derived.Maps.AppendAt
import Derived.Stop.LaidErr
namespace Go.Proofs.YtpfmmbhbmdbmeaaDoor
open Go.RowKit
set_option linter.unusedVariables false
set_option linter.unusedSimpArgs false
theorem op_gone (d : Chg) : (d.op == 1) = d.gone := by
  unfold Chg.op
  cases d.gone <;> rfl
def cellsL (l : List Chg) : List Value := l.flatMap Chg.cells
theorem infoChg : (Tryd.prog.info? 45).map (fun i => (i.zero, i.size, i.bytes)) = some (some (.agg #[.int .u64 0, .bool false, .int .u32 0, .int .u64 0, .int .u32 0]), 5, 32) := by kernel_rfl
theorem info_some {α β : Type} {o : Option α} {f : α → β} {b : β} (h : o.map f = some b) : ∃ i, o = some i ∧ f i = b := by
  cases o with
  | none => cases h
  | some i => exact ⟨i, rfl, Option.some.inj h⟩
theorem step_append5 {ops : Array Oper} {o : Oper} {a : Act} {w : World} {K : Act → World → Prop} {Q : Exit → Act → World → Prop} {E : Prop} (hgd : o.guard = none) (s x : Operand)
    (ho : o.op = .call { callee := .builtin .append, args := #[s, x], argTypes := #[25, 25] })
    (base : Nat) (v : Value) (n : Nat) (xs : List Value) (hs : a.eval s = v) (hown : w.ownsRow base 45 5 v n xs)
    (g c : Nat) (news : List Value) (hx : a.eval x = .slice (some ⟨g, 0, none⟩) 1 c) (hl : news.length = 5) (hb : Blk w g 45 news) (h1 : ∀ u ∈ news, u.oneCell' = true)
    (hn : n ≤ 1000000) (hbase : base ≤ w.heap.size)
    (h : ∀ v' w', w'.ownsRow base 45 5 v' (n + 1) (xs ++ news) → w.grownBy w' v.ownBlock → (v'.ownBlock = v.ownBlock ∨ v'.ownBlock = some w.heap.size) → K (a.put o.dst v') w') :
    if Region.wanted o (yielded ops a.tmps) = true then Oper.wp Tryd.prog o a w K Q else E := by
  have hw : Region.wanted o (yielded ops a.tmps) = true := by simp [Region.wanted, hgd]
  rw [if_pos hw]
  obtain ⟨i, hi, hf⟩ := info_some infoChg
  simp only [Prod.mk.injEq] at hf
  obtain ⟨hz0, hz1, hz2⟩ := hf
  obtain ⟨v', w', hrun, h2, h3, _, h4⟩ := run_append_own_at (P := Tryd.prog) w base 25 o.type 45 i _ 5 32 Tryd.underlying25 hi hz0 hz1 hz2 rfl (by omega) v n xs hown ⟨g, 0, none⟩ 1 c news (by omega)
    (fun j u hu => by
      have e : (⟨g, 0, none⟩ : Addr).add j = ⟨g, j, none⟩ := by cases j <;> simp [Addr.add]
      rw [e, hb.cell]
      exact hu) h1 (by simp [maxLen]; omega) (by omega) hbase
  unfold Oper.wp execOp
  simp only [ho, resolve, invoke, builtin, Sem.run_bind, Sem.run_pure, Result.andThen_ok, List.map_toArray, List.map_cons, List.map_nil, hs, hx, hrun]
  exact h v' w' h2 h3 h4
theorem cellsL_snoc (l : List Chg) (d : Chg) : cellsL (l ++ [d]) = cellsL l ++ d.cells := by simp [cellsL]
theorem own_slc {w : World} {base n : Nat} {v : Value} {l : List Chg} (h : w.ownsRow base 45 5 v n (cellsL l)) (hl : l.length = n) : ∃ A c, v = .slice A n c ∧ Slc w A n l := by
  rcases h.2 with ⟨rfl, h0⟩ | ⟨g, cap, cur, rfl, hg, hh, hnc, hcm, hcs, ht⟩
  · subst h0
    exact ⟨none, 0, rfl, hl, fun h => by omega⟩
  · refine ⟨_, cap, rfl, hl, fun _ => ⟨g, 0, rfl, fun j d hj k u hk => ?_⟩⟩
    have hk5 : k < 5 := by
      have := (List.getElem?_eq_some_iff.1 hk).1
      simpa [Chg.cells] using this
    have hjl : j < l.length := (List.getElem?_eq_some_iff.1 hj).1
    have hx : ∀ (l : List Chg) (j : Nat) (d : Chg), l[j]? = some d → (cellsL l)[j * 5 + k]? = d.cells[k]? := by
      intro l
      induction l with
      | nil => intro j d h; simp at h
      | cons e l ih =>
        intro j d h
        have e5 : e.cells.length = 5 := rfl
        cases j with
        | zero =>
          simp only [List.getElem?_cons_zero, Option.some.injEq] at h
          subst h
          simp only [cellsL, List.flatMap_cons, Nat.zero_mul, Nat.zero_add]
          rw [List.getElem?_append_left (by omega)]
        | succ j =>
          simp only [List.getElem?_cons_succ] at h
          have := ih j d h
          simp only [cellsL, List.flatMap_cons] at this ⊢
          rw [List.getElem?_append_right (by omega), ← this]
          congr 1
          omega
    have h1 : (cellsL l)[j * 5 + k]? = some u := (hx l j d hj).trans hk
    rw [← ht, List.getElem?_take] at h1
    split at h1
    · rw [Nat.zero_add]
      have := cell_of_row w g (j * 5 + k) cur _ (0, 0) hh
      rw [this, ← h1]
      simp
    · cases h1
end Go.Proofs.YtpfmmbhbmdbmeaaDoor
