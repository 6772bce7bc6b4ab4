/- An oracle keeps its order, and tells what should be told. -/
import Derived.Test.YtanmgkpgfmkobaaOC
namespace Go.Proofs.Ytanmgkpgfmkobaa
set_option linter.unusedVariables false
set_option linter.unusedSimpArgs false
theorem cnt1_nonneg (x : OTx) (i : Nat) : 0 ≤ cnt1 x i := by unfold cnt1; split <;> omega
theorem actv_nonneg : ∀ (l : List OTx) (i : Nat), 0 ≤ actv l i
  | [], _ => Int.le_refl _
  | x :: l, i => by
    have := actv_nonneg l i
    have := cnt1_nonneg x i
    show 0 ≤ cnt1 x i + actv l i
    omega
theorem actv_app (y : OTx) (i : Nat) : ∀ l : List OTx, actv (l ++ [y]) i = actv l i + cnt1 y i
  | [] => by show cnt1 y i + 0 = 0 + cnt1 y i; omega
  | x :: l => by show cnt1 x i + actv (l ++ [y]) i = cnt1 x i + actv l i + cnt1 y i; rw [actv_app y i l]; omega
theorem actv_set (y x : OTx) (i : Nat) : ∀ (l : List OTx) (t : Nat), l[t]? = some x → actv (l.set t y) i = actv l i - cnt1 x i + cnt1 y i
  | [], t, h => by simp at h
  | z :: l, 0, h => by
    rw [List.getElem?_cons_zero] at h
    injection h with h
    subst h
    show cnt1 y i + actv l i = cnt1 z i + actv l i - cnt1 z i + cnt1 y i
    omega
  | z :: l, t + 1, h => by
    rw [List.getElem?_cons_succ] at h
    show cnt1 z i + actv (l.set t y) i = cnt1 z i + actv l i - cnt1 x i + cnt1 y i
    rw [actv_set y x i l t h]
    omega
theorem actv_mem : ∀ (l : List OTx) (x : OTx) (i : Nat), x ∈ l → cnt1 x i ≤ actv l i
  | z :: l, x, i, h => by
    have h1 := actv_nonneg l i
    have h2 := cnt1_nonneg z i
    show _ ≤ cnt1 z i + actv l i
    rcases List.mem_cons.1 h with rfl | h
    · omega
    · have := actv_mem l x i h; omega
theorem MOk.wide {act : Nat → Int} {hi hi' : Nat} {m : OMk} (h : MOk act hi m) (hh : hi ≤ hi') : MOk act hi' m := ⟨h.sort, fun p hp => ⟨(h.lo p hp).1, Nat.le_trans (h.lo p hp).2 hh⟩, h.look, h.all, Nat.le_trans h.til hh⟩
theorem MOk.same {act act' : Nat → Int} {hi : Nat} {m : OMk} (h : MOk act hi m) (he : ∀ i, act' i = act i) : MOk act' hi m := ⟨h.sort, h.lo, fun i c hc => by rw [he]; exact h.look i c hc, fun i hc => by rw [he]; exact h.all i hc, h.til⟩
/-- The oracle's own order. -/
structure OOk (s : OSt) : Prop where
  mok : MOk (actv s.txs) (s.next - 1) s.rmk
  nx : 1 ≤ s.next
  rt : ∀ x ∈ s.txs, x.rts ≤ s.next - 1
  lc : s.lc ≤ s.rmk.til
/-- All is done at most up to where a transaction reads that has not ended. -/
theorem OOk.low {s : OSt} (h : OOk s) {x : OTx} (hx : x ∈ s.txs) (hd : x.dr = false) : s.rmk.til ≤ x.rts := by
  have h1 := actv_mem s.txs x x.rts hx
  have h2 : cnt1 x x.rts = 1 := by unfold cnt1; rw [if_pos ⟨rfl, hd⟩]
  cases hl : lookM x.rts s.rmk.pend with
  | none => have := h.mok.all _ hl; omega
  | some c => exact (h.mok.lo _ (lookM_mem _ _ _ hl)).1
theorem mem_of_get {α : Type} {l : List α} {t : Nat} {x : α} (h : l[t]? = some x) : x ∈ l := List.mem_of_getElem? h
theorem mem_set {α : Type} {l : List α} {t : Nat} {y z : α} (h : z ∈ l.set t y) : z ∈ l ∨ z = y := List.mem_or_eq_of_mem_set h
theorem OOk.done {s : OSt} (h : OOk s) {t : Nat} {x : OTx} (hx : s.txs[t]? = some x) : OOk (s.done t x) ∧ s.rmk.til ≤ (s.done t x).rmk.til ∧ (s.done t x).next = s.next := by
  unfold OSt.done
  split
  · exact ⟨h, Nat.le_refl _, rfl⟩
  · rename_i hd
    have hd : x.dr = false := by simpa using hd
    have hlow := h.low (mem_of_get hx) hd
    have hr := h.rt x (mem_of_get hx)
    obtain ⟨a1, a2⟩ := h.mok.proc (act' := actv (s.txs.set t { x with dr := true })) x.rts (-1) hlow hr (Nat.le_refl _) (fun k => by
      rw [actv_set _ x k s.txs t hx]
      have e1 : cnt1 { x with dr := true } k = 0 := by unfold cnt1; rw [if_neg (by simp)]
      have e2 : cnt1 x k = if k = x.rts then 1 else 0 := by
        unfold cnt1
        by_cases hk : k = x.rts
        · rw [if_pos ⟨hk.symm, hd⟩, if_pos hk]
        · rw [if_neg (fun q => hk q.1.symm), if_neg hk]
      rw [e1, e2]
      split <;> omega) (actv_nonneg _)
    exact ⟨⟨a1, h.nx, fun z hz => by
      rcases mem_set hz with hz | rfl
      · exact h.rt z hz
      · exact hr, Nat.le_trans h.lc a2⟩, a2, rfl⟩
theorem OOk.clean {s : OSt} (c : Bool) (h : OOk s) : OOk (s.clean c) ∧ (s.clean c).rmk = s.rmk ∧ (s.clean c).next = s.next ∧ (s.clean c).txs = s.txs := by
  unfold OSt.clean
  split
  · split
    · exact ⟨h, rfl, rfl, rfl⟩
    · exact ⟨⟨h.mok, h.nx, h.rt, Nat.le_refl _⟩, rfl, rfl, rfl⟩
  · exact ⟨h, rfl, rfl, rfl⟩
/-- An act keeps the order; up to where all is done, and what a commit gets next, never fall. -/
theorem OOk.act {s : OSt} (c : Bool) (h : OOk s) (a : OAct) : OOk (s.act c a).1 ∧ s.rmk.til ≤ (s.act c a).1.rmk.til ∧ s.next ≤ (s.act c a).1.next := by
  have hset : ∀ (t : Nat) (x y : OTx), s.txs[t]? = some x → y.rts = x.rts → y.dr = x.dr → OOk { s with txs := s.txs.set t y } := fun t x y hx h1 h2 =>
    ⟨h.mok.same (fun i => by
      rw [actv_set y x i s.txs t hx]
      have e : cnt1 y i = cnt1 x i := by unfold cnt1; rw [h1, h2]
      rw [e]; omega), h.nx, fun z hz => by
      rcases mem_set hz with hz | rfl
      · exact h.rt z hz
      · rw [h1]; exact h.rt x (mem_of_get hx), h.lc⟩
  unfold OSt.act
  split
  · obtain ⟨a1, a2⟩ := h.mok.proc (act' := actv (s.txs ++ [⟨s.next - 1, [], [], false⟩])) (s.next - 1) 1 h.mok.til (Nat.le_refl _) (Nat.le_refl _) (fun k => by
      rw [actv_app]
      have e : cnt1 ⟨s.next - 1, [], [], false⟩ k = if k = s.next - 1 then 1 else 0 := by
        unfold cnt1
        by_cases hk : k = s.next - 1
        · rw [if_pos ⟨hk.symm, rfl⟩, if_pos hk]
        · rw [if_neg (fun q => hk q.1.symm), if_neg hk]
      rw [e]
      split <;> omega) (actv_nonneg _)
    exact ⟨⟨a1, h.nx, fun z hz => by
      rcases List.mem_append.1 hz with hz | hz
      · exact h.rt z hz
      · rw [List.mem_singleton] at hz; subst hz; exact Nat.le_refl _, Nat.le_trans h.lc a2⟩, a2, Nat.le_refl _⟩
  · split
    · exact ⟨h, Nat.le_refl _, Nat.le_refl _⟩
    · split
      · exact ⟨h, Nat.le_refl _, Nat.le_refl _⟩
      · rename_i x hx
        split
        · exact ⟨hset _ x _ hx rfl rfl, Nat.le_refl _, Nat.le_refl _⟩
        · split
          · exact ⟨hset _ x _ hx rfl rfl, Nat.le_refl _, Nat.le_refl _⟩
          · split
            · split
              · exact ⟨h, Nat.le_refl _, Nat.le_refl _⟩
              · obtain ⟨d1, d2, d3⟩ := h.done hx
                obtain ⟨c1, c2, c3, c4⟩ := d1.clean c
                have hn : ((s.done a.txn.toNat x).clean c).next = s.next := by rw [c3, d3]
                refine ⟨⟨?_, ?_, ?_, ?_⟩, ?_, ?_⟩
                · show MOk (actv ((s.done a.txn.toNat x).clean c).txs) (((s.done a.txn.toNat x).clean c).next + 1 - 1) ((s.done a.txn.toNat x).clean c).rmk
                  exact c1.mok.wide (by omega)
                · show 1 ≤ ((s.done a.txn.toNat x).clean c).next + 1; omega
                · intro z hz
                  have := c1.rt z hz
                  show z.rts ≤ ((s.done a.txn.toNat x).clean c).next + 1 - 1
                  omega
                · exact c1.lc
                · show s.rmk.til ≤ ((s.done a.txn.toNat x).clean c).rmk.til; rw [c2]; exact d2
                · show s.next ≤ ((s.done a.txn.toNat x).clean c).next + 1; omega
            · split
              · obtain ⟨d1, d2, d3⟩ := h.done hx
                exact ⟨d1, d2, by rw [d3]; exact Nat.le_refl _⟩
              · exact ⟨h, Nat.le_refl _, Nat.le_refl _⟩
theorem oInit_ok : OOk oInit := ⟨⟨trivial, fun p hp => (by cases hp), fun i c hc => (by cases hc), fun i _ => rfl, Nat.le_refl _⟩, Nat.le_refl _, fun x hx => (by cases hx), Nat.le_refl _⟩
end Go.Proofs.Ytanmgkpgfmkobaa
