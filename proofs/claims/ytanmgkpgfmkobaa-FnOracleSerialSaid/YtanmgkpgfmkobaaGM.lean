/- Texts that this claim shares with others, put together: M2 M3. -/
import Derived.Test.YtanmgkpgfmkobaaGB
import Derived.StillTailTactics
import Derived.IntWalk
/- More words for memory: what a drawn region keeps. -/
namespace Go.Proofs.Ytanmgkpgfmkobaa
open Go.RowKit
set_option linter.unusedVariables false
/-- Whatever a cell holds. -/
def cellOr (w : World) (p : Addr) : Value := (w.cell? p).getD undef
section
variable {w w1 : World} {p a : Addr} {u v : Value}
theorem cellOr_of (h : w.cell? p = some v) : w.cell? p = some (cellOr w p) := by simp [cellOr, h]
theorem cellOr_keep (hb : Hid (Below w.heap.size w w1)) (h : w.cell? p = some (cellOr w p)) : w1.cell? p = some (cellOr w1 p) := cellOr_of (cell_keep hb h)
theorem cellOr_drew (h : w.cell? p = some (cellOr w p)) : w.drew.cell? p = some (cellOr w.drew p) := h
theorem cellOr_alloc (o : Obj) (h : w.cell? p = some (cellOr w p)) : (w.alloc o).cell? p = some (cellOr (w.alloc o) p) := cellOr_of (cell_alloc o h)
theorem cellOr_set (h : w.cell? p = some (cellOr w p)) : (w.setCell a u).cell? p = some (cellOr (w.setCell a u) p) := by
  obtain ⟨v', hv⟩ := cell?_setCell_some (p := a) (x := u) h
  exact cellOr_of hv
theorem cell_far (hne : p.block ≠ a.block) (h : w.cell? p = some v) : (w.setCell a u).cell? p = some v := by
  rw [World.cell?_setCell_far w a p u (fun e => hne e.symm)]; exact h
theorem fz_keep (hb : Hid (Below w.heap.size w w1)) (hc : w.cell? p = some v) (h : w.frozen? p = false) : w1.frozen? p = false := by
  rw [World.frozen?_of_block (hb.out.block _ (World.block_lt_of_cell? w _ hc))]; exact h
theorem fz_drew (h : w.frozen? p = false) : w.drew.frozen? p = false := h
theorem fz_alloc (o : Obj) (hc : w.cell? p = some v) (h : w.frozen? p = false) : (w.alloc o).frozen? p = false := by
  rw [World.frozen?_alloc_old _ _ _ (fun e => by have := World.block_lt_of_cell? w _ hc; omega)]; exact h
theorem fz_set (h : w.frozen? p = false) : (w.setCell a u).frozen? p = false := by rw [World.frozen?_setCell]; exact h
theorem bl_set {w0 : World} (hb : Hid (Below w0.heap.size w0 w)) (hp : w0.heap.size ≤ a.block) : Hid (Below w0.heap.size w0 (w.setCell a u)) := hb.out.setCell hp u
end
section
variable {w w' w1 : World} {a b n : Nat} {v0 v1 v2 v3 : Value}
theorem keep4D (h : w'.cell? ⟨a, 0, none⟩ = some v0 ∧ w'.cell? ⟨a, 1, none⟩ = some v1 ∧ w'.cell? ⟨a, 2, none⟩ = some v2 ∧ w'.cell? ⟨a, 3, none⟩ = some v3 ∧ (∀ i, i < n → w'.cell? ⟨b, i, none⟩ = some (cellOr w' ⟨b, i, none⟩)) ∧ (∀ i, i < n → w'.frozen? ⟨b, i, none⟩ = false) ∧ Hid (Below w.heap.size w w')) : w'.drew.cell? ⟨a, 0, none⟩ = some v0 ∧ w'.drew.cell? ⟨a, 1, none⟩ = some v1 ∧ w'.drew.cell? ⟨a, 2, none⟩ = some v2 ∧ w'.drew.cell? ⟨a, 3, none⟩ = some v3 ∧ (∀ i, i < n → w'.drew.cell? ⟨b, i, none⟩ = some (cellOr w'.drew ⟨b, i, none⟩)) ∧ (∀ i, i < n → w'.drew.frozen? ⟨b, i, none⟩ = false) ∧ Hid (Below w.heap.size w w'.drew) := by
  obtain ⟨h0, h1, h2, h3, hr, hf, hb⟩ := h
  exact ⟨h0, h1, h2, h3, hr, hf, bl_keepD hb⟩
theorem keep4B (h : w'.cell? ⟨a, 0, none⟩ = some v0 ∧ w'.cell? ⟨a, 1, none⟩ = some v1 ∧ w'.cell? ⟨a, 2, none⟩ = some v2 ∧ w'.cell? ⟨a, 3, none⟩ = some v3 ∧ (∀ i, i < n → w'.cell? ⟨b, i, none⟩ = some (cellOr w' ⟨b, i, none⟩)) ∧ (∀ i, i < n → w'.frozen? ⟨b, i, none⟩ = false) ∧ Hid (Below w.heap.size w w')) (k : Hid (Below w'.heap.size w' w1)) : w1.cell? ⟨a, 0, none⟩ = some v0 ∧ w1.cell? ⟨a, 1, none⟩ = some v1 ∧ w1.cell? ⟨a, 2, none⟩ = some v2 ∧ w1.cell? ⟨a, 3, none⟩ = some v3 ∧ (∀ i, i < n → w1.cell? ⟨b, i, none⟩ = some (cellOr w1 ⟨b, i, none⟩)) ∧ (∀ i, i < n → w1.frozen? ⟨b, i, none⟩ = false) ∧ Hid (Below w.heap.size w w1) := by
  obtain ⟨h0, h1, h2, h3, hr, hf, hb⟩ := h
  exact ⟨cell_keep k h0, cell_keep k h1, cell_keep k h2, cell_keep k h3, fun i hi => cellOr_keep k (hr i hi), fun i hi => fz_keep k (hr i hi) (hf i hi), bl_keep k hb⟩
theorem keep4S (hne : a ≠ b) (hbb : w.heap.size ≤ b) (j : Nat) (u : Value) (h : w'.cell? ⟨a, 0, none⟩ = some v0 ∧ w'.cell? ⟨a, 1, none⟩ = some v1 ∧ w'.cell? ⟨a, 2, none⟩ = some v2 ∧ w'.cell? ⟨a, 3, none⟩ = some v3 ∧ (∀ i, i < n → w'.cell? ⟨b, i, none⟩ = some (cellOr w' ⟨b, i, none⟩)) ∧ (∀ i, i < n → w'.frozen? ⟨b, i, none⟩ = false) ∧ Hid (Below w.heap.size w w')) : (w'.setCell ⟨b, j, none⟩ u).cell? ⟨a, 0, none⟩ = some v0 ∧ (w'.setCell ⟨b, j, none⟩ u).cell? ⟨a, 1, none⟩ = some v1 ∧ (w'.setCell ⟨b, j, none⟩ u).cell? ⟨a, 2, none⟩ = some v2 ∧ (w'.setCell ⟨b, j, none⟩ u).cell? ⟨a, 3, none⟩ = some v3 ∧ (∀ i, i < n → (w'.setCell ⟨b, j, none⟩ u).cell? ⟨b, i, none⟩ = some (cellOr (w'.setCell ⟨b, j, none⟩ u) ⟨b, i, none⟩)) ∧ (∀ i, i < n → (w'.setCell ⟨b, j, none⟩ u).frozen? ⟨b, i, none⟩ = false) ∧ Hid (Below w.heap.size w (w'.setCell ⟨b, j, none⟩ u)) := by
  obtain ⟨h0, h1, h2, h3, hr, hf, hb⟩ := h
  exact ⟨cell_far hne h0, cell_far hne h1, cell_far hne h2, cell_far hne h3, fun i hi => cellOr_set (hr i hi), fun i hi => fz_set (hf i hi), bl_set hb hbb⟩
theorem res_of {t : Nat} {cs : List Value} (h : Blk w b t cs) (hn : n = cs.length) : (∀ i, i < n → w.cell? ⟨b, i, none⟩ = some (cellOr w ⟨b, i, none⟩)) ∧ (∀ i, i < n → w.frozen? ⟨b, i, none⟩ = false) :=
  ⟨fun i hi => cellOr_of (v := cs[i]'(hn ▸ hi)) (by rw [h.cell, List.getElem?_eq_getElem]), fun i _ => h.frozen i⟩
end
end Go.Proofs.Ytanmgkpgfmkobaa

/- More steps of drawn regions. -/
namespace Go.Proofs.Ytanmgkpgfmkobaa
open Go.RowKit
set_option linter.unusedVariables false
set_option linter.unusedSimpArgs false
/-- append of whatever slice of one-cell elements, as one step of a region that draws. -/
theorem step_append_sl {P : Program} {ops : Array Oper} {o : Oper} {a : Act} {w : World} {K : Act → World → Prop} {Q : Exit → Act → World → Prop} {E : Prop} (hgd : o.guard = none) (s x : Operand) (t : TypeId)
    (ho : o.op = .call { callee := .builtin .append, args := #[s, x], argTypes := #[t, t] })
    (base : Nat) (e : TypeId) (z : Value) (bytes : Nat) (ht : P.underlying t = some (.slice e))
    (hinfo : (P.info? e).map (fun i => (i.zero, i.size, i.bytes)) = some (some z, 1, bytes)) (hz : z.cells.size = 1)
    (v : Value) (n : Nat) (xs : List Value) (hs : a.eval s = v) (hown : w.ownsRow base e 1 v n xs)
    (A : Option Addr) (m c : Nat) (news : List Value) (hx : a.eval x = .slice A m c) (hr : Sl w A m news) (h1 : ∀ u ∈ news, u.oneCell' = true)
    (hbytes : (n + m) * bytes ≤ 140737488355328) (hb0 : 0 < bytes) (hbase : base ≤ w.heap.size)
    (h : ∀ v' w', w'.ownsRow base e 1 v' (n + m) (xs ++ news) → w.grownBy w' v.ownBlock → (v'.ownBlock = v.ownBlock ∨ v'.ownBlock = some w.heap.size) → K (a.put o.dst v') w') :
    if Region.wanted o (yielded ops a.tmps) = true then Oper.wp P o a w K Q else E := by
  have hw : Region.wanted o (yielded ops a.tmps) = true := by simp [Region.wanted, hgd]
  rw [if_pos hw]
  obtain ⟨v', w', hrun, h2, h3, h4⟩ := run_append_sl (P := P) w base t o.type e z bytes ht hinfo hz v n xs hown A m c news hr h1 hbytes hb0 hbase
  unfold Oper.wp execOp
  simp only [ho, resolve, invoke, builtin, Sem.run_bind, Sem.run_pure, Result.andThen_ok, List.map_toArray, List.map_cons, List.map_nil, hs, hx, hrun]
  exact h v' w' h2 h3 h4
theorem own_drew {w : World} {base e s n : Nat} {v : Value} {xs : List Value} (h : w.ownsRow base e s v n xs) : w.drew.ownsRow base e s v n xs := h
theorem own_drewN {w : World} {base e s n : Nat} {v : Value} {xs : List Value} (h : w.ownsRow base e s v n xs) (k : Nat) : (w.drewN k).ownsRow base e s v n xs := h
theorem cell_app {w w1 : World} {p : Addr} {u v : Value} {base : Nat} (hg : w.grownBy w1 v.ownBlock) (hb : ∀ k, v.ownBlock = some k → base ≤ k) (hp : p.block < base) (h : w.cell? p = some u) : w1.cell? p = some u := by
  rw [hg.cell_far p (World.block_lt_of_cell? w _ h) (fun e => by have := hb _ e.symm; omega)]; exact h
theorem grown_drew {w w1 : World} {r : Option Nat} (h : w.drew.grownBy w1 r) : w.grownBy w1 r := ⟨h.os, h.tape, h.output, h.size, h.block⟩
theorem sl_four (w : World) (a b c d : Value) (t : Nat) : Sl (w.alloc (.cells #[a, b, c, d] t)) (some ⟨w.heap.size, 0, none⟩) 4 [a, b, c, d] := by
  have := (Blk.new w t [a, b, c, d]).sl (off := 0) (n := 4) (by simp)
  simpa using this

end Go.Proofs.Ytanmgkpgfmkobaa
