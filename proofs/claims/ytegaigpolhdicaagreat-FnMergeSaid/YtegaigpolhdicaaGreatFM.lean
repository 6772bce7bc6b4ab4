/- Words for worlds that turn in some blocks alone. -/
import Derived.Test.YtegaigpolhdicaaGreatMP
namespace Go.Proofs.YtegaigpolhdicaaGreat
open Go.RowKit
set_option linter.unusedVariables false
/-- w' is w with new blocks, and what stood in the blocks of l may have turned. -/
structure Frm (l : List Nat) (w w' : World) : Prop where
  os : w'.os = w.os
  tape : w'.tape = w.tape
  output : w'.output = w.output
  size : w.heap.size ≤ w'.heap.size
  block : ∀ i, i < w.heap.size → i ∉ l → w'.heap[i]? = w.heap[i]?
section
variable {l l2 : List Nat} {w w1 w2 w' : World} {g t n : Nat} {cs xs : List Value}
theorem Frm.refl (l : List Nat) (w : World) : Frm l w w := ⟨rfl, rfl, rfl, Nat.le_refl _, fun _ _ _ => rfl⟩
theorem Frm.trans (h : Frm l w w1) (k : Frm l2 w1 w2) (hs : ∀ i, i ∈ l2 → i ∈ l ∨ w.heap.size ≤ i) : Frm l w w2 :=
  ⟨k.os.trans h.os, k.tape.trans h.tape, k.output.trans h.output, Nat.le_trans h.size k.size, fun i hi hn => (k.block i (Nat.lt_of_lt_of_le hi h.size) (fun h2 => by
    rcases hs i h2 with h3 | h3
    · exact hn h3
    · omega)).trans (h.block i hi hn)⟩
theorem Frm.mono (h : Frm l w w') (hs : ∀ i, i ∈ l → i ∈ l2 ∨ w.heap.size ≤ i) : Frm l2 w w' := ⟨h.os, h.tape, h.output, h.size, fun i hi hn => h.block i hi (fun h2 => by
    rcases hs i h2 with h3 | h3
    · exact hn h3
    · omega)⟩
theorem Frm.of_grown (h : w.grownBy w' (some g)) : Frm [g] w w' := ⟨h.os, h.tape, h.output, h.size, fun i hi hn => h.block i hi (fun e => hn (by injection e with e; simp [e]))⟩
theorem Frm.of_none (h : w.grownBy w' none) : Frm [] w w' := ⟨h.os, h.tape, h.output, h.size, fun i hi hn => h.block i hi (by simp)⟩
theorem Frm.of_below (h : Below w.heap.size w w') : Frm [] w w' := ⟨h.os, h.tape, h.output, h.size, fun i hi _ => h.block i hi⟩
theorem Frm.drew (h : Frm l w w') : Frm l w w'.drew := ⟨h.os, h.tape, h.output, h.size, h.block⟩
theorem Frm.drewN (h : Frm l w w') (k : Nat) : Frm l w (w'.drewN k) := ⟨h.os, h.tape, h.output, h.size, h.block⟩
theorem Frm.set (w : World) (p : Addr) (v : Value) : Frm [p.block] w (w.setCell p v) := Frm.of_grown ⟨rfl, rfl, rfl, by simp [World.setCell], fun k _ hk => Below.heap_setCell w p v k (fun e => hk (e ▸ rfl))⟩
theorem Frm.alloc (w : World) (o : Obj) : Frm [] w (w.alloc o) := Frm.of_none (World.grownBy_alloc w o none)
theorem Frm.andSet (h : Frm l w w') (p : Addr) (v : Value) (hp : p.block ∈ l ∨ w.heap.size ≤ p.block) : Frm l w (w'.setCell p v) := h.trans (Frm.set w' p v) (fun i hi => by rw [List.mem_singleton] at hi; exact hi ▸ hp)
theorem Frm.andAlloc (h : Frm l w w') (o : Obj) : Frm l w (w'.alloc o) := h.trans (Frm.alloc w' o) (fun i hi => by cases hi)
theorem Frm.below (h : Frm l w w') {B : Nat} (hB : B ≤ w.heap.size) (hl : ∀ i, i ∈ l → B ≤ i) : Below B w w' := ⟨h.os, h.tape, h.output, h.size, fun i hi => h.block i (by omega) (fun h2 => by have := hl i h2; omega)⟩
theorem Blk.frm (h : Blk w g t cs) (k : Frm l w w') (hg : g ∉ l) : Blk w' g t cs := (k.block g h.lt hg).trans h
theorem Sl.frm {A : Option Addr} (h : Sl w A n xs) (k : Frm l w w') (hg : ∀ b o, A = some ⟨b, o, none⟩ → b ∉ l) : Sl w' A n xs :=
  ⟨h.1, fun hn => by
    obtain ⟨b, o, e, hc⟩ := h.2 hn
    refine ⟨b, o, e, fun j u hu => ?_⟩
    have h1 := hc j u hu
    have hlt := World.block_lt_of_cell? w _ h1
    have hb := k.block b hlt (hg b o e)
    unfold World.cell? at h1 ⊢
    rw [show (⟨b, o + j, none⟩ : Addr).block = b from rfl] at h1 ⊢
    rw [hb]
    exact h1⟩
theorem Sl.lt {A : Option Addr} (h : Sl w A n xs) {b o : Nat} (e : A = some ⟨b, o, none⟩) (hn : 0 < n) : b < w.heap.size := by
  obtain ⟨g', o', e', hc⟩ := h.2 hn
  rw [e] at e'
  injection e' with e'
  injection e' with e1 e2
  subst e1
  have hl := h.1
  exact World.block_lt_of_cell? w _ (hc 0 _ (List.getElem?_eq_getElem (by omega)))
theorem Sl.frm0 {A : Option Addr} (h : Sl w A n xs) (k : Frm l w w') (hg : ∀ b o, A = some ⟨b, o, none⟩ → 0 < n → b < w.heap.size → b ∉ l) : Sl w' A n xs := by
  by_cases hn : 0 < n
  · exact h.frm k (fun b o e => hg b o e hn (h.lt e hn))
  · exact ⟨h.1, fun h0 => absurd h0 hn⟩
theorem MapAt.frm {P : Program} {k : TypeId} {q : IntKind} {m : Int → Option Value} (h : MapAt P w k q g n m) (hk : Frm l w w') (hg : g ∉ l) : MapAt P w' k q g n m := h.of_block (hk.block g h.lt hg)
end
/-- A cell of a block that is known whole. -/
theorem Blk.at_ {w : World} {g t i : Nat} {cs : List Value} {v : Value} (h : Blk w g t cs) (hi : cs[i]? = some v) : w.cell? ⟨g, i, none⟩ = some v := by rw [h.cell, hi]
end Go.Proofs.YtegaigpolhdicaaGreat
