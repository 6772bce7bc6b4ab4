/- Words for maps with whole numbers as keys, whatever they hold. -/
import Derived.Test.YtegaigpolhdicaaGreatGA
import Derived.Maps.OwnSet
import Derived.Maps.OwnOps
import Derived.Maps.Views
namespace Go.Proofs.YtegaigpolhdicaaGreat
open Go.RowKit
set_option linter.unusedVariables false
def heldR (v : Value) : Option (DataW Value × List MemPlace) := some (.held v, [])
/-- Block b is a map with keys of kind q, of at most n entries, that holds just what m tells. -/
def MapAt (P : Program) (w : World) (k : TypeId) (q : IntKind) (b n : Nat) (m : Int → Option Value) : Prop :=
  ∃ D : DataW Value, w.ownsMap P k heldR b n D ∧ ∀ x, (Lit.int q x).wf = true → Maps.has D (.int q x) = (m x).isSome ∧ ∀ z, D.atKey (.int q x) z = (match m x with | some v => .held v | none => z)
def updM (m : Int → Option Value) (x : Int) (v : Option Value) (y : Int) : Option Value := if y = x then v else m y
section
variable {P : Program} {w w' : World} {k : TypeId} {q : IntKind} {b n : Nat} {m : Int → Option Value}
theorem MapAt.made (P : Program) (w : World) (k : TypeId) (q : IntKind) : MapAt P (w.alloc (.map #[] 0)) k q w.heap.size 0 (fun _ => none) :=
  ⟨.map [], World.ownsMap_made w P k heldR, fun x hx => ⟨rfl, fun z => rfl⟩⟩
theorem MapAt.lt (h : MapAt P w k q b n m) : b < w.heap.size := by
  obtain ⟨D, h1, _⟩ := h
  exact h1.lt
theorem MapAt.kept {row : Option Nat} (h : MapAt P w k q b n m) (hg : w.grownBy w' row) (hne : some b ≠ row) : MapAt P w' k q b n m := by
  obtain ⟨D, h1, h2⟩ := h
  exact ⟨D, h1.kept hg hne, h2⟩
theorem MapAt.alloc (h : MapAt P w k q b n m) (o : Obj) : MapAt P (w.alloc o) k q b n m := h.kept (World.grownBy_alloc w o none) (by simp)
theorem MapAt.drew (h : MapAt P w k q b n m) : MapAt P w.drew k q b n m := h
theorem MapAt.of_block (h : MapAt P w k q b n m) (e : w'.heap[b]? = w.heap[b]?) : MapAt P w' k q b n m := by
  obtain ⟨D, ⟨es, clock, h1, h2, h3, h4⟩, h5⟩ := h
  exact ⟨D, ⟨es, clock, e.trans h1, h2, h3, h4⟩, h5⟩
theorem MapAt.mono (h : MapAt P w k q b n m) {n' : Nat} (hn : n ≤ n') : MapAt P w k q b n' m := by
  obtain ⟨D, h1, h2⟩ := h
  exact ⟨D, h1.mono hn, h2⟩
theorem MapAt.below {B : Nat} (h : MapAt P w k q b n m) (hb : Below B w w') (hB : b < B) : MapAt P w' k q b n m := h.of_block (hb.block b hB)
theorem MapAt.look (h : MapAt P w k q b n m) (hk : P.underlying k = some (.int q)) {t e : TypeId} (ht : P.underlying t = some (.map k e)) {z : Value} (hz : (zeroValue e).run P w = .ok z w) (x : Int) (hx : (Lit.int q x).wf = true) :
    (Instr.lookup t (.map (some b)) (.int q x) false).run P w = .ok ((m x).getD z) w := by
  obtain ⟨D, h1, h2⟩ := h
  obtain ⟨v, ps, h3, h4⟩ := h1.lookup (Maps.int_keyed hk) ht hz (zd := .held z) (zp := []) rfl (Maps.keyOf_int_mk hk hx)
  rw [h3]
  have h5 := (h2 x hx).2 (.held z)
  simp only [heldR, Option.some.injEq, Prod.mk.injEq] at h4
  rw [h5] at h4
  cases hm : m x with
  | none => rw [hm] at h4; simp only [DataW.held.injEq] at h4; rw [h4.1]; rfl
  | some u => rw [hm] at h4; simp only [DataW.held.injEq] at h4; rw [h4.1]; rfl
theorem lit_ne {q : IntKind} {x y : Int} (h : y ≠ x) : Lit.int q y ≠ Lit.int q x := fun e => h (by injection e)
theorem MapAt.store (h : MapAt P w k q b n m) (hk : P.underlying k = some (.int q)) {t e : TypeId} (ht : P.underlying t = some (.map k e)) (hn : n < maxLen) (x : Int) (hx : (Lit.int q x).wf = true) (v : Value) :
    ∃ w', (Instr.mapUpdate t (.map (some b)) (.int q x) v).run P w = .ok () w' ∧ MapAt P w' k q b (n + 1) (updM m x (some v)) ∧ w.grownBy w' (some b) := by
  obtain ⟨D, h1, h2⟩ := h
  obtain ⟨w', h3, h4, h5⟩ := h1.store (Maps.int_keyed hk) ht hn (Maps.keyOf_int_mk hk hx) (d := .held v) (ps := []) (val := v) rfl
  refine ⟨w', h3, ⟨_, h4, fun y hy => ?_⟩, h5.grown⟩
  have hD := h1.isMap
  by_cases e : y = x
  · subst e
    rw [Maps.has_put_same (k := Lit.int q y) hD trivial]
    refine ⟨by simp [updM], fun z => ?_⟩
    rw [Maps.atKey_put_same (k := Lit.int q y) hD trivial]
    simp [updM]
  · rw [Maps.has_put_other (lit_ne e)]
    refine ⟨by simp [updM, e, (h2 y hy).1], fun z => ?_⟩
    rw [Maps.atKey_put_other (lit_ne e), (h2 y hy).2 z]
    simp [updM, e]
theorem MapAt.drop (h : MapAt P w k q b n m) (hk : P.underlying k = some (.int q)) {t e : TypeId} (ht : P.underlying t = some (.map k e)) (x : Int) (hx : (Lit.int q x).wf = true) (ty : TypeId) :
    ∃ w', (Builtin.delete_ #[t, k] ty #[.map (some b), .int q x]).run P w = .ok (.tuple #[]) w' ∧ MapAt P w' k q b n (updM m x none) ∧ w.grownBy w' (some b) := by
  obtain ⟨D, h1, h2⟩ := h
  obtain ⟨w', h3, h4, h5⟩ := h1.drop (Maps.int_keyed hk) ht (Maps.keyOf_int_mk hk hx) ty
  refine ⟨w', h3, ⟨_, h4, fun y hy => ?_⟩, h5.grown⟩
  by_cases e : y = x
  · subst e
    rw [Maps.has_del_same]
    refine ⟨by simp [updM], fun z => ?_⟩
    rw [Maps.atKey_del_same]
    simp [updM]
  · rw [Maps.has_del_other (lit_ne e)]
    refine ⟨by simp [updM, e, (h2 y hy).1], fun z => ?_⟩
    rw [Maps.atKey_del_other (lit_ne e), (h2 y hy).2 z]
    simp [updM, e]
end
section
variable {P : Program} {w : World} {ops : Array Oper} {rest : List Oper} {o : Oper} {a : Act} {Q : Exit → Act → World → Prop} {k : TypeId} {q : IntKind} {b n : Nat} {m : Int → Option Value}
end
end Go.Proofs.YtegaigpolhdicaaGreat
