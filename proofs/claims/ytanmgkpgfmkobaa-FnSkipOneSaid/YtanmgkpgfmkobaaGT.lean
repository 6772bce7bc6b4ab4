/- Texts that this claim shares with others, put together: MP FM T1 T2 T3 T4 T5 T6 T7 T8 T9. -/
import Derived.Test.YtanmgkpgfmkobaaGA
import Derived.Maps.OwnSet
import Derived.Maps.OwnOps
import Derived.Maps.Views
import Derived.Test.YtanmgkpgfmkobaaGE
import Derived.Test.YtanmgkpgfmkobaaE4
import Derived.StillTailTactics
import Derived.IntWalk
/- Words for maps with whole numbers as keys, whatever they hold. -/
namespace Go.Proofs.Ytanmgkpgfmkobaa
open Go.RowKit
set_option linter.unusedVariables false
def heldR (v : Value) : Option (DataW Value × List MemPlace) := some (.held v, [])
/-- Block b is a map with keys of kind q, of at most n entries, that holds just what m tells. -/
def MapAt (P : Program) (w : World) (k : TypeId) (q : IntKind) (b n : Nat) (m : Int → Option Value) : Prop :=
  ∃ D : DataW Value, w.ownsMap P k heldR b n D ∧ ∀ x, (Lit.int q x).wf = true → Maps.has D (.int q x) = (m x).isSome ∧ ∀ z, D.atKey (.int q x) z = (match m x with | some v => .held v | none => z)
def updM (m : Int → Option Value) (x : Int) (v : Option Value) (y : Int) : Option Value := if y = x then v else m y
section
variable {P : Program} {w w' : World} {k : TypeId} {q : IntKind} {b n : Nat} {m : Int → Option Value}
theorem MapAt.made (P : Program) (w : World) (k : TypeId) (q : IntKind) : MapAt P (w.alloc (.map #[] 0)) k q w.heap.size 0 (fun _ => none) :=
  ⟨.map [], World.ownsMap_made w P k heldR, fun x hx => ⟨rfl, fun z => rfl⟩⟩
theorem MapAt.lt (h : MapAt P w k q b n m) : b < w.heap.size := by
  obtain ⟨D, h1, _⟩ := h
  exact h1.lt
theorem MapAt.kept {row : Option Nat} (h : MapAt P w k q b n m) (hg : w.grownBy w' row) (hne : some b ≠ row) : MapAt P w' k q b n m := by
  obtain ⟨D, h1, h2⟩ := h
  exact ⟨D, h1.kept hg hne, h2⟩
theorem MapAt.alloc (h : MapAt P w k q b n m) (o : Obj) : MapAt P (w.alloc o) k q b n m := h.kept (World.grownBy_alloc w o none) (by simp)
theorem MapAt.drew (h : MapAt P w k q b n m) : MapAt P w.drew k q b n m := h
theorem MapAt.of_block (h : MapAt P w k q b n m) (e : w'.heap[b]? = w.heap[b]?) : MapAt P w' k q b n m := by
  obtain ⟨D, ⟨es, clock, h1, h2, h3, h4⟩, h5⟩ := h
  exact ⟨D, ⟨es, clock, e.trans h1, h2, h3, h4⟩, h5⟩
theorem MapAt.mono (h : MapAt P w k q b n m) {n' : Nat} (hn : n ≤ n') : MapAt P w k q b n' m := by
  obtain ⟨D, h1, h2⟩ := h
  exact ⟨D, h1.mono hn, h2⟩
theorem MapAt.below {B : Nat} (h : MapAt P w k q b n m) (hb : Below B w w') (hB : b < B) : MapAt P w' k q b n m := h.of_block (hb.block b hB)
theorem MapAt.look (h : MapAt P w k q b n m) (hk : P.underlying k = some (.int q)) {t e : TypeId} (ht : P.underlying t = some (.map k e)) {z : Value} (hz : (zeroValue e).run P w = .ok z w) (x : Int) (hx : (Lit.int q x).wf = true) :
    (Instr.lookup t (.map (some b)) (.int q x) false).run P w = .ok ((m x).getD z) w := by
  obtain ⟨D, h1, h2⟩ := h
  obtain ⟨v, ps, h3, h4⟩ := h1.lookup (Maps.int_keyed hk) ht hz (zd := .held z) (zp := []) rfl (Maps.keyOf_int_mk hk hx)
  rw [h3]
  have h5 := (h2 x hx).2 (.held z)
  simp only [heldR, Option.some.injEq, Prod.mk.injEq] at h4
  rw [h5] at h4
  cases hm : m x with
  | none => rw [hm] at h4; simp only [DataW.held.injEq] at h4; rw [h4.1]; rfl
  | some u => rw [hm] at h4; simp only [DataW.held.injEq] at h4; rw [h4.1]; rfl
theorem lit_ne {q : IntKind} {x y : Int} (h : y ≠ x) : Lit.int q y ≠ Lit.int q x := fun e => h (by injection e)
theorem MapAt.store (h : MapAt P w k q b n m) (hk : P.underlying k = some (.int q)) {t e : TypeId} (ht : P.underlying t = some (.map k e)) (hn : n < maxLen) (x : Int) (hx : (Lit.int q x).wf = true) (v : Value) :
    ∃ w', (Instr.mapUpdate t (.map (some b)) (.int q x) v).run P w = .ok () w' ∧ MapAt P w' k q b (n + 1) (updM m x (some v)) ∧ w.grownBy w' (some b) := by
  obtain ⟨D, h1, h2⟩ := h
  obtain ⟨w', h3, h4, h5⟩ := h1.store (Maps.int_keyed hk) ht hn (Maps.keyOf_int_mk hk hx) (d := .held v) (ps := []) (val := v) rfl
  refine ⟨w', h3, ⟨_, h4, fun y hy => ?_⟩, h5.grown⟩
  have hD := h1.isMap
  by_cases e : y = x
  · subst e
    rw [Maps.has_put_same (k := Lit.int q y) hD trivial]
    refine ⟨by simp [updM], fun z => ?_⟩
    rw [Maps.atKey_put_same (k := Lit.int q y) hD trivial]
    simp [updM]
  · rw [Maps.has_put_other (lit_ne e)]
    refine ⟨by simp [updM, e, (h2 y hy).1], fun z => ?_⟩
    rw [Maps.atKey_put_other (lit_ne e), (h2 y hy).2 z]
    simp [updM, e]
theorem MapAt.drop (h : MapAt P w k q b n m) (hk : P.underlying k = some (.int q)) {t e : TypeId} (ht : P.underlying t = some (.map k e)) (x : Int) (hx : (Lit.int q x).wf = true) (ty : TypeId) :
    ∃ w', (Builtin.delete_ #[t, k] ty #[.map (some b), .int q x]).run P w = .ok (.tuple #[]) w' ∧ MapAt P w' k q b n (updM m x none) ∧ w.grownBy w' (some b) := by
  obtain ⟨D, h1, h2⟩ := h
  obtain ⟨w', h3, h4, h5⟩ := h1.drop (Maps.int_keyed hk) ht (Maps.keyOf_int_mk hk hx) ty
  refine ⟨w', h3, ⟨_, h4, fun y hy => ?_⟩, h5.grown⟩
  by_cases e : y = x
  · subst e
    rw [Maps.has_del_same]
    refine ⟨by simp [updM], fun z => ?_⟩
    rw [Maps.atKey_del_same]
    simp [updM]
  · rw [Maps.has_del_other (lit_ne e)]
    refine ⟨by simp [updM, e, (h2 y hy).1], fun z => ?_⟩
    rw [Maps.atKey_del_other (lit_ne e), (h2 y hy).2 z]
    simp [updM, e]
end
section
variable {P : Program} {w : World} {ops : Array Oper} {rest : List Oper} {o : Oper} {a : Act} {Q : Exit → Act → World → Prop} {k : TypeId} {q : IntKind} {b n : Nat} {m : Int → Option Value}
/-- m[x] = v at the operation. -/
theorem wpList_mapUpdate_at (hg : o.guard = none) (mo xo vo : Operand) (t : TypeId) (hop : o.op = Op.mapUpdate t mo xo vo) (h : MapAt P w k q b n m) (hk : P.underlying k = some (.int q)) {e : TypeId} (ht : P.underlying t = some (.map k e)) (hn : n < maxLen)
    (x : Int) (v : Value) (hm : a.eval mo = .map (some b)) (hxe : a.eval xo = .int q x) (hve : a.eval vo = v) (hx : (Lit.int q x).wf = true)
    (hK : ∀ w', MapAt P w' k q b (n + 1) (updM m x (some v)) → w.grownBy w' (some b) → wpList P ops Q rest (a.put o.dst undef) w') :
    wpList P ops Q (o :: rest) a w := by
  refine wpList_plain hg fun K' hK' => ?_
  obtain ⟨w', hrun, r1, r2⟩ := h.store hk ht hn x hx v
  unfold Oper.wp
  simp [execOp, hop, hm, hxe, hve, hrun, Result.andThen]
  exact hK' _ _ (hK w' r1 r2)
end
end Go.Proofs.Ytanmgkpgfmkobaa

/- Words for worlds that turn in some blocks alone. -/
namespace Go.Proofs.Ytanmgkpgfmkobaa
open Go.RowKit
set_option linter.unusedVariables false
/-- w' is w with new blocks, and what stood in the blocks of l may have turned. -/
structure Frm (l : List Nat) (w w' : World) : Prop where
  os : w'.os = w.os
  tape : w'.tape = w.tape
  output : w'.output = w.output
  size : w.heap.size ≤ w'.heap.size
  block : ∀ i, i < w.heap.size → i ∉ l → w'.heap[i]? = w.heap[i]?
section
variable {l l2 : List Nat} {w w1 w2 w' : World} {g t n : Nat} {cs xs : List Value}
theorem Frm.refl (l : List Nat) (w : World) : Frm l w w := ⟨rfl, rfl, rfl, Nat.le_refl _, fun _ _ _ => rfl⟩
theorem Frm.trans (h : Frm l w w1) (k : Frm l2 w1 w2) (hs : ∀ i, i ∈ l2 → i ∈ l ∨ w.heap.size ≤ i) : Frm l w w2 :=
  ⟨k.os.trans h.os, k.tape.trans h.tape, k.output.trans h.output, Nat.le_trans h.size k.size, fun i hi hn => (k.block i (Nat.lt_of_lt_of_le hi h.size) (fun h2 => by
    rcases hs i h2 with h3 | h3
    · exact hn h3
    · omega)).trans (h.block i hi hn)⟩
theorem Frm.mono (h : Frm l w w') (hs : ∀ i, i ∈ l → i ∈ l2 ∨ w.heap.size ≤ i) : Frm l2 w w' := ⟨h.os, h.tape, h.output, h.size, fun i hi hn => h.block i hi (fun h2 => by
    rcases hs i h2 with h3 | h3
    · exact hn h3
    · omega)⟩
theorem Frm.of_grown (h : w.grownBy w' (some g)) : Frm [g] w w' := ⟨h.os, h.tape, h.output, h.size, fun i hi hn => h.block i hi (fun e => hn (by injection e with e; simp [e]))⟩
theorem Frm.of_none (h : w.grownBy w' none) : Frm [] w w' := ⟨h.os, h.tape, h.output, h.size, fun i hi hn => h.block i hi (by simp)⟩
theorem Frm.of_below (h : Below w.heap.size w w') : Frm [] w w' := ⟨h.os, h.tape, h.output, h.size, fun i hi _ => h.block i hi⟩
theorem Frm.drew (h : Frm l w w') : Frm l w w'.drew := ⟨h.os, h.tape, h.output, h.size, h.block⟩
theorem Frm.drewN (h : Frm l w w') (k : Nat) : Frm l w (w'.drewN k) := ⟨h.os, h.tape, h.output, h.size, h.block⟩
theorem Frm.set (w : World) (p : Addr) (v : Value) : Frm [p.block] w (w.setCell p v) := Frm.of_grown ⟨rfl, rfl, rfl, by simp [World.setCell], fun k _ hk => Below.heap_setCell w p v k (fun e => hk (e ▸ rfl))⟩
theorem Frm.alloc (w : World) (o : Obj) : Frm [] w (w.alloc o) := Frm.of_none (World.grownBy_alloc w o none)
theorem Frm.andSet (h : Frm l w w') (p : Addr) (v : Value) (hp : p.block ∈ l ∨ w.heap.size ≤ p.block) : Frm l w (w'.setCell p v) := h.trans (Frm.set w' p v) (fun i hi => by rw [List.mem_singleton] at hi; exact hi ▸ hp)
theorem Frm.andAlloc (h : Frm l w w') (o : Obj) : Frm l w (w'.alloc o) := h.trans (Frm.alloc w' o) (fun i hi => by cases hi)
theorem Frm.andBelow (h : Frm l w w1) (k : Below w1.heap.size w1 w2) : Frm l w w2 := h.trans (Frm.of_below k) (fun i hi => by cases hi)
theorem Frm.below (h : Frm l w w') {B : Nat} (hB : B ≤ w.heap.size) (hl : ∀ i, i ∈ l → B ≤ i) : Below B w w' := ⟨h.os, h.tape, h.output, h.size, fun i hi => h.block i (by omega) (fun h2 => by have := hl i h2; omega)⟩
theorem Blk.frm (h : Blk w g t cs) (k : Frm l w w') (hg : g ∉ l) : Blk w' g t cs := (k.block g h.lt hg).trans h
theorem Sl.frm {A : Option Addr} (h : Sl w A n xs) (k : Frm l w w') (hg : ∀ b o, A = some ⟨b, o, none⟩ → b ∉ l) : Sl w' A n xs :=
  ⟨h.1, fun hn => by
    obtain ⟨b, o, e, hc⟩ := h.2 hn
    refine ⟨b, o, e, fun j u hu => ?_⟩
    have h1 := hc j u hu
    have hlt := World.block_lt_of_cell? w _ h1
    have hb := k.block b hlt (hg b o e)
    unfold World.cell? at h1 ⊢
    rw [show (⟨b, o + j, none⟩ : Addr).block = b from rfl] at h1 ⊢
    rw [hb]
    exact h1⟩
theorem Sl.lt {A : Option Addr} (h : Sl w A n xs) {b o : Nat} (e : A = some ⟨b, o, none⟩) (hn : 0 < n) : b < w.heap.size := by
  obtain ⟨g', o', e', hc⟩ := h.2 hn
  rw [e] at e'
  injection e' with e'
  injection e' with e1 e2
  subst e1
  have hl := h.1
  exact World.block_lt_of_cell? w _ (hc 0 _ (List.getElem?_eq_getElem (by omega)))
theorem Sl.frm0 {A : Option Addr} (h : Sl w A n xs) (k : Frm l w w') (hg : ∀ b o, A = some ⟨b, o, none⟩ → 0 < n → b < w.heap.size → b ∉ l) : Sl w' A n xs := by
  by_cases hn : 0 < n
  · exact h.frm k (fun b o e => hg b o e hn (h.lt e hn))
  · exact ⟨h.1, fun h0 => absurd h0 hn⟩
theorem MapAt.frm {P : Program} {k : TypeId} {q : IntKind} {m : Int → Option Value} (h : MapAt P w k q g n m) (hk : Frm l w w') (hg : g ∉ l) : MapAt P w' k q g n m := h.of_block (hk.block g h.lt hg)
theorem cell_frm {p : Addr} {v : Value} (h : w.cell? p = some v) (k : Frm l w w') (hg : p.block ∉ l) : w'.cell? p = some v := by
  have hlt := World.block_lt_of_cell? w _ h
  have hb := k.block _ hlt hg
  unfold World.cell? at h ⊢
  rw [hb]
  exact h
end
/-- A cell of a block that is known whole. -/
theorem Blk.at_ {w : World} {g t i : Nat} {cs : List Value} {v : Value} (h : Blk w g t cs) (hi : cs[i]? = some v) : w.cell? ⟨g, i, none⟩ = some v := by rw [h.cell, hi]
end Go.Proofs.Ytanmgkpgfmkobaa

/- A sorted list of entries with keys and versions, and the nodes of a skip list over it: plain. -/
namespace Go.Proofs.Ytanmgkpgfmkobaa
open Go.RowKit
set_option linter.unusedVariables false
set_option linter.unusedSimpArgs false
/-- An entry: its key and version, its marks, its time, its data. -/
structure Ent where
  k : List Int
  v : Int
  m : Int
  u : Int
  x : Int
  d : List Int
def Ent.ord (a b : Ent) : Int := orderL a.k a.v b.k b.v
theorem cmpL_anti1 (l k : List Int) : cmpL k l = - cmpL l k := by
  induction l generalizing k with
  | nil => cases k <;> simp [cmpL]
  | cons a l ih =>
    cases k with
    | nil => simp [cmpL]
    | cons b k =>
      simp only [cmpL]
      by_cases h : a = b
      · subst h; simp [ih]
      · rw [if_neg h, if_neg (fun e => h e.symm)]
        by_cases h2 : a < b
        · rw [if_pos h2, if_neg (by omega)]; rfl
        · rw [if_neg h2, if_pos (by omega)]
theorem cmpL_lt_trans (a b c : List Int) (h : cmpL a b = -1) (k : cmpL b c = -1) : cmpL a c = -1 := by
  induction a generalizing b c with
  | nil =>
    cases c with
    | nil => cases b <;> simp [cmpL] at k
    | cons z c => rfl
  | cons x a ih =>
    cases b with
    | nil => simp [cmpL] at h
    | cons y b =>
      cases c with
      | nil => simp [cmpL] at k
      | cons z c =>
        simp only [cmpL] at h k ⊢
        by_cases h1 : x = y
        · subst h1
          rw [if_pos rfl] at h
          by_cases h2 : x = z
          · subst h2
            rw [if_pos rfl] at k ⊢
            exact ih b c h k
          · rw [if_neg h2] at k ⊢
            exact k
        · rw [if_neg h1] at h
          have hxy : x < y := by
            by_cases h3 : x < y
            · exact h3
            · rw [if_neg h3] at h; simp at h
          by_cases h2 : y = z
          · subst h2
            rw [if_neg h1, if_pos hxy]
          · rw [if_neg h2] at k
            have hyz : y < z := by
              by_cases h3 : y < z
              · exact h3
              · rw [if_neg h3] at k; simp at k
            rw [if_neg (by omega), if_pos (by omega)]
theorem sgn_anti1 (x y : Int) : sgn y x = - sgn x y := by
  simp only [sgn]
  repeat' split
  all_goals omega
theorem orderL_anti (l k : List Int) (v u : Int) : orderL k u l v = - orderL l v k u := by
  unfold orderL
  rw [cmpL_anti1 l k, sgn_anti1 u v]
  by_cases h : cmpL l k = 0
  · rw [h]; simp
  · rw [if_neg h, if_neg (by omega)]
theorem orderL_eq (l k : List Int) (v u : Int) : orderL l v k u = 0 ↔ l = k ∧ v = u := by
  unfold orderL
  by_cases h : cmpL l k = 0
  · rw [if_pos h]
    have := (cmpL_eq l k).1 h
    simp only [sgn, this, true_and]
    by_cases h1 : u < v
    · rw [if_pos h1]; simp; omega
    · rw [if_neg h1]
      by_cases h2 : u = v
      · rw [if_pos h2]; simp [h2]
      · rw [if_neg h2]; simp; omega
  · rw [if_neg h]
    simp only [h, false_iff]
    intro e
    exact h ((cmpL_eq l k).2 e.1)
theorem orderL_three (l k : List Int) (v u : Int) : orderL l v k u = -1 ∨ orderL l v k u = 0 ∨ orderL l v k u = 1 := by
  unfold orderL
  split
  · simp only [sgn]
    repeat' split
    all_goals simp
  · exact cmpL_range l k
theorem orderL_lt_trans (a b c : List Int) (v u t : Int) (h : orderL a v b u = -1) (k : orderL b u c t = -1) : orderL a v c t = -1 := by
  unfold orderL at h k ⊢
  by_cases h1 : cmpL a b = 0
  · have e1 := (cmpL_eq a b).1 h1
    subst e1
    rw [if_pos h1] at h
    by_cases h2 : cmpL a c = 0
    · rw [if_pos h2] at k ⊢
      simp only [sgn] at h k ⊢
      by_cases a1 : u < v
      · by_cases a2 : t < u
        · rw [if_pos (by omega)]
        · rw [if_neg a2] at k; split at k <;> simp at k
      · rw [if_neg a1] at h; split at h <;> simp at h
    · rw [if_neg h2] at k ⊢
      exact k
  · rw [if_neg h1] at h
    by_cases h2 : cmpL b c = 0
    · have e1 := (cmpL_eq b c).1 h2
      subst e1
      rw [if_neg h1]; exact h
    · rw [if_neg h2] at k
      have := cmpL_lt_trans a b c h k
      rw [if_neg (by omega)]
      exact this
theorem orderL_self (k : List Int) (v : Int) : orderL k v k v = 0 := (orderL_eq k k v v).2 ⟨rfl, rfl⟩

/-- Entries in order, none twice. -/
def SortedE (l : List Ent) : Prop := l.Pairwise fun a b => a.ord b = -1
/-- How many entries lie ahead of a key with a version. -/
def posE (l : List Ent) (k : List Int) (v : Int) : Nat := (l.takeWhile fun a => orderL a.k a.v k v == -1).length
/-- The entry at a place has this key and version. -/
def hitE (l : List Ent) (k : List Int) (v : Int) : Bool := match l[posE l k v]? with
  | some a => orderL a.k a.v k v == 0
  | none => false
def putE (l : List Ent) (e : Ent) : List Ent := l.take (posE l e.k e.v) ++ e :: l.drop (if hitE l e.k e.v then posE l e.k e.v + 1 else posE l e.k e.v)
def putsE (l : List Ent) : List Ent := l.foldl putE []
theorem posE_le (l : List Ent) (k : List Int) (v : Int) : posE l k v ≤ l.length := by
  unfold posE
  induction l with
  | nil => simp
  | cons a l ih =>
    simp only [List.takeWhile_cons]
    split
    · simp only [List.length_cons]; omega
    · simp
theorem posE_lt (l : List Ent) (k : List Int) (v : Int) (j : Nat) (a : Ent) (hj : j < posE l k v) (ha : l[j]? = some a) : orderL a.k a.v k v = -1 := by
  unfold posE at hj
  have hm : ∀ x ∈ l.takeWhile (fun a => orderL a.k a.v k v == -1), orderL x.k x.v k v = -1 := by
    intro x hx
    have := List.all_takeWhile (p := fun a : Ent => orderL a.k a.v k v == -1) (l := l)
    rw [List.all_eq_true] at this
    simpa using this x hx
  have hp : (l.takeWhile fun a => orderL a.k a.v k v == -1)[j]? = some a := by
    rw [← ha]
    have e := List.takeWhile_append_dropWhile (p := fun a : Ent => orderL a.k a.v k v == -1) (l := l)
    conv => rhs; rw [← e]
    rw [List.getElem?_append_left hj]
  exact hm a (List.mem_of_getElem? hp)
theorem posE_at (l : List Ent) (k : List Int) (v : Int) (a : Ent) (ha : l[posE l k v]? = some a) : orderL a.k a.v k v ≠ -1 := by
  induction l with
  | nil => simp at ha
  | cons b l ih =>
    unfold posE at ha
    simp only [List.takeWhile_cons] at ha
    by_cases hb : orderL b.k b.v k v = -1
    · rw [if_pos (by simpa using hb)] at ha
      simp only [List.length_cons, List.getElem?_cons_succ] at ha
      exact ih ha
    · rw [if_neg (by simpa using hb)] at ha
      simp only [List.length_nil, List.getElem?_cons_zero, Option.some.injEq] at ha
      subst ha
      exact hb
theorem SortedE.get {l : List Ent} (h : SortedE l) {i j : Nat} {a b : Ent} (hij : i < j) (ha : l[i]? = some a) (hb : l[j]? = some b) : a.ord b = -1 := by
  obtain ⟨h1, rfl⟩ := List.getElem?_eq_some_iff.1 ha
  obtain ⟨h2, rfl⟩ := List.getElem?_eq_some_iff.1 hb
  exact (List.pairwise_iff_getElem.1 h) i j h1 h2 hij
theorem orderL_gt_of {a : List Int} {v : Int} {k : List Int} {u : Int} (h : orderL a v k u ≠ -1) (h0 : orderL a v k u ≠ 0) : orderL a v k u = 1 := by
  rcases orderL_three a k v u with h1 | h1 | h1
  · exact absurd h1 h
  · exact absurd h1 h0
  · exact h1
theorem posE_gt (l : List Ent) (hs : SortedE l) (k : List Int) (v : Int) (j : Nat) (a : Ent) (hj : posE l k v < j) (ha : l[j]? = some a) : orderL a.k a.v k v = 1 := by
  have hjl := (List.getElem?_eq_some_iff.1 ha).1
  obtain ⟨b, hb⟩ : ∃ b, l[posE l k v]? = some b := ⟨_, List.getElem?_eq_getElem (by omega)⟩
  have h1 := posE_at l k v b hb
  have h2 : orderL b.k b.v a.k a.v = -1 := hs.get hj hb ha
  have h3 := orderL_anti b.k k b.v v
  have h4 := orderL_anti a.k k a.v v
  rcases orderL_three b.k k b.v v with h | h | h
  · exact absurd h h1
  · obtain ⟨e1, e2⟩ := (orderL_eq _ _ _ _).1 h
    rw [← e1, ← e2, orderL_anti, h2]; rfl
  · rw [h] at h3
    have := orderL_lt_trans k b.k a.k v b.v a.v h3 h2
    omega
theorem hitE_iff (l : List Ent) (k : List Int) (v : Int) : hitE l k v = true ↔ ∃ a, l[posE l k v]? = some a ∧ a.k = k ∧ a.v = v := by
  unfold hitE
  cases h : l[posE l k v]? with
  | none => simp
  | some a =>
    simp only [beq_iff_eq, Option.some.injEq, exists_eq_left']
    rw [orderL_eq]
theorem putE_sorted (l : List Ent) (e : Ent) (hs : SortedE l) : SortedE (putE l e) := by
  have hle := posE_le l e.k e.v
  unfold putE SortedE
  rw [List.pairwise_append]
  refine ⟨hs.sublist (List.take_sublist _ _), ?_, ?_⟩
  · rw [List.pairwise_cons]
    refine ⟨fun b hb => ?_, hs.sublist (List.drop_sublist _ _)⟩
    obtain ⟨j, hj⟩ := List.mem_iff_getElem?.1 hb
    rw [List.getElem?_drop] at hj
    have key : orderL b.k b.v e.k e.v = 1 := by
      by_cases h : hitE l e.k e.v = true
      · rw [if_pos h] at hj
        exact posE_gt l hs e.k e.v _ b (by omega) hj
      · rw [if_neg h] at hj
        cases j with
        | zero =>
          refine orderL_gt_of (posE_at l e.k e.v b hj) (fun h0 => h ?_)
          rw [hitE_iff]
          obtain ⟨e1, e2⟩ := (orderL_eq _ _ _ _).1 h0
          exact ⟨b, hj, e1, e2⟩
        | succ j => exact posE_gt l hs e.k e.v _ b (by omega) hj
    show orderL e.k e.v b.k b.v = -1
    rw [orderL_anti, key]
  · intro a ha b hb
    obtain ⟨i, hi⟩ := List.mem_iff_getElem?.1 ha
    have hil := (List.getElem?_eq_some_iff.1 hi).1
    rw [List.length_take] at hil
    rw [List.getElem?_take_of_lt (by omega)] at hi
    rcases List.mem_cons.1 hb with rfl | hb
    · exact posE_lt l b.k b.v i a (by omega) hi
    · obtain ⟨j, hj⟩ := List.mem_iff_getElem?.1 hb
      rw [List.getElem?_drop] at hj
      refine hs.get ?_ hi hj
      split <;> omega
theorem putsE_sorted (l : List Ent) : SortedE (putsE l) := by
  have : ∀ (l a : List Ent), SortedE a → SortedE (l.foldl putE a) := by
    intro l
    induction l with
    | nil => intro a h; exact h
    | cons e l ih => intro a h; exact ih _ (putE_sorted a e h)
  exact this l [] List.Pairwise.nil
end Go.Proofs.Ytanmgkpgfmkobaa

/- The nodes of a skip list: towers over a list in order, plain. -/
namespace Go.Proofs.Ytanmgkpgfmkobaa
open Go.RowKit
set_option linter.unusedVariables false
set_option linter.unusedSimpArgs false
/-- A node: where it lies in the arena, its block, where its key and its value lie, how high it is, up to which level it is seen, its entry. -/
structure Nd where
  at_ : Nat
  blk : Nat
  ko : Nat
  vo : Nat
  ht : Nat
  eff : Nat
  e : Ent
def Nd.key (d : Nd) : List Int := keyB d.e.k d.e.v
def Nd.val (d : Nd) : List Int := valB d.e.m d.e.u d.e.x d.e.d
/-- Where the first node that is seen at a level lies. -/
def nextAt : List Nd → Nat → Nat
  | [], _ => 0
  | d :: r, h => if h < d.eff then d.at_ else nextAt r h
def towV (e : Nat) (r : List Nd) (h : Nat) : Value := .int .u32 (if h < e then ((nextAt r h : Nat) : Int) else 0)
def tow (e : Nat) (r : List Nd) : List Value := (List.range 20).map (towV e r)
theorem tow_len (e : Nat) (r : List Nd) : (tow e r).length = 20 := by simp [tow]
theorem tow_get (e : Nat) (r : List Nd) (h : Nat) (hh : h < 20) : (tow e r)[h]? = some (towV e r h) := by
  simp [tow, List.getElem?_map, List.getElem?_range hh]
theorem tow_set (e e' : Nat) (r r' : List Nd) (h : Nat) (hh : h < 20) (ho : ∀ q, q ≠ h → towV e' r' q = towV e r q) : tow e' r' = (tow e r).set h (towV e' r' h) := by
  apply List.ext_getElem?
  intro q
  by_cases hq : q < 20
  · rw [tow_get _ _ _ hq, List.getElem?_set, tow_len]
    by_cases e1 : h = q
    · subst e1; simp [hh]
    · rw [if_neg e1, tow_get _ _ _ hq, ho q (fun e => e1 e.symm)]
  · rw [List.getElem?_eq_none (by rw [tow_len]; omega), List.getElem?_eq_none (by rw [List.length_set, tow_len]; omega)]
theorem tow_same (e e' : Nat) (r r' : List Nd) (ho : ∀ q, q < 20 → towV e' r' q = towV e r q) : tow e' r' = tow e r := by
  apply List.ext_getElem?
  intro q
  by_cases hq : q < 20
  · rw [tow_get _ _ _ hq, tow_get _ _ _ hq, ho q hq]
  · rw [List.getElem?_eq_none (by rw [tow_len]; omega), List.getElem?_eq_none (by rw [tow_len]; omega)]
def Nd.word (d : Nd) : Int := (d.val.length : Int) * 4294967296 + d.vo
def Nd.cells (d : Nd) (r : List Nd) : List Value := [.int .u64 d.word, .int .u32 d.ko, .int .u16 d.key.length, .int .u16 d.ht] ++ (tow d.eff r ++ [.int .u32 d.at_])
theorem Nd.cells_len (d : Nd) (r : List Nd) : (d.cells r).length = 25 := by simp [Nd.cells, tow_len]
theorem Nd.cells_tow (d : Nd) (r : List Nd) (h : Nat) (hh : h < 20) : (d.cells r)[4 + h]? = some (towV d.eff r h) := by
  unfold Nd.cells
  rw [List.getElem?_append_right (by simp), List.getElem?_append_left (by simp [tow_len]; omega)]
  have : 4 + h - [Value.int .u64 d.word, .int .u32 d.ko, .int .u16 d.key.length, .int .u16 d.ht].length = h := by simp
  rw [this, tow_get _ _ _ hh]
/-- From a place on, the next node that is seen at a level. -/
def Nx (ns : List Nd) (p h j : Nat) : Prop := p ≤ j ∧ j ≤ ns.length ∧ (∀ q d, p ≤ q → q < j → ns[q]? = some d → d.eff ≤ h) ∧ ∀ d, ns[j]? = some d → h < d.eff
theorem nx_some (ns : List Nd) (h : Nat) : ∀ (k p : Nat), ns.length - p = k → p ≤ ns.length → ∃ j, Nx ns p h j := by
  intro k
  induction k with
  | zero => intro p hk hp; exact ⟨p, Nat.le_refl _, hp, fun q d h1 h2 => by omega, fun d hd => by have := (List.getElem?_eq_some_iff.1 hd).1; omega⟩
  | succ k ih =>
    intro p hk hp
    have hpl : p < ns.length := by omega
    by_cases hs : h < ns[p].eff
    · exact ⟨p, Nat.le_refl _, hp, fun q d h1 h2 => by omega, fun d hd => by rw [List.getElem?_eq_getElem hpl] at hd; injection hd with hd; exact hd ▸ hs⟩
    · obtain ⟨j, h1, h2, h3, h4⟩ := ih (p + 1) (by omega) (by omega)
      refine ⟨j, by omega, h2, fun q d hq1 hq2 hd => ?_, h4⟩
      by_cases e : q = p
      · subst e
        rw [List.getElem?_eq_getElem hpl] at hd
        injection hd with hd
        rw [← hd]; omega
      · exact h3 q d (by omega) hq2 hd
theorem nx_ex (ns : List Nd) (p h : Nat) (hp : p ≤ ns.length) : ∃ j, Nx ns p h j := nx_some ns h _ p rfl hp
theorem nx_at {ns : List Nd} {p h j : Nat} (hn : Nx ns p h j) : nextAt (ns.drop p) h = (match ns[j]? with | some d => d.at_ | none => 0) := by
  obtain ⟨h1, h2, h3, h4⟩ := hn
  obtain ⟨k, rfl⟩ : ∃ k, j = p + k := ⟨j - p, by omega⟩
  clear h1
  induction k generalizing p with
  | zero =>
    rw [Nat.add_zero] at *
    cases hp : ns[p]? with
    | none => rw [List.drop_eq_nil_of_le (by simpa using hp)]; rfl
    | some d =>
      obtain ⟨g, e⟩ := List.getElem?_eq_some_iff.1 hp
      rw [List.drop_eq_getElem_cons g, nextAt, if_pos (by rw [e]; exact h4 d hp), e]
  | succ k ih =>
    have hpl : p < ns.length := by omega
    rw [List.drop_eq_getElem_cons hpl, nextAt, if_neg (by have := h3 p ns[p] (Nat.le_refl _) (by omega) (List.getElem?_eq_getElem hpl); omega)]
    have e1 : p + (k + 1) = p + 1 + k := by omega
    rw [e1] at h2 h3 h4 ⊢
    exact ih h2 (fun q d a b => h3 q d (by omega) b) h4
theorem nextAt_skip (a b : List Nd) (x : Nd) (h : Nat) (hx : x.eff ≤ h) : nextAt (a ++ x :: b) h = nextAt (a ++ b) h := by
  induction a with
  | nil => simp only [List.nil_append, nextAt]; rw [if_neg (by omega)]
  | cons d a ih => simp only [List.cons_append, nextAt, ih]
theorem nextAt_none (a b : List Nd) (h : Nat) (ha : ∀ d ∈ a, d.eff ≤ h) : nextAt (a ++ b) h = nextAt b h := by
  induction a with
  | nil => rfl
  | cons d a ih =>
    rw [List.cons_append, nextAt, if_neg (by have := ha d (List.mem_cons_self ..); omega)]
    exact ih (fun d hd => ha d (List.mem_cons_of_mem _ hd))
theorem nextAt_seen (a b c : List Nd) (h : Nat) (ha : ∃ d ∈ a, h < d.eff) : nextAt (a ++ b) h = nextAt (a ++ c) h := by
  induction a with
  | nil => obtain ⟨d, hd, _⟩ := ha; cases hd
  | cons d a ih =>
    rw [List.cons_append, List.cons_append, nextAt, nextAt]
    split
    · rfl
    · rename_i hn
      obtain ⟨x, hx, hs⟩ := ha
      rcases List.mem_cons.1 hx with rfl | hx
      · exact absurd hs hn
      · exact ih ⟨x, hx, hs⟩
/-- The same node, seen up to another level. -/
def Nd.upto (x : Nd) (l : Nat) : Nd := { x with eff := l }
/-- A node comes into a list that is seen nowhere yet: no tower turns. -/
theorem towV_come (e : Nat) (a b : List Nd) (x : Nd) (hx : x.eff = 0) (h : Nat) : towV e (a ++ x :: b) h = towV e (a ++ b) h := by
  unfold towV
  rw [nextAt_skip a b x h (by omega)]
/-- A node is seen at one more level: the towers that lead to it there turn, no other. -/
theorem towV_up_other (e : Nat) (a b : List Nd) (x : Nd) (l h : Nat) (hl : h ≠ l) : towV e (a ++ x.upto (l + 1) :: b) h = towV e (a ++ x.upto l :: b) h := by
  unfold towV
  by_cases h1 : h < l
  · have : ∀ c : List Nd, nextAt (c ++ x.upto (l + 1) :: b) h = nextAt (c ++ x.upto l :: b) h := by
      intro c
      induction c with
      | nil => simp only [List.nil_append, nextAt, Nd.upto]; rw [if_pos (by omega), if_pos (by omega)]
      | cons d c ih => simp only [List.cons_append, nextAt, ih]
    rw [this]
  · rw [nextAt_skip a b (x.upto (l + 1)) h (by simp [Nd.upto]; omega), nextAt_skip a b (x.upto l) h (by simp [Nd.upto]; omega)]
theorem towV_up_seen (e : Nat) (a b : List Nd) (x : Nd) (l : Nat) (ha : ∃ d ∈ a, l < d.eff) : towV e (a ++ x.upto (l + 1) :: b) l = towV e (a ++ x.upto l :: b) l := by
  unfold towV
  rw [nextAt_seen a _ (x.upto l :: b) l ha]
theorem towV_up_low (e : Nat) (a b : List Nd) (x : Nd) (l : Nat) (he : e ≤ l) : towV e (a ++ x.upto (l + 1) :: b) l = towV e (a ++ x.upto l :: b) l := by
  unfold towV
  rw [if_neg (by omega), if_neg (by omega)]
theorem towV_up_here (e : Nat) (a b : List Nd) (x : Nd) (l : Nat) (ha : ∀ d ∈ a, d.eff ≤ l) (he : l < e) : towV e (a ++ x.upto (l + 1) :: b) l = .int .u32 x.at_ := by
  unfold towV
  rw [if_pos he, nextAt_none a _ l ha, nextAt, if_pos (by simp [Nd.upto])]
  rfl
theorem towV_up_own (b : List Nd) (l : Nat) : towV (l + 1) b l = .int .u32 (nextAt b l) := by
  unfold towV
  rw [if_pos (by omega)]
theorem towV_up_own_other (b : List Nd) (l h : Nat) (hl : h ≠ l) : towV (l + 1) b h = towV l b h := by
  unfold towV
  by_cases h1 : h < l
  · rw [if_pos h1, if_pos (by omega)]
  · rw [if_neg h1, if_neg (by omega)]
end Go.Proofs.Ytanmgkpgfmkobaa

/- The arena of a skip list: contracts. -/
namespace Go.Proofs.Ytanmgkpgfmkobaa
open Go.RowKit
set_option linter.unusedVariables false
set_option linter.unusedSimpArgs false
theorem assertTrue_any (w : World) : Calls Try.prog 80 #[.bool true] w fun E w' => E = .returned (.tuple #[]) ∧ w = w' := by
  go_enter Try.func80, Try.ntmps80
  go_wp2
  go_end0
  exact ⟨rfl, rfl⟩
/-- An arena: how much of it is in use, its bytes, its nodes by where they would lie. -/
structure Arn (w : World) (ga gb gm n : Nat) (cs : List Value) (k : Nat) (m : Int → Option Value) : Prop where
  ar : Blk w ga 171 [.int .u32 n, .slice (some ⟨gb, 0, none⟩) 1048576 1048576, .map (some gm)]
  buf : Blk w gb 5 cs
  len : cs.length = 1048576
  map : MapAt Try.prog w 26 .u32 gm k m
  ne : ga ≠ gb ∧ ga ≠ gm ∧ gb ≠ gm
theorem Blk.drewN {w : World} {g t : Nat} {cs : List Value} (h : Blk w g t cs) (k : Nat) : Blk (w.drewN k) g t cs := h
theorem and7n (x : Nat) (h : x < 4294967296) : x &&& 4294967288 = x / 8 * 8 := by
  have e1 : (4294967288 : Nat) = (2 ^ 29 - 1) <<< 3 := by decide
  have e2 : x / 8 * 8 = (x >>> 3) <<< 3 := by rw [Nat.shiftLeft_eq, Nat.shiftRight_eq_div_pow]
  rw [e1, e2]
  apply Nat.eq_of_testBit_eq
  intro i
  rw [Nat.testBit_and, Nat.testBit_shiftLeft, Nat.testBit_shiftLeft, Nat.testBit_two_pow_sub_one, Nat.testBit_shiftRight]
  by_cases h3 : 3 ≤ i
  · have e3 : 3 + (i - 3) = i := by omega
    rw [e3]
    by_cases h4 : i - 3 < 29
    · simp [h3, h4]
    · have e4 : x.testBit i = false := Nat.testBit_lt_two_pow (Nat.lt_of_lt_of_le h (Nat.pow_le_pow_right (n := 2) (by omega) (show 32 ≤ i by omega)))
      simp [e4]
  · simp [h3]
theorem and7 (x : Nat) (h : x < 4294967296) : bits .and .u32 (x : Int) 4294967288 = ((x / 8 * 8 : Nat) : Int) := by
  have := u32_and_nat x 4294967288 h (by omega)
  rw [and7n x h] at this
  exact this
def node0 (a : Nat) : List Value := [.int .u64 0, .int .u32 0, .int .u16 0, .int .u16 0] ++ (List.replicate 20 (.int .u32 0) ++ [.int .u32 a])
set_option maxRecDepth 100000 in
theorem putNode_any (ga gb gm n k h : Nat) (cs : List Value) (m : Int → Option Value) (w : World) (ha : Arn w ga gb gm n cs k m) (hn : n ≤ 1000000) (h1 : 1 ≤ h) (h2 : h ≤ 20) (hk : k ≤ 1000000) :
    Calls Try.prog 116 #[.pointer (some ⟨ga, 0, none⟩), .int .i64 h] w fun E w' => ∃ a b, E = .returned (.int .u32 (a : Nat)) ∧ a = (n + 7) / 8 * 8 ∧
      Arn w' ga gb gm (n + (23 + 4 * h)) cs (k + 1) (updM m a (some (.pointer (some ⟨b, 0, none⟩)))) ∧ Blk w' b 130 (node0 a) ∧ w.heap.size ≤ b ∧ Frm [ga, gm] w w' := by
  have HA := Lib.hid ha
  have c0 := ha.ar.at_ (i := 0) rfl
  have c1 := ha.ar.at_ (i := 1) rfl
  have c2 := ha.ar.at_ (i := 2) rfl
  have f0 := ha.ar.frozen 0
  clear ha
  go_enter Try.func116, Try.ntmps116
  go_wp2
  obtain ⟨l, hl⟩ : ∃ l, l = 23 + 4 * h := ⟨_, rfl⟩
  obtain ⟨L, hL⟩ : ∃ L, L = n + l := ⟨_, rfl⟩
  have e0 : (96 - (20 - (h : Int)) * 4 + 7) = (l : Int) := by omega
  have e1 : (n : Int) + (l : Int) = (L : Int) := by omega
  rw [e0, e1]
  have hlL : l ≤ L := by omega
  have hnL : L - l = n := by omega
  have hN : L ≤ 1048576 := by omega
  have hk0 := HA.out.ar.set_ 0 (.int .u32 L)
  have hf0 : Hid (Frm [ga, gm] w (w.setCell ⟨ga, 0, none⟩ (.int .u32 L))) := (Frm.refl _ w).andSet _ _ (.inl (by simp))
  have hm0 : Hid (MapAt _ _ _ _ _ _ _) := HA.out.map.frm (Frm.set w ⟨ga, 0, none⟩ (.int .u32 L)) (by simpa using HA.out.ne.2.1.symm)
  have hb0 : Hid (Blk _ _ _ _) := HA.out.buf.frm (Frm.set w ⟨ga, 0, none⟩ (.int .u32 L)) (by simpa using HA.out.ne.1.symm)
  have hbit : bits .and .u32 ((L : Int) - (l : Int) + 7) 4294967288 = (((n + 7) / 8 * 8 : Nat) : Int) := by
    rw [show (L : Int) - (l : Int) + 7 = ((n + 7 : Nat) : Int) from by omega]
    exact and7 _ (by omega)
  obtain ⟨a, hae⟩ : ∃ a, a = (n + 7) / 8 * 8 := ⟨_, rfl⟩
  rw [← hae] at hbit
  have ha8 : a ≤ 1000007 := by omega
  have HL := Lib.hid (And.intro hL (And.intro hl hae))
  have HB := Lib.hid hbit
  clear c0 c1 c2 f0 e0 e1 hL hl hae hnL hbit
  generalize w.setCell ⟨ga, 0, none⟩ (.int .u32 (L : Int)) = w1 at *
  have d0 : w1.cell? ⟨ga, 0, none⟩ = some (.int .u32 L) := hk0.at_ rfl
  have d1 : w1.cell? ⟨ga, 1, none⟩ = some (.slice (some ⟨gb, 0, none⟩) 1048576 1048576) := hk0.at_ rfl
  have d2 : w1.cell? ⟨ga, 2, none⟩ = some (.map (some gm)) := hk0.at_ rfl
  have hw : IntKind.i64.wrap (L : Int) = L := IntWalk.i64_in _ (by omega)
  have hd : (L : Int) ≤ 1048576 := by omega
  go_quiet ((go_at_call 80; exact quiet_same (assertTrue_any _)))
  have HK0 := Lib.hid hk0
  clear hk0 d1
  have hbit := HB.out
  go_wp2_with (at_mapUpdate; refine wpList_mapUpdate_at rfl _ _ _ _ rfl ((hm0.out.drew).alloc _) Try.underlying26 Try.underlying169 ?c1 (a : Int) (.pointer (some ⟨w1.heap.size, 0, none⟩)) rfl rfl rfl ?c2 ?_; (case c1 => unfold maxLen; omega); (case c2 => simp [Lit.wf, IntKind.min, IntKind.max, IntKind.signed, IntKind.bits]; omega); intro w2 hm2 hg2)
  go_ret
  refine ⟨a, _, rfl, HL.out.2.2, ⟨?_, ?_, HA.out.len, hm2, HA.out.ne⟩, ?_, ?_, ?_⟩
  · have := (HK0.out.drewN nq).alloc (.cells (node0 a).toArray 130)
    have := this.frm (Frm.of_grown hg2) (by simpa using HA.out.ne.2.1)
    rw [HL.out.1, HL.out.2.1] at this
    exact this
  · have := (hb0.out.drewN nq).alloc (.cells (node0 a).toArray 130)
    exact this.frm (Frm.of_grown hg2) (by simpa using HA.out.ne.2.2)
  · have := Blk.new (w1.drewN nq) 130 (node0 a)
    exact this.frm (Frm.of_grown hg2) (by have := hm0.out.lt; simp; omega)
  · exact hf0.out.size
  · exact ((hf0.out.drewN nq).andAlloc _).trans (Frm.of_grown hg2) (fun i hi => by rw [List.mem_singleton] at hi; subst hi; simp)
end Go.Proofs.Ytanmgkpgfmkobaa

/- The arena of a skip list: a value in bytes at a place. -/
namespace Go.Proofs.Ytanmgkpgfmkobaa
open Go.RowKit
set_option linter.unusedVariables false
set_option linter.unusedSimpArgs false
theorem wrote_more2 {w w1 w2 : World} {g t off off2 : Nat} {cs a b : List Value} (h : Wrote w g t (splice cs off a) w1) (k : Wrote w1.drew g t (splice (splice cs off a) off2 b) w2) (h2 : off2 = off + a.length) (hl : off + a.length + b.length ≤ cs.length) : Wrote w g t (splice cs off (a ++ b)) w2 := by
  have h3 := k.1
  rw [splice_splice _ _ _ _ _ h2 hl] at h3
  have hd : w.grownBy w1.drew (some g) := ⟨h.2.os, h.2.tape, h.2.output, h.2.size, h.2.block⟩
  exact ⟨h3, grownBy_then hd k.2 (.inl rfl)⟩
set_option maxRecDepth 100000 in
theorem valEncodeAt_any (g g2 off k K C t n cc : Nat) (m u e ver : Int) (A : Option Addr) (l : List Int) (cs : List Value) (w : World)
    (h : Blk w g 72 [.int .u8 m, .int .u8 u, .int .u64 e, .slice A n cc, .int .u64 ver]) (hs : Sl w A n (nums .u8 l)) (h2 : Blk w g2 t cs) (hne : g ≠ g2) (hA : ∀ b o, A = some ⟨b, o, none⟩ → b ≠ g2)
    (hk : k = 2 + (vint 9 e).length + n) (hkK : k ≤ K) (hkc : K ≤ C) (hkC : k < C) (hK : K ≤ 2000000) (hoff : off ≤ 2000000) (hfit : off + K ≤ cs.length) (hn : n ≤ 1000000) (he0 : 0 ≤ e) (he : Hid (e ≤ 18446744073709551615)) :
    Calls Try.prog 128 #[.pointer (some ⟨g, 0, none⟩), .slice (some ⟨g2, off, none⟩) K C] w fun E w' =>
      E = .returned (.int .u32 k) ∧ Wrote w g2 t (splice cs off (nums .u8 (valB m u e l))) w' := by
  have q0 : w.cell? ⟨g, 0, none⟩ = some (.int .u8 m) := by rw [h.cell]; rfl
  have q1 : w.cell? ⟨g, 1, none⟩ = some (.int .u8 u) := by rw [h.cell]; rfl
  have q2 : w.cell? ⟨g, 2, none⟩ = some (.int .u64 e) := by rw [h.cell]; rfl
  have q3 : w.cell? ⟨g, 3, none⟩ = some (.slice A n cc) := by rw [h.cell]; rfl
  have lv := vint_len 9 e
  obtain ⟨lv1, lv2⟩ := lv
  have hlen : l.length = n := by have := hs.1; rwa [nums_length] at this
  have HLn := Lib.hid hlen
  obtain ⟨y0, hc0⟩ : ∃ y0, w.cell? ⟨g2, off, none⟩ = some y0 := ⟨cs[off]'(by omega), by rw [h2.cell, List.getElem?_eq_getElem]⟩
  obtain ⟨y1, hc1⟩ : ∃ y1, w.cell? ⟨g2, off + 1, none⟩ = some y1 := ⟨cs[off + 1]'(by omega), by rw [h2.cell, List.getElem?_eq_getElem]⟩
  have hf0 := h2.frozen off
  have hf1 := h2.frozen (off + 1)
  have hne2 : g2 ≠ g := fun e => hne e.symm
  have HK := Lib.hid h2
  have HS := Lib.hid hs
  have HA := Lib.hid hA
  obtain ⟨i1, hi1⟩ : ∃ i1, i1 = 2 + (vint 9 e).length := ⟨_, rfl⟩
  have HI := Lib.hid hi1
  have hk' : k = i1 + n := by omega
  have s1 : IntKind.i64.wrap (2 + ((vint 9 e).length : Int)) = (i1 : Int) := by rw [IntWalk.i64_in _ (by omega)]; omega
  have s2 : IntKind.i64.wrap ((i1 : Int) + (n : Int)) = (k : Int) := by rw [IntWalk.i64_in _ (by omega)]; omega
  have s3 : IntKind.u32.wrap (k : Int) = (k : Int) := IntWalk.u32_in _ (by omega)
  have b1 : i1 ≤ 12 := by omega
  have b0 : 3 ≤ i1 := by omega
  have b4 : i1 ≤ K := by omega
  have b5 : (2 : Int) ≤ (K : Int) := by omega
  have b6 : K ≤ 2000000 := by omega
  have b7 : k ≤ 2000000 := by omega
  have z1 : (vint 9 e).length ≤ K - 2 := by omega
  have z2 : off + 2 + (K - 2) ≤ (splice cs off [Value.int .u8 m, Value.int .u8 u]).length := by rw [splice_len _ _ _ (by simp; omega)]; omega
  have HF := Lib.hid (And.intro hk' (And.intro hfit (And.intro hkc (And.intro hkK hkC))))
  have hcc : ¬ C = 2 := by omega
  have hcc0 : ¬ C = 0 := by omega
  have hci : ¬ C = i1 := by omega
  have k0 : 0 < K := by omega
  have k1 : 1 < K := by omega
  clear h hs h2 hA hlen hi1 hk hk' lv1 hfit hkK hkC
  go_enter Try.func128, Try.ntmps128
  go_wp2_with fail
  have hW1 : Wrote w g2 t (splice cs off [.int .u8 m, .int .u8 u]) ((w.setCell ⟨g2, off, none⟩ (.int .u8 m)).setCell ⟨g2, off + 1, none⟩ (.int .u8 u)) := by
    have hs := splice_two cs off (.int .u8 m) (.int .u8 u) (by have := HF.out; omega)
    have := (Wrote.sets HK.out off (.int .u8 m)).trans (Wrote.sets (HK.out.set_ off (.int .u8 m)) (off + 1) (.int .u8 u))
    rwa [hs] at this
  have HW1 := Lib.hid hW1
  generalize (w.setCell ⟨g2, off, none⟩ (.int .u8 m)).setCell ⟨g2, off + 1, none⟩ (.int .u8 u) = w1 at *
  have p2 := cell_wrote hW1 hne q2
  have p3 := cell_wrote hW1 hne q3
  clear hW1 q0 q1 q2 q3 hc0 hc1 hf0 hf1
  go_region_with (go_at_call 136; refine (putUvarint_any g2 (off + 2) (K - 2) (C - 2) t e _ _ (wrote_drew HW1.out).1 z1 z2 he0 he).mono ?_; rintro E w2 ⟨rfl, hw2⟩; have HW2 := Lib.hid hw2; clear hw2)
  have HV2 : Hid (Wrote w g2 t (splice cs off ([.int .u8 m, .int .u8 u] ++ nums .u8 (vint 9 e))) w2) := wrote_more2 HW1.out HW2.out rfl (by rw [nums_length]; simp; have := HF.out; have := HI.out; omega)
  have r3 := cell_wrote (wrote_from HW2.out) hne p3
  clear p2 p3 HW2 HW1
  go_wp2_with fail
  have HV3 : Hid (Blk w2.drew g2 t (splice cs off ([.int .u8 m, .int .u8 u] ++ nums .u8 (vint 9 e)))) := HV2.out.1
  have HS3 : Hid (Sl w2.drew A n (nums .u8 l)) := (sl_wrote HV2.out HA.out HS.out).drew
  have e3 : w2.drew.cell? ⟨g, 3, none⟩ = some (.slice A n cc) := r3
  have HG3 : Hid (w.grownBy w2.drew (some g2)) := ⟨HV2.out.2.os, HV2.out.2.tape, HV2.out.2.output, HV2.out.2.size, HV2.out.2.block⟩
  have hsp : off + i1 + (K - i1) ≤ (splice cs off ([Value.int .u8 m, .int .u8 u] ++ nums .u8 (vint 9 e))).length := by rw [splice_len _ _ _ (by rw [List.length_append, nums_length]; simp; have := HF.out; have := HI.out; omega)]; have := HF.out; omega
  have hmin : Nat.min n (K - i1) = n := Nat.min_eq_left (by have := HF.out; omega)
  have hfin : ∀ w', Wrote w2.drew g2 t (splice (splice cs off ([.int .u8 m, .int .u8 u] ++ nums .u8 (vint 9 e))) (off + i1) ((nums .u8 l).take (K - i1))) w' → Wrote w g2 t (splice cs off (nums .u8 (valB m u e l))) w' := by
    intro w' h
    have h1 := HF.out
    have h2 := HI.out
    have h3 := HLn.out
    rw [List.take_of_length_le (by rw [nums_length]; omega), splice_splice _ _ _ _ _ (by rw [List.length_append, nums_length]; simp; omega) (by rw [List.length_append, nums_length, nums_length]; simp; omega)] at h
    have e2 : nums .u8 (valB m u e l) = ([.int .u8 m, .int .u8 u] ++ nums .u8 (vint 9 e)) ++ nums .u8 l := by simp [valB, nums]
    rw [e2]
    exact ⟨h.1, grownBy_then HG3.out h.2 (.inl rfl)⟩
  have HFin := Lib.hid hfin
  clear hfin r3
  go_still_tail 8, (by kernel_rfl)
  change wpList _ _ _ _ _ w2.drew
  generalize w2.drew = w3 at *
  refine wpList_copy_blk rfl (.tmp 29) (.tmp 33) 27 27 rfl 5 Try.underlying27 sizeU8 A _ g2 (off + i1) (K - i1) _ n cc t _ (nums .u8 l) rfl (fun _ => rfl) rfl HV3.out HS3.out hsp (nums_one _ _) n hmin ?_
  intro w4 hw4
  have HW4 := Lib.hid hw4
  clear hw4 e3
  go_wp2
  go_ret
  exact ⟨rfl, HFin.out _ HW4.out⟩
end Go.Proofs.Ytanmgkpgfmkobaa

/- The arena of a skip list: keys and values are put into it. -/
namespace Go.Proofs.Ytanmgkpgfmkobaa
open Go.RowKit
set_option linter.unusedVariables false
set_option linter.unusedSimpArgs false
theorem Arn.frm {w w' : World} {ga gb gm n k : Nat} {cs : List Value} {m : Int → Option Value} (h : Arn w ga gb gm n cs k m) {l : List Nat} (hf : Frm l w w') (h1 : ga ∉ l) (h2 : gb ∉ l) (h3 : gm ∉ l) : Arn w' ga gb gm n cs k m :=
  ⟨h.ar.frm hf h1, h.buf.frm hf h2, h.len, h.map.frm hf h3, h.ne⟩
theorem Arn.below {w w' : World} {ga gb gm n k : Nat} {cs : List Value} {m : Int → Option Value} (h : Arn w ga gb gm n cs k m) (hb : Below w.heap.size w w') : Arn w' ga gb gm n cs k m :=
  h.frm (Frm.of_below hb) (by simp) (by simp) (by simp)
set_option maxRecDepth 100000 in
theorem putKey_any (ga gb gm n k nk ck : Nat) (A : Option Addr) (l : List Int) (cs : List Value) (m : Int → Option Value) (w : World) (ha : Arn w ga gb gm n cs k m) (hs : Sl w A nk (nums .u8 l)) (hA : ∀ b o, A = some ⟨b, o, none⟩ → b ≠ ga ∧ b ≠ gb) (hn : n ≤ 1000000) (hk : nk ≤ 1000) :
    Calls Try.prog 117 #[.pointer (some ⟨ga, 0, none⟩), .slice A nk ck] w fun E w' => E = .returned (.int .u32 n) ∧
      Arn w' ga gb gm (n + nk) (splice cs n (nums .u8 l)) k m ∧ Frm [ga, gb] w w' := by
  have hll : l.length = nk := by have := hs.1; rwa [nums_length] at this
  have HA := Lib.hid ha
  have HS := Lib.hid hs
  have HAA := Lib.hid hA
  have HLl := Lib.hid hll
  have c0 := ha.ar.at_ (i := 0) rfl
  have f0 := ha.ar.frozen 0
  clear ha hs hA hll
  go_enter Try.func117, Try.ntmps117
  go_wp2
  obtain ⟨L, hL⟩ : ∃ L, L = n + nk := ⟨_, rfl⟩
  have e1 : (n : Int) + (nk : Int) = (L : Int) := by omega
  rw [e1]
  have hnL : nk ≤ L := by omega
  have hN : L ≤ 1048576 := by omega
  have hnn : L - nk = n := by omega
  have hn1 : n ≤ L := by omega
  have hn3 : ¬ (1048576 = n) := by omega
  have hLn : L - n = nk := by omega
  have hk0 := HA.out.ar.set_ 0 (.int .u32 L)
  have hf0 : Hid (Frm [ga, gb] w (w.setCell ⟨ga, 0, none⟩ (.int .u32 L))) := (Frm.refl _ w).andSet _ _ (.inl (by simp))
  have hm0 : Hid (MapAt _ _ _ _ _ _ _) := HA.out.map.frm (Frm.set w ⟨ga, 0, none⟩ (.int .u32 L)) (by simpa using HA.out.ne.2.1.symm)
  have hb0 : Hid (Blk _ _ _ _) := HA.out.buf.frm (Frm.set w ⟨ga, 0, none⟩ (.int .u32 L)) (by simpa using HA.out.ne.1.symm)
  have hs0 : Hid (Sl _ _ _ _) := HS.out.frm (Frm.set w ⟨ga, 0, none⟩ (.int .u32 L)) (fun b o e => by have := (HAA.out b o e).1; simpa using this)
  have HL := Lib.hid hL
  clear c0 f0 e1 hL
  generalize w.setCell ⟨ga, 0, none⟩ (.int .u32 (L : Int)) = w1 at *
  have d0 : w1.cell? ⟨ga, 0, none⟩ = some (.int .u32 L) := hk0.at_ rfl
  have d1 : w1.cell? ⟨ga, 1, none⟩ = some (.slice (some ⟨gb, 0, none⟩) 1048576 1048576) := hk0.at_ rfl
  have hw : IntKind.i64.wrap (L : Int) = L := IntWalk.i64_in _ (by omega)
  have hd : (L : Int) ≤ 1048576 := by omega
  have HK0 := Lib.hid hk0
  clear hk0
  go_quiet ((go_at_call 80; exact quiet_same (assertTrue_any _)))
  have hsub : (L : Int) - (nk : Int) = (n : Int) := by omega
  clear hnn
  have hd2 : (n : Int) ≤ (L : Int) := by omega
  go_wp2_with fail
  have HB3 : Hid (Blk (w1.drewN nq) gb 5 cs) := hb0.out
  have HS3 : Hid (Sl (w1.drewN nq) A nk (nums .u8 l)) := hs0.out
  have HR3 : Hid (Blk (w1.drewN nq) ga 171 [.int .u32 L, .slice (some ⟨gb, 0, none⟩) 1048576 1048576, .map (some gm)]) := HK0.out
  have HM3 : Hid (MapAt Try.prog (w1.drewN nq) 26 .u32 gm k m) := hm0.out
  have HF3 : Hid (Frm [ga, gb] w (w1.drewN nq)) := hf0.out.drewN nq
  clear hb0 hs0 HK0 hm0 hf0 d0 d1
  generalize w1.drewN nq = w2 at *
  have d0 : w2.drew.cell? ⟨ga, 0, none⟩ = some (.int .u32 L) := HR3.out.at_ rfl
  have d1 : w2.drew.cell? ⟨ga, 1, none⟩ = some (.slice (some ⟨gb, 0, none⟩) 1048576 1048576) := HR3.out.at_ rfl
  go_still_tail 11, (by kernel_rfl)
  change wpList _ _ _ _ _ w2.drew
  replace HB3 : Hid (Blk w2.drew gb 5 cs) := HB3.out
  replace HS3 : Hid (Sl w2.drew A nk (nums .u8 l)) := HS3.out
  replace HR3 : Hid (Blk w2.drew ga 171 [.int .u32 L, .slice (some ⟨gb, 0, none⟩) 1048576 1048576, .map (some gm)]) := HR3.out
  replace HM3 : Hid (MapAt Try.prog w2.drew 26 .u32 gm k m) := HM3.out
  replace HF3 : Hid (Frm [ga, gb] w w2.drew) := HF3.out.drew
  clear d0 d1
  generalize w2.drew = w3 at *
  refine wpList_copy_blk rfl (.tmp 45) (.tmp 46) 27 27 rfl 5 Try.underlying27 sizeU8 A (some ⟨gb, n, none⟩) gb n nk (1048576 - n) nk ck 5 cs (nums .u8 l) rfl (fun _ => rfl) rfl HB3.out HS3.out (by rw [HA.out.len]; omega) (nums_one _ _) nk (Nat.min_self _) ?_
  intro w4 hw4
  rw [List.take_of_length_le (by rw [nums_length, HLl.out]; omega)] at hw4
  have HW4 := Lib.hid hw4
  clear hw4
  go_wp2
  go_ret
  have hF4 := Frm.of_grown HW4.out.2
  refine ⟨rfl, ⟨?_, HW4.out.1, ?_, HM3.out.frm hF4 (by simpa using HA.out.ne.2.2.symm), HA.out.ne⟩, HF3.out.trans hF4 (fun i hi => by rw [List.mem_singleton] at hi; subst hi; simp)⟩
  · have := HR3.out.frm hF4 (by simpa using HA.out.ne.1)
    rwa [HL.out] at this
  · rw [splice_len _ _ _ (by rw [nums_length, HLl.out, HA.out.len]; omega)]; exact HA.out.len
theorem or_shl32 (a b : Nat) (hb : b < 4294967296) (ha : a < 4294967296) : bits .or .u64 ((a : Int) * 4294967296) (b : Int) = (a : Int) * 4294967296 + b := by
  have e : (a : Int) * 4294967296 = ((a * 4294967296 : Nat) : Int) := by simp
  rw [e, u64_or_nat _ _ (by omega) (by omega)]
  have h2 : a * 4294967296 ||| b = a * 4294967296 + b := by
    have := Nat.two_pow_add_eq_or_of_lt (i := 32) (b := b) (by simpa using hb) a
    rw [show (2 : Nat) ^ 32 = 4294967296 from rfl] at this
    rw [Nat.mul_comm a, ← this]
  rw [h2]
  simp
theorem encodeValue_skl (a b : Nat) (w : World) (hb : b < 4294967296) (ha : a < 4294967296) :
    Calls Try.prog 118 #[.int .u32 b, .int .u32 a] w fun E w' => E = .returned (.int .u64 ((a : Int) * 4294967296 + b)) ∧ w = w' := by
  have h := or_shl32 a b hb ha
  have h0 : (0 : Int) ≤ (a : Int) * 4294967296 := by omega
  have h1 : (a : Int) * 4294967296 < 18446744073709551616 := by omega
  have H := Lib.hid h
  clear h
  go_enter Try.func118, Try.ntmps118
  go_wp2
  go_ret
  exact ⟨congrArg (fun z => Ending.returned (.int .u64 z)) H.out, rfl⟩
end Go.Proofs.Ytanmgkpgfmkobaa

/- The arena of a skip list: what is read of it. -/
namespace Go.Proofs.Ytanmgkpgfmkobaa
open Go.RowKit
set_option linter.unusedVariables false
set_option linter.unusedSimpArgs false
theorem getHeight_skl (g h : Nat) (w : World) (hc : w.cell? ⟨g, 0, none⟩ = some (.int .i32 h)) :
    Calls Try.prog 95 #[.pointer (some ⟨g, 0, none⟩)] w fun E w' => E = .returned (.int .i32 h) ∧ w = w' := by
  go_enter Try.func95, Try.ntmps95
  go_wp2
  go_ret
  exact ⟨rfl, rfl⟩
theorem getNode_nil (ga : Nat) (w : World) :
    Calls Try.prog 108 #[.pointer (some ⟨ga, 0, none⟩), .int .u32 0] w fun E w' => E = .returned (.pointer none) ∧ w = w' := by
  go_enter Try.func108, Try.ntmps108
  go_wp2
  go_ret
  exact ⟨rfl, rfl⟩
theorem getNode_some (ga gm k a : Nat) (m : Int → Option Value) (v : Value) (w : World) (hc : w.cell? ⟨ga, 2, none⟩ = some (.map (some gm))) (hm : MapAt Try.prog w 26 .u32 gm k m) (ha : 0 < a) (ha2 : a ≤ 4000000000) (hv : m a = some v) :
    Calls Try.prog 108 #[.pointer (some ⟨ga, 0, none⟩), .int .u32 a] w fun E w' => E = .returned v ∧ w = w' := by
  have hl := hm.look Try.underlying26 Try.underlying169 (z := .pointer none) (by kernel_rfl) (a : Int) (by simp [Lit.wf, IntKind.min, IntKind.max, IntKind.signed, IntKind.bits]; omega)
  rw [hv] at hl
  simp only [Option.getD_some] at hl
  have h0 : ((a : Int) == 0) = false := by simp; omega
  clear hm hv
  go_enter Try.func108, Try.ntmps108
  go_wp2
  go_ret
  exact ⟨rfl, rfl⟩
theorem getNextOffset_skl (b h : Nat) (a : Int) (w : World) (hh : h < 20) (hc : w.cell? ⟨b, 4 + h, none⟩ = some (.int .u32 a)) :
    Calls Try.prog 109 #[.pointer (some ⟨b, 0, none⟩), .int .i64 h] w fun E w' => E = .returned (.int .u32 a) ∧ w = w' := by
  have h1 : ((h : Int)) < 20 := by omega
  go_enter Try.func109, Try.ntmps109
  go_wp2
  go_ret
  exact ⟨rfl, rfl⟩
theorem getNext_nil (g ga b h : Nat) (w : World) (hg : w.cell? ⟨g, 3, none⟩ = some (.pointer (some ⟨ga, 0, none⟩))) (hh : h < 20) (hc : w.cell? ⟨b, 4 + h, none⟩ = some (.int .u32 0)) :
    Calls Try.prog 79 #[.pointer (some ⟨g, 0, none⟩), .pointer (some ⟨b, 0, none⟩), .int .i64 h] w fun E w' => E = .returned (.pointer none) ∧ Drew w w' := by
  have hc' : ∀ n, (w.drewN n).cell? ⟨b, 4 + h, none⟩ = some (.int .u32 0) := fun n => hc
  have HC := Lib.hid hc'
  clear hc hc'
  go_enter Try.func79, Try.ntmps79
  go_wp2
  go_quiet (first | (go_at_call 109; exact quiet_same (getNextOffset_skl b h 0 _ hh (HC.out _))) | (go_at_call 108; exact quiet_same (getNode_nil _ _)))
  go_wp2
  go_ret
  exact ⟨rfl, ⟨_, rfl⟩⟩
theorem getNext_some (g ga gm b h k a : Nat) (m : Int → Option Value) (v : Value) (w : World) (hg : w.cell? ⟨g, 3, none⟩ = some (.pointer (some ⟨ga, 0, none⟩))) (hh : h < 20) (hc : w.cell? ⟨b, 4 + h, none⟩ = some (.int .u32 a))
    (hr : w.cell? ⟨ga, 2, none⟩ = some (.map (some gm))) (hm : MapAt Try.prog w 26 .u32 gm k m) (ha : 0 < a) (ha2 : a ≤ 4000000000) (hv : m a = some v) :
    Calls Try.prog 79 #[.pointer (some ⟨g, 0, none⟩), .pointer (some ⟨b, 0, none⟩), .int .i64 h] w fun E w' => E = .returned v ∧ Drew w w' := by
  have hc' : ∀ n, (w.drewN n).cell? ⟨b, 4 + h, none⟩ = some (.int .u32 a) := fun n => hc
  have HC := Lib.hid hc'
  have hr' : ∀ n, (w.drewN n).cell? ⟨ga, 2, none⟩ = some (.map (some gm)) := fun n => hr
  have HR := Lib.hid hr'
  have hm' : ∀ n, MapAt Try.prog (w.drewN n) 26 .u32 gm k m := fun n => hm
  have HM := Lib.hid hm'
  have HV := Lib.hid hv
  clear hc hc' hr hr' hm hm' hv
  go_enter Try.func79, Try.ntmps79
  go_wp2
  go_quiet (first | (go_at_call 109; exact quiet_same (getNextOffset_skl b h a _ hh (HC.out _))) | (go_at_call 108; exact quiet_same (getNode_some ga gm k a m v _ (HR.out _) (HM.out _) ha ha2 HV.out)))
  go_wp2
  go_ret
  exact ⟨rfl, ⟨_, rfl⟩⟩
theorem getKey_skl (ga gb o s : Nat) (w : World) (h : w.cell? ⟨ga, 1, none⟩ = some (.slice (some ⟨gb, 0, none⟩) 1048576 1048576)) (ho : o + s ≤ 1000000) (hs : s ≤ 1000) :
    Calls Try.prog 72 #[.pointer (some ⟨ga, 0, none⟩), .int .u32 o, .int .u16 s] w fun E w' => E = .returned (.slice (some ⟨gb, o, none⟩) s (1048576 - o)) ∧ w = w' := by
  have h1 : ((o : Int)) ≤ (o : Int) + (s : Int) := by omega
  have h2 : (o : Int) + (s : Int) ≤ 1048576 := by omega
  have h3 : ¬ (1048576 = o) := by omega
  have h4 : o + s - o = s := by omega
  have h5 : (((o : Int) + (s : Int)).toNat) = o + s := by omega
  go_enter Try.func72, Try.ntmps72
  go_wp2
  go_ret
  exact ⟨rfl, rfl⟩
theorem nodeKey_skl (ga gb b o s : Nat) (w : World) (h : w.cell? ⟨ga, 1, none⟩ = some (.slice (some ⟨gb, 0, none⟩) 1048576 1048576)) (h1 : w.cell? ⟨b, 1, none⟩ = some (.int .u32 o)) (h2 : w.cell? ⟨b, 2, none⟩ = some (.int .u16 s)) (ho : o + s ≤ 1000000) (hs : s ≤ 1000) :
    Calls Try.prog 102 #[.pointer (some ⟨b, 0, none⟩), .pointer (some ⟨ga, 0, none⟩)] w fun E w' => E = .returned (.slice (some ⟨gb, o, none⟩) s (1048576 - o)) ∧ Drew w w' := by
  have h' : ∀ n, (w.drewN n).cell? ⟨ga, 1, none⟩ = some (.slice (some ⟨gb, 0, none⟩) 1048576 1048576) := fun n => h
  have HC := Lib.hid h'
  clear h h'
  go_enter Try.func102, Try.ntmps102
  go_wp2
  go_quiet ((go_at_call 72; exact quiet_same (getKey_skl ga gb o s _ (HC.out _) ho hs)))
  go_wp2
  go_ret
  exact ⟨rfl, ⟨_, rfl⟩⟩
theorem decodeValue_skl (a b : Nat) (w : World) (hb : b < 4294967296) (ha : a < 4294967296) :
    Calls Try.prog 105 #[.int .u64 ((a : Int) * 4294967296 + b)] w fun E w' => E = .returned (.tuple #[.int .u32 b, .int .u32 a]) ∧ w = w' := by
  obtain ⟨x, hx⟩ : ∃ x, x = (a : Int) * 4294967296 + b := ⟨_, rfl⟩
  have h4 : (0 : Int) ≤ x := by omega
  have h5 : x < 18446744073709551616 := by omega
  rw [← hx]
  have HX := Lib.hid hx
  clear hx
  go_enter Try.func105, Try.ntmps105
  go_wp2
  go_ret2
  refine ⟨?_, rfl⟩
  have := HX.out
  have e1 : x % 4294967296 = b := by omega
  have e2 : x / 4294967296 = a := by omega
  show Ending.returned (.tuple #[.int .u32 (x % 4294967296), .int .u32 (x / 4294967296)]) = _
  rw [e1, e2]
theorem getValueOffset_skl (g a b : Nat) (w : World) (hc : w.cell? ⟨g, 0, none⟩ = some (.int .u64 ((a : Int) * 4294967296 + b))) (hb : b < 4294967296) (ha : a < 4294967296) :
    Calls Try.prog 74 #[.pointer (some ⟨g, 0, none⟩)] w fun E w' => E = .returned (.tuple #[.int .u32 b, .int .u32 a]) ∧ w = w' := by
  go_enter Try.func74, Try.ntmps74
  go_wp2_with fail
  refine (decodeValue_skl a b _ hb ha).mono ?_
  rintro E w1 ⟨rfl, rfl⟩
  go_wp2
  go_ret2
  exact ⟨rfl, rfl⟩
theorem getNodeOffset_nil (ga : Nat) (w : World) :
    Calls Try.prog 99 #[.pointer (some ⟨ga, 0, none⟩), .pointer none] w fun E w' => E = .returned (.int .u32 0) ∧ w = w' := by
  go_enter Try.func99, Try.ntmps99
  go_wp2
  go_ret
  exact ⟨rfl, rfl⟩
theorem getNodeOffset_some (ga b : Nat) (a : Int) (w : World) (hc : w.cell? ⟨b, 24, none⟩ = some (.int .u32 a)) :
    Calls Try.prog 99 #[.pointer (some ⟨ga, 0, none⟩), .pointer (some ⟨b, 0, none⟩)] w fun E w' => E = .returned (.int .u32 a) ∧ w = w' := by
  go_enter Try.func99, Try.ntmps99
  go_wp2
  go_ret
  exact ⟨rfl, rfl⟩
theorem cas_skl (b t h : Nat) (x y : Int) (cs : List Value) (w : World) (hb : Blk w b t cs) (hh : h < 20) (hl : 24 ≤ cs.length) (hc : cs[4 + h]? = some (.int .u32 x)) :
    Calls Try.prog 100 #[.pointer (some ⟨b, 0, none⟩), .int .i64 h, .int .u32 x, .int .u32 y] w fun E w' => E = .returned (.bool true) ∧ w' = w.setCell ⟨b, 4 + h, none⟩ (.int .u32 y) := by
  have c0 := hb.at_ hc
  have f0 := hb.frozen (4 + h)
  have h1 : ((h : Int)) < 20 := by omega
  clear hb hl hc
  go_enter Try.func100, Try.ntmps100
  go_wp2
  go_ret
  exact ⟨rfl, rfl⟩
end Go.Proofs.Ytanmgkpgfmkobaa

/- The arena of a skip list: a value is put into it, and read of it. -/
namespace Go.Proofs.Ytanmgkpgfmkobaa
open Go.RowKit
set_option linter.unusedVariables false
set_option linter.unusedSimpArgs false
set_option maxRecDepth 100000 in
theorem putVal_any (ga gb gm n k nd cd : Nat) (A : Option Addr) (m_ u x ver : Int) (l : List Int) (cs : List Value) (m : Int → Option Value) (w : World) (ha : Arn w ga gb gm n cs k m) (hs : Sl w A nd (nums .u8 l)) (hA : ∀ b o, A = some ⟨b, o, none⟩ → b ≠ ga ∧ b ≠ gb) (hn : n ≤ 1000000) (hk : nd ≤ 1000)
    (hx0 : 0 ≤ x) (hx1 : Hid (x ≤ 18446744073709551615)) :
    Calls Try.prog 119 #[.pointer (some ⟨ga, 0, none⟩), .agg #[.int .u8 m_, .int .u8 u, .int .u64 x, .slice A nd cd, .int .u64 ver]] w fun E w' => E = .returned (.int .u32 n) ∧
      Arn w' ga gb gm (n + (valB m_ u x l).length) (splice cs n (nums .u8 (valB m_ u x l))) k m ∧ Frm [ga, gb] w w' := by
  have hll : l.length = nd := by have := hs.1; rwa [nums_length] at this
  have hvl := valB_len m_ u x l
  have hvt := vint_len 9 x
  rw [hll] at hvl
  obtain ⟨K, hK⟩ : ∃ K, K = 2 + (vint 9 x).length + nd := ⟨_, rfl⟩
  have hK2 : K ≤ 2000 := by omega
  have HA : Hid (Arn (w.alloc (.cells #[.int .u8 m_, .int .u8 u, .int .u64 x, .slice A nd cd, .int .u64 ver] 72)) ga gb gm n cs k m) := ha.frm (Frm.alloc w _) (by simp) (by simp) (by simp)
  have HS : Hid (Sl (w.alloc (.cells #[.int .u8 m_, .int .u8 u, .int .u64 x, .slice A nd cd, .int .u64 ver] 72)) A nd (nums .u8 l)) := hs.alloc _
  have HX : Hid (Blk (w.alloc (.cells #[.int .u8 m_, .int .u8 u, .int .u64 x, .slice A nd cd, .int .u64 ver] 72)) w.heap.size 72 [.int .u8 m_, .int .u8 u, .int .u64 x, .slice A nd cd, .int .u64 ver]) := Blk.new _ _ _
  have HF : Hid (Frm [ga, gb] w (w.alloc (.cells #[.int .u8 m_, .int .u8 u, .int .u64 x, .slice A nd cd, .int .u64 ver] 72))) := (Frm.refl _ w).andAlloc _
  have HAA := Lib.hid hA
  have HKK := Lib.hid (And.intro hK hvl)
  have hga : Hid (w.heap.size ≠ ga ∧ w.heap.size ≠ gb) := ⟨fun e => by have := ha.ar.lt; omega, fun e => by have := ha.buf.lt; omega⟩
  have hAx : Hid (∀ b o, A = some ⟨b, o, none⟩ → 0 < nd → b ≠ w.heap.size) := fun b o e hp e2 => by
    obtain ⟨g', o', e', hc⟩ := hs.2 hp
    rw [e] at e'
    injection e' with e'
    injection e' with e1 e3
    have := World.block_lt_of_cell? w _ (hc 0 _ (List.getElem?_eq_getElem (by rw [nums_length]; omega)))
    simp only at this
    omega
  clear ha hs hA hll hvl hvt hK
  go_enter Try.func119, Try.ntmps119
  go_wp2_with fail
  generalize w.alloc (.cells #[.int .u8 m_, .int .u8 u, .int .u64 x, .slice A nd cd, .int .u64 ver] 72) = w0 at *
  generalize w.heap.size = gx at *
  refine (encodedSize_any gx x A nd cd w0 (HX.out.at_ rfl) (HX.out.at_ rfl) (by omega) hx0 hx1).mono ?_
  rintro E w1 ⟨rfl, rfl⟩
  rw [← HKK.out.1]
  have c0 : w0.cell? ⟨ga, 0, none⟩ = some (.int .u32 n) := HA.out.ar.at_ rfl
  have f0 := HA.out.ar.frozen 0
  go_wp2_with fail
  obtain ⟨L, hL⟩ : ∃ L, L = n + K := ⟨_, rfl⟩
  have e1 : (n : Int) + (K : Int) = (L : Int) := by omega
  rw [e1]
  have hnL : K ≤ L := by omega
  have hN : L ≤ 1048576 := by omega
  have hn1 : n ≤ L := by omega
  have hn3 : ¬ (1048576 = n) := by omega
  have hk0 := HA.out.ar.set_ 0 (.int .u32 L)
  have hf0 : Hid (Frm [ga, gb] w0 (w0.setCell ⟨ga, 0, none⟩ (.int .u32 L))) := (Frm.refl _ w0).andSet _ _ (.inl (by simp))
  have hm0 : Hid (MapAt _ _ _ _ _ _ _) := HA.out.map.frm (Frm.set w0 ⟨ga, 0, none⟩ (.int .u32 L)) (by simpa using HA.out.ne.2.1.symm)
  have hb0 : Hid (Blk _ _ _ _) := HA.out.buf.frm (Frm.set w0 ⟨ga, 0, none⟩ (.int .u32 L)) (by simpa using HA.out.ne.1.symm)
  have hs0 : Hid (Sl _ _ _ _) := HS.out.frm (Frm.set w0 ⟨ga, 0, none⟩ (.int .u32 L)) (fun b o e => by have := (HAA.out b o e).1; simpa using this)
  have hx0' : Hid (Blk _ _ _ _) := HX.out.frm (Frm.set w0 ⟨ga, 0, none⟩ (.int .u32 L)) (by simpa using hga.out.1)
  have HL := Lib.hid hL
  clear c0 f0 e1 hL
  generalize w0.setCell ⟨ga, 0, none⟩ (.int .u32 (L : Int)) = w1 at *
  have d0 : w1.cell? ⟨ga, 0, none⟩ = some (.int .u32 L) := hk0.at_ rfl
  have d1 : w1.cell? ⟨ga, 1, none⟩ = some (.slice (some ⟨gb, 0, none⟩) 1048576 1048576) := hk0.at_ rfl
  have hw : IntKind.i64.wrap (L : Int) = L := IntWalk.i64_in _ (by omega)
  have hd : (L : Int) ≤ 1048576 := by omega
  have HK0 := Lib.hid hk0
  clear hk0
  go_quiet ((go_at_call 80; exact quiet_same (assertTrue_any _)))
  have hsub : (L : Int) - (K : Int) = (n : Int) := by have := HL.out; omega
  have hd2 : (n : Int) ≤ 1048576 := by omega
  have HB3 : Hid (Blk (w1.drewN nq) gb 5 cs) := hb0.out
  have HS3 : Hid (Sl (w1.drewN nq) A nd (nums .u8 l)) := hs0.out
  have HR3 : Hid (Blk (w1.drewN nq) ga 171 [.int .u32 L, .slice (some ⟨gb, 0, none⟩) 1048576 1048576, .map (some gm)]) := HK0.out
  have HM3 : Hid (MapAt Try.prog (w1.drewN nq) 26 .u32 gm k m) := hm0.out
  have HF3 : Hid (Frm [ga, gb] w (w1.drewN nq)) := (HF.out.trans hf0.out (fun i h => .inl h)).drewN nq
  have HX3 : Hid (Blk (w1.drewN nq) gx 72 [.int .u8 m_, .int .u8 u, .int .u64 x, .slice A nd cd, .int .u64 ver]) := hx0'.out
  clear hb0 hs0 HK0 hm0 hf0 d0 d1 hx0'
  generalize w1.drewN nq = w2 at *
  have d0 : w2.cell? ⟨ga, 0, none⟩ = some (.int .u32 L) := HR3.out.at_ rfl
  have d1 : w2.cell? ⟨ga, 1, none⟩ = some (.slice (some ⟨gb, 0, none⟩) 1048576 1048576) := HR3.out.at_ rfl
  go_wp2_with fail
  refine (valEncodeAt_any gx gb n K (1048576 - n) (1048576 - n) 5 nd cd m_ u x ver A l cs w2 HX3.out HS3.out HB3.out hga.out.2 (fun b o e => (HAA.out b o e).2) HKK.out.1 (by omega) (Nat.le_refl _) (by omega) (by omega) (by omega) (by rw [HA.out.len]; omega) (by omega) hx0 hx1).mono ?_
  rintro E w3 ⟨rfl, hw3⟩
  have HW3 := Lib.hid hw3
  clear hw3
  go_wp2
  go_ret
  have hF4 := Frm.of_grown HW3.out.2
  have hvl : (valB m_ u x l).length = K := by rw [HKK.out.2, HKK.out.1]
  refine ⟨rfl, ⟨?_, HW3.out.1, ?_, HM3.out.frm hF4 (by simpa using HA.out.ne.2.2.symm), HA.out.ne⟩, HF3.out.trans hF4 (fun i hi => by rw [List.mem_singleton] at hi; subst hi; simp)⟩
  · have := HR3.out.frm hF4 (by simpa using HA.out.ne.1)
    rw [hvl, ← HL.out]
    exact this
  · rw [splice_len _ _ _ (by rw [nums_length, hvl, HA.out.len]; omega)]; exact HA.out.len
end Go.Proofs.Ytanmgkpgfmkobaa

/- The nodes of a skip list: made, given a value; their heights. -/
namespace Go.Proofs.Ytanmgkpgfmkobaa
open Go.RowKit
set_option linter.unusedVariables false
set_option linter.unusedSimpArgs false
set_option maxRecDepth 100000 in
theorem setValue_skl (b t ga gb gm n k nd cd : Nat) (A : Option Addr) (m_ u x ver : Int) (l : List Int) (cs ds : List Value) (m : Int → Option Value) (w : World) (ha : Arn w ga gb gm n cs k m) (hb : Blk w b t ds) (hne : b ≠ ga ∧ b ≠ gb ∧ b ≠ gm) (hs : Sl w A nd (nums .u8 l)) (hA : ∀ b o, A = some ⟨b, o, none⟩ → b ≠ ga ∧ b ≠ gb) (hn : n ≤ 1000000) (hk : nd ≤ 1000)
    (hx0 : 0 ≤ x) (hx1 : Hid (x ≤ 18446744073709551615)) (hd0 : 0 < ds.length) :
    Calls Try.prog 97 #[.pointer (some ⟨b, 0, none⟩), .pointer (some ⟨ga, 0, none⟩), .agg #[.int .u8 m_, .int .u8 u, .int .u64 x, .slice A nd cd, .int .u64 ver]] w fun E w' => E = .returned (.tuple #[]) ∧
      Arn w' ga gb gm (n + (valB m_ u x l).length) (splice cs n (nums .u8 (valB m_ u x l))) k m ∧ Blk w' b t (ds.set 0 (.int .u64 (((valB m_ u x l).length : Int) * 4294967296 + n))) ∧ Frm [ga, gb, b] w w' := by
  have hll : l.length = nd := by have := hs.1; rwa [nums_length] at this
  have hvl := valB_len m_ u x l
  have hvt := vint_len 9 x
  rw [hll] at hvl
  have HVL := Lib.hid (And.intro hvl hvt)
  have H0 : Hid (∀ o, Arn (w.alloc o) ga gb gm n cs k m) := fun o => ha.frm (Frm.alloc w _) (by simp) (by simp) (by simp)
  have H1 : Hid (∀ o, Sl (w.alloc o) A nd (nums .u8 l)) := fun o => hs.alloc o
  have H2 : Hid (∀ o, Blk (w.alloc o) b t ds) := fun o => hb.alloc o
  have H3 : Hid (∀ o, Frm [ga, gb, b] w (w.alloc o)) := fun o => (Frm.refl _ w).andAlloc o
  have HX : Hid (Blk (w.alloc (.cells #[.int .u8 m_, .int .u8 u, .int .u64 x, .slice A nd cd, .int .u64 ver] 72)) w.heap.size 72 [.int .u8 m_, .int .u8 u, .int .u64 x, .slice A nd cd, .int .u64 ver]) := Blk.new _ _ _
  have HAA := Lib.hid hA
  have hga : Hid (w.heap.size ≠ ga ∧ w.heap.size ≠ gb) := ⟨fun e => by have := ha.ar.lt; omega, fun e => by have := ha.buf.lt; omega⟩
  have hbx : Hid (b ≠ w.heap.size) := fun e => by have := hb.lt; omega
  have HNE := Lib.hid hne
  have HNA := Lib.hid ha.ne
  clear ha hs hA hll hvl hvt hb hne
  go_enter Try.func97, Try.ntmps97
  go_wp2_with fail
  replace H0 := Lib.hid (H0.out (.cells #[.int .u8 m_, .int .u8 u, .int .u64 x, .slice A nd cd, .int .u64 ver] 72))
  replace H1 := Lib.hid (H1.out (.cells #[.int .u8 m_, .int .u8 u, .int .u64 x, .slice A nd cd, .int .u64 ver] 72))
  replace H2 := Lib.hid (H2.out (.cells #[.int .u8 m_, .int .u8 u, .int .u64 x, .slice A nd cd, .int .u64 ver] 72))
  replace H3 := Lib.hid (H3.out (.cells #[.int .u8 m_, .int .u8 u, .int .u64 x, .slice A nd cd, .int .u64 ver] 72))
  generalize w.alloc (.cells #[.int .u8 m_, .int .u8 u, .int .u64 x, .slice A nd cd, .int .u64 ver] 72) = w0 at *
  generalize w.heap.size = gx at *
  refine (putVal_any ga gb gm n k nd cd A m_ u x ver l cs m w0 H0.out H1.out HAA.out hn hk hx0 hx1).mono ?_
  rintro E w1 ⟨rfl, ha1, hf1⟩
  have HA1 := Lib.hid ha1
  have HF1 := Lib.hid hf1
  have hX1 := HX.out.frm hf1 (by have := hga.out; simp; omega)
  have c2 : w1.cell? ⟨gx, 2, none⟩ = some (.int .u64 x) := hX1.at_ rfl
  have c3 : w1.cell? ⟨gx, 3, none⟩ = some (.slice A nd cd) := hX1.at_ rfl
  have HB1 := Lib.hid (H2.out.frm hf1 (by have := HNE.out; simp; omega))
  clear ha1 hf1 hX1
  go_wp2_with fail
  refine (encodedSize_any gx x A nd cd w1 c2 c3 (by omega) hx0 hx1).mono ?_
  rintro E w2 ⟨rfl, rfl⟩
  rw [← HVL.out.1]
  clear c2 c3
  go_wp2_with fail
  refine (encodeValue_skl (valB m_ u x l).length n w1 (by omega) (by have := HVL.out; omega)).mono ?_
  rintro E w2 ⟨rfl, rfl⟩
  obtain ⟨y, hy⟩ : ∃ y, w1.cell? ⟨b, 0, none⟩ = some y := ⟨ds[0], HB1.out.at_ (List.getElem?_eq_getElem hd0)⟩
  have hfz := HB1.out.frozen 0
  go_wp2
  go_end0
  refine ⟨rfl, HA1.out.frm (Frm.set w1 ⟨b, 0, none⟩ _) (by have := HNE.out; simp; omega) (by have := HNE.out; simp; omega) (by have := HNE.out; simp; omega), HB1.out.set_ 0 _, ?_⟩
  · exact (H3.out.trans HF1.out (fun i h => by simp at h ⊢; omega)).andSet _ _ (.inl (by simp))
def nodeC (vl vo ko nk h a : Nat) : List Value := [.int .u64 ((vl : Int) * 4294967296 + vo), .int .u32 ko, .int .u16 nk, .int .u16 h] ++ (List.replicate 20 (.int .u32 0) ++ [.int .u32 a])
set_option maxRecDepth 100000 in
theorem newNode_skl (ga gb gm n k nk ck nd cd h : Nat) (K A : Option Addr) (m_ u x ver : Int) (lk l : List Int) (cs : List Value) (m : Int → Option Value) (w : World) (ha : Arn w ga gb gm n cs k m) (hk : Sl w K nk (nums .u8 lk)) (hK : ∀ b o, K = some ⟨b, o, none⟩ → b ≠ ga ∧ b ≠ gb ∧ b ≠ gm)
    (hs : Sl w A nd (nums .u8 l)) (hA : ∀ b o, A = some ⟨b, o, none⟩ → b ≠ ga ∧ b ≠ gb ∧ b ≠ gm) (hn0 : 1 ≤ n) (hn : n ≤ 900000) (hk1 : k ≤ 1000000) (hnk : nk ≤ 1000) (hnd : nd ≤ 1000) (h1 : 1 ≤ h) (h2 : h ≤ 20)
    (hx0 : 0 ≤ x) (hx1 : Hid (x ≤ 18446744073709551615)) :
    Calls Try.prog 94 #[.pointer (some ⟨ga, 0, none⟩), .slice K nk ck, .agg #[.int .u8 m_, .int .u8 u, .int .u64 x, .slice A nd cd, .int .u64 ver], .int .i64 h] w fun E w' => ∃ a b, E = .returned (.pointer (some ⟨b, 0, none⟩)) ∧ a = (n + 7) / 8 * 8 ∧
      Arn w' ga gb gm (n + (23 + 4 * h) + nk + (valB m_ u x l).length) (splice (splice cs (n + (23 + 4 * h)) (nums .u8 lk)) (n + (23 + 4 * h) + nk) (nums .u8 (valB m_ u x l))) (k + 1) (updM m (a : Nat) (some (.pointer (some ⟨b, 0, none⟩)))) ∧
      Blk w' b 130 (nodeC (valB m_ u x l).length (n + (23 + 4 * h) + nk) (n + (23 + 4 * h)) nk h a) ∧ w.heap.size ≤ b ∧ Frm [ga, gb, gm] w w' := by
  have hll : l.length = nd := by have := hs.1; rwa [nums_length] at this
  have hvl := valB_len m_ u x l
  have hvt := vint_len 9 x
  rw [hll] at hvl
  have HVL := Lib.hid (And.intro hvl hvt)
  have H0 : Hid (∀ o, Arn (w.alloc o) ga gb gm n cs k m) := fun o => ha.frm (Frm.alloc w _) (by simp) (by simp) (by simp)
  have H1 : Hid (∀ o, Sl (w.alloc o) A nd (nums .u8 l)) := fun o => hs.alloc o
  have H2 : Hid (∀ o, Sl (w.alloc o) K nk (nums .u8 lk)) := fun o => hk.alloc o
  have H3 : Hid (∀ o, Frm [ga, gb, gm] w (w.alloc o)) := fun o => (Frm.refl _ w).andAlloc o
  have HX : Hid (Blk (w.alloc (.cells #[.int .u8 m_, .int .u8 u, .int .u64 x, .slice A nd cd, .int .u64 ver] 72)) w.heap.size 72 [.int .u8 m_, .int .u8 u, .int .u64 x, .slice A nd cd, .int .u64 ver]) := Blk.new _ _ _
  have HAA := Lib.hid hA
  have HKK := Lib.hid hK
  have hga : Hid (w.heap.size ≠ ga ∧ w.heap.size ≠ gb ∧ w.heap.size ≠ gm) := ⟨fun e => by have := ha.ar.lt; omega, fun e => by have := ha.buf.lt; omega, fun e => by have := ha.map.lt; omega⟩
  have HNA := Lib.hid (And.intro ha.ne (And.intro ha.ar.lt (And.intro ha.buf.lt ha.map.lt)))
  have HLT : Hid (∀ b o, A = some ⟨b, o, none⟩ → 0 < nd → b < w.heap.size) := fun b o e hp => hs.lt e hp
  have hz : Hid (w.heap.size < (w.alloc (.cells #[.int .u8 m_, .int .u8 u, .int .u64 x, .slice A nd cd, .int .u64 ver] 72)).heap.size) := by show _ < _; rw [World.size_alloc]; omega
  clear ha hs hA hll hvl hvt hk hK
  go_enter Try.func94, Try.ntmps94
  go_wp2_with fail
  replace H0 := Lib.hid (H0.out (.cells #[.int .u8 m_, .int .u8 u, .int .u64 x, .slice A nd cd, .int .u64 ver] 72))
  replace H1 := Lib.hid (H1.out (.cells #[.int .u8 m_, .int .u8 u, .int .u64 x, .slice A nd cd, .int .u64 ver] 72))
  replace H2 := Lib.hid (H2.out (.cells #[.int .u8 m_, .int .u8 u, .int .u64 x, .slice A nd cd, .int .u64 ver] 72))
  replace H3 := Lib.hid (H3.out (.cells #[.int .u8 m_, .int .u8 u, .int .u64 x, .slice A nd cd, .int .u64 ver] 72))
  generalize w.alloc (.cells #[.int .u8 m_, .int .u8 u, .int .u64 x, .slice A nd cd, .int .u64 ver] 72) = w0 at *
  generalize hgx : w.heap.size = gx at *
  have HGX := Lib.hid hgx
  clear hgx
  refine (putNode_any ga gb gm n k h cs m w0 H0.out (by omega) h1 h2 hk1).mono ?_
  rintro E w1 ⟨a, b, rfl, hae, ha1, hb1, hgb, hf1⟩
  have HAE := Lib.hid hae
  have HA1 := Lib.hid ha1
  have HB1 := Lib.hid hb1
  have HS1 := Lib.hid (H1.out.frm hf1 (fun b o e => by have := HAA.out b o e; simp; omega))
  have HK1 := Lib.hid (H2.out.frm hf1 (fun b o e => by have := HKK.out b o e; simp; omega))
  have HX1 := Lib.hid (HX.out.frm hf1 (by have := hga.out; simp; omega))
  have HF1 : Hid (Frm [ga, gb, gm] w w1) := H3.out.trans hf1 (fun i h => by simp at h ⊢; omega)
  have HGB : Hid (gx < b ∧ b ≠ ga ∧ b ≠ gb ∧ b ≠ gm ∧ gx = w.heap.size) := by
    have h1 := hz.out
    have h2 := HNA.out
    have h3 := HGX.out
    refine ⟨by omega, by omega, by omega, by omega, h3.symm⟩
  have ha0 : 0 < a := by omega
  have ha2 : a ≤ 4000000000 := by omega
  clear hae ha1 hb1 hgb hf1 H0 H1 H2 H3 HX
  have c2 : w1.cell? ⟨ga, 2, none⟩ = some (.map (some gm)) := HA1.out.ar.at_ rfl
  go_wp2_with fail
  refine (getNode_some ga gm (k + 1) a _ (.pointer (some ⟨b, 0, none⟩)) w1 c2 HA1.out.map ha0 ha2 (by simp [updM])).mono ?_
  rintro E w2 ⟨rfl, rfl⟩
  clear c2
  obtain ⟨N1, hN1⟩ : ∃ N1, N1 = n + (23 + 4 * h) := ⟨_, rfl⟩
  rw [← hN1] at HA1
  have hN1b : N1 ≤ 900103 := by omega
  have HN1 := Lib.hid hN1
  clear hN1
  go_wp2_with fail
  refine (putKey_any ga gb gm N1 _ nk ck K lk cs _ w1 HA1.out HK1.out (fun b o e => by have := HKK.out b o e; omega) (by omega) hnk).mono ?_
  rintro E w2 ⟨rfl, ha2', hf2⟩
  obtain ⟨N2, hN2⟩ : ∃ N2, N2 = N1 + nk := ⟨_, rfl⟩
  rw [← hN2] at ha2'
  have hN2b : N2 ≤ 902000 := by omega
  have HN2 := Lib.hid hN2
  clear hN2
  have HA2 := Lib.hid ha2'
  have HB2 := Lib.hid (HB1.out.frm hf2 (by have := HGB.out; simp; omega))
  have HS2 := Lib.hid (HS1.out.frm hf2 (fun b o e => by have := HAA.out b o e; simp; omega))
  have HX2 := Lib.hid (HX1.out.frm hf2 (by have := hga.out; simp; omega))
  have HF2 : Hid (Frm [ga, gb, gm] w w2) := HF1.out.trans hf2 (fun i h => by simp at h ⊢; omega)
  clear ha2' hf2 HA1 HB1 HS1 HX1 HF1 HK1
  have q0 : w2.cell? ⟨b, 0, none⟩ = some (.int .u64 0) := HB2.out.at_ rfl
  have q1 : w2.cell? ⟨b, 1, none⟩ = some (.int .u32 0) := HB2.out.at_ rfl
  have q2 : w2.cell? ⟨b, 2, none⟩ = some (.int .u16 0) := HB2.out.at_ rfl
  have q3 : w2.cell? ⟨b, 3, none⟩ = some (.int .u16 0) := HB2.out.at_ rfl
  have f0 := HB2.out.frozen 0
  have f1 := HB2.out.frozen 1
  have f2 := HB2.out.frozen 2
  have f3 := HB2.out.frozen 3
  have v0 : w2.cell? ⟨gx, 0, none⟩ = some (.int .u8 m_) := HX2.out.at_ rfl
  have v1 : w2.cell? ⟨gx, 1, none⟩ = some (.int .u8 u) := HX2.out.at_ rfl
  have v2 : w2.cell? ⟨gx, 2, none⟩ = some (.int .u64 x) := HX2.out.at_ rfl
  have v3 : w2.cell? ⟨gx, 3, none⟩ = some (.slice A nd cd) := HX2.out.at_ rfl
  have v4 : w2.cell? ⟨gx, 4, none⟩ = some (.int .u64 ver) := HX2.out.at_ rfl
  have hbg : ¬ (b = gx) := by have := HGB.out; omega
  have hgb' : ¬ (gx = b) := by have := HGB.out; omega
  go_wp2_with fail
  have hw3 : Wrote w2 b 130 ((((node0 a).set 1 (.int .u32 (N1 : Int))).set 2 (.int .u16 (nk : Int))).set 3 (.int .u16 (h : Int))) (((w2.setCell ⟨b, 1, none⟩ (.int .u32 (N1 : Int))).setCell ⟨b, 2, none⟩ (.int .u16 (nk : Int))).setCell ⟨b, 3, none⟩ (.int .u16 (h : Int))) :=
    (Wrote.sets HB2.out 1 _).trans ((Wrote.sets (HB2.out.set_ 1 _) 2 _).trans (Wrote.sets ((HB2.out.set_ 1 _).set_ 2 _) 3 _))
  have HW3 := Lib.hid hw3
  clear hw3 q0 q1 q2 q3 f0 f1 f2 f3 v0 v1 v2 v3 v4
  generalize ((w2.setCell ⟨b, 1, none⟩ (.int .u32 (N1 : Int))).setCell ⟨b, 2, none⟩ (.int .u16 (nk : Int))).setCell ⟨b, 3, none⟩ (.int .u16 (h : Int)) = w3 at *
  have hfw := Frm.of_grown HW3.out.2
  have HA3 := Lib.hid (HA2.out.frm hfw (by have := HGB.out; simp; omega) (by have := HGB.out; simp; omega) (by have := HGB.out; simp; omega))
  have HS3 := Lib.hid (HS2.out.frm0 hfw (fun b' o e hp _ => by
    have := HGB.out
    have h2 := HLT.out b' o e hp
    simp; omega))
  have HX3 := Lib.hid (HX2.out.frm hfw (by have := HGB.out; simp; omega))
  have HF3 : Hid (Frm [ga, gb, gm] w w3) := HF2.out.trans hfw (fun i h => by have := HGB.out; have := HGX.out; simp at h ⊢; omega)
  clear hfw HA2 HS2 HX2 HF2
  refine (putVal_any ga gb gm _ _ nd cd A m_ u x ver l _ _ w3 HA3.out HS3.out (fun b o e => by have := HAA.out b o e; omega) (by omega) hnd hx0 hx1).mono ?_
  rintro E w4 ⟨rfl, ha4, hf4⟩
  have HA4 := Lib.hid ha4
  have hX4 := HX3.out.frm hf4 (by have := hga.out; simp; omega)
  have c2 : w4.cell? ⟨gx, 2, none⟩ = some (.int .u64 x) := hX4.at_ rfl
  have c3 : w4.cell? ⟨gx, 3, none⟩ = some (.slice A nd cd) := hX4.at_ rfl
  have HB4 := Lib.hid (HW3.out.1.frm hf4 (by have := HGB.out; simp; omega))
  have HF4 : Hid (Frm [ga, gb, gm] w w4) := HF3.out.trans hf4 (fun i h => by simp at h ⊢; omega)
  clear ha4 hf4 hX4 HA3 HS3 HX3 HF3
  go_wp2_with fail
  refine (encodedSize_any gx x A nd cd w4 c2 c3 (by omega) hx0 hx1).mono ?_
  rintro E w5 ⟨rfl, rfl⟩
  rw [← HVL.out.1]
  clear c2 c3
  go_wp2_with fail
  refine (encodeValue_skl (valB m_ u x l).length N2 w4 (by omega) (by have := HVL.out; omega)).mono ?_
  rintro E w5 ⟨rfl, rfl⟩
  obtain ⟨y, hy⟩ : ∃ y, w4.cell? ⟨b, 0, none⟩ = some y := ⟨_, HB4.out.at_ rfl⟩
  have hfz := HB4.out.frozen 0
  go_wp2
  go_ret
  rw [← HN1.out, ← HN2.out]
  refine ⟨a, b, rfl, HAE.out, HA4.out.frm (Frm.set w4 ⟨b, 0, none⟩ _) (by have := HGB.out; simp; omega) (by have := HGB.out; simp; omega) (by have := HGB.out; simp; omega), HB4.out.set_ 0 _, by have := HGB.out; have := HGX.out; omega, HF4.out.andSet _ _ (.inr (by have := HGB.out; have := HGX.out; simp; omega))⟩
end Go.Proofs.Ytanmgkpgfmkobaa

/- Heights by chance: any from 1 to 20. -/
namespace Go.Proofs.Ytanmgkpgfmkobaa
open Go.RowKit
set_option linter.unusedVariables false
set_option linter.unusedSimpArgs false
def listC (c0 c1 c2 c3 : Value) (A : Option Addr) (n c turn : Nat) : List Value := [c0, c1, c2, c3, .nilFunc, .slice A n c, .int .i64 turn]
def RandPost (g t : Nat) (c0 c1 c2 c3 : Value) (A : Option Addr) (n c turn : Nat) (w : World) (E : Ending) (w' : World) : Prop :=
  ∃ r : Int, E = .returned (.int .u32 r) ∧ Blk w' g t (listC c0 c1 c2 c3 A n c (turn + 1)) ∧ Frm [g] w w'
theorem fastRand_skl (g t n c turn : Nat) (c0 c1 c2 c3 : Value) (A : Option Addr) (rs : List Int) (w : World) (hb : Blk w g t (listC c0 c1 c2 c3 A n c turn)) (hs : Sl w A n (nums .u32 rs)) (hn : 1 ≤ n) (hn2 : n ≤ 1000000) (ht : turn ≤ 1000000) :
    Calls Try.prog 121 #[.pointer (some ⟨g, 0, none⟩)] w (RandPost g t c0 c1 c2 c3 A n c turn w) := by
  have d5 : w.cell? ⟨g, 5, none⟩ = some (.slice A n c) := hb.at_ rfl
  have d6 : w.cell? ⟨g, 6, none⟩ = some (.int .i64 turn) := hb.at_ rfl
  have f6 := hb.frozen 6
  obtain ⟨i, hi⟩ : ∃ i, i = turn % n := ⟨_, rfl⟩
  have hin : i < n := by rw [hi]; exact Nat.mod_lt _ (by omega)
  obtain ⟨gr, o, x, rfl, _, hx⟩ := hs.num hin
  have hmod : (turn : Int) % (n : Int) = (i : Int) := by rw [hi]; omega
  have h0 : ((n : Int) == 0) = false := by simp; omega
  have hm2 : IntKind.i64.wrap ((turn : Int).tmod (n : Int)) = (i : Int) := by rw [Int.tmod_eq_emod_of_nonneg (by omega), hmod]; exact IntWalk.i64_in _ (by omega)
  have hw : IntKind.i64.wrap ((turn : Int) + 1) = (turn : Int) + 1 := IntWalk.i64_in _ (by omega)
  have h3 : (0 : Int) ≤ (turn : Int) := by omega
  have h4 : (1 : Int) ≤ (n : Int) := by omega
  have HB := Lib.hid hb
  have HI := Lib.hid hi
  have HMM := Lib.hid (And.intro hmod hm2)
  clear hb hs hi hmod hm2
  go_enter Try.func121, Try.ntmps121
  go_wp2_with fail
  have hmod := HMM.out.1
  have hm2 := HMM.out.2
  go_quiet (fail)
  clear hmod hm2
  go_wp2
  go_ret
  refine ⟨x, rfl, ?_, ?_⟩
  · exact (HB.out.drewN nq).set_ 6 _
  · exact ((Frm.refl _ w).drewN nq).andSet _ _ (.inl (by simp))
/-- What a height by chance leaves: a height, and the place among the numbers. -/
def HeightPost (g t : Nat) (c0 c1 c2 c3 : Value) (A : Option Addr) (n c turn : Nat) (w : World) (E : Ending) (w' : World) : Prop :=
  ∃ h turn' : Nat, E = .returned (.int .i64 h) ∧ 1 ≤ h ∧ h ≤ 20 ∧ turn' ≤ turn + h ∧ Blk w' g t (listC c0 c1 c2 c3 A n c turn') ∧ Frm [g] w w'
theorem randomHeight_skl (g t n c turn : Nat) (c0 c1 c2 c3 : Value) (A : Option Addr) (rs : List Int) (w : World) (hb : Blk w g t (listC c0 c1 c2 c3 A n c turn)) (hs : Sl w A n (nums .u32 rs)) (hA : ∀ b o, A = some ⟨b, o, none⟩ → b ≠ g) (hn : 1 ≤ n) (hn2 : n ≤ 1000000) (ht : turn ≤ 900000) :
    Calls Try.prog 98 #[.pointer (some ⟨g, 0, none⟩)] w (HeightPost g t c0 c1 c2 c3 A n c turn w) := by
  have HB := Lib.hid hb
  have HS := Lib.hid hs
  have HA := Lib.hid hA
  clear hb hs hA
  go_enter Try.func98, Try.ntmps98
  go_wp2
  go_loopg [3] 20 (fun q v3 wr => ∃ (h turn' : Nat), v3 = .int .i64 h ∧ 1 ≤ h ∧ h ≤ 20 ∧ Hid (h + q = 21) ∧ Hid (turn' + 1 ≤ turn + h) ∧ Hid (Blk wr g t (listC c0 c1 c2 c3 A n c turn')) ∧ Hid (Frm [g] w wr))
  case atStart => exact ⟨1, turn, rfl, by omega, by omega, rfl, Nat.le_refl _, HB.out, Frm.refl _ _⟩
  case round =>
    obtain ⟨h, turn', rfl, h1, h2, hq, hts, hbb, hff⟩ := hrel
    by_cases hlt : h < 20
    · have hl2 : ((h : Int)) < 20 := by omega
      go_wp2_with fail
      refine (fastRand_skl g t n c turn' c0 c1 c2 c3 A rs wr hbb.out (HS.out.frm hff.out (fun b o e => by have := HA.out b o e; simpa using this)) hn hn2 (by have := hts.out; omega)).mono ?_
      rintro E w1 ⟨r, rfl, hb1, hf1⟩
      have HB1 := Lib.hid hb1
      have HF1 := Lib.hid hf1
      clear hb1 hf1
      by_cases hr : r ≤ 1431655765
      · go_wp2
        cases gk with
        | zero => exact absurd hq.out (by omega)
        | succ k1 =>
          go_roundg k1
          case measure => omega
          case rel => exact ⟨h + 1, turn' + 1, by go_num, by omega, by omega, by have := hq.out; show _ = _; omega, by have := hts.out; show _ ≤ _; omega, HB1.out, hff.out.trans HF1.out (fun i h => .inl h)⟩
      · go_wp2
        go_ret
        exact ⟨h, turn' + 1, rfl, h1, h2, by have := hts.out; omega, HB1.out, hff.out.trans HF1.out (fun i h => .inl h)⟩
    · obtain rfl : h = 20 := by omega
      go_wp2
      go_ret
      exact ⟨20, turn', rfl, h1, h2, by have := hts.out; omega, hbb.out, hff.out⟩
end Go.Proofs.Ytanmgkpgfmkobaa
