/- Texts that this claim shares with others, put together: M C1 C2 C3 C4 C5 C6 C7. -/
import Derived.Test.YtegaigpolhdicaaGreatProg
import Derived.WalkKit
import Derived.KernelRfl
import Derived.RowKit3
import Derived.Maps.AppendAt
import Derived.Deep.AppendLies
import Derived.Deep.RegionLaw
import Derived.Laws.CopyOwn
import Derived.Lib.Hide
import Derived.Deep.LoopGhost
import Derived.Deep.QuietTactic
import Derived.BigQuiet
import Derived.Deep.DeepCutAuto
import Derived.Deep.CutBlock
import Derived.Deep.RegionHeld3
import Derived.Laws.BitsLemmas
import Derived.Laws.BitsAllLaws
import Derived.Deep.Draws
import Derived.Lib.Bytealg
/- Words for memory that this seat's proofs share: slices that read as lists, rows of a call's own, append and copy from any source. -/
namespace Go.Proofs.YtegaigpolhdicaaGreat
open Go.RowKit

/-- The slice at A of length n reads as xs (elements of one cell). -/
def Sl (w : World) (A : Option Addr) (n : Nat) (xs : List Value) : Prop :=
  xs.length = n ∧ (0 < n → ∃ g o, A = some ⟨g, o, none⟩ ∧ ∀ j u, xs[j]? = some u → w.cell? ⟨g, o + j, none⟩ = some u)

/-- Numbers as values. -/
def nums (k : IntKind) (l : List Int) : List Value := l.map (Value.int k)
theorem nums_length (k : IntKind) (l : List Int) : (nums k l).length = l.length := by simp [nums]
theorem nums_append (k : IntKind) (l m : List Int) : nums k (l ++ m) = nums k l ++ nums k m := by simp [nums]
theorem nums_take (k : IntKind) (l : List Int) (n : Nat) : nums k (l.take n) = (nums k l).take n := by simp [nums]
theorem nums_drop (k : IntKind) (l : List Int) (n : Nat) : nums k (l.drop n) = (nums k l).drop n := by simp [nums]
theorem nums_get (k : IntKind) (l : List Int) (j : Nat) (h : j < l.length) : (nums k l)[j]? = some (.int k (l.getD j 0)) := by
  simp [nums, List.getElem?_map, List.getD_eq_getElem?_getD, List.getElem?_eq_getElem h]
theorem nums_one (k : IntKind) (l : List Int) : ∀ u ∈ nums k l, u.oneCell' = true := by
  intro u hu
  simp only [nums, List.mem_map] at hu
  obtain ⟨x, _, rfl⟩ := hu
  rfl
section
variable {w w' : World} {A : Option Addr} {n : Nat} {xs : List Value}
theorem Sl.nil (w : World) (A : Option Addr) : Sl w A 0 [] := ⟨rfl, fun h => absurd h (by omega)⟩
theorem Sl.keep (h : Sl w A n xs) (hk : ∀ p : Addr, p.block < w.heap.size → w'.cell? p = w.cell? p) : Sl w' A n xs :=
  ⟨h.1, fun hn => by
    obtain ⟨g, o, e, hc⟩ := h.2 hn
    refine ⟨g, o, e, fun j u hu => ?_⟩
    have := hc j u hu
    rw [hk _ (World.block_lt_of_cell? w _ this)]
    exact this⟩
theorem Sl.below (h : Sl w A n xs) (hb : Below w.heap.size w w') : Sl w' A n xs := h.keep fun _ hp => hb.cell hp
theorem Sl.drew (h : Sl w A n xs) : Sl w.drew A n xs := h
theorem Sl.drewN (h : Sl w A n xs) (k : Nat) : Sl (w.drewN k) A n xs := h
theorem Sl.alloc (h : Sl w A n xs) (o : Obj) : Sl (w.alloc o) A n xs := h.keep fun p hp => World.cell?_alloc_lt w o p hp
theorem Sl.at_ {k : Nat} (h : Sl w A n xs) (hk : k < n) : ∃ g o u, A = some ⟨g, o, none⟩ ∧ xs[k]? = some u ∧ w.cell? ⟨g, o + k, none⟩ = some u := by
  obtain ⟨g, o, e, hc⟩ := h.2 (by omega)
  have hl : k < xs.length := by have := h.1; omega
  exact ⟨g, o, xs[k], e, List.getElem?_eq_getElem hl, hc k _ (List.getElem?_eq_getElem hl)⟩
theorem Sl.take {m : Nat} (h : Sl w A n xs) (hm : m ≤ n) : Sl w A m (xs.take m) :=
  ⟨by rw [List.length_take, h.1]; omega, fun h0 => by
    obtain ⟨g, o, e, hc⟩ := h.2 (by omega)
    refine ⟨g, o, e, fun j u hu => ?_⟩
    rw [List.getElem?_take] at hu
    split at hu
    · exact hc j u hu
    · cases hu⟩
theorem Sl.drop {m c : Nat} (h : Sl w A n xs) (hm : m ≤ n) (hc : n ≤ c) : Sl w (if c = m then A else A.map fun x => x.add m) (n - m) (xs.drop m) :=
  ⟨by rw [List.length_drop, h.1], fun h0 => by
    obtain ⟨g, o, rfl, hcell⟩ := h.2 (by omega)
    rw [if_neg (by omega)]
    refine ⟨g, o + m, ?_, fun j u hu => ?_⟩
    · simp only [Option.map_some, Addr.add]
      by_cases h1 : m = 0
      · subst h1; simp
      · simp [h1]
    · rw [List.getElem?_drop] at hu
      have := hcell _ u hu
      rw [← Nat.add_assoc] at this
      exact this⟩
theorem Sl.len (h : Sl w A n xs) : xs.length = n := h.1
theorem Sl.addr (h : Sl w A n xs) (hn : 0 < n) : ∃ g o, A = some ⟨g, o, none⟩ := by
  obtain ⟨g, o, e, _⟩ := h.2 hn
  exact ⟨g, o, e⟩
end

theorem own_sl {w : World} {base e n : Nat} {v : Value} {xs : List Value} (h : w.ownsRow base e 1 v n xs) :
    ∃ A c, v = .slice A n c ∧ n ≤ c ∧ Sl w A n xs := by
  obtain ⟨hl, h2⟩ := h
  rcases h2 with ⟨rfl, rfl⟩ | ⟨g, cap, cur, rfl, hg, hh, hnc, hcm, hcs, ht⟩
  · exact ⟨none, 0, rfl, Nat.le_refl _, by simpa using hl, fun h => absurd h (by omega)⟩
  · refine ⟨some ⟨g, 0, none⟩, cap, rfl, hnc, by simpa using hl, fun _ => ⟨g, 0, rfl, fun j u hu => ?_⟩⟩
    have h0 : w.ownsRow base e 1 (.slice (some ⟨g, 0, none⟩) n cap) n xs := ⟨hl, .inr ⟨g, cap, cur, rfl, hg, hh, hnc, hcm, hcs, ht⟩⟩
    have hj : j < n := by
      have := (List.getElem?_eq_some_iff.1 hu).1
      omega
    rw [Nat.zero_add, h0.cellAt j (by omega)]
    exact hu

/-- What a call that makes bytes (numbers) hands back: a row of its own, nothing that was there has turned. -/
def Made (w : World) (e : Nat) (xs : List Value) (E : Ending) (w' : World) : Prop :=
  ∃ v, E = .returned v ∧ w'.ownsRow w.heap.size e 1 v xs.length xs ∧ Below w.heap.size w w'

theorem add_none (g o j : Nat) : (⟨g, o, none⟩ : Addr).add j = ⟨g, o + j, none⟩ := by
  unfold Addr.add
  split
  · subst_vars; simp
  · rfl
theorem Sl.adds {w : World} {g o n : Nat} {xs : List Value} (h : Sl w (some ⟨g, o, none⟩) n xs) : ∀ j u, xs[j]? = some u → w.cell? ((⟨g, o, none⟩ : Addr).add j) = some u := by
  intro j u hu
  have hj : j < n := by have := (List.getElem?_eq_some_iff.1 hu).1; have := h.1; omega
  obtain ⟨g', o', e, hc⟩ := h.2 (by omega)
  injection e with e
  injection e with e1 e2
  subst e1 e2
  rw [add_none]
  exact hc j u hu

section
variable {P : Program} (w : World)
theorem run_append_nothing (base : Nat) (t ty e : TypeId) (i : TypeInfo) (size : Nat) (ht : P.underlying t = some (.slice e)) (hi : P.info? e = some i)
    (v : Value) (n : Nat) (xs : List Value) (hown : w.ownsRow base e size v n xs) (A : Option Addr) (c : Nat) (hA : A = none ∨ ∃ a, A = some a) :
    (Builtin.append_ #[t, t] ty #[v, .slice A 0 c]).run P w = .ok v w := by
  have hl : ∀ (x : Addr), (loadCells x 0).run P w = .ok #[] w := fun x => by simpa using run_loadCells_list (P := P) w x [] (by simp)
  rcases hown.2 with ⟨rfl, rfl⟩ | ⟨g, cap, cur, rfl, _, _, hnc, _⟩
  · cases A <;> simp [Builtin.append_, run_underlying ht, sizeOf, typeInfo, hi, Builtin.lenOf, Builtin.firstCells, hl]
  · cases A <;> simp [Builtin.append_, run_underlying ht, sizeOf, typeInfo, hi, Builtin.lenOf, Builtin.firstCells, hnc, storeCells, hl]

/-- append of whatever slice of one-cell elements. -/
theorem run_append_sl (base : Nat) (t ty e : TypeId) (z : Value) (bytes : Nat) (ht : P.underlying t = some (.slice e))
    (hinfo : (P.info? e).map (fun i => (i.zero, i.size, i.bytes)) = some (some z, 1, bytes)) (hz : z.cells.size = 1)
    (v : Value) (n : Nat) (xs : List Value) (hown : w.ownsRow base e 1 v n xs)
    (A : Option Addr) (m c : Nat) (news : List Value) (hr : Sl w A m news) (h1 : ∀ u ∈ news, u.oneCell' = true)
    (hbytes : (n + m) * bytes ≤ 140737488355328) (hb0 : 0 < bytes) (hbase : base ≤ w.heap.size) :
    ∃ v' w', (Builtin.append_ #[t, t] ty #[v, .slice A m c]).run P w = .ok v' w' ∧ w'.ownsRow base e 1 v' (n + m) (xs ++ news) ∧ w.grownBy w' v.ownBlock ∧
      (v'.ownBlock = v.ownBlock ∨ v'.ownBlock = some w.heap.size) := by
  obtain ⟨i, hi, hz0, hz1, hz2⟩ := info_parts hinfo
  rcases Nat.eq_zero_or_pos m with h0 | h0
  · subst h0
    have hn : news = [] := List.eq_nil_of_length_eq_zero hr.1
    subst hn
    exact ⟨v, w, run_append_nothing w base t ty e i 1 ht hi v n xs hown A c (by cases A <;> simp), by simpa using hown, World.grownBy.refl w _, .inl rfl⟩
  · obtain ⟨g, o, rfl, hc⟩ := hr.2 h0
    have hm : n + m ≤ maxLen := by
      simp only [maxLen]
      have : (n + m) * 1 ≤ (n + m) * bytes := Nat.mul_le_mul_left _ hb0
      omega
    obtain ⟨v', w', hrun, h2, h3, _, h5⟩ := run_append_own_at (P := P) w base t ty e i z 1 bytes ht hi hz0 hz1 hz2 hz (by omega) v n xs hown ⟨g, o, none⟩ m c news (by rw [hr.1]; omega)
      (Sl.adds ⟨hr.1, fun _ => ⟨g, o, rfl, hc⟩⟩) h1 hm hbytes hbase
    exact ⟨v', w', hrun, h2, h3, h5⟩

theorem wpList_append_sl {ops : Array Oper} {rest : List Oper} {o : Oper} {a : Act} {Q : Exit → Act → World → Prop} (hgd : o.guard = none) (s x : Operand) (t : TypeId)
    (ho : o.op = .call { callee := .builtin .append, args := #[s, x], argTypes := #[t, t] })
    (base : Nat) (e : TypeId) (z : Value) (bytes : Nat) (ht : P.underlying t = some (.slice e))
    (hinfo : (P.info? e).map (fun i => (i.zero, i.size, i.bytes)) = some (some z, 1, bytes)) (hz : z.cells.size = 1)
    (v : Value) (n : Nat) (xs : List Value) (hs : a.eval s = v) (hown : w.ownsRow base e 1 v n xs)
    (A : Option Addr) (m c : Nat) (news : List Value) (hx : a.eval x = .slice A m c) (hr : Sl w A m news) (h1 : ∀ u ∈ news, u.oneCell' = true)
    (hbytes : (n + m) * bytes ≤ 140737488355328) (hb0 : 0 < bytes) (hbase : base ≤ w.heap.size)
    (h : ∀ v' w', w'.ownsRow base e 1 v' (n + m) (xs ++ news) → w.grownBy w' v.ownBlock → (v'.ownBlock = v.ownBlock ∨ v'.ownBlock = some w.heap.size) → wpList P ops Q rest (a.put o.dst v') w') : wpList P ops Q (o :: rest) a w := by
  refine wpList_plain hgd fun K hK => ?_
  obtain ⟨v', w', hrun, h2, h3, h4⟩ := run_append_sl (P := P) w base t o.type e z bytes ht hinfo hz v n xs hown A m c news hr h1 hbytes hb0 hbase
  unfold Oper.wp execOp
  simp only [ho, resolve, invoke, builtin, Sem.run_bind, Sem.run_pure, Result.andThen_ok, List.map_toArray, List.map_cons, List.map_nil, hs, hx, hrun]
  exact hK _ _ (h v' w' h2 h3 h4)
end

theorem sl_one (w : World) (x : Value) (t : TypeId) : Sl (w.alloc (.cells #[x] t)) (some ⟨w.heap.size, 0, none⟩) 1 [x] :=
  ⟨rfl, fun _ => ⟨w.heap.size, 0, rfl, fun j u hu => by
    have := cell_one_new w x t j u hu
    rwa [add_none] at this⟩⟩


/-- Block g is just the cells cs of type t. -/
def Blk (w : World) (g t : Nat) (cs : List Value) : Prop := w.heap[g]? = some (.cells cs.toArray t (0, 0))
/-- Block g has been written, and nothing else that was there. -/
def Wrote (w : World) (g t : Nat) (cs : List Value) (w' : World) : Prop := Blk w' g t cs ∧ w.grownBy w' (some g)

section
variable {w w' : World} {g t : Nat} {cs : List Value}
theorem Blk.cell (h : Blk w g t cs) (i : Nat) : w.cell? ⟨g, i, none⟩ = cs[i]? := by
  have := cell_of_row w g i cs.toArray t (0, 0) h
  simpa using this
theorem Blk.frozen (h : Blk w g t cs) (i : Nat) : w.frozen? ⟨g, i, none⟩ = false := by
  unfold Blk at h
  simp [World.frozen?, h]
theorem Blk.lt (h : Blk w g t cs) : g < w.heap.size := (Array.getElem?_eq_some_iff.1 h).1
theorem Blk.set_ (h : Blk w g t cs) (i : Nat) (u : Value) : Blk (w.setCell ⟨g, i, none⟩ u) g t (cs.set i u) := by
  unfold Blk at h ⊢
  simp [World.setCell, Array.getElem?_modify, h]
theorem Blk.of_block (h : Blk w g t cs) (e : w'.heap[g]? = w.heap[g]?) : Blk w' g t cs := e.trans h
theorem Blk.drew (h : Blk w g t cs) : Blk w.drew g t cs := h
theorem Blk.alloc (h : Blk w g t cs) (o : Obj) : Blk (w.alloc o) g t cs := (Below.heap_alloc w o g h.lt).trans h
theorem Blk.far (h : Blk w g t cs) {p : Addr} (hp : g ≠ p.block) (u : Value) : Blk (w.setCell p u) g t cs := (Below.heap_setCell w p u g hp).trans h
theorem Blk.below {B : Nat} (h : Blk w g t cs) (hb : Below B w w') (hg : g < B) : Blk w' g t cs := (hb.block g hg).trans h
theorem Blk.grown {row : Option Nat} (h : Blk w g t cs) (hb : w.grownBy w' row) (hg : some g ≠ row) : Blk w' g t cs := (hb.block g h.lt hg).trans h
theorem Blk.new (w : World) (t : Nat) (cs : List Value) : Blk (w.alloc (.cells cs.toArray t)) w.heap.size t cs := heap_alloc_new w _
theorem Blk.sl {off n : Nat} (h : Blk w g t cs) (hl : off + n ≤ cs.length) : Sl w (some ⟨g, off, none⟩) n ((cs.drop off).take n) :=
  ⟨by rw [List.length_take, List.length_drop]; omega, fun _ => ⟨g, off, rfl, fun j u hu => by
    rw [h.cell, ← hu, List.getElem?_take, List.getElem?_drop]
    split
    · rfl
    · have := (List.getElem?_eq_some_iff.1 hu).1
      rw [List.length_take, List.length_drop] at this
      omega⟩⟩
theorem Wrote.sets (h : Blk w g t cs) (i : Nat) (u : Value) : Wrote w g t (cs.set i u) (w.setCell ⟨g, i, none⟩ u) :=
  ⟨h.set_ i u, rfl, rfl, rfl, by simp [World.setCell], fun k _ hk => Below.heap_setCell w _ u k (fun e => hk (e ▸ rfl))⟩
theorem Wrote.trans {cs1 cs2 : List Value} {w1 w2 : World} (h : Wrote w g t cs1 w1) (k : Wrote w1 g t cs2 w2) : Wrote w g t cs2 w2 := ⟨k.1, grownBy_trans' h.2 k.2⟩
  where grownBy_trans' {a b c : World} {row : Option Nat} (h : a.grownBy b row) (k : b.grownBy c row) : a.grownBy c row :=
    ⟨k.os.trans h.os, k.tape.trans h.tape, k.output.trans h.output, Nat.le_trans h.size k.size, fun i hi hne => (k.block i (Nat.lt_of_lt_of_le hi h.size) hne).trans (h.block i hi hne)⟩
theorem below_wrote {B : Nat} {w0 : World} (h : Below B w0 w) (hb : B ≤ g) (hB : B ≤ w.heap.size) (k : Wrote w g t cs w') : Below B w0 w' := h.grown k.2 hB (by intro k e; injection e with e; omega)
theorem own_blk {base e n c : Nat} {A : Option Addr} {xs : List Value} (h : w.ownsRow base e 1 (.slice A n c) n xs) (hn : 0 < n) :
    ∃ g cur, A = some ⟨g, 0, none⟩ ∧ base ≤ g ∧ Blk w g e cur ∧ n ≤ c ∧ cur.length = c ∧ cur.take n = xs := by
  rcases h.2 with ⟨h1, h2⟩ | ⟨g, cap, cur, h1, hg, hh, hnc, hcm, hcs, ht⟩
  · omega
  · injection h1 with h1 _ h3
    subst h1 h3
    exact ⟨g, cur.toList, rfl, hg, by simpa [Blk] using hh, hnc, by simpa using hcs, by simpa using ht⟩
theorem blk_own {base n c : Nat} (h : Blk w g t cs) (hb : base ≤ g) (hn : n ≤ c) (hc : cs.length = c) (hm : c ≤ 9223372036854775807) : w.ownsRow base t 1 (.slice (some ⟨g, 0, none⟩) n c) n (cs.take n) :=
  ⟨by rw [List.length_take]; omega, .inr ⟨g, c, cs.toArray, rfl, hb, h, hn, by simpa [maxLen] using hm, by simpa using hc, by simp⟩⟩
end

/-- copy into a block that is known whole, from whatever slice. -/
theorem wpList_copy_blk {P : Program} {w : World} {ops : Array Oper} {rest : List Oper} {o : Oper} {a : Act} {Q : Exit → Act → World → Prop} (hgd : o.guard = none) (d s : Operand) (dT sT : TypeId)
    (ho : o.op = .call { callee := .builtin .copy, args := #[d, s], argTypes := #[dT, sT] }) (elem : TypeId) (hu : P.underlying dT = some (.slice elem)) (hsz : (P.info? elem).map (·.size) = some 1)
    (sp dp : Option Addr) (g off dLen dCap sLen sCap t : Nat) (cur xs : List Value) (hd : a.eval d = .slice dp dLen dCap) (hdp : 0 < dLen → dp = some ⟨g, off, none⟩) (hs : a.eval s = .slice sp sLen sCap)
    (hg : Blk w g t cur) (hr : Sl w sp sLen xs) (hfit0 : off + dLen ≤ cur.length) (h1 : ∀ v ∈ xs, v.oneCell' = true) (m : Nat) (hm : Nat.min sLen dLen = m)
    (h : ∀ w', Wrote w g t (splice cur off (xs.take dLen)) w' → wpList P ops Q rest (a.put o.dst (.int .i64 m)) w') :
    wpList P ops Q (o :: rest) a w := by
  subst hm
  have hl : (xs.take dLen).length = Nat.min sLen dLen := by rw [List.length_take, hr.1, Nat.min_comm]
  have hfit : off + Nat.min sLen dLen ≤ cur.length := by have : Nat.min sLen dLen ≤ dLen := Nat.min_le_right _ _; omega
  by_cases h0 : Nat.min sLen dLen = 0
  · refine wpList_copy_nothing hgd d s dT sT ho elem hu hsz dp sp dLen dCap sLen sCap hd hs h0 ?_
    have hn : xs.take dLen = [] := List.eq_nil_of_length_eq_zero (by rw [hl, h0])
    have hq := h w ⟨by rw [hn]; simpa [splice] using hg, World.grownBy.refl w _⟩
    rw [h0] at hq
    exact hq
  · have hpos : 0 < sLen ∧ 0 < dLen := by
      constructor
      · rcases Nat.eq_zero_or_pos sLen with e | e
        · subst e; exact absurd (Nat.zero_min dLen) h0
        · exact e
      · rcases Nat.eq_zero_or_pos dLen with e | e
        · subst e; exact absurd (Nat.min_zero sLen) h0
        · exact e
    obtain ⟨g1, o1, rfl, hc⟩ := hr.2 hpos.1
    obtain rfl := hdp hpos.2
    refine wpList_copy_own hgd d s dT sT ho elem hu hsz g off dLen dCap ⟨g1, o1, none⟩ sLen sCap hd hs cur.toArray t hg (xs.take dLen) (by rw [hl]) ?_ (by simpa [hl] using hfit) (fun v hv => h1 v (List.mem_of_mem_take hv)) ?_
    · intro j v hv
      rw [add_none]
      rw [List.getElem?_take] at hv
      split at hv
      · exact hc j v hv
      · cases hv
    · rw [hl]
      refine h _ ⟨?_, ?_⟩
      · have := setRow_heap w g cur.toArray (splice cur off (xs.take dLen)).toArray t (0, 0) hg
        simpa [splice, hl, Blk] using this
      · exact ⟨rfl, rfl, rfl, by simp [World.setRow], fun k _ hk => setRow_other w g k _ (fun e => hk (e ▸ rfl))⟩

theorem splice_two (cs : List Value) (off : Nat) (a b : Value) (h : off + 2 ≤ cs.length) : (cs.set off a).set (off + 1) b = splice cs off [a, b] := by
  apply List.ext_getElem?
  intro i
  have hl : (cs.take off).length = off := by rw [List.length_take]; omega
  simp only [splice, List.getElem?_set, List.length_set, List.length_cons, List.length_nil, Nat.zero_add]
  rcases Nat.lt_or_ge i off with h1 | h1
  · rw [List.getElem?_append_left (by omega), List.getElem?_take_of_lt h1, if_neg (by omega), if_neg (by omega)]
  · rw [List.getElem?_append_right (by omega), hl]
    by_cases e1 : i = off
    · subst e1; simp; omega
    · by_cases e2 : i = off + 1
      · subst e2; simp; omega
      · rw [if_neg (by omega), if_neg (by omega)]
        obtain ⟨m, rfl⟩ : ∃ m, i = off + (2 + m) := ⟨i - off - 2, by omega⟩
        have : off + (2 + m) - off = m + 1 + 1 := by omega
        rw [this]
        simp [List.getElem?_drop, Nat.add_assoc]
theorem splice_splice (cs : List Value) (off off2 : Nat) (a b : List Value) (h2 : off2 = off + a.length) (h : off + a.length + b.length ≤ cs.length) : splice (splice cs off a) off2 b = splice cs off (a ++ b) := by
  subst h2
  have hl : (cs.take off).length = off := by rw [List.length_take]; omega
  have e1 : (splice cs off a).take (off + a.length) = cs.take off ++ a := by
    rw [splice, ← List.append_assoc]
    exact List.take_left' (by rw [List.length_append, hl])
  have e2 : (splice cs off a).drop (off + a.length + b.length) = cs.drop (off + a.length + b.length) := by
    rw [splice, ← List.append_assoc, List.drop_append]
    have : (cs.take off ++ a).length = off + a.length := by rw [List.length_append, hl]
    rw [this, List.drop_eq_nil_of_le (by omega), List.nil_append, List.drop_drop]
    congr 1; omega
  rw [splice, e1, e2]
  simp [splice, Nat.add_assoc]
theorem splice_len (cs : List Value) (off : Nat) (a : List Value) (h : off + a.length ≤ cs.length) : (splice cs off a).length = cs.length := length_splice cs off a h
theorem splice_zero (cs a : List Value) (h : a.length = cs.length) : splice cs 0 a = a := by
  simp [splice, h]
theorem wf64 {x : Int} (h : (Lit.int .u64 x).wf = true) : 0 ≤ x ∧ Hid (x ≤ 18446744073709551615) := by
  simp only [Lit.wf, IntKind.min, IntKind.max, IntKind.signed, IntKind.bits, Bool.and_eq_true, decide_eq_true_eq] at h
  refine ⟨by simpa using h.1, ?_⟩
  show _ ≤ _
  simpa using h.2
theorem wf8 {x : Int} (h : (Lit.int .u8 x).wf = true) : 0 ≤ x ∧ x ≤ 255 := by
  simp [Lit.wf, IntKind.min, IntKind.max, IntKind.signed, IntKind.bits] at h; omega

end Go.Proofs.YtegaigpolhdicaaGreat

/- Contracts: copies of bytes, numbers in as few bytes as they need. -/
namespace Go.Proofs.YtegaigpolhdicaaGreat
open Go.RowKit
set_option linter.unusedVariables false
set_option linter.unusedSimpArgs false

theorem infoU8 : (Tryz.prog.info? 5).map (fun i => (i.zero, i.size, i.bytes)) = some (some (.int .u8 0), 1, 1) := by kernel_rfl

theorem own_any (A : Option Addr) (n c : Nat) (l : List Int) (w : World) (h : Sl w A n (nums .u8 l)) (hn : n ≤ 140737488355328) :
    Calls Tryz.prog 27 #[.slice A n c] w (Made w 5 (nums .u8 l)) := by
  have hlen : (nums .u8 l).length = n := h.1
  have Hl := Lib.hid hlen
  clear hlen
  go_enter Tryz.func27, Tryz.ntmps27
  go_wp2_with (at_builtin; refine wpList_append_sl _ rfl (.tmp 3) (.tmp 4) 36 rfl w.heap.size 5 (.int .u8 0) 1 Tryz.underlying36 infoU8 rfl (.slice (some ⟨w.heap.size, 0, none⟩) 0 0) 0 [] rfl ?c1 A n c (nums .u8 l) rfl (h.alloc _) (nums_one _ _) ?c2 (by omega) ?c3 ?_; (case c1 => exact World.ownsRow_made w #[] 0 (Nat.le_refl _) (by simp [maxLen]) rfl); (case c2 => omega); (case c3 => simp); intro v1 w1 hown1 hg1 hat1)
  go_ret
  refine ⟨v1, rfl, ?_, ?_⟩
  · rw [Hl.out]; simpa using hown1
  · exact ((Below.refl _ _).alloc (Nat.le_refl _) _).grown hg1 (by simp) (by simp [Value.ownBlock])

/-- The bytes of a number, the lowest seven bits first (fuel: how many more). -/
def vint : Nat → Int → List Int
  | 0, x => [x]
  | k + 1, x => if x < 128 then [x] else (x % 128 + 128) :: vint k (x / 128)
/-- w' is w with new blocks, and v's row (or its new one) written. -/
def Onto (w : World) (v : Value) (w' : World) (v' : Value) : Prop :=
  w.grownBy w' v.ownBlock ∧ (v'.ownBlock = v.ownBlock ∨ ∃ b, v'.ownBlock = some b ∧ w.heap.size ≤ b)
theorem Onto.refl (w : World) (v : Value) : Onto w v w v := ⟨World.grownBy.refl w _, .inl rfl⟩
theorem grownBy_then {a b c : World} {r s : Option Nat} (h : a.grownBy b r) (k : b.grownBy c s) (hs : s = r ∨ ∃ x, s = some x ∧ a.heap.size ≤ x) : a.grownBy c r :=
  ⟨k.os.trans h.os, k.tape.trans h.tape, k.output.trans h.output, Nat.le_trans h.size k.size, fun i hi hne => (k.block i (Nat.lt_of_lt_of_le hi h.size) (by
    rcases hs with rfl | ⟨x, rfl, hx⟩
    · exact hne
    · intro e; injection e with e; omega)).trans (h.block i hi hne)⟩
theorem Onto.step {w w1 w2 : World} {v v1 v2 : Value} (h : Onto w v w1 v1) (o : Obj) (hg : (w1.alloc o).grownBy w2 v1.ownBlock) (ha : v2.ownBlock = v1.ownBlock ∨ v2.ownBlock = some (w1.alloc o).heap.size) : Onto w v w2 v2 := by
  have h1 : w.grownBy (w1.alloc o) v.ownBlock := grownBy_then h.1 (World.grownBy_alloc w1 o v.ownBlock) (.inl rfl)
  have hs : w.heap.size ≤ (w1.alloc o).heap.size := h1.size
  refine ⟨grownBy_then h1 hg h.2, ?_⟩
  rcases ha with ha | ha
  · rw [ha]; exact h.2
  · exact .inr ⟨_, ha, hs⟩

end Go.Proofs.YtegaigpolhdicaaGreat

/- Contracts: numbers in a fixed number of bytes, keys with versions. -/
namespace Go.Proofs.YtegaigpolhdicaaGreat
open Go.RowKit
set_option linter.unusedVariables false
set_option linter.unusedSimpArgs false

/-- Numbers in two, four and eight bytes, the highest one first. -/
def be16 (v : Int) : List Int := [v / 256, v % 256]
def be32 (v : Int) : List Int := be16 (v / 65536) ++ be16 (v % 65536)
def be64 (v : Int) : List Int := be32 (v / 4294967296) ++ be32 (v % 4294967296)

theorem put16_any (g off n c t : Nat) (v : Int) (cs : List Value) (w : World) (h : Blk w g t cs) (h2 : 2 ≤ n) (hc : off + 2 ≤ cs.length) (hv : 0 ≤ v) (hv2 : v ≤ 65535) :
    Calls Tryz.prog 39 #[.slice (some ⟨g, off, none⟩) n c, .int .u16 v] w fun e w' => e = .returned (.tuple #[]) ∧
      Wrote w g t (splice cs off (nums .u8 (be16 v))) w' := by
  have hc0 : w.cell? ⟨g, off, none⟩ = some cs[off] := by rw [h.cell, List.getElem?_eq_getElem]
  have hc1 : w.cell? ⟨g, off + 1, none⟩ = some cs[off + 1] := by rw [h.cell, List.getElem?_eq_getElem]
  have hf0 := h.frozen off
  have hf1 := h.frozen (off + 1)
  have H : Hid (Blk w g t cs) := h
  clear h
  go_enter Tryz.func39, Tryz.ntmps39
  go_wp2
  go_end0
  have hs := splice_two cs off (.int .u8 (v / 256)) (.int .u8 (v % 256)) hc
  exact ⟨rfl, by simp only [nums, be16, List.map_cons, List.map_nil]; rw [← hs]; exact (Wrote.sets H.out _ _).trans (Wrote.sets (H.out.set_ _ _) _ _)⟩

theorem put32_any (g off n c t : Nat) (v : Int) (cs : List Value) (w : World) (h : Blk w g t cs) (h2 : 4 ≤ n) (h3 : n ≤ c) (hc : off + 4 ≤ cs.length) (hv : 0 ≤ v) (hv2 : v ≤ 4294967295) :
    Calls Tryz.prog 37 #[.slice (some ⟨g, off, none⟩) n c, .int .u32 v] w fun e w' => e = .returned (.tuple #[]) ∧
      Wrote w g t (splice cs off (nums .u8 (be32 v))) w' := by
  have H : Hid (Blk w g t cs) := h
  clear h
  go_enter Tryz.func37, Tryz.ntmps37
  go_wp2_with fail
  refine (put16_any g off n c t _ cs w H.out (by omega) (by omega) (by omega) (by omega)).mono ?_
  rintro e w1 ⟨rfl, h1⟩
  have H1 := Lib.hid h1
  clear h1
  go_wp2_with fail
  rw [IntKind.wrap_u16]
  refine (put16_any g (off + 2) 2 (c - 2) t _ _ w1 H1.out.1 (by omega) (by rw [splice_len _ _ _ (by simp [nums, be16]; omega)]; omega) (by omega) (by omega)).mono ?_
  rintro e w2 ⟨rfl, h2⟩
  have H2 := Lib.hid h2
  clear h2
  go_wp2
  go_end0
  refine ⟨rfl, ?_⟩
  have := H1.out.trans H2.out
  rw [splice_splice _ _ _ _ _ (by simp [nums, be16]) (by simp [nums, be16]; omega), ← nums_append] at this
  exact this

theorem put64_any (g off n c t : Nat) (v : Int) (cs : List Value) (w : World) (h : Blk w g t cs) (h2 : 8 ≤ n) (h3 : n ≤ c) (hc : off + 8 ≤ cs.length) (hv : 0 ≤ v) (hv2 : Hid (v ≤ 18446744073709551615)) :
    Calls Tryz.prog 33 #[.slice (some ⟨g, off, none⟩) n c, .int .u64 v] w fun e w' => e = .returned (.tuple #[]) ∧
      Wrote w g t (splice cs off (nums .u8 (be64 v))) w' := by
  have H : Hid (Blk w g t cs) := h
  clear h
  go_enter Tryz.func33, Tryz.ntmps33
  go_wp2_with fail
  rw [show v / 4294967296 % 4294967296 = v / 4294967296 from by have := hv2.out; omega]
  refine (put32_any g off n c t _ cs w H.out (by omega) (by omega) (by omega) (by omega) (by have := hv2.out; omega)).mono ?_
  rintro e w1 ⟨rfl, h1⟩
  have H1 := Lib.hid h1
  clear h1
  go_wp2_with fail
  refine (put32_any g (off + 4) 4 (c - 4) t _ _ w1 H1.out.1 (by omega) (by omega) (by rw [splice_len _ _ _ (by simp [nums, be16, be32]; omega)]; omega) (by omega) (by omega)).mono ?_
  rintro e w2 ⟨rfl, h2⟩
  have H2 := Lib.hid h2
  clear h2
  go_wp2
  go_end0
  refine ⟨rfl, ?_⟩
  have := H1.out.trans H2.out
  rw [splice_splice _ _ _ _ _ (by simp [nums, be16, be32]) (by simp [nums, be16, be32]; omega), ← nums_append] at this
  exact this

/-- A key with a version, in bytes. -/
def keyB (l : List Int) (ts : Int) : List Int := l ++ be64 (18446744073709551615 - ts)
theorem be64_len (v : Int) : (be64 v).length = 8 := rfl
theorem wrapU64 (x : Int) (h0 : 0 ≤ x) (h1 : x ≤ 18446744073709551615) : IntKind.u64.wrap x = x := by
  simp only [IntKind.wrap, IntKind.bits, IntKind.signed]
  simp
  omega
theorem sizeU8 : (Tryz.prog.info? 5).map (·.size) = some 1 := by kernel_rfl
set_option maxRecDepth 100000 in
theorem keyWithTs_any (A : Option Addr) (n c : Nat) (l : List Int) (ts : Int) (w : World) (h : Sl w A n (nums .u8 l)) (hn : n ≤ 1000000000) (hv : 0 ≤ ts) (hv2 : Hid (ts ≤ 18446744073709551615)) :
    Calls Tryz.prog 26 #[.slice A n c, .int .u64 ts] w (Made w 5 (nums .u8 (keyB l ts))) := by
  have hlen : l.length = n := by have := h.1; rw [nums_length] at this; exact this
  have Hl := Lib.hid hlen
  clear hlen
  obtain ⟨i0, hi0, hz0, hz1, hz2⟩ := info_parts infoU8
  go_enter Tryz.func26, Tryz.ntmps26
  go_wp2_with (first | (at_make; refine wpList_make_full _ rfl (.tmp 8) (.tmp 8) 36 rfl w.heap.size 5 i0 (.int .u8 0) 1 Tryz.underlying36 hi0 hz0 hz1 .i64 .i64 _ _ (n + 8) rfl rfl (by omega) (by omega) (by rw [hz2]; omega) (by simp [maxLen]; omega) (Nat.le_refl _) ?_; intro w1 hown1 hg1; obtain ⟨g, cur, hA1, hgb, hblk, hnc, hcl, hct⟩ := own_blk hown1 (by omega); injection hA1 with hA1; injection hA1 with hA1 _; subst hA1; have HG1 := Lib.hid hg1; have HB1 : Hid (Blk w1 w.heap.size 5 cur) := hblk; have HC1 := Lib.hid hcl; clear hown1 hg1 hblk hcl hct hi0 hz0 hz1 hz2) | (show wpList _ _ _ (Oper.mk (some 12) _ _ _ _ _ :: _) _ _; go_loud (refine wpList_copy_blk rfl (.tmp 10) (.tmp 11) 36 36 rfl 5 Tryz.underlying36 sizeU8 A _ w.heap.size 0 (n + 8) (n + 8) n c 5 cur (nums .u8 l) rfl (fun _ => rfl) rfl HB1.out ?c1 ?c2 (nums_one _ _) n (Nat.min_eq_left (by omega)) ?_; (case c1 => exact h.below ((Below.refl _ _).grown HG1.out (Nat.le_refl _) (by simp))); (case c2 => have := HC1.out; omega); intro w2 hw2; have HW2 := Lib.hid hw2; clear hw2)) | fail)
  rw [wrapU64 (18446744073709551615 - ts) (by have := hv2.out; omega) (by omega)]
  refine (put64_any w.heap.size n 8 8 5 _ _ w2 HW2.out.1 (by omega) (by omega) ?d1 (by have := hv2.out; omega) (by show _ ≤ _; omega)).mono ?_
  case d1 => rw [splice_len _ _ _ (by rw [List.length_take, nums_length, Hl.out]; have := HC1.out; omega)]; have := HC1.out; omega
  rintro e w3 ⟨rfl, h3⟩
  have H3 := Lib.hid h3
  clear h3
  go_wp2
  go_ret
  have hw := HW2.out.trans H3.out
  have e1 : (nums .u8 l).take (n + 8) = nums .u8 l := List.take_of_length_le (by rw [nums_length, Hl.out]; omega)
  rw [e1, splice_splice _ _ _ _ _ (by rw [nums_length, Hl.out]; omega) (by rw [nums_length, Hl.out, nums_length, be64_len]; have := HC1.out; omega), ← nums_append] at hw
  have hk : (keyB l ts).length = n + 8 := by rw [keyB, List.length_append, Hl.out, be64_len]
  rw [splice_zero _ _ (by rw [nums_length]; have := HC1.out; simp [be64_len]; have := Hl.out; omega)] at hw
  refine ⟨_, rfl, ?_, ?_⟩
  · have ho := blk_own (base := w.heap.size) (n := n + 8) (c := n + 8) hw.1 (Nat.le_refl _) (Nat.le_refl _) (by rw [nums_length]; exact hk) (by omega)
    rw [List.take_of_length_le (by rw [nums_length]; exact Nat.le_of_eq hk)] at ho
    rw [nums_length, hk]
    exact ho
  · exact below_wrote ((Below.refl _ _).grown HG1.out (Nat.le_refl _) (by simp)) (Nat.le_refl _) HG1.out.size hw
end Go.Proofs.YtegaigpolhdicaaGreat

/- Contracts: what the references do with bytes: compare, join, numbers with the highest byte first. -/
namespace Go.Proofs.YtegaigpolhdicaaGreat
open Go.RowKit
set_option linter.unusedVariables false
set_option linter.unusedSimpArgs false

/-- Two lists of numbers compared: the first that differs decides. -/
def cmpL : List Int → List Int → Int
  | [], [] => 0
  | [], _ :: _ => -1
  | _ :: _, [] => 1
  | a :: l, b :: m => if a = b then cmpL l m else if a < b then -1 else 1
theorem cmpL_range (l m : List Int) : cmpL l m = -1 ∨ cmpL l m = 0 ∨ cmpL l m = 1 := by
  induction l generalizing m with
  | nil => cases m <;> simp [cmpL]
  | cons a l ih =>
    cases m with
    | nil => simp [cmpL]
    | cons b m =>
      simp only [cmpL]
      split
      · exact ih m
      · split <;> simp
theorem cmpL_eq (l m : List Int) : cmpL l m = 0 ↔ l = m := by
  induction l generalizing m with
  | nil => cases m <;> simp [cmpL]
  | cons a l ih =>
    cases m with
    | nil => simp [cmpL]
    | cons b m =>
      simp only [cmpL]
      split
      · subst_vars; simp [ih]
      · rename_i h
        split <;> simp [h]
theorem cmpL_gt (l m : List Int) (h1 : m.length = 0) (h2 : 0 < l.length) : cmpL l m = 1 := by
  cases m with
  | nil => cases l with
    | nil => simp at h2
    | cons a l => rfl
  | cons b m => simp at h1
theorem cmpL_lt (l m : List Int) (h1 : l.length = 0) (h2 : 0 < m.length) : cmpL l m = -1 := by
  cases l with
  | nil => cases m with
    | nil => simp at h2
    | cons a l => rfl
  | cons b m => simp at h1
theorem cmpL_step (l m : List Int) (k : Nat) (x y : Int) (h1 : l[k]? = some x) (h2 : m[k]? = some y) : cmpL (l.drop k) (m.drop k) =
    if x = y then cmpL (l.drop (k + 1)) (m.drop (k + 1)) else if x < y then -1 else 1 := by
  obtain ⟨g1, rfl⟩ := List.getElem?_eq_some_iff.1 h1
  obtain ⟨g2, rfl⟩ := List.getElem?_eq_some_iff.1 h2
  rw [List.drop_eq_getElem_cons g1, List.drop_eq_getElem_cons g2, cmpL]
theorem Sl.num {w : World} {A : Option Addr} {n : Nat} {k : IntKind} {l : List Int} (h : Sl w A n (nums k l)) {j : Nat} (hj : j < n) :
    ∃ g o x, A = some ⟨g, o, none⟩ ∧ Hid (l[j]? = some x) ∧ w.cell? ⟨g, o + j, none⟩ = some (.int k x) := by
  obtain ⟨g, o, e, hc⟩ := h.2 (by omega)
  have hl : j < l.length := by have := h.1; rw [nums_length] at this; omega
  refine ⟨g, o, l[j], e, List.getElem?_eq_getElem hl, hc j _ ?_⟩
  simp [nums, List.getElem?_map, List.getElem?_eq_getElem hl]

/-- The world has drawn, no more. -/
def Drew (w w' : World) : Prop := ∃ k, w' = w.drewN k
theorem Drew.refl (w : World) : Drew w w := ⟨0, rfl⟩
theorem Drew.below {w w' : World} (h : Drew w w') : Below w.heap.size w w' := by
  obtain ⟨k, rfl⟩ := h
  exact ⟨rfl, rfl, rfl, Nat.le_refl _, fun _ _ => rfl⟩
theorem Drew.step {w w' : World} (h : Drew w w') (n : Nat) : Drew w (w'.drewN n) := by
  obtain ⟨k, rfl⟩ := h
  exact ⟨k + n, by simp [World.drewN, Nat.add_assoc]⟩

theorem compare_any (A B : Option Addr) (n m c d : Nat) (l k : List Int) (w : World) (ha : Sl w A n (nums .u8 l)) (hb : Sl w B m (nums .u8 k)) (hn : n ≤ 4000000000) (hm : m ≤ 4000000000) :
    Calls Tryz.prog 31 #[.slice A n c, .slice B m d] w fun e w' => e = .returned (.int .i64 (cmpL l k)) ∧ Drew w w' := by
  have hln : l.length = n := by have := ha.1; rwa [nums_length] at this
  have hlm : k.length = m := by have := hb.1; rwa [nums_length] at this
  have Hn := Lib.hid hln
  have Hm := Lib.hid hlm
  clear hln hlm
  have HA : Hid (Sl w A n (nums .u8 l)) := ha
  have HB : Hid (Sl w B m (nums .u8 k)) := hb
  clear ha hb
  go_enter Tryz.func31, Tryz.ntmps31
  go_wp2
  go_loopg [5] n (fun q v5 w' => ∃ i : Nat, v5 = .int .i64 i ∧ i ≤ n ∧ i ≤ m ∧ Hid (i + q = n) ∧ Hid (cmpL l k = cmpL (l.drop i) (k.drop i)) ∧ Drew w w')
  case atStart => exact ⟨0, rfl, by omega, by omega, by simp [Hid], rfl, Drew.refl _⟩
  case round =>
    obtain ⟨i, rfl, hi1, hi2, hq, hc, ⟨j, rfl⟩⟩ := hrel
    by_cases h1 : i < n
    · by_cases h2 : i < m
      · obtain ⟨g, o, x, rfl, hx, hca⟩ := HA.out.num h1
        obtain ⟨g', o', y, rfl, hy, hcb⟩ := HB.out.num h2
        have hs := cmpL_step l k i x y hx.out hy.out
        rw [← hc.out] at hs
        have HS := Lib.hid hs
        clear hs
        rcases Int.lt_trichotomy x y with he | he | he
        · have he2 : (x != y) = true := by simp; omega
          go_wp2
          go_quiet (fail)
          go_wp2
          go_quiet (fail)
          go_wp2
          go_ret
          refine ⟨?_, (Drew.step (Drew.step ⟨j, rfl⟩ _) _)⟩
          rw [HS.out, if_neg (by omega), if_pos he]; rfl
        · have he2 : (x != y) = false := by simp [he]
          have HE := Lib.hid he
          clear he
          go_wp2
          go_quiet (fail)
          go_wp2
          cases gk with
          | zero => exact absurd hq.out (by omega)
          | succ k1 =>
            go_roundg k1
            case measure => omega
            case rel => exact ⟨i + 1, by go_num, by omega, by omega, by have := hq.out; show _ = _; omega, by show _ = _; rw [HS.out, if_pos HE.out], ⟨j + nq, rfl⟩⟩
        · have he2 : (x != y) = true := by simp; omega
          go_wp2
          go_quiet (fail)
          go_wp2
          go_quiet (fail)
          go_wp2
          go_ret
          refine ⟨?_, (Drew.step (Drew.step ⟨j, rfl⟩ _) _)⟩
          rw [HS.out, if_neg (by omega), if_neg (by omega)]; rfl
      · have hnm : m < n := by omega
        go_wp2
        go_ret
        refine ⟨?_, ⟨j, rfl⟩⟩
        rw [hc.out, cmpL_gt _ _ (by rw [List.length_drop, Hm.out]; omega) (by rw [List.length_drop, Hn.out]; omega)]; rfl
    · rcases Nat.lt_or_ge n m with hnm | hnm
      · go_wp2
        go_ret
        refine ⟨?_, ⟨j, rfl⟩⟩
        rw [hc.out, cmpL_lt _ _ (by rw [List.length_drop, Hn.out]; omega) (by rw [List.length_drop, Hm.out]; omega)]; rfl
      · have hnm2 : ¬ m < n := by omega
        have hnm3 : ¬ n < m := by omega
        go_wp2
        go_ret
        refine ⟨?_, ⟨j, rfl⟩⟩
        rw [hc.out, List.drop_eq_nil_of_le (by rw [Hn.out]; omega), List.drop_eq_nil_of_le (by rw [Hm.out]; omega)]; rfl

theorem sameBytes_any (A B : Option Addr) (n m c d : Nat) (l k : List Int) (w : World) (ha : Sl w A n (nums .u8 l)) (hb : Sl w B m (nums .u8 k)) (hn : n ≤ 4000000000) (hm : m ≤ 4000000000) :
    Calls Tryz.prog 23 #[.slice A n c, .slice B m d] w fun e w' => e = .returned (.bool (decide (l = k))) ∧ Drew w w' := by
  have HA : Hid (Sl w A n (nums .u8 l)) := ha
  have HB : Hid (Sl w B m (nums .u8 k)) := hb
  clear ha hb
  go_enter Tryz.func23, Tryz.ntmps23
  go_wp2_with fail
  refine (compare_any A B n m c d l k w HA.out HB.out hn hm).mono ?_
  rintro e w1 ⟨rfl, ⟨j, rfl⟩⟩
  go_wp2
  go_ret
  refine ⟨?_, ⟨j, rfl⟩⟩
  show Ending.returned (.bool _) = _
  congr 2
  rw [Bool.eq_iff_iff]
  simp [cmpL_eq]
end Go.Proofs.YtegaigpolhdicaaGreat

/- Contracts: lists of bytes joined, numbers with the highest or the lowest byte first. -/
namespace Go.Proofs.YtegaigpolhdicaaGreat
open Go.RowKit
set_option linter.unusedVariables false
set_option linter.unusedSimpArgs false

/-- A slice of slices of bytes that reads as lists. -/
def Sls (w : World) (A : Option Addr) (n : Nat) (ls : List (List Int)) : Prop :=
  ls.length = n ∧ (0 < n → ∃ g o, A = some ⟨g, o, none⟩ ∧ ∀ j l, ls[j]? = some l → ∃ B c, w.cell? ⟨g, o + j, none⟩ = some (.slice B l.length c) ∧ l.length ≤ c ∧ Sl w B l.length (nums .u8 l))
theorem Sls.below {w w' : World} {A : Option Addr} {n : Nat} {ls : List (List Int)} (h : Sls w A n ls) (hb : Below w.heap.size w w') : Sls w' A n ls :=
  ⟨h.1, fun hn => by
    obtain ⟨g, o, e, hc⟩ := h.2 hn
    refine ⟨g, o, e, fun j l hl => ?_⟩
    obtain ⟨B, c, h1, h2, h3⟩ := hc j l hl
    exact ⟨B, c, by rw [hb.cell (World.block_lt_of_cell? w _ h1)]; exact h1, h2, h3.below hb⟩⟩
theorem Sls.num {w : World} {A : Option Addr} {n : Nat} {ls : List (List Int)} (h : Sls w A n ls) {j : Nat} (hj : j < n) :
    ∃ g o B c l, A = some ⟨g, o, none⟩ ∧ Hid (ls[j]? = some l) ∧ w.cell? ⟨g, o + j, none⟩ = some (.slice B l.length c) ∧ l.length ≤ c ∧ Hid (Sl w B l.length (nums .u8 l)) := by
  obtain ⟨g, o, e, hc⟩ := h.2 (by omega)
  have hl : j < ls.length := by have := h.1; omega
  obtain ⟨B, c, h1, h2, h3⟩ := hc j _ (List.getElem?_eq_getElem hl)
  exact ⟨g, o, B, c, ls[j], e, List.getElem?_eq_getElem hl, h1, h2, h3⟩
/-- A number in some bytes, the highest one first. -/
def highL (n : Int) : Nat → List Int
  | 0 => []
  | k + 1 => (n / 256 ^ k % 256) :: highL n k
end Go.Proofs.YtegaigpolhdicaaGreat

/- Contracts: keys with versions as the thin package and the reference have them. -/
namespace Go.Proofs.YtegaigpolhdicaaGreat
open Go.RowKit
set_option linter.unusedVariables false
set_option linter.unusedSimpArgs false

/-- A slice value that reads as bytes. -/
def SV (w : World) (v : Value) (l : List Int) : Prop := ∃ B c, v = .slice B l.length c ∧ l.length ≤ c ∧ Sl w B l.length (nums .u8 l)
theorem SV.below {w w' : World} {v : Value} {l : List Int} (h : SV w v l) (hb : Below w.heap.size w w') : SV w' v l := by
  obtain ⟨B, c, e, h1, h2⟩ := h
  exact ⟨B, c, e, h1, h2.below hb⟩
theorem SV.of_own {w : World} {base e n : Nat} {v : Value} {l : List Int} (h : w.ownsRow base e 1 v n (nums .u8 l)) : SV w v l := by
  have hn : l.length = n := by have := h.1; rw [nums_length] at this; omega
  subst hn
  obtain ⟨A, c, rfl, hc, hs⟩ := own_sl h
  exact ⟨A, c, rfl, hc, hs⟩
theorem SV.mk' {w : World} {A : Option Addr} {n c : Nat} {l : List Int} (h : Sl w A n (nums .u8 l)) (hc : n ≤ c) : SV w (.slice A n c) l := by
  have hn : l.length = n := by have := h.1; rw [nums_length] at this; omega
  subst hn
  exact ⟨A, c, rfl, hc, h⟩
/-- What a call that makes bytes hands back, as a slice value that reads as them. -/
theorem Made.sv {w w' : World} {e : Nat} {l : List Int} {E : Ending} (h : Made w e (nums .u8 l) E w') : ∃ A c, E = .returned (.slice A l.length c) ∧ l.length ≤ c ∧ Hid (Sl w' A l.length (nums .u8 l)) ∧ Hid (Below w.heap.size w w') ∧ Hid (w'.ownsRow w.heap.size e 1 (.slice A l.length c) l.length (nums .u8 l)) := by
  obtain ⟨v, rfl, ho, hb⟩ := h
  rw [nums_length] at ho
  obtain ⟨A, c, rfl, hc, hs⟩ := own_sl ho
  exact ⟨A, c, rfl, hc, hs, hb, ho⟩
theorem own_weaken' {w : World} {base base' : Nat} {e : Nat} {size n : Nat} {v : Value} {xs : List Value} (h : w.ownsRow base e size v n xs) (hb : base' ≤ base) : w.ownsRow base' e size v n xs := by
  obtain ⟨h1, h2⟩ := h
  refine ⟨h1, ?_⟩
  rcases h2 with h2 | ⟨g, cap, cur, e1, hg, r⟩
  · exact .inl h2
  · exact .inr ⟨g, cap, cur, e1, by omega, r⟩
theorem Made.mk' {w w1 w2 : World} {e : Nat} {l : List Int} {A : Option Addr} {c : Nat} (hb1 : Below w.heap.size w w1) (hb : Below w1.heap.size w1 w2) (ho : w2.ownsRow w1.heap.size e 1 (.slice A l.length c) l.length (nums .u8 l)) : Made w e (nums .u8 l) (.returned (.slice A l.length c)) w2 :=
  ⟨_, rfl, by rw [nums_length]; exact own_weaken' ho hb1.size, hb1.trans (hb.mono hb1.size)⟩

theorem keyB_len (l : List Int) (ts : Int) : (keyB l ts).length = l.length + 8 := by rw [keyB, List.length_append, be64_len]

theorem bl_alloc {w w1 : World} (h : Below w.heap.size w w1) (o : Obj) : Below w.heap.size w (w1.alloc o) := h.alloc h.size o
theorem bl_drewN {w w1 : World} (h : Below w.heap.size w w1) (n : Nat) : Below w.heap.size w (w1.drewN n) := ⟨h.os, h.tape, h.output, h.size, h.block⟩
end Go.Proofs.YtegaigpolhdicaaGreat

/- Contracts: bytes.Compare, bytes.Equal, and reading numbers with the highest byte first. -/
namespace Go.Proofs.YtegaigpolhdicaaGreat
open Go.RowKit
set_option linter.unusedVariables false
set_option linter.unusedSimpArgs false

/-- All are bytes. -/
def Byt (l : List Int) : Prop := ∀ x ∈ l, 0 ≤ x ∧ x ≤ 255
theorem Byt.take {l : List Int} (h : Byt l) (n : Nat) : Byt (l.take n) := fun x hx => h x (List.mem_of_mem_take hx)
theorem Byt.drop {l : List Int} (h : Byt l) (n : Nat) : Byt (l.drop n) := fun x hx => h x (List.mem_of_mem_drop hx)
theorem Byt.append {l m : List Int} (h : Byt l) (k : Byt m) : Byt (l ++ m) := fun x hx => by
  rcases List.mem_append.1 hx with hx | hx
  · exact h x hx
  · exact k x hx
theorem byt16 {v : Int} (h0 : 0 ≤ v) (h1 : v ≤ 65535) : Byt (be16 v) := by
  intro x hx; simp [be16] at hx; omega
theorem byt32 {v : Int} (h0 : 0 ≤ v) (h1 : v ≤ 4294967295) : Byt (be32 v) := (byt16 (by omega) (by omega)).append (byt16 (by omega) (by omega))
theorem byt64 {v : Int} (h0 : 0 ≤ v) (h1 : Hid (v ≤ 18446744073709551615)) : Byt (be64 v) := by
  have := h1.out
  exact (byt32 (by omega) (by omega)).append (byt32 (by omega) (by omega))
theorem bytKey {l : List Int} {ts : Int} (h : Byt l) (h0 : 0 ≤ ts) (h1 : Hid (ts ≤ 18446744073709551615)) : Byt (keyB l ts) :=
  h.append (byt64 (by have := h1.out; omega) (by show _ ≤ _; omega))

def u8of (x : Int) : UInt8 := UInt8.ofNat x.toNat
theorem u8of_eq {x y : Int} (hx : 0 ≤ x ∧ x ≤ 255) (hy : 0 ≤ y ∧ y ≤ 255) : u8of x = u8of y ↔ x = y := by
  constructor
  · intro h
    have := congrArg UInt8.toNat h
    simp [u8of] at this
    omega
  · rintro rfl; rfl
theorem u8of_lt {x y : Int} (hx : 0 ≤ x ∧ x ≤ 255) (hy : 0 ≤ y ∧ y ≤ 255) : u8of x < u8of y ↔ x < y := by
  rw [UInt8.lt_iff_toNat_lt]
  simp [u8of]
  omega
theorem cmpBytes (l m : List Int) (hl : Byt l) (hm : Byt m) : Lib.compareBytes (l.map u8of) (m.map u8of) = cmpL l m := by
  induction l generalizing m with
  | nil => cases m <;> simp [Lib.compareBytes, cmpL]
  | cons a l ih =>
    cases m with
    | nil => simp [Lib.compareBytes, cmpL]
    | cons b m =>
      have ha := hl a (by simp)
      have hb := hm b (by simp)
      simp only [List.map_cons, Lib.compareBytes, cmpL, u8of_lt ha hb, u8of_lt hb ha]
      rw [ih m (fun x hx => hl x (by simp [hx])) (fun x hx => hm x (by simp [hx]))]
      rcases Int.lt_trichotomy a b with h | h | h
      · rw [if_pos h, if_neg (by omega), if_pos h]
      · rw [if_neg (by omega), if_neg (by omega), if_pos h]
      · rw [if_neg (by omega), if_pos h, if_neg (by omega), if_neg (by omega)]
theorem run_loadBytes {P : Program} (w : World) (g o : Nat) (l : List Int) (acc : ByteArray) (h : ∀ j x, l[j]? = some x → w.cell? ⟨g, o + j, none⟩ = some (.int .u8 x)) :
    (Extern.Bytes.loadBytes ⟨g, o, none⟩ l.length acc).run P w = .ok (l.foldl (fun r n => r.push (UInt8.ofNat n.toNat)) acc) w := by
  induction l generalizing o acc with
  | nil => rfl
  | cons a l ih =>
    have h0 := h 0 a rfl
    simp only [Nat.add_zero] at h0
    rw [List.length_cons, Extern.Bytes.loadBytes]
    simp only [Sem.run_bind, load, Sem.run, h0, Sem.run_pure, Result.andThen, add_none]
    exact ih (o + 1) _ (fun j x hj => by rw [show o + 1 + j = o + (j + 1) from by omega]; exact h (j + 1) x hj)
theorem bytesOf_sl {P : Program} {w : World} {A : Option Addr} {n : Nat} (c : Nat) {l : List Int} (h : Sl w A n (nums .u8 l)) :
    (Extern.Bytes.bytesOf (.slice A n c)).run P w = .ok (strOfNums l) w := by
  have hl : l.length = n := by have := h.1; rwa [nums_length] at this
  subst hl
  rcases Nat.eq_zero_or_pos l.length with h0 | h0
  · have : l = [] := List.eq_nil_of_length_eq_zero h0
    subst this
    cases A <;> rfl
  · obtain ⟨g, o, rfl, hc⟩ := h.2 h0
    show (Extern.Bytes.loadBytes ⟨g, o, none⟩ l.length .empty).run P w = _
    rw [run_loadBytes w g o l _ (fun j x hj => hc j _ (by simp [nums, hj])), foldl_push_bytes]
    simp [strOfNums, ByteArray.empty, ByteArray.emptyWithCapacity]
    rfl
theorem run_compareSl {P : Program} {w : World} {A B : Option Addr} {n m c d : Nat} {l k : List Int} (h : Sl w A n (nums .u8 l)) (h2 : Sl w B m (nums .u8 k)) (hl : Byt l) (hk : Byt k) :
    (Extern.BytealgCompare.compare #[.slice A n c, .slice B m d]).run P w = .ok (.int .i64 (cmpL l k)) w := by
  change Sem.run P (do pure (goInt (Extern.BytealgCompare.cmp (← Extern.Bytes.bytesOf (.slice A n c)) (← Extern.Bytes.bytesOf (.slice B m d))))) w = _
  simp only [Sem.run_bind, Sem.run_pure, Result.andThen, bytesOf_sl c h, bytesOf_sl d h2]
  rw [Lib.cmp_eq, strOfNums_data, strOfNums_data]
  have := cmpBytes l k hl hk
  unfold u8of at this
  rw [this]
  rfl

set_option maxRecDepth 100000 in
theorem bytesCompare_any (A B : Option Addr) (n m c d : Nat) (l k : List Int) (w : World) (h : Sl w A n (nums .u8 l)) (h2 : Sl w B m (nums .u8 k)) (hl : Byt l) (hk : Byt k) :
    Calls Tryz.prog 66 #[.slice A n c, .slice B m d] w fun e w' => e = .returned (.int .i64 (cmpL l k)) ∧ w = w' := by
  have H1 : Hid (Sl w A n (nums .u8 l)) := h
  have H2 : Hid (Sl w B m (nums .u8 k)) := h2
  have H3 : Hid (Byt l) := hl
  have H4 : Hid (Byt k) := hk
  clear h h2 hl hk
  go_enter Tryz.func66, Tryz.ntmps66
  go_wp2
  rw [run_callFunc_extern Tryz.func67 (by kernel_rfl) (by kernel_rfl) (by kernel_rfl) (e := Extern.BytealgCompare.compare) (by kernel_rfl), run_compareSl H1.out H2.out H3.out H4.out]
  simp only [Result.andThen]
  rw [Oper.upon_value]
  go_wp2
  go_ret
  exact ⟨rfl, rfl⟩

theorem convert_sl {P : Program} {w : World} {A : Option Addr} {n : Nat} {l : List Int} (h : Sl w A n (nums .u8 l)) (c : Nat) (src e dst : TypeId) (hs : P.underlying src = some (.slice e)) (he : P.underlying e = some (.int .u8)) (hd : P.underlying dst = some .string) :
    (convert src dst (.slice A n c)).run P w = .ok (.string (strOfNums l)) w := by
  have hl : l.length = n := by have := h.1; rwa [nums_length] at this
  subst hl
  rcases Nat.eq_zero_or_pos l.length with h0 | h0
  · have : l = [] := List.eq_nil_of_length_eq_zero h0
    subst this
    cases A with
    | none => exact run_convert_bytes_nil w src e hs he _ c dst hd
    | some a =>
      have hl : (loadCells a 0).run P w = .ok #[] w := by simpa using run_loadCells_list (P := P) w a [] (by simp)
      rw [run_convert_bytes_string w src dst e _ _ c hs he hd, List.length_nil, run_bytesToString w a 0 c [] (by simpa using hl)]
      rfl
  · obtain ⟨g, o, rfl, hc⟩ := h.2 h0
    exact run_convert_bytes_arg w src e hs he g o _ c l rfl (fun i hi => hc i _ (nums_get _ _ _ hi)) dst hd
theorem map_u8_inj {l m : List Int} (hl : Byt l) (hm : Byt m) (h : l.map u8of = m.map u8of) : l = m := by
  induction l generalizing m with
  | nil => cases m with
    | nil => rfl
    | cons b m => simp at h
  | cons a l ih =>
    cases m with
    | nil => simp at h
    | cons b m =>
      simp only [List.map_cons, List.cons.injEq] at h
      rw [(u8of_eq (hl a (by simp)) (hm b (by simp))).1 h.1, ih (fun x hx => hl x (by simp [hx])) (fun x hx => hm x (by simp [hx])) h.2]
theorem strOfNums_inj {l m : List Int} (hl : Byt l) (hm : Byt m) : ((strOfNums l).toList == (strOfNums m).toList) = decide (l = m) := by
  rw [ByteArray.toList_eq, ByteArray.toList_eq, strOfNums_data, strOfNums_data, Bool.eq_iff_iff]
  simp only [beq_iff_eq, decide_eq_true_eq]
  exact ⟨fun h => map_u8_inj hl hm h, fun h => by rw [h]⟩
set_option maxRecDepth 100000 in
theorem bytesEqual_any (A B : Option Addr) (n m c d : Nat) (l k : List Int) (w : World) (h : Sl w A n (nums .u8 l)) (h2 : Sl w B m (nums .u8 k)) (hl : Byt l) (hk : Byt k) :
    Calls Tryz.prog 76 #[.slice A n c, .slice B m d] w fun e w' => e = .returned (.bool (decide (l = k))) ∧ w = w' := by
  have c1 : (convert 36 9 (.slice A n c)).run Tryz.prog w = .ok (.string (strOfNums l)) w := convert_sl h c _ _ _ Tryz.underlying36 Tryz.underlying5 Tryz.underlying9
  have c2 : (convert 36 9 (.slice B m d)).run Tryz.prog w = .ok (.string (strOfNums k)) w := convert_sl h2 d _ _ _ Tryz.underlying36 Tryz.underlying5 Tryz.underlying9
  have H3 : Hid (((strOfNums l).toList == (strOfNums k).toList) = decide (l = k)) := strOfNums_inj hl hk
  clear h h2 hl hk
  go_enter Tryz.func76, Tryz.ntmps76
  go_wp2
  go_ret
  exact ⟨by rw [← H3.out]; rfl, rfl⟩

/-- Numbers out of bytes, the highest one first. -/
theorem or_join16 (a b : Int) (ha : 0 ≤ a ∧ a ≤ 255) (hb : 0 ≤ b ∧ b ≤ 255) : bits .or .u16 b (a * 256) = a * 256 + b := by
  rw [u16_or _ _ (by omega) (by omega) (by omega) (by omega), Nat.or_comm, nat_join 8 (a * 256).toNat b.toNat (by omega) (by omega)]
  omega
set_option maxRecDepth 100000 in
theorem be16_any (A : Option Addr) (n c : Nat) (a b : Int) (r : List Int) (w : World) (h : Sl w A n (nums .u8 (a :: b :: r))) (hab : (0 ≤ a ∧ a ≤ 255) ∧ (0 ≤ b ∧ b ≤ 255)) :
    Calls Tryz.prog 41 #[.slice A n c] w fun e w' => e = .returned (.int .u16 (a * 256 + b)) ∧ Drew w w' := by
  have hlen : r.length + 2 = n := by have := h.1; rw [nums_length] at this; simpa using this
  obtain ⟨g, o, rfl, hc⟩ := h.2 (by omega)
  have hc0 : w.cell? ⟨g, o, none⟩ = some (.int .u8 a) := hc 0 _ rfl
  have hc1 : w.cell? ⟨g, o + 1, none⟩ = some (.int .u8 b) := hc 1 _ rfl
  have HJ : Hid (bits .or .u16 b (a * 256) = a * 256 + b) := or_join16 a b hab.1 hab.2
  have h2 : 2 ≤ n := by omega
  obtain ⟨⟨ha0, ha1⟩, hb0, hb1⟩ := hab
  clear h hc hlen
  go_enter Tryz.func41, Tryz.ntmps41
  go_wp2
  go_quiet (fail)
  go_wp2
  go_ret
  exact ⟨by rw [← HJ.out]; rfl, ⟨nq, rfl⟩⟩

def un16 (a b : Int) : Int := a * 256 + b
def un32 (a b c d : Int) : Int := un16 a b * 65536 + un16 c d
def In8 (x : Int) : Prop := 0 ≤ x ∧ x ≤ 255
theorem or_join32 (a b : Int) (ha : 0 ≤ a ∧ a ≤ 65535) (hb : 0 ≤ b ∧ b ≤ 65535) : bits .or .u32 b (a * 65536) = a * 65536 + b := by
  rw [u32_or _ _ (by omega) (by omega) (by omega) (by omega), Nat.or_comm, nat_join 16 (a * 65536).toNat b.toNat (by omega) (by omega)]
  omega
theorem or_join64 (a b : Int) (ha : 0 ≤ a ∧ a ≤ 4294967295) (hb : 0 ≤ b ∧ b ≤ 4294967295) : bits .or .u64 b (a * 4294967296) = a * 4294967296 + b := by
  rw [u64_or _ _ (by omega) (by omega) (by omega) (by omega), Nat.or_comm, nat_join 32 (a * 4294967296).toNat b.toNat (by omega) (by omega)]
  omega
theorem in16 {a b : Int} (ha : In8 a) (hb : In8 b) : 0 ≤ un16 a b ∧ un16 a b ≤ 65535 := by unfold un16; unfold In8 at ha hb; omega
theorem in32 {a b c d : Int} (ha : In8 a) (hb : In8 b) (hc : In8 c) (hd : In8 d) : 0 ≤ un32 a b c d ∧ un32 a b c d ≤ 4294967295 := by
  have := in16 ha hb; have := in16 hc hd; unfold un32; omega
set_option maxRecDepth 100000 in
theorem be32_any (A : Option Addr) (n c : Nat) (a0 a1 a2 a3 : Int) (r : List Int) (w : World) (h : Sl w A n (nums .u8 (a0 :: a1 :: a2 :: a3 :: r))) (hc : n ≤ c) (h0 : In8 a0) (h1 : In8 a1) (h2 : In8 a2) (h3 : In8 a3) :
    Calls Tryz.prog 40 #[.slice A n c] w fun e w' => e = .returned (.int .u32 (un32 a0 a1 a2 a3)) ∧ Drew w w' := by
  have hlen : r.length + 4 = n := by have := h.1; rw [nums_length] at this; simpa using this
  obtain ⟨g, o, rfl, _⟩ := h.2 (by omega)
  have hn : 4 ≤ n := by omega
  have hd := (h.take (m := 4) hn).drop (m := 2) (c := c) (by omega) (by omega)
  have HD : Hid (Sl w (some ⟨g, o + 2, none⟩) 2 (nums .u8 [a2, a3])) := by
    rw [if_neg (by omega)] at hd
    show Sl _ _ _ _
    simpa [nums, add_none, Addr.add] using hd
  have H : Hid (Sl w (some ⟨g, o, none⟩) n (nums .u8 (a0 :: a1 :: a2 :: a3 :: r))) := h
  have b1 := in16 h0 h1
  have b2 := in16 h2 h3
  have HJ : Hid (bits .or .u32 (un16 a2 a3) (un16 a0 a1 * 65536) = un32 a0 a1 a2 a3) := or_join32 _ _ b1 b2
  have I0 : Hid (In8 a0) := h0
  have I1 : Hid (In8 a1) := h1
  have I2 : Hid (In8 a2) := h2
  have I3 : Hid (In8 a3) := h3
  clear hd h h0 h1 h2 h3 hlen
  obtain ⟨b1l, b1h⟩ := b1
  obtain ⟨b2l, b2h⟩ := b2
  go_enter Tryz.func40, Tryz.ntmps40
  go_wp2_with fail
  refine (be16_any _ 2 (c - 2) a2 a3 [] w HD.out ⟨I2.out, I3.out⟩).mono ?_
  rintro e w1 ⟨rfl, ⟨j, rfl⟩⟩
  rw [show a2 * 256 + a3 = un16 a2 a3 from rfl]
  go_wp2_with fail
  refine (be16_any _ n c a0 a1 _ _ (H.out.drewN j) ⟨I0.out, I1.out⟩).mono ?_
  rintro e w1 ⟨rfl, ⟨k, rfl⟩⟩
  rw [show a0 * 256 + a1 = un16 a0 a1 from rfl]
  go_wp2
  go_ret
  exact ⟨by rw [← HJ.out]; rfl, ⟨j + k, rfl⟩⟩
def un64 (a0 a1 a2 a3 a4 a5 a6 a7 : Int) : Int := un32 a0 a1 a2 a3 * 4294967296 + un32 a4 a5 a6 a7
set_option maxRecDepth 100000 in
theorem be64_any (A : Option Addr) (n c : Nat) (a0 a1 a2 a3 a4 a5 a6 a7 : Int) (r : List Int) (w : World) (h : Sl w A n (nums .u8 (a0 :: a1 :: a2 :: a3 :: a4 :: a5 :: a6 :: a7 :: r))) (hc : n ≤ c)
    (h0 : In8 a0) (h1 : In8 a1) (h2 : In8 a2) (h3 : In8 a3) (h4 : In8 a4) (h5 : In8 a5) (h6 : In8 a6) (h7 : In8 a7) :
    Calls Tryz.prog 38 #[.slice A n c] w fun e w' => e = .returned (.int .u64 (un64 a0 a1 a2 a3 a4 a5 a6 a7)) ∧ Drew w w' := by
  have hlen : r.length + 8 = n := by have := h.1; rw [nums_length] at this; simpa using this
  obtain ⟨g, o, rfl, _⟩ := h.2 (by omega)
  have hn : 8 ≤ n := by omega
  have hd := (h.take (m := 8) hn).drop (m := 4) (c := c) (by omega) (by omega)
  have HD : Hid (Sl w (some ⟨g, o + 4, none⟩) 4 (nums .u8 [a4, a5, a6, a7])) := by
    rw [if_neg (by omega)] at hd
    show Sl _ _ _ _
    simpa [nums, add_none, Addr.add] using hd
  have H : Hid (Sl w (some ⟨g, o, none⟩) n (nums .u8 (a0 :: a1 :: a2 :: a3 :: a4 :: a5 :: a6 :: a7 :: r))) := h
  have b1 := in32 h0 h1 h2 h3
  have b2 := in32 h4 h5 h6 h7
  have HJ : Hid (bits .or .u64 (un32 a4 a5 a6 a7) (un32 a0 a1 a2 a3 * 4294967296) = un64 a0 a1 a2 a3 a4 a5 a6 a7) := or_join64 _ _ b1 b2
  have I : Hid (In8 a0 ∧ In8 a1 ∧ In8 a2 ∧ In8 a3 ∧ In8 a4 ∧ In8 a5 ∧ In8 a6 ∧ In8 a7) := ⟨h0, h1, h2, h3, h4, h5, h6, h7⟩
  clear hd h h0 h1 h2 h3 h4 h5 h6 h7 hlen
  obtain ⟨b1l, b1h⟩ := b1
  obtain ⟨b2l, b2h⟩ := b2
  have hc4 : 4 ≤ c - 4 := by omega
  go_enter Tryz.func38, Tryz.ntmps38
  go_wp2_with fail
  refine (be32_any _ 4 (c - 4) a4 a5 a6 a7 [] w HD.out hc4 I.out.2.2.2.2.1 I.out.2.2.2.2.2.1 I.out.2.2.2.2.2.2.1 I.out.2.2.2.2.2.2.2).mono ?_
  rintro e w1 ⟨rfl, ⟨j, rfl⟩⟩
  go_wp2_with fail
  refine (be32_any _ n c a0 a1 a2 a3 _ _ (H.out.drewN j) hc I.out.1 I.out.2.1 I.out.2.2.1 I.out.2.2.2.1).mono ?_
  rintro e w1 ⟨rfl, ⟨k, rfl⟩⟩
  go_wp2
  go_ret
  exact ⟨by rw [← HJ.out]; rfl, ⟨j + k, rfl⟩⟩
theorem be64_shape (v : Int) : ∃ a0 a1 a2 a3 a4 a5 a6 a7, be64 v = [a0, a1, a2, a3, a4, a5, a6, a7] ∧ (0 ≤ v → v ≤ 18446744073709551615 → un64 a0 a1 a2 a3 a4 a5 a6 a7 = v) :=
  ⟨_, _, _, _, _, _, _, _, rfl, fun h0 h1 => by simp only [un64, un32, un16]; omega⟩
set_option maxRecDepth 100000 in
theorem parseTs_any (A : Option Addr) (n c : Nat) (l : List Int) (ts : Int) (w : World) (h : Sl w A n (nums .u8 (keyB l ts))) (hc : n ≤ c) (hpos : 0 < l.length) (hn : n ≤ 1000000) (hv : 0 ≤ ts) (hv2 : Hid (ts ≤ 18446744073709551615)) :
    Calls Tryz.prog 35 #[.slice A n c] w fun e w' => e = .returned (.int .u64 ts) ∧ Drew w w' := by
  have hlen : l.length + 8 = n := by have := h.1; rw [nums_length, keyB_len] at this; exact this
  have h9 : 8 < n := by omega
  obtain ⟨a0, a1, a2, a3, a4, a5, a6, a7, he, hu⟩ := be64_shape (18446744073709551615 - ts)
  have hb : Byt (be64 (18446744073709551615 - ts)) := byt64 (by have := hv2.out; omega) (by show _ ≤ _; omega)
  have hu2 := hu (by have := hv2.out; omega) (by omega)
  rw [he] at hb
  have hd := h.drop (m := n - 8) (c := c) (by omega) hc
  rw [← nums_drop, keyB, List.drop_left' (by omega), he, if_neg (by omega)] at hd
  obtain ⟨g, o, rfl, _⟩ := h.2 (by omega)
  have HD : Hid (Sl w (some ⟨g, o + (n - 8), none⟩) (n - (n - 8)) (nums .u8 [a0, a1, a2, a3, a4, a5, a6, a7])) := by
    show Sl _ _ _ _
    simpa [add_none] using hd
  have HU := Lib.hid hu2
  have HB := Lib.hid hb
  have hc8 : n - (n - 8) ≤ c - (n - 8) := by omega
  clear hd h hu hu2 hb he hlen
  go_enter Tryz.func35, Tryz.ntmps35
  go_wp2_with fail
  refine (be64_any _ _ _ a0 a1 a2 a3 a4 a5 a6 a7 [] w HD.out hc8 (HB.out _ (by simp)) (HB.out _ (by simp)) (HB.out _ (by simp)) (HB.out _ (by simp)) (HB.out _ (by simp)) (HB.out _ (by simp)) (HB.out _ (by simp)) (HB.out _ (by simp))).mono ?_
  rintro e w1 ⟨rfl, ⟨k, rfl⟩⟩
  rw [HU.out]
  go_wp2
  go_ret
  refine ⟨?_, ⟨k, rfl⟩⟩
  have e1 : IntKind.u64.wrap (18446744073709551615 - (18446744073709551615 - ts)) = ts := by rw [wrapU64 _ (by omega) (by have := hv2.out; omega)]; omega
  show Ending.returned (.int .u64 (IntKind.u64.wrap (18446744073709551615 - (18446744073709551615 - ts)))) = _
  rw [e1]

/-- The slice ahead of the last eight bytes. -/
theorem parseKey_any (A : Option Addr) (n c : Nat) (w : World) (h8 : 8 ≤ n) (hc : n ≤ c) (hn : n ≤ 1000000) :
    Calls Tryz.prog 34 #[.slice A n c] w fun e w' => e = .returned (.slice A (n - 8) c) ∧ w = w' := by
  go_enter Tryz.func34, Tryz.ntmps34
  go_wp2
  go_ret
  exact ⟨rfl, rfl⟩
end Go.Proofs.YtegaigpolhdicaaGreat

/- Contracts: keys with versions are compared, taken apart. -/
namespace Go.Proofs.YtegaigpolhdicaaGreat
open Go.RowKit
set_option linter.unusedVariables false
set_option linter.unusedSimpArgs false

def sgn (x y : Int) : Int := if x < y then -1 else if x = y then 0 else 1
theorem cmpL_same (x : Int) (a c : List Int) : cmpL (x :: a) (x :: c) = cmpL a c := by simp [cmpL]
theorem cmpL_other (x y : Int) (a c : List Int) (h : x ≠ y) : cmpL (x :: a) (y :: c) = if x < y then -1 else 1 := by simp [cmpL, h]
theorem cmpL_append (a b c d : List Int) (h : a.length = c.length) : cmpL (a ++ b) (c ++ d) = if cmpL a c = 0 then cmpL b d else cmpL a c := by
  induction a generalizing c with
  | nil => cases c with
    | nil => simp [cmpL]
    | cons x c => simp at h
  | cons x a ih =>
    cases c with
    | nil => simp at h
    | cons y c =>
      by_cases hxy : x = y
      · subst hxy
        rw [List.cons_append, List.cons_append, cmpL_same, cmpL_same]
        exact ih c (by simpa using h)
      · rw [List.cons_append, List.cons_append, cmpL_other _ _ _ _ hxy, cmpL_other _ _ _ _ hxy]
        by_cases hlt : x < y <;> simp [hlt]
theorem cmp16 (x y : Int) : cmpL (be16 x) (be16 y) = sgn x y := by
  simp only [be16, cmpL, sgn]
  repeat' split
  all_goals omega
theorem cmp32 (x y : Int) : cmpL (be32 x) (be32 y) = sgn x y := by
  rw [be32, be32, cmpL_append (be16 (x / 65536)) (be16 (x % 65536)) (be16 (y / 65536)) (be16 (y % 65536)) rfl, cmp16, cmp16]
  simp only [sgn]
  repeat' split
  all_goals omega
theorem cmp64 (x y : Int) : cmpL (be64 x) (be64 y) = sgn x y := by
  rw [be64, be64, cmpL_append (be32 (x / 4294967296)) (be32 (x % 4294967296)) (be32 (y / 4294967296)) (be32 (y % 4294967296)) rfl, cmp32, cmp32]
  simp only [sgn]
  repeat' split
  all_goals omega
theorem sgn_flip (v u : Int) : sgn (18446744073709551615 - v) (18446744073709551615 - u) = sgn u v := by
  simp only [sgn]
  repeat' split
  all_goals omega

theorem quiet_same {P : Program} {f : FuncId} {args : Array Value} {w : World} {n : Nat} {v : Value}
    (h : Calls P f args (w.drewN n) fun e w' => e = .returned v ∧ w.drewN n = w') : Calls P f args (w.drewN n) fun e w'' => e = .returned v ∧ ∃ m, w'' = w.drewN m :=
  h.mono fun _ _ ⟨he, hm⟩ => ⟨he, n, hm.symm⟩
theorem quiet_drew {P : Program} {f : FuncId} {args : Array Value} {w : World} {n : Nat} {v : Value}
    (h : Calls P f args (w.drewN n) fun e w' => e = .returned v ∧ Drew (w.drewN n) w') : Calls P f args (w.drewN n) fun e w'' => e = .returned v ∧ ∃ m, w'' = w.drewN m :=
  h.mono fun _ _ ⟨he, ⟨k, hm⟩⟩ => ⟨he, n + k, by rw [hm]; simp [World.drewN, Nat.add_assoc]⟩

/-- Two keys with versions compared: by the keys, then by what stands behind them. -/
def cmpKeys (p q : List Int) : Int :=
  if cmpL (p.take (p.length - 8)) (q.take (q.length - 8)) = 0 then cmpL (p.drop (p.length - 8)) (q.drop (q.length - 8)) else cmpL (p.take (p.length - 8)) (q.take (q.length - 8))
def orderL (l : List Int) (v : Int) (k : List Int) (u : Int) : Int := if cmpL l k = 0 then sgn u v else cmpL l k
theorem keyB_take (l : List Int) (v : Int) : (keyB l v).take ((keyB l v).length - 8) = l := by
  rw [keyB_len, keyB]; exact List.take_left' (by omega)
theorem keyB_drop (l : List Int) (v : Int) : (keyB l v).drop ((keyB l v).length - 8) = be64 (18446744073709551615 - v) := by
  rw [keyB_len, keyB]; exact List.drop_left' (by omega)
theorem cmpKeys_keyB (l k : List Int) (v u : Int) : cmpKeys (keyB l v) (keyB k u) = orderL l v k u := by
  rw [cmpKeys, keyB_take, keyB_take, keyB_drop, keyB_drop, cmp64, orderL, sgn_flip]

set_option maxRecDepth 100000 in
theorem compareKeys_any (A B : Option Addr) (n m c d : Nat) (p q : List Int) (w : World) (h : Sl w A n (nums .u8 p)) (h2 : Sl w B m (nums .u8 q)) (hp : Byt p) (hq : Byt q) (hn : 8 ≤ n) (hm : 8 ≤ m) (hc : n ≤ c) (hd : m ≤ d) (hn2 : n ≤ 1000000) (hm2 : m ≤ 1000000) :
    Calls Tryz.prog 65 #[.slice A n c, .slice B m d] w fun e w' => e = .returned (.int .i64 (cmpKeys p q)) ∧ Drew w w' := by
  have hlp : p.length = n := by have := h.1; rwa [nums_length] at this
  have hlq : q.length = m := by have := h2.1; rwa [nums_length] at this
  have T1 : Hid (Sl w A (n - 8) (nums .u8 (p.take (n - 8)))) := by rw [nums_take]; exact h.take (by omega)
  have T2 : Hid (Sl w B (m - 8) (nums .u8 (q.take (m - 8)))) := by rw [nums_take]; exact h2.take (by omega)
  have D1 : Hid (Sl w (if c = n - 8 then A else A.map fun x => x.add (n - 8)) (n - (n - 8)) (nums .u8 (p.drop (n - 8)))) := by rw [nums_drop]; exact h.drop (by omega) hc
  have D2 : Hid (Sl w (if d = m - 8 then B else B.map fun x => x.add (m - 8)) (m - (m - 8)) (nums .u8 (q.drop (m - 8)))) := by rw [nums_drop]; exact h2.drop (by omega) hd
  obtain ⟨g, o, rfl⟩ := h.addr (by omega)
  obtain ⟨g2, o2, rfl⟩ := h2.addr (by omega)
  rw [if_neg (by omega), Option.map_some, add_none] at D1 D2
  have HP : Hid (Byt p) := hp
  have HQ : Hid (Byt q) := hq
  have HC : Hid (cmpKeys p q = if cmpL (p.take (n - 8)) (q.take (m - 8)) = 0 then cmpL (p.drop (n - 8)) (q.drop (m - 8)) else cmpL (p.take (n - 8)) (q.take (m - 8))) := by rw [← hlp, ← hlq]; rfl
  clear h h2 hp hq hlp hlq
  go_enter Tryz.func65, Tryz.ntmps65
  go_wp2
  go_quiet ((go_at_call 66; exact quiet_same (bytesCompare_any _ _ _ _ _ _ _ _ _ T1.out T2.out (HP.out.take _) (HQ.out.take _))))
  generalize hx : cmpL (p.take (n - 8)) (q.take (m - 8)) = x at *
  by_cases h0 : x = 0
  · subst h0
    replace D1 : Hid (Sl (w.drewN nq) _ _ _) := D1.out.drewN nq
    replace D2 : Hid (Sl (w.drewN nq) _ _ _) := D2.out.drewN nq
    obtain ⟨w2, hw2⟩ : ∃ w2, w2 = w.drewN nq := ⟨_, rfl⟩
    rw [← hw2] at D1 D2 ⊢
    have HW := Lib.hid hw2
    clear hw2
    go_wp2
    go_quiet ((go_at_call 66; exact quiet_same (bytesCompare_any _ _ _ _ _ _ _ _ _ (D1.out.drewN _) (D2.out.drewN _) (HP.out.drop _) (HQ.out.drop _))))
    go_wp2
    go_ret
    exact ⟨by rw [HC.out, if_pos (by trivial)]; rfl, by rw [HW.out]; exact Drew.step ⟨_, rfl⟩ _⟩
  · have hne : (x != 0) = true := by simpa using h0
    have H0 := Lib.hid h0
    clear h0
    go_wp2
    go_ret
    exact ⟨by rw [HC.out, if_neg H0.out]; rfl, ⟨_, rfl⟩⟩

end Go.Proofs.YtegaigpolhdicaaGreat
