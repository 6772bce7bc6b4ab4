/- Words for memory that this seat's proofs share: slices that read as lists, rows of a call's own, append and copy from any source. -/
import Derived.Test.YtadhdimleabljaaProg
import Derived.WalkKit
import Derived.KernelRfl
import Derived.RowKit3
import Derived.Maps.AppendAt
import Derived.Deep.AppendLies
import Derived.Deep.RegionLaw
import Derived.Laws.CopyOwn
import Derived.Lib.Hide
import Derived.Deep.LoopGhost
import Derived.Deep.QuietTactic
import Derived.BigQuiet
import Derived.Deep.DeepCutAuto
import Derived.Deep.CutBlock
import Derived.Deep.RegionHeld3
import Derived.Laws.BitsLemmas
import Derived.Laws.BitsAllLaws
import Derived.Deep.Draws
namespace Go.Proofs.Ytadhdimleabljaa
open Go.RowKit

/-- The slice at A of length n reads as xs (elements of one cell). -/
def Sl (w : World) (A : Option Addr) (n : Nat) (xs : List Value) : Prop :=
  xs.length = n ∧ (0 < n → ∃ g o, A = some ⟨g, o, none⟩ ∧ ∀ j u, xs[j]? = some u → w.cell? ⟨g, o + j, none⟩ = some u)

/-- Numbers as values. -/
def nums (k : IntKind) (l : List Int) : List Value := l.map (Value.int k)
theorem nums_length (k : IntKind) (l : List Int) : (nums k l).length = l.length := by simp [nums]
theorem nums_append (k : IntKind) (l m : List Int) : nums k (l ++ m) = nums k l ++ nums k m := by simp [nums]
theorem nums_take (k : IntKind) (l : List Int) (n : Nat) : nums k (l.take n) = (nums k l).take n := by simp [nums]
theorem nums_drop (k : IntKind) (l : List Int) (n : Nat) : nums k (l.drop n) = (nums k l).drop n := by simp [nums]
theorem nums_get (k : IntKind) (l : List Int) (j : Nat) (h : j < l.length) : (nums k l)[j]? = some (.int k (l.getD j 0)) := by
  simp [nums, List.getElem?_map, List.getD_eq_getElem?_getD, List.getElem?_eq_getElem h]
theorem nums_one (k : IntKind) (l : List Int) : ∀ u ∈ nums k l, u.oneCell' = true := by
  intro u hu
  simp only [nums, List.mem_map] at hu
  obtain ⟨x, _, rfl⟩ := hu
  rfl
theorem nums_snoc (k : IntKind) (l : List Int) (x : Int) : nums k (l ++ [x]) = nums k l ++ [.int k x] := by simp [nums]

section
variable {w w' : World} {A : Option Addr} {n : Nat} {xs : List Value}
theorem Sl.nil (w : World) (A : Option Addr) : Sl w A 0 [] := ⟨rfl, fun h => absurd h (by omega)⟩
theorem Sl.keep (h : Sl w A n xs) (hk : ∀ p : Addr, p.block < w.heap.size → w'.cell? p = w.cell? p) : Sl w' A n xs :=
  ⟨h.1, fun hn => by
    obtain ⟨g, o, e, hc⟩ := h.2 hn
    refine ⟨g, o, e, fun j u hu => ?_⟩
    have := hc j u hu
    rw [hk _ (World.block_lt_of_cell? w _ this)]
    exact this⟩
theorem Sl.below (h : Sl w A n xs) (hb : Below w.heap.size w w') : Sl w' A n xs := h.keep fun _ hp => hb.cell hp
theorem Sl.drew (h : Sl w A n xs) : Sl w.drew A n xs := h
theorem Sl.drewN (h : Sl w A n xs) (k : Nat) : Sl (w.drewN k) A n xs := h
theorem Sl.alloc (h : Sl w A n xs) (o : Obj) : Sl (w.alloc o) A n xs := h.keep fun p hp => World.cell?_alloc_lt w o p hp
theorem Sl.at_ {k : Nat} (h : Sl w A n xs) (hk : k < n) : ∃ g o u, A = some ⟨g, o, none⟩ ∧ xs[k]? = some u ∧ w.cell? ⟨g, o + k, none⟩ = some u := by
  obtain ⟨g, o, e, hc⟩ := h.2 (by omega)
  have hl : k < xs.length := by have := h.1; omega
  exact ⟨g, o, xs[k], e, List.getElem?_eq_getElem hl, hc k _ (List.getElem?_eq_getElem hl)⟩
theorem Sl.take {m : Nat} (h : Sl w A n xs) (hm : m ≤ n) : Sl w A m (xs.take m) :=
  ⟨by rw [List.length_take, h.1]; omega, fun h0 => by
    obtain ⟨g, o, e, hc⟩ := h.2 (by omega)
    refine ⟨g, o, e, fun j u hu => ?_⟩
    rw [List.getElem?_take] at hu
    split at hu
    · exact hc j u hu
    · cases hu⟩
theorem Sl.drop {m c : Nat} (h : Sl w A n xs) (hm : m ≤ n) (hc : n ≤ c) : Sl w (if c = m then A else A.map fun x => x.add m) (n - m) (xs.drop m) :=
  ⟨by rw [List.length_drop, h.1], fun h0 => by
    obtain ⟨g, o, rfl, hcell⟩ := h.2 (by omega)
    rw [if_neg (by omega)]
    refine ⟨g, o + m, ?_, fun j u hu => ?_⟩
    · simp only [Option.map_some, Addr.add]
      by_cases h1 : m = 0
      · subst h1; simp
      · simp [h1]
    · rw [List.getElem?_drop] at hu
      have := hcell _ u hu
      rw [← Nat.add_assoc] at this
      exact this⟩
theorem Sl.len (h : Sl w A n xs) : xs.length = n := h.1
theorem Sl.addr (h : Sl w A n xs) (hn : 0 < n) : ∃ g o, A = some ⟨g, o, none⟩ := by
  obtain ⟨g, o, e, _⟩ := h.2 hn
  exact ⟨g, o, e⟩
end

theorem own_sl {w : World} {base e n : Nat} {v : Value} {xs : List Value} (h : w.ownsRow base e 1 v n xs) :
    ∃ A c, v = .slice A n c ∧ n ≤ c ∧ Sl w A n xs := by
  obtain ⟨hl, h2⟩ := h
  rcases h2 with ⟨rfl, rfl⟩ | ⟨g, cap, cur, rfl, hg, hh, hnc, hcm, hcs, ht⟩
  · exact ⟨none, 0, rfl, Nat.le_refl _, by simpa using hl, fun h => absurd h (by omega)⟩
  · refine ⟨some ⟨g, 0, none⟩, cap, rfl, hnc, by simpa using hl, fun _ => ⟨g, 0, rfl, fun j u hu => ?_⟩⟩
    have h0 : w.ownsRow base e 1 (.slice (some ⟨g, 0, none⟩) n cap) n xs := ⟨hl, .inr ⟨g, cap, cur, rfl, hg, hh, hnc, hcm, hcs, ht⟩⟩
    have hj : j < n := by
      have := (List.getElem?_eq_some_iff.1 hu).1
      omega
    rw [Nat.zero_add, h0.cellAt j (by omega)]
    exact hu

/-- What a call that makes bytes (numbers) hands back: a row of its own, nothing that was there has turned. -/
def Made (w : World) (e : Nat) (xs : List Value) (E : Ending) (w' : World) : Prop :=
  ∃ v, E = .returned v ∧ w'.ownsRow w.heap.size e 1 v xs.length xs ∧ Below w.heap.size w w'

theorem block_of_add (a : Addr) (n : Nat) : (a.add n).block = a.block := by unfold Addr.add; split <;> rfl
theorem add_none (g o j : Nat) : (⟨g, o, none⟩ : Addr).add j = ⟨g, o + j, none⟩ := by
  unfold Addr.add
  split
  · subst_vars; simp
  · rfl
theorem Sl.adds {w : World} {g o n : Nat} {xs : List Value} (h : Sl w (some ⟨g, o, none⟩) n xs) : ∀ j u, xs[j]? = some u → w.cell? ((⟨g, o, none⟩ : Addr).add j) = some u := by
  intro j u hu
  have hj : j < n := by have := (List.getElem?_eq_some_iff.1 hu).1; have := h.1; omega
  obtain ⟨g', o', e, hc⟩ := h.2 (by omega)
  injection e with e
  injection e with e1 e2
  subst e1 e2
  rw [add_none]
  exact hc j u hu

section
variable {P : Program} (w : World)
theorem run_append_nothing (base : Nat) (t ty e : TypeId) (i : TypeInfo) (size : Nat) (ht : P.underlying t = some (.slice e)) (hi : P.info? e = some i)
    (v : Value) (n : Nat) (xs : List Value) (hown : w.ownsRow base e size v n xs) (A : Option Addr) (c : Nat) (hA : A = none ∨ ∃ a, A = some a) :
    (Builtin.append_ #[t, t] ty #[v, .slice A 0 c]).run P w = .ok v w := by
  have hl : ∀ (x : Addr), (loadCells x 0).run P w = .ok #[] w := fun x => by simpa using run_loadCells_list (P := P) w x [] (by simp)
  rcases hown.2 with ⟨rfl, rfl⟩ | ⟨g, cap, cur, rfl, _, _, hnc, _⟩
  · cases A <;> simp [Builtin.append_, run_underlying ht, sizeOf, typeInfo, hi, Builtin.lenOf, Builtin.firstCells, hl]
  · cases A <;> simp [Builtin.append_, run_underlying ht, sizeOf, typeInfo, hi, Builtin.lenOf, Builtin.firstCells, hnc, storeCells, hl]

/-- append of whatever slice of one-cell elements. -/
theorem run_append_sl (base : Nat) (t ty e : TypeId) (z : Value) (bytes : Nat) (ht : P.underlying t = some (.slice e))
    (hinfo : (P.info? e).map (fun i => (i.zero, i.size, i.bytes)) = some (some z, 1, bytes)) (hz : z.cells.size = 1)
    (v : Value) (n : Nat) (xs : List Value) (hown : w.ownsRow base e 1 v n xs)
    (A : Option Addr) (m c : Nat) (news : List Value) (hr : Sl w A m news) (h1 : ∀ u ∈ news, u.oneCell' = true)
    (hbytes : (n + m) * bytes ≤ 140737488355328) (hb0 : 0 < bytes) (hbase : base ≤ w.heap.size) :
    ∃ v' w', (Builtin.append_ #[t, t] ty #[v, .slice A m c]).run P w = .ok v' w' ∧ w'.ownsRow base e 1 v' (n + m) (xs ++ news) ∧ w.grownBy w' v.ownBlock ∧
      (v'.ownBlock = v.ownBlock ∨ v'.ownBlock = some w.heap.size) := by
  obtain ⟨i, hi, hz0, hz1, hz2⟩ := info_parts hinfo
  rcases Nat.eq_zero_or_pos m with h0 | h0
  · subst h0
    have hn : news = [] := List.eq_nil_of_length_eq_zero hr.1
    subst hn
    exact ⟨v, w, run_append_nothing w base t ty e i 1 ht hi v n xs hown A c (by cases A <;> simp), by simpa using hown, World.grownBy.refl w _, .inl rfl⟩
  · obtain ⟨g, o, rfl, hc⟩ := hr.2 h0
    have hm : n + m ≤ maxLen := by
      simp only [maxLen]
      have : (n + m) * 1 ≤ (n + m) * bytes := Nat.mul_le_mul_left _ hb0
      omega
    obtain ⟨v', w', hrun, h2, h3, _, h5⟩ := run_append_own_at (P := P) w base t ty e i z 1 bytes ht hi hz0 hz1 hz2 hz (by omega) v n xs hown ⟨g, o, none⟩ m c news (by rw [hr.1]; omega)
      (Sl.adds ⟨hr.1, fun _ => ⟨g, o, rfl, hc⟩⟩) h1 hm hbytes hbase
    exact ⟨v', w', hrun, h2, h3, h5⟩

theorem wpList_append_sl {ops : Array Oper} {rest : List Oper} {o : Oper} {a : Act} {Q : Exit → Act → World → Prop} (hgd : o.guard = none) (s x : Operand) (t : TypeId)
    (ho : o.op = .call { callee := .builtin .append, args := #[s, x], argTypes := #[t, t] })
    (base : Nat) (e : TypeId) (z : Value) (bytes : Nat) (ht : P.underlying t = some (.slice e))
    (hinfo : (P.info? e).map (fun i => (i.zero, i.size, i.bytes)) = some (some z, 1, bytes)) (hz : z.cells.size = 1)
    (v : Value) (n : Nat) (xs : List Value) (hs : a.eval s = v) (hown : w.ownsRow base e 1 v n xs)
    (A : Option Addr) (m c : Nat) (news : List Value) (hx : a.eval x = .slice A m c) (hr : Sl w A m news) (h1 : ∀ u ∈ news, u.oneCell' = true)
    (hbytes : (n + m) * bytes ≤ 140737488355328) (hb0 : 0 < bytes) (hbase : base ≤ w.heap.size)
    (h : ∀ v' w', w'.ownsRow base e 1 v' (n + m) (xs ++ news) → w.grownBy w' v.ownBlock → (v'.ownBlock = v.ownBlock ∨ v'.ownBlock = some w.heap.size) → wpList P ops Q rest (a.put o.dst v') w') : wpList P ops Q (o :: rest) a w := by
  refine wpList_plain hgd fun K hK => ?_
  obtain ⟨v', w', hrun, h2, h3, h4⟩ := run_append_sl (P := P) w base t o.type e z bytes ht hinfo hz v n xs hown A m c news hr h1 hbytes hb0 hbase
  unfold Oper.wp execOp
  simp only [ho, resolve, invoke, builtin, Sem.run_bind, Sem.run_pure, Result.andThen_ok, List.map_toArray, List.map_cons, List.map_nil, hs, hx, hrun]
  exact hK _ _ (h v' w' h2 h3 h4)
end

theorem sl_one (w : World) (x : Value) (t : TypeId) : Sl (w.alloc (.cells #[x] t)) (some ⟨w.heap.size, 0, none⟩) 1 [x] :=
  ⟨rfl, fun _ => ⟨w.heap.size, 0, rfl, fun j u hu => by
    have := cell_one_new w x t j u hu
    rwa [add_none] at this⟩⟩


/-- Block g is just the cells cs of type t. -/
def Blk (w : World) (g t : Nat) (cs : List Value) : Prop := w.heap[g]? = some (.cells cs.toArray t (0, 0))
/-- Block g has been written, and nothing else that was there. -/
def Wrote (w : World) (g t : Nat) (cs : List Value) (w' : World) : Prop := Blk w' g t cs ∧ w.grownBy w' (some g)

section
variable {w w' : World} {g t : Nat} {cs : List Value}
theorem Blk.cell (h : Blk w g t cs) (i : Nat) : w.cell? ⟨g, i, none⟩ = cs[i]? := by
  have := cell_of_row w g i cs.toArray t (0, 0) h
  simpa using this
theorem Blk.frozen (h : Blk w g t cs) (i : Nat) : w.frozen? ⟨g, i, none⟩ = false := by
  unfold Blk at h
  simp [World.frozen?, h]
theorem Blk.lt (h : Blk w g t cs) : g < w.heap.size := (Array.getElem?_eq_some_iff.1 h).1
theorem Blk.set_ (h : Blk w g t cs) (i : Nat) (u : Value) : Blk (w.setCell ⟨g, i, none⟩ u) g t (cs.set i u) := by
  unfold Blk at h ⊢
  simp [World.setCell, Array.getElem?_modify, h]
theorem Blk.of_block (h : Blk w g t cs) (e : w'.heap[g]? = w.heap[g]?) : Blk w' g t cs := e.trans h
theorem Blk.drew (h : Blk w g t cs) : Blk w.drew g t cs := h
theorem Blk.alloc (h : Blk w g t cs) (o : Obj) : Blk (w.alloc o) g t cs := (Below.heap_alloc w o g h.lt).trans h
theorem Blk.far (h : Blk w g t cs) {p : Addr} (hp : g ≠ p.block) (u : Value) : Blk (w.setCell p u) g t cs := (Below.heap_setCell w p u g hp).trans h
theorem Blk.below {B : Nat} (h : Blk w g t cs) (hb : Below B w w') (hg : g < B) : Blk w' g t cs := (hb.block g hg).trans h
theorem Blk.grown {row : Option Nat} (h : Blk w g t cs) (hb : w.grownBy w' row) (hg : some g ≠ row) : Blk w' g t cs := (hb.block g h.lt hg).trans h
theorem Blk.new (w : World) (t : Nat) (cs : List Value) : Blk (w.alloc (.cells cs.toArray t)) w.heap.size t cs := heap_alloc_new w _
theorem Blk.sl {off n : Nat} (h : Blk w g t cs) (hl : off + n ≤ cs.length) : Sl w (some ⟨g, off, none⟩) n ((cs.drop off).take n) :=
  ⟨by rw [List.length_take, List.length_drop]; omega, fun _ => ⟨g, off, rfl, fun j u hu => by
    rw [h.cell, ← hu, List.getElem?_take, List.getElem?_drop]
    split
    · rfl
    · have := (List.getElem?_eq_some_iff.1 hu).1
      rw [List.length_take, List.length_drop] at this
      omega⟩⟩
theorem Wrote.sets (h : Blk w g t cs) (i : Nat) (u : Value) : Wrote w g t (cs.set i u) (w.setCell ⟨g, i, none⟩ u) :=
  ⟨h.set_ i u, rfl, rfl, rfl, by simp [World.setCell], fun k _ hk => Below.heap_setCell w _ u k (fun e => hk (e ▸ rfl))⟩
theorem Wrote.trans {cs1 cs2 : List Value} {w1 w2 : World} (h : Wrote w g t cs1 w1) (k : Wrote w1 g t cs2 w2) : Wrote w g t cs2 w2 := ⟨k.1, grownBy_trans' h.2 k.2⟩
  where grownBy_trans' {a b c : World} {row : Option Nat} (h : a.grownBy b row) (k : b.grownBy c row) : a.grownBy c row :=
    ⟨k.os.trans h.os, k.tape.trans h.tape, k.output.trans h.output, Nat.le_trans h.size k.size, fun i hi hne => (k.block i (Nat.lt_of_lt_of_le hi h.size) hne).trans (h.block i hi hne)⟩
theorem below_wrote {B : Nat} {w0 : World} (h : Below B w0 w) (hb : B ≤ g) (hB : B ≤ w.heap.size) (k : Wrote w g t cs w') : Below B w0 w' := h.grown k.2 hB (by intro k e; injection e with e; omega)
theorem own_blk {base e n c : Nat} {A : Option Addr} {xs : List Value} (h : w.ownsRow base e 1 (.slice A n c) n xs) (hn : 0 < n) :
    ∃ g cur, A = some ⟨g, 0, none⟩ ∧ base ≤ g ∧ Blk w g e cur ∧ n ≤ c ∧ cur.length = c ∧ cur.take n = xs := by
  rcases h.2 with ⟨h1, h2⟩ | ⟨g, cap, cur, h1, hg, hh, hnc, hcm, hcs, ht⟩
  · omega
  · injection h1 with h1 _ h3
    subst h1 h3
    exact ⟨g, cur.toList, rfl, hg, by simpa [Blk] using hh, hnc, by simpa using hcs, by simpa using ht⟩
theorem blk_own {base n c : Nat} (h : Blk w g t cs) (hb : base ≤ g) (hn : n ≤ c) (hc : cs.length = c) (hm : c ≤ 9223372036854775807) : w.ownsRow base t 1 (.slice (some ⟨g, 0, none⟩) n c) n (cs.take n) :=
  ⟨by rw [List.length_take]; omega, .inr ⟨g, c, cs.toArray, rfl, hb, h, hn, by simpa [maxLen] using hm, by simpa using hc, by simp⟩⟩
end

/-- copy into a block that is known whole, from whatever slice. -/
theorem wpList_copy_blk {P : Program} {w : World} {ops : Array Oper} {rest : List Oper} {o : Oper} {a : Act} {Q : Exit → Act → World → Prop} (hgd : o.guard = none) (d s : Operand) (dT sT : TypeId)
    (ho : o.op = .call { callee := .builtin .copy, args := #[d, s], argTypes := #[dT, sT] }) (elem : TypeId) (hu : P.underlying dT = some (.slice elem)) (hsz : (P.info? elem).map (·.size) = some 1)
    (sp dp : Option Addr) (g off dLen dCap sLen sCap t : Nat) (cur xs : List Value) (hd : a.eval d = .slice dp dLen dCap) (hdp : 0 < dLen → dp = some ⟨g, off, none⟩) (hs : a.eval s = .slice sp sLen sCap)
    (hg : Blk w g t cur) (hr : Sl w sp sLen xs) (hfit0 : off + dLen ≤ cur.length) (h1 : ∀ v ∈ xs, v.oneCell' = true) (m : Nat) (hm : Nat.min sLen dLen = m)
    (h : ∀ w', Wrote w g t (splice cur off (xs.take dLen)) w' → wpList P ops Q rest (a.put o.dst (.int .i64 m)) w') :
    wpList P ops Q (o :: rest) a w := by
  subst hm
  have hl : (xs.take dLen).length = Nat.min sLen dLen := by rw [List.length_take, hr.1, Nat.min_comm]
  have hfit : off + Nat.min sLen dLen ≤ cur.length := by have : Nat.min sLen dLen ≤ dLen := Nat.min_le_right _ _; omega
  by_cases h0 : Nat.min sLen dLen = 0
  · refine wpList_copy_nothing hgd d s dT sT ho elem hu hsz dp sp dLen dCap sLen sCap hd hs h0 ?_
    have hn : xs.take dLen = [] := List.eq_nil_of_length_eq_zero (by rw [hl, h0])
    have hq := h w ⟨by rw [hn]; simpa [splice] using hg, World.grownBy.refl w _⟩
    rw [h0] at hq
    exact hq
  · have hpos : 0 < sLen ∧ 0 < dLen := by
      constructor
      · rcases Nat.eq_zero_or_pos sLen with e | e
        · subst e; exact absurd (Nat.zero_min dLen) h0
        · exact e
      · rcases Nat.eq_zero_or_pos dLen with e | e
        · subst e; exact absurd (Nat.min_zero sLen) h0
        · exact e
    obtain ⟨g1, o1, rfl, hc⟩ := hr.2 hpos.1
    obtain rfl := hdp hpos.2
    refine wpList_copy_own hgd d s dT sT ho elem hu hsz g off dLen dCap ⟨g1, o1, none⟩ sLen sCap hd hs cur.toArray t hg (xs.take dLen) (by rw [hl]) ?_ (by simpa [hl] using hfit) (fun v hv => h1 v (List.mem_of_mem_take hv)) ?_
    · intro j v hv
      rw [add_none]
      rw [List.getElem?_take] at hv
      split at hv
      · exact hc j v hv
      · cases hv
    · rw [hl]
      refine h _ ⟨?_, ?_⟩
      · have := setRow_heap w g cur.toArray (splice cur off (xs.take dLen)).toArray t (0, 0) hg
        simpa [splice, hl, Blk] using this
      · exact ⟨rfl, rfl, rfl, by simp [World.setRow], fun k _ hk => setRow_other w g k _ (fun e => hk (e ▸ rfl))⟩

theorem splice_two (cs : List Value) (off : Nat) (a b : Value) (h : off + 2 ≤ cs.length) : (cs.set off a).set (off + 1) b = splice cs off [a, b] := by
  apply List.ext_getElem?
  intro i
  have hl : (cs.take off).length = off := by rw [List.length_take]; omega
  simp only [splice, List.getElem?_set, List.length_set, List.length_cons, List.length_nil, Nat.zero_add]
  rcases Nat.lt_or_ge i off with h1 | h1
  · rw [List.getElem?_append_left (by omega), List.getElem?_take_of_lt h1, if_neg (by omega), if_neg (by omega)]
  · rw [List.getElem?_append_right (by omega), hl]
    by_cases e1 : i = off
    · subst e1; simp; omega
    · by_cases e2 : i = off + 1
      · subst e2; simp; omega
      · rw [if_neg (by omega), if_neg (by omega)]
        obtain ⟨m, rfl⟩ : ∃ m, i = off + (2 + m) := ⟨i - off - 2, by omega⟩
        have : off + (2 + m) - off = m + 1 + 1 := by omega
        rw [this]
        simp [List.getElem?_drop, Nat.add_assoc]
theorem splice_splice (cs : List Value) (off off2 : Nat) (a b : List Value) (h2 : off2 = off + a.length) (h : off + a.length + b.length ≤ cs.length) : splice (splice cs off a) off2 b = splice cs off (a ++ b) := by
  subst h2
  have hl : (cs.take off).length = off := by rw [List.length_take]; omega
  have e1 : (splice cs off a).take (off + a.length) = cs.take off ++ a := by
    rw [splice, ← List.append_assoc]
    exact List.take_left' (by rw [List.length_append, hl])
  have e2 : (splice cs off a).drop (off + a.length + b.length) = cs.drop (off + a.length + b.length) := by
    rw [splice, ← List.append_assoc, List.drop_append]
    have : (cs.take off ++ a).length = off + a.length := by rw [List.length_append, hl]
    rw [this, List.drop_eq_nil_of_le (by omega), List.nil_append, List.drop_drop]
    congr 1; omega
  rw [splice, e1, e2]
  simp [splice, Nat.add_assoc]
theorem splice_len (cs : List Value) (off : Nat) (a : List Value) (h : off + a.length ≤ cs.length) : (splice cs off a).length = cs.length := length_splice cs off a h
theorem splice_zero (cs a : List Value) (h : a.length = cs.length) : splice cs 0 a = a := by
  simp [splice, h]
theorem Wrote.far_blk {w w' : World} {g t g2 t2 : Nat} {cs c2 : List Value} (h : Wrote w g t cs w') (k : Blk w g2 t2 c2) (hne : g2 ≠ g) : Blk w' g2 t2 c2 := k.grown h.2 (fun e => hne (by injection e))

theorem below_app {w wr w1 : World} {e s n : Nat} {v : Value} {xs : List Value} (hb : Below w.heap.size w wr) (ho : wr.ownsRow w.heap.size e s v n xs) (o : Obj) (hg : (wr.alloc o).grownBy w1 v.ownBlock) : Below w.heap.size w w1 :=
  Below.grown (hb.alloc hb.size o) hg (by have := hb.size; simp; omega) (fun b hb2 => (ho.lt b hb2).1)
theorem below_app0 {w wr w1 : World} {e s n : Nat} {v : Value} {xs : List Value} (hb : Below w.heap.size w wr) (ho : wr.ownsRow w.heap.size e s v n xs) (hg : wr.grownBy w1 v.ownBlock) : Below w.heap.size w w1 :=
  Below.grown hb hg hb.size (fun b hb2 => (ho.lt b hb2).1)

theorem wf64 {x : Int} (h : (Lit.int .u64 x).wf = true) : 0 ≤ x ∧ Hid (x ≤ 18446744073709551615) := by
  simp only [Lit.wf, IntKind.min, IntKind.max, IntKind.signed, IntKind.bits, Bool.and_eq_true, decide_eq_true_eq] at h
  refine ⟨by simpa using h.1, ?_⟩
  show _ ≤ _
  simpa using h.2
theorem wf8 {x : Int} (h : (Lit.int .u8 x).wf = true) : 0 ≤ x ∧ x ≤ 255 := by
  simp [Lit.wf, IntKind.min, IntKind.max, IntKind.signed, IntKind.bits] at h; omega

end Go.Proofs.Ytadhdimleabljaa
