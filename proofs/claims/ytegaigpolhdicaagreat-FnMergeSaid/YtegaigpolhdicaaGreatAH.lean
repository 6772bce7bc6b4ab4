/- The reference of lists that are merged: places in them, in plain words. -/
import Derived.Test.YtegaigpolhdicaaGreatAG
import Derived.Test.YtegaigpolhdicaaGreatTB
namespace Go.Proofs.YtegaigpolhdicaaGreat
open Go.RowKit
set_option linter.unusedVariables false
set_option linter.unusedSimpArgs false
def restE (ls : List LsR) (at_ : List Nat) : List (List Ent) := List.zipWith (fun (q : LsR) a => (q.es.map ER.e).drop a) ls at_
theorem restE_zero : ∀ ls : List LsR, restE ls (List.replicate ls.length 0) = entsOf ls
  | [] => rfl
  | q :: ls => by
    show (q.es.map ER.e).drop 0 :: restE ls (List.replicate ls.length 0) = _
    rw [restE_zero ls]
    rfl
theorem restE_at {ls : List LsR} {at_ : List Nat} {k a : Nat} {q : LsR} (hq : ls[k]? = some q) (ha : at_[k]? = some a) : (restE ls at_)[k]? = some ((q.es.map ER.e).drop a) := by
  unfold restE
  rw [List.getElem?_zipWith, hq, ha]
def bumpA (e : Ent) (q : LsR) (a : Nat) : Nat := match q.es[a]? with
  | some r => if r.e.ord e = 0 then a + 1 else a
  | none => a
theorem bumpA_none {e : Ent} {q : LsR} {a : Nat} (h : q.es[a]? = none) : bumpA e q a = a := by unfold bumpA; rw [h]
theorem bumpA_some {e : Ent} {q : LsR} {a : Nat} {r : ER} (h : q.es[a]? = some r) : bumpA e q a = if r.e.ord e = 0 then a + 1 else a := by unfold bumpA; rw [h]
def bumpN (e : Ent) (ls : List LsR) (at_ : List Nat) : List Nat := List.zipWith (bumpA e) ls at_
theorem bumpN_at {e : Ent} {ls : List LsR} {at_ : List Nat} {k a : Nat} {q : LsR} (hq : ls[k]? = some q) (ha : at_[k]? = some a) : (bumpN e ls at_)[k]? = some (bumpA e q a) := by
  unfold bumpN
  rw [List.getElem?_zipWith, hq, ha]
theorem bumpN_len {e : Ent} {ls : List LsR} {at_ : List Nat} (h : at_.length = ls.length) : (bumpN e ls at_).length = ls.length := by
  unfold bumpN
  rw [List.length_zipWith, h, Nat.min_self]
theorem drop_head {q : LsR} {a : Nat} {r : ER} (h : q.es[a]? = some r) : (q.es.map ER.e).drop a = r.e :: (q.es.map ER.e).drop (a + 1) := by
  have hl := (List.getElem?_eq_some_iff.1 h)
  have hl2 : a < (q.es.map ER.e).length := by rw [List.length_map]; exact hl.1
  rw [List.drop_eq_getElem_cons hl2, List.getElem_map, hl.2]
theorem drop_none {q : LsR} {a : Nat} (h : q.es[a]? = none) : (q.es.map ER.e).drop a = [] := List.drop_eq_nil_of_le (by rw [List.length_map]; exact List.getElem?_eq_none_iff.1 h)
theorem restE_bump (e : Ent) : ∀ (ls : List LsR) (at_ : List Nat), restE ls (bumpN e ls at_) = (restE ls at_).map (dropQ e)
  | [], _ => rfl
  | q :: ls, [] => rfl
  | q :: ls, a :: at_ => by
    show (q.es.map ER.e).drop (bumpA e q a) :: restE ls (bumpN e ls at_) = dropQ e ((q.es.map ER.e).drop a) :: (restE ls at_).map (dropQ e)
    rw [restE_bump e ls at_]
    congr 1
    cases h : q.es[a]? with
    | none =>
      rw [bumpA_none h, drop_none h]
      rfl
    | some r =>
      rw [bumpA_some h, drop_head h]
      show _ = (if r.e.ord e = 0 then _ else _)
      by_cases h0 : r.e.ord e = 0
      · rw [if_pos h0, if_pos h0]
      · rw [if_neg h0, if_neg h0, drop_head h]
theorem best_snoc (xs : List (List Ent)) (l : List Ent) : best (xs ++ [l]) = bst (best xs) l := by
  unfold best
  rw [List.foldl_append]
  rfl
/-- The least head of the first lists, as a number. -/
def Bst (ls : List LsR) (at_ : List Nat) (k : Nat) (v : Int) : Prop := (best ((restE ls at_).take k) = none ∧ v = -1) ∨ ∃ j q a r, j < k ∧ ls[j]? = some q ∧ at_[j]? = some a ∧ q.es[a]? = some r ∧ best ((restE ls at_).take k) = some r.e ∧ v = (j : Int)
section
variable {ls : List LsR} {at_ : List Nat} {k a : Nat} {q : LsR} {r : ER} {v : Int}
theorem Bst.zero : Bst ls at_ 0 (-1) := .inl ⟨rfl, rfl⟩
theorem best_next (hq : ls[k]? = some q) (ha : at_[k]? = some a) : best ((restE ls at_).take (k + 1)) = bst (best ((restE ls at_).take k)) ((q.es.map ER.e).drop a) := by
  rw [take_snoc _ k _ (restE_at hq ha), best_snoc]
theorem Bst.out (h : Bst ls at_ k v) (hq : ls[k]? = some q) (ha : at_[k]? = some a) (hr : q.es[a]? = none) : Bst ls at_ (k + 1) v := by
  unfold Bst
  rw [best_next hq ha, drop_none hr]
  rcases h with h | ⟨j, q', a', r', h1, h2⟩
  · exact .inl h
  · exact .inr ⟨j, q', a', r', by omega, h2⟩
theorem Bst.first (h : Bst ls at_ k (-1)) (hq : ls[k]? = some q) (ha : at_[k]? = some a) (hr : q.es[a]? = some r) : Bst ls at_ (k + 1) (k : Int) := by
  have hb : best ((restE ls at_).take k) = none := by
    rcases h with h | ⟨j, q', a', r', h1, h2, h3, h4, h5, h6⟩
    · exact h.1
    · omega
  refine .inr ⟨k, q, a, r, by omega, hq, ha, hr, ?_, rfl⟩
  rw [best_next hq ha, hb, drop_head hr]
  rfl
theorem Bst.less {j : Nat} {q' : LsR} {a' : Nat} {r' : ER} (hb : best ((restE ls at_).take k) = some r'.e) (hq : ls[k]? = some q) (ha : at_[k]? = some a) (hr : q.es[a]? = some r) (ho : r.e.ord r'.e < 0) : Bst ls at_ (k + 1) (k : Int) := by
  refine .inr ⟨k, q, a, r, by omega, hq, ha, hr, ?_, rfl⟩
  rw [best_next hq ha, hb, drop_head hr]
  show (if r.e.ord r'.e < 0 then some r.e else some r'.e) = _
  rw [if_pos ho]
theorem Bst.more {j : Nat} {q' : LsR} {a' : Nat} {r' : ER} (hj : j < k) (h2 : ls[j]? = some q') (h3 : at_[j]? = some a') (h4 : q'.es[a']? = some r') (hb : best ((restE ls at_).take k) = some r'.e) (hq : ls[k]? = some q) (ha : at_[k]? = some a) (hr : q.es[a]? = some r) (ho : ¬ r.e.ord r'.e < 0) : Bst ls at_ (k + 1) (j : Int) := by
  refine .inr ⟨j, q', a', r', by omega, h2, h3, h4, ?_, rfl⟩
  rw [best_next hq ha, hb, drop_head hr]
  show (if r.e.ord r'.e < 0 then some r.e else some r'.e) = _
  rw [if_neg ho]
end
/-- Partly those behind, partly those ahead. -/
def mixL (b c : List Nat) (k : Nat) : List Nat := b.take k ++ c.drop k
theorem mixL_zero (b c : List Nat) : mixL b c 0 = c := rfl
theorem mixL_end {b c : List Nat} {n : Nat} (hb : b.length = n) (hc : c.length = n) : mixL b c n = b := by
  unfold mixL
  rw [List.take_of_length_le (by omega), List.drop_eq_nil_of_le (by omega), List.append_nil]
theorem mixL_at {b c : List Nat} {k : Nat} (hb : k ≤ b.length) : (mixL b c k)[k]? = c[k]? := by
  unfold mixL
  rw [List.getElem?_append_right (by rw [List.length_take]; omega), List.length_take, Nat.min_eq_left hb, Nat.sub_self, List.getElem?_drop, Nat.add_zero]
theorem mixL_set {b c : List Nat} {k y : Nat} (h : b.length = c.length) (hk : b[k]? = some y) : (mixL b c k).set k y = mixL b c (k + 1) := by
  have hl := (List.getElem?_eq_some_iff.1 hk).1
  have hc : k < c.length := by omega
  unfold mixL
  rw [List.set_append_right _ _ (by rw [List.length_take]; omega), List.length_take, Nat.min_eq_left (by omega), Nat.sub_self, List.drop_eq_getElem_cons hc, List.set_cons_zero, take_snoc b k y hk, List.append_assoc]
  rfl
theorem mixL_same {b c : List Nat} {k y : Nat} (h : b.length = c.length) (hk : b[k]? = some y) (hc : c[k]? = some y) : mixL b c k = mixL b c (k + 1) := by
  rw [← mixL_set h hk]
  have : (mixL b c k)[k]? = some y := by rw [mixL_at (by have := (List.getElem?_eq_some_iff.1 hk).1; omega)]; exact hc
  obtain ⟨g, hg⟩ := List.getElem?_eq_some_iff.1 this
  rw [← hg, List.set_getElem_self]
def natC (l : List Nat) : List Value := l.map fun a : Nat => .int .i64 (a : Int)
theorem natC_at {l : List Nat} {k a : Nat} (h : l[k]? = some a) : (natC l)[k]? = some (.int .i64 (a : Int)) := by
  unfold natC
  rw [List.getElem?_map, h]
  rfl
theorem natC_set (l : List Nat) (k y : Nat) : (natC l).set k (.int .i64 (y : Int)) = natC (l.set k y) := by
  unfold natC
  rw [List.map_set]
/-- Six cells of an entry. -/
def Six (g o : Nat) (r : ER) (w' : World) : Prop := w'.cell? ⟨g, o, none⟩ = some (.slice r.Ak r.nk r.ck) ∧ w'.cell? ⟨g, o + 1, none⟩ = some (.int .u64 r.e.v) ∧ w'.cell? ⟨g, o + 2, none⟩ = some (.int .u8 r.e.m) ∧ w'.cell? ⟨g, o + 3, none⟩ = some (.int .u8 r.e.u) ∧ w'.cell? ⟨g, o + 4, none⟩ = some (.int .u64 r.e.x) ∧ w'.cell? ⟨g, o + 5, none⟩ = some (.slice r.Ad r.nd r.cd)
theorem Six.bel {g o : Nat} {q : ER} {w w' : World} (h : Six g o q w) (hb : Below w.heap.size w w') : Six g o q w' := by
  obtain ⟨h0, h1, h2, h3, h4, h5⟩ := h
  exact ⟨cell_bel h0 hb, cell_bel h1 hb, cell_bel h2 hb, cell_bel h3 hb, cell_bel h4 hb, cell_bel h5 hb⟩
theorem Ers.six {w : World} {g o : Nat} {l : List ER} (h : Ers w (some ⟨g, o, none⟩) l) {i : Nat} {r : ER} (hi : l[i]? = some r) : Six g (o + i * 6) r w := by
  have ca : ∀ j v, r.cells[j]? = some v → w.cell? ⟨g, o + i * 6 + j, none⟩ = some v := fun j v hj => h.at_ hi hj
  exact ⟨ca 0 _ rfl, ca 1 _ rfl, ca 2 _ rfl, ca 3 _ rfl, ca 4 _ rfl, ca 5 _ rfl⟩
theorem Ers.addr6 {w : World} {A : Option Addr} {l : List ER} (h : Ers w A l) (hl : 0 < l.length) : ∃ g o, A = some ⟨g, o, none⟩ := by
  obtain ⟨g, o, e, _⟩ := h.sl.2 (by omega)
  exact ⟨g, o, e⟩
def MgA (gA k a gB j b gl ol : Nat) (v : Value) (g1 o1 g2 o2 : Nat) (r q : ER) (w' : World) : Prop := w'.cell? ⟨gA, k, none⟩ = some (.int .i64 (a : Int)) ∧ w'.cell? ⟨gB, j, none⟩ = some (.int .i64 (b : Int)) ∧ w'.cell? ⟨gl, ol + j, none⟩ = some v ∧ Six g1 o1 r w' ∧ Six g2 o2 q w'
theorem MgA.bel {gA k a gB j b gl ol : Nat} {v : Value} {g1 o1 g2 o2 : Nat} {r q : ER} {w w' : World} (h : MgA gA k a gB j b gl ol v g1 o1 g2 o2 r q w) (hb : Below w.heap.size w w') : MgA gA k a gB j b gl ol v g1 o1 g2 o2 r q w' :=
  ⟨cell_bel h.1 hb, cell_bel h.2.1 hb, cell_bel h.2.2.1 hb, h.2.2.2.1.bel hb, h.2.2.2.2.bel hb⟩
def MgB (gA k a : Nat) (g1 o1 g2 : Nat) (r q : ER) (w' : World) : Prop := w'.cell? ⟨gA, k, none⟩ = some (.int .i64 (a : Int)) ∧ Six g1 o1 r w' ∧ One g2 q w'
theorem MgB.bel {gA k a : Nat} {g1 o1 g2 : Nat} {r q : ER} {w w' : World} (h : MgB gA k a g1 o1 g2 r q w) (hb : Below w.heap.size w w') : MgB gA k a g1 o1 g2 r q w' :=
  ⟨cell_bel h.1 hb, h.2.1.bel hb, h.2.2.bel hb⟩
def MgC (gB j b gl ol : Nat) (v : Value) (g2 o2 : Nat) (q : ER) (w' : World) : Prop := w'.cell? ⟨gB, j, none⟩ = some (.int .i64 (b : Int)) ∧ w'.cell? ⟨gl, ol + j, none⟩ = some v ∧ Six g2 o2 q w'
theorem MgC.bel {gB j b gl ol : Nat} {v : Value} {g2 o2 : Nat} {q : ER} {w w' : World} (h : MgC gB j b gl ol v g2 o2 q w) (hb : Below w.heap.size w w') : MgC gB j b gl ol v g2 o2 q w' := ⟨cell_bel h.1 hb, cell_bel h.2.1 hb, h.2.2.bel hb⟩
theorem infoI : (Tryz.prog.info? 3).map (fun i => (i.zero, i.size, i.bytes)) = some (some (.int .i64 0), 1, 8) := by kernel_rfl
end Go.Proofs.YtegaigpolhdicaaGreat
