/- A row of one's own that begins anywhere in its block: what is behind 's = s[1:]'. -/
import Derived.Test.YtanmgkpgfmkobaaFM
import Derived.Maps.AppendAt
namespace Go.Proofs.Ytanmgkpgfmkobaa
open Go.RowKit
set_option linter.unusedVariables false
set_option linter.unusedSimpArgs false
section
variable {P : Program}
theorem run_append_roomO (w : World) (t ty e : TypeId) (i : TypeInfo) (ht : P.underlying t = some (.slice e)) (hi : P.info? e = some i)
    (g o sLen sCap : Nat) (cur : Array Value) (hg : w.heap[g]? = some (.cells cur e (0, 0)))
    (a : Addr) (m c : Nat) (news : List Value) (hl : news.length = m * i.size) (hnews : ∀ j u, news[j]? = some u → w.cell? (a.add j) = some u) (h1 : ∀ u ∈ news, u.oneCell' = true)
    (hroom : sLen + m ≤ sCap) (hfit : o + sLen * i.size + news.length ≤ cur.size) :
    (Builtin.append_ #[t, t] ty #[.slice (some ⟨g, o, none⟩) sLen sCap, .slice (some a) m c]).run P w =
      .ok (.slice (some ⟨g, o, none⟩) (sLen + m) sCap) (w.setRow g (cur.toList.take (o + sLen * i.size) ++ news ++ cur.toList.drop (o + sLen * i.size + news.length)).toArray) := by
  have hf := run_firstCells_some (P := P) w i.size m a m c news hl hnews
  have hst := run_storeCells_at P g (o + sLen * i.size) e news 0 cur w hg (by simpa using hfit) h1
  simp only [Nat.add_zero] at hst
  simp [Builtin.append_, run_underlying ht, sizeOf, typeInfo, hi, Builtin.lenOf, hroom, hf, add_none, hst]
end
/-- A slice of cells (one to an element) of one's own. -/
def OwnO (w : World) (B e : Nat) (v : Value) (l : List Value) : Prop :=
  (v = .slice none 0 0 ∧ l = []) ∨ ∃ g o c cur, v = .slice (some ⟨g, o, none⟩) l.length c ∧ B ≤ g ∧ w.heap[g]? = some (.cells cur e (0, 0)) ∧ l.length ≤ c ∧ c ≤ maxLen ∧ o + c ≤ cur.size ∧ (cur.toList.drop o).take l.length = l
theorem OwnO.frm {L : List Nat} {w w' : World} {B e : Nat} {v : Value} {l : List Value} (h : OwnO w B e v l) (hf : Frm L w w') (hn : ∀ k ∈ v.ownBlock.toList, k ∉ L) : OwnO w' B e v l := by
  rcases h with h | ⟨g, o, c, cur, rfl, h1, h2, r⟩
  · exact .inl h
  · have hlt : g < w.heap.size := (Array.getElem?_eq_some_iff.1 h2).1
    exact .inr ⟨g, o, c, cur, rfl, h1, (hf.block g hlt (hn g (by simp [Value.ownBlock]))).trans h2, r⟩
theorem OwnO.sl {w : World} {B e : Nat} {v : Value} {l : List Value} (h : OwnO w B e v l) : ∃ A c, v = .slice A l.length c ∧ l.length ≤ c ∧ Sl w A l.length l := by
  rcases h with ⟨rfl, rfl⟩ | ⟨g, o, c, cur, rfl, h1, h2, h3, h4, h5, h6⟩
  · exact ⟨none, 0, rfl, Nat.le_refl _, ⟨rfl, fun h => absurd h (by simp)⟩⟩
  · refine ⟨_, c, rfl, h3, ⟨rfl, fun _ => ⟨g, o, rfl, fun j u hu => ?_⟩⟩⟩
    have hj := (List.getElem?_eq_some_iff.1 hu).1
    rw [← h6, List.getElem?_take_of_lt hj, List.getElem?_drop] at hu
    have h7 : w.heap[g]? = some (.cells cur.toList.toArray e (0, 0)) := by rw [Array.toArray_toList]; exact h2
    exact (Blk.cell (t := e) h7 (o + j)).trans hu
theorem OwnO.blk {w : World} {B e k : Nat} {v : Value} {l : List Value} (h : OwnO w B e v l) (hk : k ∈ v.ownBlock.toList) : ∃ cs, Blk w k e cs ∧ B ≤ k := by
  rcases h with ⟨rfl, _⟩ | ⟨g, o, c, cur, rfl, h1, h2, _⟩
  · cases hk
  · simp only [Value.ownBlock, Option.toList_some, List.mem_singleton] at hk
    subst hk
    exact ⟨cur.toList, by unfold Blk; rw [Array.toArray_toList]; exact h2, h1⟩
/-- The first one is let go. -/
theorem OwnO.tail {w : World} {B e n c : Nat} {A : Option Addr} {x : Value} {l : List Value} (h : OwnO w B e (.slice A (n + 1) c) (x :: l)) (hn : l.length = n) : OwnO w B e (.slice (if c = 1 then A else A.map (·.add 1)) n (c - 1)) l := by
  rcases h with ⟨h, h0⟩ | ⟨g, o, c', cur, hv, h1, h2, h3, h4, h5, h6⟩
  · cases h0
  · injection hv with ha hb hc
    subst ha hc hn
    rw [List.length_cons] at h3 h6
    by_cases hc1 : c = 1
    · rw [if_pos hc1]
      have hl : l = [] := List.eq_nil_of_length_eq_zero (by omega)
      subst hl
      exact .inr ⟨g, o, c - 1, cur, rfl, h1, h2, by simp, by omega, by omega, by simp⟩
    · rw [if_neg hc1]
      refine .inr ⟨g, o + 1, c - 1, cur, by simp [add_none], h1, h2, by omega, by omega, by omega, ?_⟩
      have h7 : ((cur.toList.drop o).take (l.length + 1)).drop 1 = l := by rw [h6]; rfl
      rw [List.drop_take, List.drop_drop, Nat.add_sub_cancel] at h7
      exact h7
theorem run_appendO {P : Program} (w : World) (B : Nat) (t ty e : TypeId) (i : TypeInfo) (z : Value) (bytes : Nat) (ht : P.underlying t = some (.slice e)) (hi : P.info? e = some i) (hz : i.zero = some z) (hsize : i.size = 1) (hby : i.bytes = bytes) (hzs : z.cells.size = 1)
    (v : Value) (l : List Value) (hown : OwnO w B e v l) (a : Addr) (c : Nat) (x : Value) (hx : w.cell? a = some x) (h1 : x.oneCell' = true) (h63 : l.length + 1 ≤ maxLen) (hbytes : (l.length + 1) * bytes ≤ 140737488355328) (hB : B ≤ w.heap.size) :
    ∃ v' w', (Builtin.append_ #[t, t] ty #[v, .slice (some a) 1 c]).run P w = .ok v' w' ∧ OwnO w' B e v' (l ++ [x]) ∧ w.grownBy w' v.ownBlock ∧ (v'.ownBlock = v.ownBlock ∨ v'.ownBlock = some w.heap.size) := by
  have hsmall : l.length + 1 ≤ 9223372036854775807 := by simp only [maxLen] at h63; omega
  have hnews : ∀ j u, [x][j]? = some u → w.cell? (a.add j) = some u := by
    intro j u hj
    match j, hj with
    | 0, hj =>
      simp at hj
      subst hj
      have e0 : a.add 0 = a := by unfold Addr.add; simp
      rw [e0]; exact hx
  have hl1 : ([x] : List Value).length = 1 * i.size := by rw [hsize]; rfl
  have grown : ∀ (old : Nat) (row : Option Nat), old < l.length + 1 →
      OwnO (w.drew.alloc (.cells (l.toArray ++ [x].toArray ++ Builtin.zeroCells z.cells (grownCap w (l.length + 1) old e - (l.length + 1))) e)) B e (.slice (some ⟨w.heap.size, 0, none⟩) (l.length + 1) (grownCap w (l.length + 1) old e)) (l ++ [x]) ∧
      w.grownBy (w.drew.alloc (.cells (l.toArray ++ [x].toArray ++ Builtin.zeroCells z.cells (grownCap w (l.length + 1) old e - (l.length + 1))) e)) row := by
    intro old row ho
    have hge := grownCap_ge w (l.length + 1) old e
    have hcm : grownCap w (l.length + 1) old e ≤ maxLen := grownCap_le_maxLen w (l.length + 1) old e h63
    refine ⟨.inr ⟨w.heap.size, 0, _, _, by rw [List.length_append]; rfl, hB, heap_alloc_new w.drew _, by rw [List.length_append]; exact hge, hcm, ?_, ?_⟩, ⟨rfl, rfl, rfl, by simp, fun k hk _ => heap_alloc_old w.drew _ hk⟩⟩
    · simp only [Array.size_append, List.size_toArray, size_zeroCells, hzs, List.length_singleton]
      omega
    · simp only [List.drop_zero, Array.toList_append, List.append_assoc]
      rw [← List.append_assoc]
      exact List.take_left
  rcases hown with ⟨rfl, rfl⟩ | ⟨g, o, cap, cur, rfl, hbg, hg, hnc, hcm, hcs, htake⟩
  · have hr := run_append_nil (P := P) w t ty e i z ht hi hz a 1 c [x] hl1 hnews (by omega) (by omega) (by rw [hby]; simp only [List.length_nil, Nat.zero_add] at hbytes; omega)
    have hgr := grown 0 (Value.ownBlock (.slice none 0 0)) (by simp)
    simp only [List.length_nil, Nat.zero_add, List.nil_append, Array.empty_append] at hgr ⊢
    exact ⟨_, _, hr, hgr.1, hgr.2, .inr rfl⟩
  · by_cases hroom : l.length + 1 ≤ cap
    · have hfit : o + l.length * i.size + ([x] : List Value).length ≤ cur.size := by rw [hsize]; simp; omega
      have hr := run_append_roomO (P := P) w t ty e i ht hi g o l.length cap cur hg a 1 c [x] hl1 hnews (fun u hu => by rw [List.mem_singleton] at hu; subst hu; exact h1) hroom hfit
      rw [hsize, Nat.mul_one] at hr
      refine ⟨_, _, hr, .inr ⟨g, o, cap, _, by rw [List.length_append]; rfl, hbg, setRow_heap w g cur _ e _ hg, by rw [List.length_append]; exact hroom, hcm, ?_, ?_⟩, ⟨rfl, rfl, rfl, by simp, fun k _ hk => setRow_other w g k _ (fun e => hk (by simp [Value.ownBlock, e]))⟩, .inl rfl⟩
      · simp only [List.size_toArray, List.length_append, List.length_take, List.length_drop, Array.length_toList, List.length_singleton]
        omega
      · have hsz : o + l.length ≤ cur.toList.length := by rw [Array.length_toList (xs := cur)]; omega
        simp only [List.append_assoc]
        rw [List.drop_append_of_le_length (by rw [List.length_take]; omega), List.length_append, List.drop_take, Nat.add_sub_cancel_left, htake, ← List.append_assoc]
        exact List.take_left' (by rw [List.length_append])
    · have holds : ∀ j u, l[j]? = some u → w.cell? ((⟨g, o, none⟩ : Addr).add j) = some u := fun j u hu => by
        have hj := (List.getElem?_eq_some_iff.1 hu).1
        rw [← htake, List.getElem?_take_of_lt hj, List.getElem?_drop] at hu
        have h7 : w.heap[g]? = some (.cells cur.toList.toArray e (0, 0)) := by rw [Array.toArray_toList]; exact hg
        rw [add_none]
        exact (Blk.cell (t := e) h7 (o + j)).trans hu
      have hr := run_append_grow (P := P) w t ty e i z ht hi hz ⟨g, o, none⟩ l.length cap l (by rw [hsize, Nat.mul_one]) holds a 1 c [x] hl1 hnews (by omega) (by omega) (by rw [hby]; exact growslice_fits (by omega) hbytes)
      have hgr := grown cap (Value.ownBlock (.slice (some ⟨g, o, none⟩) l.length cap)) (by omega)
      exact ⟨_, _, hr, hgr.1, hgr.2, .inr rfl⟩
end Go.Proofs.Ytanmgkpgfmkobaa
