/- Lists in order that are merged, all together. -/
import Derived.Test.YtegaigpolhdicaaGreatA1
namespace Go.Proofs.YtegaigpolhdicaaGreat
set_option linter.unusedVariables false
set_option linter.unusedSimpArgs false
/-- What stands in lists, each in the first that has its like. -/
def MemF : List (List Ent) → Ent → Prop
  | [], _ => False
  | l :: ls, e => e ∈ l ∨ (MemF ls e ∧ ∀ a ∈ l, ordD false a e ≠ 0)
def LikeF (ls : List (List Ent)) (e : Ent) : Prop := ∃ l ∈ ls, ∃ a ∈ l, ordD false a e = 0
theorem ordD_self (rev : Bool) (e : Ent) : ordD rev e e = 0 := (ordD_zero rev e e).2 ⟨rfl, rfl⟩
theorem ordD_rev0 (rev rev' : Bool) (a b : Ent) : ordD rev a b = 0 ↔ ordD rev' a b = 0 := by rw [ordD_zero, ordD_zero]
theorem memF_app : ∀ (xs ys : List (List Ent)) (e : Ent), MemF (xs ++ ys) e ↔ MemF xs e ∨ (MemF ys e ∧ ∀ l ∈ xs, ∀ a ∈ l, ordD false a e ≠ 0)
  | [], ys, e => ⟨fun h => .inr ⟨h, fun l hl => by cases hl⟩, fun h => by
    rcases h with h | h
    · cases h
    · exact h.1⟩
  | l :: xs, ys, e => by
    show e ∈ l ∨ (MemF (xs ++ ys) e ∧ _) ↔ (e ∈ l ∨ (MemF xs e ∧ _)) ∨ _
    rw [memF_app xs ys e]
    constructor
    · rintro (h | ⟨h | ⟨h, h2⟩, h3⟩)
      · exact .inl (.inl h)
      · exact .inl (.inr ⟨h, h3⟩)
      · refine .inr ⟨h, fun m hm => ?_⟩
        rcases List.mem_cons.1 hm with rfl | hm
        · exact h3
        · exact h2 m hm
    · rintro ((h | h) | ⟨h, h2⟩)
      · exact .inl h
      · exact .inr ⟨.inl h.1, h.2⟩
      · exact .inr ⟨.inr ⟨h, fun m hm => h2 m (List.mem_cons_of_mem _ hm)⟩, h2 l (List.mem_cons_self ..)⟩
theorem memF_like : ∀ {ls : List (List Ent)} {e : Ent}, (∃ x, MemF ls x ∧ ordD false x e = 0) ↔ LikeF ls e
  | [], e => ⟨fun ⟨_, h, _⟩ => h.elim, fun ⟨_, h, _⟩ => by cases h⟩
  | l :: ls, e => by
    constructor
    · rintro ⟨x, h | ⟨h, _⟩, hx⟩
      · exact ⟨l, List.mem_cons_self .., x, h, hx⟩
      · obtain ⟨m, hm, a, ha, he⟩ := memF_like.1 ⟨x, h, hx⟩
        exact ⟨m, List.mem_cons_of_mem _ hm, a, ha, he⟩
    · rintro ⟨m, hm, a, ha, he⟩
      by_cases hc : ∃ b ∈ l, ordD false b e = 0
      · obtain ⟨b, hb, hbe⟩ := hc
        exact ⟨b, .inl hb, hbe⟩
      · rcases List.mem_cons.1 hm with rfl | hm
        · exact absurd ⟨a, ha, he⟩ hc
        · obtain ⟨x, hx, hxe⟩ := memF_like.2 ⟨m, hm, a, ha, he⟩
          refine ⟨x, .inr ⟨hx, fun b hb hbx => hc ⟨b, hb, ?_⟩⟩, hxe⟩
          rw [ordD_eq_l hbx]; exact hxe
/-- A list that holds what lists hold, in order, one way or the other. -/
structure IsMerged (rev : Bool) (ls : List (List Ent)) (r : List Ent) : Prop where
  sort : SortD rev r
  mem : ∀ e, e ∈ r ↔ MemF ls e
theorem IsMerged.one {rev : Bool} {ls : List (List Ent)} {r s : List Ent} (h : IsMerged rev ls r) (k : IsMerged rev ls s) : r = s := sortD_same h.sort k.sort fun e => (h.mem e).trans (k.mem e).symm
theorem IsMerged.single {rev : Bool} {l r : List Ent} (hr : SortD rev r) (h : ∀ e, e ∈ r ↔ e ∈ l) : IsMerged rev [l] r := ⟨hr, fun e => by
  rw [h e]
  refine ⟨fun k => .inl k, fun k => ?_⟩
  rcases k with k | ⟨k, _⟩
  · exact k
  · exact k.elim⟩
theorem IsMerged.app {rev : Bool} {xs ys : List (List Ent)} {r s : List Ent} (h : IsMerged rev xs r) (k : IsMerged rev ys s) : IsMerged rev (xs ++ ys) (mergeD rev r s) := ⟨mergeD_sort h.sort k.sort, fun e => by
  rw [mergeD_in h.sort k.sort, memF_app, h.mem, k.mem]
  refine or_congr Iff.rfl (and_congr Iff.rfl ⟨fun hn l hl a ha hae => ?_, fun hn a ha hae => ?_⟩)
  · obtain ⟨x, hx, hxe⟩ := memF_like.2 ⟨l, hl, a, ha, hae⟩
    exact hn x ((h.mem x).2 hx) ((ordD_rev0 _ _ _ _).2 hxe)
  · obtain ⟨l, hl, b, hb, hbe⟩ := memF_like.1 ⟨a, (h.mem a).1 ha, (ordD_rev0 _ _ _ _).1 hae⟩
    exact hn l hl b hb hbe⟩
theorem sortD_back {rev : Bool} {l : List Ent} (h : SortD rev l) : SortD (!rev) l.reverse := by
  unfold SortD at *
  rw [List.pairwise_reverse]
  refine h.imp fun {a b} hab => ?_
  have := ordD_anti rev a b
  have : ordD (!rev) b a = ordD rev a b := by cases rev <;> rfl
  omega
theorem IsMerged.back {rev : Bool} {ls : List (List Ent)} {r : List Ent} (h : IsMerged rev ls r) : IsMerged (!rev) ls r.reverse := ⟨sortD_back h.sort, fun e => by rw [List.mem_reverse]; exact h.mem e⟩
/-! The reference: what stands first, and what is left behind it. -/
def mergedE : List (List Ent) → List Ent
  | [] => []
  | l :: ls => mergeD false l (mergedE ls)
theorem mergedE_is : ∀ {ls : List (List Ent)}, (∀ l ∈ ls, SortD false l) → IsMerged false ls (mergedE ls)
  | [], _ => ⟨List.Pairwise.nil, fun e => ⟨fun h => (by cases h), fun h => h.elim⟩⟩
  | l :: ls, h => (IsMerged.single (h l (List.mem_cons_self ..)) (fun _ => Iff.rfl)).app (xs := [l]) (mergedE_is fun m hm => h m (List.mem_cons_of_mem _ hm))
/-- The first of the least heads, from the left. -/
def bst (b : Option Ent) (l : List Ent) : Option Ent := match l with
  | [] => b
  | a :: _ => match b with
    | none => some a
    | some x => if a.ord x < 0 then some a else some x
def best (ls : List (List Ent)) : Option Ent := ls.foldl bst none
def dropQ (e : Ent) (l : List Ent) : List Ent := match l with
  | [] => []
  | b :: r => if b.ord e = 0 then r else b :: r
def pick (o : Option Ent) (b : Option Ent) : Option Ent := match o with
  | none => b
  | some a => match b with
    | none => some a
    | some x => if x.ord a < 0 then some x else some a
theorem ordF (a b : Ent) : ordD false a b = a.ord b := rfl
theorem pick_bst (o b : Option Ent) (l : List Ent) : bst (pick o b) l = pick o (bst b l) := by
  cases l with
  | nil => rfl
  | cons a l =>
    cases o with
    | none => rfl
    | some c =>
      cases b with
      | none => rfl
      | some x =>
        simp only [pick, bst]
        have e1 := ordD_three false x c
        have e2 := ordD_three false a x
        have e3 := ordD_three false a c
        have t1 : ordD false a x = -1 → ordD false x c = -1 → ordD false a c = -1 := fun p q => ordD_trans p q
        have t2 : ordD false a c = -1 → ordD false c x = -1 → ordD false a x = -1 := fun p q => ordD_trans p q
        have t3 := ordD_anti false x c
        have t4 : ordD false c x = 0 → ordD false a c = ordD false a x := fun p => ordD_eq_r p
        have t6 := ordD_anti false c x
        simp only [ordF] at *
        by_cases h1 : x.ord c < 0
        · by_cases h2 : a.ord x < 0
          · have h3 := t1 (by omega) (by omega)
            simp [h1, h2, h3]
          · simp [h1, h2]
        · by_cases h2 : a.ord x < 0
          · simp [h1, h2]
          · have h3 : ¬ a.ord c < 0 := by
              intro h
              rcases e1 with e | e | e
              · omega
              · have := t4 (by omega); omega
              · have := t2 (by omega) (by omega); omega
            simp [h1, h2, h3]
theorem fold_pick (o : Option Ent) : ∀ (ls : List (List Ent)) (b : Option Ent), ls.foldl bst (pick o b) = pick o (ls.foldl bst b)
  | [], b => rfl
  | l :: ls, b => by
    show ls.foldl bst (bst (pick o b) l) = pick o (ls.foldl bst (bst b l))
    rw [pick_bst, fold_pick o ls]
theorem best_cons (l : List Ent) (ls : List (List Ent)) : best (l :: ls) = pick l.head? (best ls) := by
  show ls.foldl bst (bst none l) = _
  rw [show bst none l = pick l.head? none by cases l <;> rfl, fold_pick]
  rfl
/-- One more. -/
theorem mergedE_step : ∀ {ls : List (List Ent)}, (∀ l ∈ ls, SortD false l) → (best ls = none → mergedE ls = [] ∧ ∀ l ∈ ls, l = []) ∧ (∀ e, best ls = some e → mergedE ls = e :: mergedE (ls.map (dropQ e)))
  | [], _ => ⟨fun _ => ⟨rfl, fun l hl => (by cases hl)⟩, fun e h => (by cases h)⟩
  | l :: ls, h => by
    obtain ⟨i1, i2⟩ := mergedE_step (ls := ls) fun m hm => h m (List.mem_cons_of_mem _ hm)
    have hls : SortD false (mergedE ls) := (mergedE_is fun m hm => h m (List.mem_cons_of_mem _ hm)).sort
    have hl := h l (List.mem_cons_self ..)
    have hmem := (mergedE_is fun m hm => h m (List.mem_cons_of_mem _ hm)).mem
    rw [best_cons]
    cases l with
    | nil =>
      rw [show pick ([] : List Ent).head? (best ls) = best ls from rfl, show mergedE ([] :: ls) = mergedE ls from rfl]
      refine ⟨fun hb => ⟨(i1 hb).1, fun m hm => ?_⟩, fun e hb => ?_⟩
      · rcases List.mem_cons.1 hm with rfl | hm
        · rfl
        · exact (i1 hb).2 m hm
      · exact i2 e hb
    | cons a l =>
      have hsame : ∀ {c : Ent}, (∀ x ∈ mergedE ls, x.ord c ≠ 0) → ls.map (dropQ c) = ls := fun {c} hc => by
        have : ∀ m ∈ ls, dropQ c m = m := fun m hm => by
          cases m with
          | nil => rfl
          | cons b m =>
            show (if b.ord c = 0 then m else b :: m) = _
            rw [if_neg]
            intro hb
            obtain ⟨x, hx, hxc⟩ := memF_like.2 ⟨b :: m, hm, b, List.mem_cons_self .., hb⟩
            exact hc x ((hmem x).2 hx) hxc
        conv => rhs; rw [← List.map_id ls]
        exact List.map_congr_left fun m hm => this m hm
      show (pick (some a) (best ls) = none → _) ∧ _
      cases hb : best ls with
      | none =>
        refine ⟨fun hn => (by cases hn), fun e he => ?_⟩
        cases he
        obtain ⟨h1, h2⟩ := i1 hb
        show mergeD false (a :: l) (mergedE ls) = a :: mergeD false (if a.ord a = 0 then l else a :: l) (mergedE (ls.map (dropQ a)))
        rw [if_pos (show a.ord a = 0 from ordD_self false a), hsame (by rw [h1]; intro x hx; cases hx), h1, mergeD_nil_r, mergeD_nil_r]
      | some b =>
        have h2 := i2 b hb
        refine ⟨fun hn => by
          have : pick (some a) (some b) ≠ none := by simp only [pick]; split <;> simp
          exact absurd hn this, fun e he => ?_⟩
        have he' : (if b.ord a < 0 then some b else some a) = some e := he
        have hsr : SortD false (b :: mergedE (ls.map (dropQ b))) := by rw [← h2]; exact hls
        obtain ⟨s1, s2⟩ := sortD_cons.1 hsr
        have an := ordD_anti false b a
        rw [ordF, ordF] at an
        show mergeD false (a :: l) (mergedE ls) = e :: mergeD false (if a.ord e = 0 then l else a :: l) (mergedE (ls.map (dropQ e)))
        rcases ordD_three false a b with h3 | h3 | h3 <;> rw [ordF] at h3
        · rw [if_neg (by omega)] at he'
          cases he'
          have hbig : ∀ x ∈ mergedE ls, x.ord a ≠ 0 := fun x hx hxa => by
            rw [h2] at hx
            have h5 : ordD false a x = -1 := by
              rcases List.mem_cons.1 hx with rfl | hx
              · exact h3
              · exact ordD_trans h3 (s1 x hx)
            have := ordD_anti false a x
            rw [ordF, ordF] at this
            rw [ordF] at h5
            omega
          rw [if_pos (show a.ord a = 0 from ordD_self false a), hsame hbig, h2, mergeD_lt (rev := false) l _ h3]
        · rw [if_neg (by omega)] at he'
          cases he'
          rw [if_pos (show a.ord a = 0 from ordD_self false a), h2, mergeD_eq (rev := false) l _ h3]
          have : ls.map (dropQ a) = ls.map (dropQ b) := List.map_congr_left fun m hm => by
            cases m with
            | nil => rfl
            | cons c m =>
              show (if c.ord a = 0 then m else c :: m) = (if c.ord b = 0 then m else c :: m)
              rw [show c.ord a = c.ord b from ordD_eq_r (rev := false) h3]
          rw [this]
        · rw [if_pos (by omega)] at he'
          cases he'
          rw [if_neg (by omega), h2, mergeD_gt (rev := false) l _ h3]
end Go.Proofs.YtegaigpolhdicaaGreat
