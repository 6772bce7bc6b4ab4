/- Lists in order, one way or the other, that are merged. -/
import Derived.Test.YtegaigpolhdicaaGreatTB
namespace Go.Proofs.YtegaigpolhdicaaGreat
set_option linter.unusedVariables false
set_option linter.unusedSimpArgs false
/-- The order, one way or the other. -/
def ordD (rev : Bool) (a b : Ent) : Int := if rev = true then b.ord a else a.ord b
theorem ordD_three (rev : Bool) (a b : Ent) : ordD rev a b = -1 ∨ ordD rev a b = 0 ∨ ordD rev a b = 1 := by
  unfold ordD; split <;> exact orderL_three _ _ _ _
theorem ordD_anti (rev : Bool) (a b : Ent) : ordD rev b a = - ordD rev a b := by
  unfold ordD; split <;> exact orderL_anti _ _ _ _
theorem ordD_trans {rev : Bool} {a b c : Ent} (h : ordD rev a b = -1) (k : ordD rev b c = -1) : ordD rev a c = -1 := by
  unfold ordD at *
  cases rev with
  | true => exact orderL_lt_trans _ _ _ _ _ _ k h
  | false => exact orderL_lt_trans _ _ _ _ _ _ h k
theorem ord_zero (a b : Ent) : a.ord b = 0 ↔ a.k = b.k ∧ a.v = b.v := orderL_eq _ _ _ _
theorem ordD_zero (rev : Bool) (a b : Ent) : ordD rev a b = 0 ↔ a.k = b.k ∧ a.v = b.v := by
  unfold ordD
  split
  · rw [ord_zero]; exact ⟨fun h => ⟨h.1.symm, h.2.symm⟩, fun h => ⟨h.1.symm, h.2.symm⟩⟩
  · exact ord_zero a b
theorem ordD_eq_l {rev : Bool} {a b c : Ent} (h : ordD rev a b = 0) : ordD rev a c = ordD rev b c := by
  obtain ⟨h1, h2⟩ := (ordD_zero rev a b).1 h
  unfold ordD Ent.ord
  rw [h1, h2]
theorem ordD_eq_r {rev : Bool} {a b c : Ent} (h : ordD rev b c = 0) : ordD rev a b = ordD rev a c := by
  obtain ⟨h1, h2⟩ := (ordD_zero rev b c).1 h
  unfold ordD Ent.ord
  rw [h1, h2]
def SortD (rev : Bool) (l : List Ent) : Prop := l.Pairwise fun a b => ordD rev a b = -1
theorem sortD_cons {rev : Bool} {a : Ent} {l : List Ent} : SortD rev (a :: l) ↔ (∀ b ∈ l, ordD rev a b = -1) ∧ SortD rev l := List.pairwise_cons
/-- Two lists in order with the same entries are one. -/
theorem sortD_same {rev : Bool} : ∀ {l k : List Ent}, SortD rev l → SortD rev k → (∀ e, e ∈ l ↔ e ∈ k) → l = k
  | [], [], _, _, _ => rfl
  | [], b :: k, _, _, h => absurd ((h b).2 (List.mem_cons_self ..)) (by simp)
  | a :: l, [], _, _, h => absurd ((h a).1 (List.mem_cons_self ..)) (by simp)
  | a :: l, b :: k, hl, hk, h => by
    obtain ⟨l1, l2⟩ := sortD_cons.1 hl
    obtain ⟨k1, k2⟩ := sortD_cons.1 hk
    have hself : ∀ e : Ent, ordD rev e e = 0 := fun e => (ordD_zero rev e e).2 ⟨rfl, rfl⟩
    have hab : a = b := by
      rcases List.mem_cons.1 ((h a).1 (List.mem_cons_self ..)) with e | ha
      · exact e
      · rcases List.mem_cons.1 ((h b).2 (List.mem_cons_self ..)) with e | hb
        · exact e.symm
        · have x1 := k1 a ha
          have x2 := l1 b hb
          have x3 := ordD_anti rev a b
          omega
    subst hab
    have hrest : ∀ e, e ∈ l ↔ e ∈ k := fun e => by
      constructor
      · intro he
        rcases List.mem_cons.1 ((h e).1 (List.mem_cons_of_mem _ he)) with rfl | hk'
        · have := l1 e he; have := hself e; omega
        · exact hk'
      · intro he
        rcases List.mem_cons.1 ((h e).2 (List.mem_cons_of_mem _ he)) with rfl | hl'
        · have := k1 e he; have := hself e; omega
        · exact hl'
    rw [sortD_same l2 k2 hrest]
/-- Both, in order; of equal ones the first list's. -/
def mergeD (rev : Bool) : List Ent → List Ent → List Ent
  | [], r => r
  | a :: l, r =>
    let r2 := r.dropWhile fun b => ordD rev b a == -1
    (r.takeWhile fun b => ordD rev b a == -1) ++ a :: mergeD rev l (match r2 with
      | [] => []
      | b :: r3 => if ordD rev b a = 0 then r3 else b :: r3)
theorem mergeD_nil_r (rev : Bool) : ∀ l : List Ent, mergeD rev l [] = l
  | [] => rfl
  | a :: l => by
    show ([] : List Ent) ++ a :: mergeD rev l [] = _
    rw [mergeD_nil_r rev l]
    rfl
theorem mergeD_two (rev : Bool) (a : Ent) (l r : List Ent) : mergeD rev (a :: l) r = (r.takeWhile fun b => ordD rev b a == -1) ++ a :: mergeD rev l (match r.dropWhile fun b => ordD rev b a == -1 with
    | [] => []
    | b :: r3 => if ordD rev b a = 0 then r3 else b :: r3) := rfl
theorem mergeD_lt {rev : Bool} {a b : Ent} (l r : List Ent) (h : ordD rev a b = -1) : mergeD rev (a :: l) (b :: r) = a :: mergeD rev l (b :: r) := by
  have hb : ordD rev b a = 1 := by have := ordD_anti rev a b; omega
  have e : (ordD rev b a == -1) = false := by rw [hb]; rfl
  rw [mergeD_two, List.takeWhile_cons_of_neg (by simp [hb]), List.dropWhile_cons_of_neg (by simp [hb])]
  show [] ++ a :: mergeD rev l (if ordD rev b a = 0 then r else b :: r) = _
  rw [if_neg (by omega)]
  rfl
theorem mergeD_eq {rev : Bool} {a b : Ent} (l r : List Ent) (h : ordD rev a b = 0) : mergeD rev (a :: l) (b :: r) = a :: mergeD rev l r := by
  have hb : ordD rev b a = 0 := by have := ordD_anti rev a b; omega
  rw [mergeD_two, List.takeWhile_cons_of_neg (by simp [hb]), List.dropWhile_cons_of_neg (by simp [hb])]
  show [] ++ a :: mergeD rev l (if ordD rev b a = 0 then r else b :: r) = _
  rw [if_pos hb]
  rfl
theorem mergeD_gt {rev : Bool} {a b : Ent} (l r : List Ent) (h : ordD rev a b = 1) : mergeD rev (a :: l) (b :: r) = b :: mergeD rev (a :: l) r := by
  have hb : ordD rev b a = -1 := by have := ordD_anti rev a b; omega
  rw [mergeD_two, mergeD_two, List.takeWhile_cons_of_pos (by simp [hb]), List.dropWhile_cons_of_pos (by simp [hb])]
  rfl
/-- What stands in both. -/
theorem mergeD_mem (rev : Bool) : ∀ (n : Nat) (l r : List Ent), l.length + r.length ≤ n → SortD rev l → SortD rev r → ∀ e, e ∈ mergeD rev l r ↔ e ∈ l ∨ (e ∈ r ∧ ∀ a ∈ l, ordD rev a e ≠ 0)
  | _, [], r, _, _, _, e => ⟨fun h => .inr ⟨h, fun a ha => by cases ha⟩, fun h => by
    rcases h with h | h
    · cases h
    · exact h.1⟩
  | _, a :: l, [], _, _, _, e => by
    rw [mergeD_nil_r]
    exact ⟨.inl, fun h => by
      rcases h with h | h
      · exact h
      · cases h.1⟩
  | n + 1, a :: l, b :: r, hn, hl, hr, e => by
    obtain ⟨l1, l2⟩ := sortD_cons.1 hl
    obtain ⟨r1, r2⟩ := sortD_cons.1 hr
    simp only [List.length_cons] at hn
    rcases ordD_three rev a b with h | h | h
    · rw [mergeD_lt l r h, List.mem_cons, mergeD_mem rev n l (b :: r) (by simp only [List.length_cons]; omega) l2 hr e, List.mem_cons (a := e) (b := a)]
      have hbig : ∀ x ∈ b :: r, ordD rev a x = -1 := fun x hx => by
        rcases List.mem_cons.1 hx with rfl | hx
        · exact h
        · exact ordD_trans h (r1 x hx)
      constructor
      · rintro (h1 | h1 | h1)
        · exact .inl (.inl h1)
        · exact .inl (.inr h1)
        · refine .inr ⟨h1.1, fun x hx => ?_⟩
          rcases List.mem_cons.1 hx with rfl | hx
          · have := hbig e h1.1; omega
          · exact h1.2 x hx
      · rintro ((h1 | h1) | h1)
        · exact .inl h1
        · exact .inr (.inl h1)
        · exact .inr (.inr ⟨h1.1, fun x hx => h1.2 x (List.mem_cons_of_mem _ hx)⟩)
    · rw [mergeD_eq l r h, List.mem_cons, mergeD_mem rev n l r (by omega) l2 r2 e, List.mem_cons (a := e) (b := a), List.mem_cons (a := e) (b := b)]
      have hbig : ∀ x ∈ r, ordD rev a x = -1 := fun x hx => by rw [ordD_eq_l h]; exact r1 x hx
      constructor
      · rintro (h1 | h1 | h1)
        · exact .inl (.inl h1)
        · exact .inl (.inr h1)
        · refine .inr ⟨.inr h1.1, fun x hx => ?_⟩
          rcases List.mem_cons.1 hx with rfl | hx
          · have := hbig e h1.1; omega
          · exact h1.2 x hx
      · rintro ((h1 | h1) | ⟨h1 | h1, h2⟩)
        · exact .inl h1
        · exact .inr (.inl h1)
        · subst h1
          exact absurd h (h2 a (List.mem_cons_self ..))
        · exact .inr (.inr ⟨h1, fun x hx => h2 x (List.mem_cons_of_mem _ hx)⟩)
    · have hba : ordD rev b a = -1 := by have := ordD_anti rev a b; omega
      rw [mergeD_gt l r h, List.mem_cons, mergeD_mem rev n (a :: l) r (by simp only [List.length_cons]; omega) hl r2 e, List.mem_cons (a := e) (b := b)]
      have hsm : ∀ x ∈ a :: l, ordD rev b x = -1 := fun x hx => by
        rcases List.mem_cons.1 hx with rfl | hx
        · exact hba
        · exact ordD_trans hba (l1 x hx)
      constructor
      · rintro (h1 | h1 | h1)
        · subst h1
          refine .inr ⟨.inl rfl, fun x hx => ?_⟩
          have h2 := hsm x hx
          have h3 := ordD_anti rev x e
          omega
        · exact .inl h1
        · exact .inr ⟨.inr h1.1, h1.2⟩
      · rintro (h1 | ⟨h1 | h1, h2⟩)
        · exact .inr (.inl h1)
        · exact .inl h1
        · exact .inr (.inr ⟨h1, h2⟩)
theorem mergeD_in {rev : Bool} {l r : List Ent} (hl : SortD rev l) (hr : SortD rev r) (e : Ent) : e ∈ mergeD rev l r ↔ e ∈ l ∨ (e ∈ r ∧ ∀ a ∈ l, ordD rev a e ≠ 0) := mergeD_mem rev _ l r (Nat.le_refl _) hl hr e
theorem mergeD_sortN (rev : Bool) : ∀ (n : Nat) (l r : List Ent), l.length + r.length ≤ n → SortD rev l → SortD rev r → SortD rev (mergeD rev l r)
  | _, [], r, _, _, hr => hr
  | _, a :: l, [], _, hl, _ => by rw [mergeD_nil_r]; exact hl
  | n + 1, a :: l, b :: r, hn, hl, hr => by
    obtain ⟨l1, l2⟩ := sortD_cons.1 hl
    obtain ⟨r1, r2⟩ := sortD_cons.1 hr
    simp only [List.length_cons] at hn
    rcases ordD_three rev a b with h | h | h
    · rw [mergeD_lt l r h]
      refine sortD_cons.2 ⟨fun x hx => ?_, mergeD_sortN rev n l (b :: r) (by simp only [List.length_cons]; omega) l2 hr⟩
      rcases (mergeD_in l2 hr x).1 hx with hx | hx
      · exact l1 x hx
      · rcases List.mem_cons.1 hx.1 with rfl | hx'
        · exact h
        · exact ordD_trans h (r1 x hx')
    · rw [mergeD_eq l r h]
      refine sortD_cons.2 ⟨fun x hx => ?_, mergeD_sortN rev n l r (by omega) l2 r2⟩
      rcases (mergeD_in l2 r2 x).1 hx with hx | hx
      · exact l1 x hx
      · rw [ordD_eq_l h]; exact r1 x hx.1
    · have hba : ordD rev b a = -1 := by have := ordD_anti rev a b; omega
      rw [mergeD_gt l r h]
      refine sortD_cons.2 ⟨fun x hx => ?_, mergeD_sortN rev n (a :: l) r (by simp only [List.length_cons]; omega) hl r2⟩
      rcases (mergeD_in hl r2 x).1 hx with hx | hx
      · rcases List.mem_cons.1 hx with rfl | hx
        · exact hba
        · exact ordD_trans hba (l1 x hx)
      · exact r1 x hx.1
theorem mergeD_sort {rev : Bool} {l r : List Ent} (hl : SortD rev l) (hr : SortD rev r) : SortD rev (mergeD rev l r) := mergeD_sortN rev _ l r (Nat.le_refl _) hl hr
/-- Where a key belongs. -/
def fromD (rev : Bool) (k : Ent) (l : List Ent) : List Ent := l.dropWhile fun e => ordD rev e k == -1
theorem fromD_mergeN (rev : Bool) (k : Ent) : ∀ (n : Nat) (l r : List Ent), l.length + r.length ≤ n → SortD rev l → SortD rev r → fromD rev k (mergeD rev l r) = mergeD rev (fromD rev k l) (fromD rev k r)
  | _, [], r, _, _, _ => rfl
  | _, a :: l, [], _, _, _ => by
    rw [mergeD_nil_r, show fromD rev k [] = [] from rfl, mergeD_nil_r]
  | n + 1, a :: l, b :: r, hn, hl, hr => by
    obtain ⟨l1, l2⟩ := sortD_cons.1 hl
    obtain ⟨r1, r2⟩ := sortD_cons.1 hr
    simp only [List.length_cons] at hn
    have stay : ∀ {x : Ent} {m : List Ent}, ordD rev x k ≠ -1 → fromD rev k (x :: m) = x :: m := fun h => by unfold fromD; rw [List.dropWhile_cons_of_neg (by simpa using h)]
    have go : ∀ {x : Ent} {m : List Ent}, ordD rev x k = -1 → fromD rev k (x :: m) = fromD rev k m := fun h => by unfold fromD; rw [List.dropWhile_cons_of_pos (by simpa using h)]
    rcases ordD_three rev a b with h | h | h
    · rw [mergeD_lt l r h]
      by_cases ha : ordD rev a k = -1
      · rw [go ha, go ha]
        exact fromD_mergeN rev k n l (b :: r) (by simp only [List.length_cons]; omega) l2 hr
      · have hb : ordD rev b k ≠ -1 := fun hb => ha (ordD_trans h hb)
        rw [stay ha, stay ha, stay hb, mergeD_lt l r h]
    · rw [mergeD_eq l r h]
      by_cases ha : ordD rev a k = -1
      · have hb : ordD rev b k = -1 := by rw [← ordD_eq_l h]; exact ha
        rw [go ha, go ha, go hb]
        exact fromD_mergeN rev k n l r (by omega) l2 r2
      · have hb : ordD rev b k ≠ -1 := by rw [← ordD_eq_l h]; exact ha
        rw [stay ha, stay ha, stay hb, mergeD_eq l r h]
    · have hba : ordD rev b a = -1 := by have := ordD_anti rev a b; omega
      rw [mergeD_gt l r h]
      by_cases hb : ordD rev b k = -1
      · rw [go hb, go hb]
        exact fromD_mergeN rev k n (a :: l) r (by simp only [List.length_cons]; omega) hl r2
      · have ha : ordD rev a k ≠ -1 := fun ha => hb (ordD_trans hba ha)
        rw [stay hb, stay ha, stay hb, mergeD_gt l r h]
theorem fromD_merge {rev : Bool} {k : Ent} {l r : List Ent} (hl : SortD rev l) (hr : SortD rev r) : fromD rev k (mergeD rev l r) = mergeD rev (fromD rev k l) (fromD rev k r) := fromD_mergeN rev k _ l r (Nat.le_refl _) hl hr
/-- Of equal heads the second list's is let go. -/
theorem mergeD_skip {rev : Bool} {a b : Ent} {l r : List Ent} (h : ordD rev a b = 0) (hr : SortD rev (b :: r)) : mergeD rev (a :: l) (b :: r) = mergeD rev (a :: l) r := by
  obtain ⟨r1, r2⟩ := sortD_cons.1 hr
  rw [mergeD_eq l r h]
  cases r with
  | nil => rw [mergeD_nil_r, mergeD_nil_r]
  | cons c r =>
    have hc : ordD rev a c = -1 := by rw [ordD_eq_l h]; exact r1 c (List.mem_cons_self ..)
    rw [mergeD_lt l r hc]
end Go.Proofs.YtegaigpolhdicaaGreat
