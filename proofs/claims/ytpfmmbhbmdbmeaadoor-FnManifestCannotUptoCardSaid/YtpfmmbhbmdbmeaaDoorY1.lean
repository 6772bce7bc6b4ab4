/- Manifests, plain: tables in order by their numbers. -/
import Derived.Test.YtpfmmbhbmdbmeaaDoorF2
import Derived.Test.YtpfmmbhbmdbmeaaDoorMP
namespace Go.Proofs.YtpfmmbhbmdbmeaaDoor
open Go.RowKit
set_option linter.unusedVariables false
set_option linter.unusedSimpArgs false
/-- How many tables lie ahead of a number. -/
def posC : List Chg → Int → Nat
  | [], _ => 0
  | a :: l, x => if a.id < x then posC l x + 1 else 0
theorem posC_le (l : List Chg) (x : Int) : posC l x ≤ l.length := by
  induction l with
  | nil => exact Nat.le_refl _
  | cons a l ih =>
    unfold posC
    split
    · rw [List.length_cons]; omega
    · exact Nat.zero_le _
theorem posC_lt (l : List Chg) (x : Int) : ∀ (i : Nat) (a : Chg), i < posC l x → l[i]? = some a → a.id < x := by
  induction l with
  | nil => intro i a h; exact absurd h (Nat.not_lt_zero _)
  | cons b l ih =>
    intro i a h ha
    unfold posC at h
    split at h
    · rename_i hb
      cases i with
      | zero => simp at ha; subst ha; exact hb
      | succ i => exact ih i a (by omega) (by simpa using ha)
    · omega
theorem posC_at (l : List Chg) (x : Int) (a : Chg) (h : l[posC l x]? = some a) : x ≤ a.id := by
  induction l with
  | nil => simp at h
  | cons b l ih =>
    unfold posC at h
    split at h
    · exact ih (by simpa using h)
    · rename_i hb
      simp at h
      subst h
      omega
theorem posC_of {l : List Chg} {x : Int} {i : Nat} (hi : i ≤ posC l x) (h : ∀ a, l[i]? = some a → x ≤ a.id) : i = posC l x := by
  rcases Nat.lt_or_eq_of_le hi with h1 | h1
  · exfalso
    have h2 := posC_le l x
    obtain ⟨a, ha⟩ : ∃ a, l[i]? = some a := ⟨_, List.getElem?_eq_getElem (by omega)⟩
    have := posC_lt l x i a h1 ha
    have := h a ha
    omega
  · exact h1
def hitC (l : List Chg) (x : Int) : Bool := match l[posC l x]? with | some a => decide (a.id = x) | none => false
def insC (l : List Chg) (c : Chg) : List Chg := l.take (posC l c.id) ++ c :: l.drop (posC l c.id)
def delC (l : List Chg) (x : Int) : List Chg := l.take (posC l x) ++ l.drop (posC l x + 1)
def SortedC (l : List Chg) : Prop := l.Pairwise fun a b => a.id < b.id
theorem SortedC.get {l : List Chg} (h : SortedC l) {i j : Nat} {a b : Chg} (hij : i < j) (ha : l[i]? = some a) (hb : l[j]? = some b) : a.id < b.id := by
  obtain ⟨hi, rfl⟩ := List.getElem?_eq_some_iff.1 ha
  obtain ⟨hj, rfl⟩ := List.getElem?_eq_some_iff.1 hb
  exact List.pairwise_iff_getElem.1 h i j hi hj hij
theorem mem_insC {l : List Chg} {c x : Chg} : x ∈ insC l c ↔ x = c ∨ x ∈ l := by
  unfold insC
  rw [List.mem_append, List.mem_cons]
  constructor
  · rintro (h | h | h)
    · exact .inr (List.mem_of_mem_take h)
    · exact .inl h
    · exact .inr (List.mem_of_mem_drop h)
  · rintro (h | h)
    · exact .inr (.inl h)
    · rw [← List.take_append_drop (posC l c.id) l] at h
      rcases List.mem_append.1 h with h | h
      · exact .inl h
      · exact .inr (.inr h)
theorem insC_len (l : List Chg) (c : Chg) : (insC l c).length = l.length + 1 := by
  unfold insC
  have := posC_le l c.id
  rw [List.length_append, List.length_cons, List.length_take, List.length_drop]
  omega
theorem hit_iff {l : List Chg} (hs : SortedC l) (x : Int) : hitC l x = true ↔ ∃ a ∈ l, a.id = x := by
  unfold hitC
  constructor
  · intro h
    cases ha : l[posC l x]? with
    | none => rw [ha] at h; cases h
    | some a => rw [ha] at h; exact ⟨a, List.mem_of_getElem? ha, of_decide_eq_true h⟩
  · rintro ⟨a, ha, rfl⟩
    obtain ⟨i, hi⟩ := List.mem_iff_getElem?.1 ha
    have hil := (List.getElem?_eq_some_iff.1 hi).1
    have e : i = posC l a.id := by
      refine posC_of ?_ (fun b hb => by rw [hi] at hb; injection hb with hb; rw [hb]; exact Int.le_refl _)
      rcases Nat.lt_or_ge (posC l a.id) i with h1 | h1
      · exfalso
        obtain ⟨b, hb⟩ : ∃ b, l[posC l a.id]? = some b := ⟨_, List.getElem?_eq_getElem (by omega)⟩
        have h2 := hs.get h1 hb hi
        have h3 := posC_at l a.id b hb
        omega
      · exact h1
    rw [← e, hi]
    exact decide_eq_true rfl
theorem insC_sorted {l : List Chg} (hs : SortedC l) {c : Chg} (hn : hitC l c.id = false) : SortedC (insC l c) := by
  have hp := posC_le l c.id
  unfold insC SortedC
  rw [List.pairwise_append]
  refine ⟨List.Pairwise.sublist (List.take_sublist _ _) hs, ?_, ?_⟩
  · rw [List.pairwise_cons]
    refine ⟨fun b hb => ?_, List.Pairwise.sublist (List.drop_sublist _ _) hs⟩
    obtain ⟨i, hi⟩ := List.mem_iff_getElem?.1 hb
    rw [List.getElem?_drop] at hi
    obtain ⟨a, ha⟩ : ∃ a, l[posC l c.id]? = some a := ⟨_, List.getElem?_eq_getElem (by have := (List.getElem?_eq_some_iff.1 hi).1; omega)⟩
    have h1 := posC_at l c.id a ha
    have h2 : a.id ≠ c.id := fun e => by
      have : hitC l c.id = true := by unfold hitC; rw [ha]; exact decide_eq_true e
      rw [hn] at this
      cases this
    rcases Nat.eq_zero_or_pos i with h0 | h0
    · subst h0
      rw [Nat.add_zero, ha] at hi
      injection hi with hi
      subst hi
      omega
    · have := hs.get (Nat.lt_add_of_pos_right h0) ha hi
      omega
  · intro a ha b hb
    obtain ⟨i, hi⟩ := List.mem_iff_getElem?.1 ha
    rw [List.getElem?_take] at hi
    split at hi
    · rename_i hip
      have h1 := posC_lt l c.id i a hip hi
      rcases List.mem_cons.1 hb with rfl | hb
      · exact h1
      · obtain ⟨j, hj⟩ := List.mem_iff_getElem?.1 hb
        rw [List.getElem?_drop] at hj
        exact hs.get (by omega) hi hj
    · cases hi
theorem delC_sorted {l : List Chg} (hs : SortedC l) (x : Int) : SortedC (delC l x) := by
  unfold delC SortedC
  rw [List.pairwise_append]
  refine ⟨List.Pairwise.sublist (List.take_sublist _ _) hs, List.Pairwise.sublist (List.drop_sublist _ _) hs, fun a ha b hb => ?_⟩
  obtain ⟨i, hi⟩ := List.mem_iff_getElem?.1 ha
  rw [List.getElem?_take] at hi
  split at hi
  · obtain ⟨j, hj⟩ := List.mem_iff_getElem?.1 hb
    rw [List.getElem?_drop] at hj
    exact hs.get (by omega) hi hj
  · cases hi
theorem mem_delC {l : List Chg} (hs : SortedC l) {x : Int} (hh : hitC l x = true) {a : Chg} : a ∈ delC l x ↔ a ∈ l ∧ a.id ≠ x := by
  unfold hitC at hh
  cases hp : l[posC l x]? with
  | none => rw [hp] at hh; cases hh
  | some p =>
    rw [hp] at hh
    have hpx : p.id = x := of_decide_eq_true hh
    unfold delC
    rw [List.mem_append]
    constructor
    · rintro (h | h)
      · obtain ⟨i, hi⟩ := List.mem_iff_getElem?.1 h
        rw [List.getElem?_take] at hi
        split at hi
        · rename_i hip
          have := posC_lt l x i a hip hi
          exact ⟨List.mem_of_getElem? hi, by omega⟩
        · cases hi
      · obtain ⟨j, hj⟩ := List.mem_iff_getElem?.1 h
        rw [List.getElem?_drop] at hj
        have := hs.get (show posC l x < posC l x + 1 + j by omega) hp hj
        exact ⟨List.mem_of_getElem? hj, by omega⟩
    · rintro ⟨h, hne⟩
      obtain ⟨i, hi⟩ := List.mem_iff_getElem?.1 h
      rcases Nat.lt_trichotomy i (posC l x) with h1 | h1 | h1
      · exact .inl (List.mem_iff_getElem?.2 ⟨i, by rw [List.getElem?_take, if_pos h1]; exact hi⟩)
      · subst h1
        rw [hp] at hi
        injection hi with hi
        subst hi
        exact absurd hpx hne
      · exact .inr (List.mem_iff_getElem?.2 ⟨i - (posC l x + 1), by rw [List.getElem?_drop, show posC l x + 1 + (i - (posC l x + 1)) = i by omega]; exact hi⟩)
/-- Lists in order of the same tables are the same. -/
theorem sorted_ext : ∀ (l m : List Chg), SortedC l → SortedC m → (∀ x, x ∈ l ↔ x ∈ m) → l = m := by
  intro l
  induction l with
  | nil =>
    intro m _ _ h
    cases m with
    | nil => rfl
    | cons b m => exact absurd ((h b).2 (List.mem_cons_self ..)) (by simp)
  | cons a l ih =>
    intro m hl hm h
    cases m with
    | nil => exact absurd ((h a).1 (List.mem_cons_self ..)) (by simp)
    | cons b m =>
      have hl2 := List.pairwise_cons.1 hl
      have hm2 := List.pairwise_cons.1 hm
      have hab : a = b := by
        rcases List.mem_cons.1 ((h a).1 (List.mem_cons_self ..)) with e | e
        · exact e
        · rcases List.mem_cons.1 ((h b).2 (List.mem_cons_self ..)) with e2 | e2
          · exact e2.symm
          · have h1 := hm2.1 a e
            have h2 := hl2.1 b e2
            omega
      subst hab
      congr 1
      refine ih m hl2.2 hm2.2 (fun x => ?_)
      have hx := h x
      rw [List.mem_cons, List.mem_cons] at hx
      constructor
      · intro hxl
        rcases hx.1 (.inr hxl) with rfl | h1
        · exact absurd (hl2.1 x hxl) (Int.lt_irrefl _)
        · exact h1
      · intro hxm
        rcases hx.2 (.inr hxm) with rfl | h1
        · exact absurd (hm2.1 x hxm) (Int.lt_irrefl _)
        · exact h1
/-- What a manifest's map holds of a table. -/
def tmV (c : Chg) : Value := .agg #[.int .u8 c.level, .int .u64 c.keyId, .int .u32 c.comp]
def tabF (l : List Chg) (x : Int) : Option Value := (l.find? fun c => decide (c.id = x)).map tmV
theorem tabF_some {l : List Chg} (hs : SortedC l) {c : Chg} (hc : c ∈ l) : tabF l c.id = some (tmV c) := by
  unfold tabF
  cases hf : l.find? fun d => decide (d.id = c.id) with
  | none => have := List.find?_eq_none.1 hf c hc; simp at this
  | some d =>
    have h1 := List.mem_of_find?_eq_some hf
    have h2 : d.id = c.id := by simpa using List.find?_some hf
    have : d = c := by
      obtain ⟨i, hi⟩ := List.mem_iff_getElem?.1 h1
      obtain ⟨j, hj⟩ := List.mem_iff_getElem?.1 hc
      rcases Nat.lt_trichotomy i j with h | h | h
      · have := hs.get h hi hj; omega
      · subst h; rw [hi] at hj; injection hj
      · have := hs.get h hj hi; omega
    rw [this]
    rfl
theorem tabF_none {l : List Chg} {x : Int} (h : ∀ c ∈ l, c.id ≠ x) : tabF l x = none := by
  unfold tabF
  rw [List.find?_eq_none.2 (fun c hc => by simpa using h c hc)]
  rfl
theorem tabF_cases {l : List Chg} (hs : SortedC l) (x : Int) : (∃ c ∈ l, c.id = x ∧ tabF l x = some (tmV c)) ∨ ((∀ c ∈ l, c.id ≠ x) ∧ tabF l x = none) := by
  by_cases h : ∃ c ∈ l, c.id = x
  · obtain ⟨c, hc, rfl⟩ := h
    exact .inl ⟨c, hc, rfl, tabF_some hs hc⟩
  · have h2 : ∀ c ∈ l, c.id ≠ x := fun c hc e => h ⟨c, hc, e⟩
    exact .inr ⟨h2, tabF_none h2⟩
theorem tabF_ins {l : List Chg} (hs : SortedC l) {c : Chg} (hn : hitC l c.id = false) (x : Int) : updM (tabF l) c.id (some (tmV c)) x = tabF (insC l c) x := by
  have hs2 := insC_sorted hs hn
  unfold updM
  split
  · rename_i e
    rw [e, tabF_some hs2 (mem_insC.2 (.inl rfl))]
  · rename_i e
    rcases tabF_cases hs x with ⟨d, hd, hx, h1⟩ | ⟨h1, h2⟩
    · rw [h1, ← hx, tabF_some hs2 (mem_insC.2 (.inr hd))]
    · rw [h2, tabF_none]
      intro d hd
      rcases mem_insC.1 hd with rfl | hd
      · exact fun h => e h.symm
      · exact h1 d hd
theorem tabF_del {l : List Chg} (hs : SortedC l) {y : Int} (hh : hitC l y = true) (x : Int) : updM (tabF l) y none x = tabF (delC l y) x := by
  have hs2 := delC_sorted hs y
  unfold updM
  split
  · rename_i e
    rw [tabF_none]
    intro d hd
    rw [e]
    exact ((mem_delC hs hh).1 hd).2
  · rename_i e
    rcases tabF_cases hs x with ⟨d, hd, hx, h1⟩ | ⟨h1, h2⟩
    · rw [h1, ← hx, tabF_some hs2 ((mem_delC hs hh).2 ⟨hd, by rw [hx]; exact e⟩)]
    · rw [h2, tabF_none]
      intro d hd
      exact h1 d ((mem_delC hs hh).1 hd).1
/-- What changes leave: tables in order, how many have come and how many have gone; none if one cannot be made. -/
structure MF where
  l : List Chg
  come : Int
  gone : Int
def stepM (m : MF) (c : Chg) : Option MF := if hitC m.l c.id = c.gone then some (if c.gone then ⟨delC m.l c.id, m.come, m.gone + 1⟩ else ⟨insC m.l c, m.come + 1, m.gone⟩) else none
def allM : MF → List Chg → Option MF
  | m, [] => some m
  | m, c :: r => (stepM m c).bind fun m' => allM m' r
theorem allM_append (m : MF) (a b : List Chg) : allM m (a ++ b) = (allM m a).bind fun m' => allM m' b := by
  induction a generalizing m with
  | nil => rfl
  | cons c a ih =>
    show (stepM m c).bind _ = ((stepM m c).bind _).bind _
    cases stepM m c with
    | none => rfl
    | some m' => exact ih m'
theorem stepM_sorted {m m' : MF} {c : Chg} (hs : SortedC m.l) (h : stepM m c = some m') : SortedC m'.l := by
  unfold stepM at h
  split at h
  · rename_i hh
    injection h with h
    subst h
    cases hg : c.gone with
    | true => exact delC_sorted hs _
    | false => rw [hg] at hh; exact insC_sorted hs hh
  · cases h
theorem allM_sorted {m m' : MF} {l : List Chg} (hs : SortedC m.l) (h : allM m l = some m') : SortedC m'.l := by
  induction l generalizing m with
  | nil => injection h with h; subst h; exact hs
  | cons c l ih =>
    change (stepM m c).bind (fun m' => allM m' l) = some m' at h
    cases hm : stepM m c with
    | none => rw [hm] at h; cases h
    | some m2 => rw [hm] at h; exact ih (stepM_sorted hs hm) h
end Go.Proofs.YtpfmmbhbmdbmeaaDoor
