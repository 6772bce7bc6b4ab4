/- The law of Get: its walk. -/
import Derived.Test.YtanmgkpgfmkobaaTO
import Derived.Test.YtanmgkpgfmkobaaSL
namespace Go.Proofs.Ytanmgkpgfmkobaa
open Go.RowKit
set_option linter.unusedVariables false
set_option linter.unusedSimpArgs false
/-- An entry that is seen for a key at a version. -/
def SeenE (a : Ent) (k : List Int) (v : Int) : Prop := a.k = k ∧ a.v ≤ v
theorem cmpL_zero {l k : List Int} (h : cmpL l k = 0) : l = k := by
  have := (orderL_eq l k 0 0).1 (by unfold orderL; rw [if_pos h]; rfl)
  exact this.1
theorem cmpL_self (l : List Int) : cmpL l l = 0 := by
  have h := orderL_self l 0
  unfold orderL at h
  by_cases h0 : cmpL l l = 0
  · exact h0
  · rw [if_neg h0] at h; exact h
theorem seen_pos {l : List Ent} {k : List Int} {v : Int} {i : Nat} {a : Ent} (ha : l[i]? = some a) (hs : SeenE a k v) : posE l k v ≤ i := by
  rcases Nat.lt_or_ge i (posE l k v) with h | h
  · exfalso
    have h1 := posE_lt l k v i a h ha
    obtain ⟨hk, hv⟩ := hs
    unfold orderL at h1
    rw [hk, if_pos (cmpL_self k)] at h1
    unfold sgn at h1
    split at h1
    · omega
    · split at h1 <;> omega
  · exact h
theorem seen_at {l : List Ent} {k : List Int} {v : Int} {a : Ent} (ha : l[posE l k v]? = some a) (hk : a.k = k) : SeenE a k v := by
  refine ⟨hk, ?_⟩
  have h1 := posE_at l k v a ha
  rcases Int.lt_or_le v a.v with h | h
  · exfalso
    refine h1 ?_
    unfold orderL
    rw [hk, if_pos (cmpL_self k)]
    unfold sgn
    rw [if_pos h]
  · exact h
theorem found_first {l : List Ent} (hs : SortedE l) {k : List Int} {v : Int} {i : Nat} {a : Ent} (ha : l[i]? = some a) (hm : SeenE a k v) (hn : ∀ (j : Nat) (b : Ent), j < i → l[j]? = some b → ¬ SeenE b k v) : foundE l k v = a := by
  have hp := seen_pos ha hm
  have hi : i < l.length := (List.getElem?_eq_some_iff.1 ha).1
  obtain ⟨b, hb⟩ : ∃ b, l[posE l k v]? = some b := ⟨_, List.getElem?_eq_getElem (by omega)⟩
  have hbk : b.k = k := by
    rcases Nat.lt_or_eq_of_le hp with h | h
    · have h2 : orderL b.k b.v a.k a.v = -1 := hs.get h hb ha
      have h3 := posE_at l k v b hb
      rw [hm.1] at h2
      unfold orderL at h2 h3
      by_cases h0 : cmpL b.k k = 0
      · exact cmpL_zero h0
      · rw [if_neg h0] at h2 h3
        exact absurd h2 h3
    · rw [h, ha] at hb
      injection hb with hb
      rw [← hb]; exact hm.1
  have hse := seen_at hb hbk
  have hpi : posE l k v = i := by
    rcases Nat.lt_or_eq_of_le hp with h | h
    · exact absurd hse (hn _ b h hb)
    · exact h
  rw [found_some hb, if_pos hbk.symm]
  rw [hpi, ha] at hb
  injection hb with hb
  exact hb.symm
theorem found_no {l : List Ent} {k : List Int} {v : Int} (hn : ∀ (j : Nat) (b : Ent), l[j]? = some b → ¬ SeenE b k v) : foundE l k v = zeroE := by
  cases h : l[posE l k v]? with
  | none => exact found_none h
  | some b =>
    rw [found_some h]
    by_cases hk : k = b.k
    · exact absurd (seen_at h hk.symm) (hn _ b h)
    · rw [if_neg hk]
end Go.Proofs.Ytanmgkpgfmkobaa
