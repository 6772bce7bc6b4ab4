/- The laws of skip lists: what their guards let in. -/
import Derived.Test.YtanmgkpgfmkobaaX7
import Derived.Test.YtanmgkpgfmkobaaQT1
namespace Go.Proofs.YtanmgkpgfmkobaaQ.QT
open Go.RowKit Go.Proofs.YtanmgkpgfmkobaaQ.Ext
set_option linter.unusedVariables false
set_option linter.unusedSimpArgs false
def entWf (x : S32) : Prop := (∀ y ∈ x.f0, (Lit.int .u8 y).wf = true) ∧ (Lit.int .u64 x.f1).wf = true ∧ (Lit.int .u8 x.f2.f0).wf = true ∧ (Lit.int .u8 x.f2.f1).wf = true ∧ (Lit.int .u64 x.f2.f2).wf = true ∧ ∀ y ∈ x.f2.f3, (Lit.int .u8 y).wf = true
theorem fits4_some (a b c : Int) (l : List Int) : ∃ r, laws_zzFits4.f a b c l = some r := by
  unfold laws_zzFits4.f
  split <;> exact ⟨_, rfl⟩
theorem fits3_some (l : List Int) (a b c d : Int) (m : List Int) : ∃ r, laws_zzFits3.f l a b c d m = some r := by
  unfold laws_zzFits3.f
  obtain ⟨r, hr⟩ := fits4_some b c d m
  rw [hr]
  simp only [Option.bind_some]
  repeat' split
  all_goals exact ⟨_, rfl⟩
theorem fits2_l0 (l : List S32) (hl : l.length ≤ 2147483647) : ∀ (n i k : Nat), i + n = l.length → n < k → ∃ r, laws_zzFits2.l0 k l (l.length : Int) (i : Int) = some r := by
  intro n
  induction n with
  | zero =>
    intro i k hi hk
    obtain ⟨q, rfl⟩ : ∃ q, k = q + 1 := ⟨k - 1, by omega⟩
    unfold laws_zzFits2.l0
    rw [if_neg (by omega)]
    exact ⟨_, rfl⟩
  | succ n ih =>
    intro i k hi hk
    obtain ⟨q, rfl⟩ : ∃ q, k = q + 1 := ⟨k - 1, by omega⟩
    unfold laws_zzFits2.l0
    rw [if_pos (by omega), if_pos (by omega), if_pos (by omega)]
    obtain ⟨r, hr⟩ := fits3_some (rd_T32 l i).f0 (rd_T32 l i).f1 (rd_T32 l i).f2.f0 (rd_T32 l i).f2.f1 (rd_T32 l i).f2.f2 (rd_T32 l i).f2.f3
    rw [hr, Option.bind_some]
    have ew : wrap64 ((i : Int) + 1) = ((i + 1 : Nat) : Int) := by unfold wrap64; omega
    split
    · rw [ew]
      exact ih (i + 1) q (by omega) (by omega)
    · exact ⟨_, rfl⟩
theorem fits2_some (l : List S32) (k : Nat) (hk : l.length < k) : ∃ r, laws_zzFits2.f k l = some r := by
  unfold laws_zzFits2.f
  by_cases h : (l.length : Int) > 2147483647
  · rw [if_pos h]; exact ⟨_, rfl⟩
  · rw [if_neg h]
    exact fits2_l0 l (by omega) l.length 0 k (by omega) hk
def putB (x : S32) : Prop := 1 ≤ x.f0.length ∧ x.f0.length ≤ 40 ∧ x.f2.f3.length ≤ 200
theorem puts_l0 (x0 : List Int) (l : List S32) (hl : l.length ≤ 2147483647) : ∀ (n i k : Nat), i + n = l.length → n < k → ∃ r, laws_putsOk.l0 k x0 l l (l.length : Int) (i : Int) = some r ∧ (r = true → (∀ j x, i ≤ j → l[j]? = some x → putB x) ∧ l.length ≤ 80 ∧ 1 ≤ x0.length ∧ x0.length ≤ 60) := by
  intro n
  induction n with
  | zero =>
    intro i k hi hk
    obtain ⟨q, rfl⟩ : ∃ q, k = q + 1 := ⟨k - 1, by omega⟩
    unfold laws_putsOk.l0
    rw [if_neg (by omega)]
    by_cases h1 : (l.length : Int) ≤ 80
    · rw [if_pos h1]
      by_cases h2 : (x0.length : Int) ≥ 1
      · rw [if_pos h2]
        refine ⟨_, rfl, fun h => ?_⟩
        have h3 := of_decide_eq_true h
        exact ⟨fun j x hj hx => by have := (List.getElem?_eq_some_iff.1 hx).1; omega, by omega, by omega, by omega⟩
      · rw [if_neg h2]; exact ⟨_, rfl, fun h => by cases h⟩
    · rw [if_neg h1]; exact ⟨_, rfl, fun h => by cases h⟩
  | succ n ih =>
    intro i k hi hk
    obtain ⟨q, rfl⟩ : ∃ q, k = q + 1 := ⟨k - 1, by omega⟩
    unfold laws_putsOk.l0
    rw [if_pos (by omega), if_pos (by omega), if_pos (by omega)]
    have ew : wrap64 ((i : Int) + 1) = ((i + 1 : Nat) : Int) := by unfold wrap64; omega
    have hrd : l[i]? = some (rd_T32 l i) := by
      unfold rd_T32
      rw [Int.toNat_natCast, List.getD_eq_getElem?_getD, List.getElem?_eq_getElem (by omega)]
      rfl
    rw [ew]
    generalize rd_T32 l i = e at *
    by_cases h1 : ((e.f0.length : Int)) < 1
    · rw [if_pos h1]; exact ⟨_, rfl, fun h => by cases h⟩
    · rw [if_neg h1]
      by_cases h2 : ((e.f0.length : Int)) > 40
      · rw [if_pos h2]; exact ⟨_, rfl, fun h => by cases h⟩
      · rw [if_neg h2]
        by_cases h3 : ((e.f2.f3.length : Int)) > 200
        · rw [if_pos h3]; exact ⟨_, rfl, fun h => by cases h⟩
        · rw [if_neg h3]
          obtain ⟨r, hr, hb⟩ := ih (i + 1) q (by omega) (by omega)
          refine ⟨r, hr, fun h => ?_⟩
          obtain ⟨g1, g2⟩ := hb h
          refine ⟨fun j x hj hx => ?_, g2⟩
          by_cases e1 : j = i
          · subst e1
            rw [hrd] at hx
            injection hx with hx
            subst hx
            exact ⟨by omega, by omega, by omega⟩
          · exact g1 j x (by omega) hx
theorem puts_some (x0 : List Int) (l : List S32) (k : Nat) (hk : l.length < k) (hl : l.length ≤ 2147483647) : ∃ r, laws_putsOk.f k x0 l = some r ∧ (r = true → (∀ x ∈ l, putB x) ∧ l.length ≤ 80 ∧ 1 ≤ x0.length ∧ x0.length ≤ 60) := by
  obtain ⟨r, hr, hb⟩ := puts_l0 x0 l hl l.length 0 k (by omega) hk
  refine ⟨r, hr, fun h => ?_⟩
  obtain ⟨g1, g2⟩ := hb h
  exact ⟨fun x hx => by obtain ⟨j, hj⟩ := List.mem_iff_getElem?.1 hx; exact g1 j x (Nat.zero_le _) hj, g2⟩
theorem wf8b {x : Int} (h : (Lit.int .u8 x).wf = true) : 0 ≤ x ∧ x ≤ 255 := Ytanmgkpgfmkobaa.wf8 h
theorem ent_ok {x : S32} (hw : entWf x) (hp : putB x) : entB (toEnt x) = true := by
  obtain ⟨w0, w1, w2, w3, w4, w5⟩ := hw
  obtain ⟨p0, p1, p2⟩ := hp
  refine entB_of ⟨p0, by show x.f0.length ≤ 300; omega, fun y hy => wf8b (w0 y hy), (Ytanmgkpgfmkobaa.wf64 w1).1, (Ytanmgkpgfmkobaa.wf64 w1).2, by show x.f2.f3.length ≤ 300; omega, fun y hy => wf8b (w5 y hy), wf8b w2, wf8b w3, (Ytanmgkpgfmkobaa.wf64 w4).1, (Ytanmgkpgfmkobaa.wf64 w4).2⟩
theorem fits2_long (l : List S32) (k : Nat) (h : laws_zzFits2.f k l = some true) : l.length ≤ 2147483647 := by
  by_cases hl : (l.length : Int) > 2147483647
  · exfalso
    unfold laws_zzFits2.f at h
    rw [if_pos hl] at h
    simp at h
  · omega
end Go.Proofs.YtanmgkpgfmkobaaQ.QT
