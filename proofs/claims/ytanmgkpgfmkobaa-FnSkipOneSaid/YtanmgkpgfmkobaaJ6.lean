/- Laws over steps: what their guards let in, and their steps as they lie. -/
import Derived.Test.YtanmgkpgfmkobaaSL
import Derived.Test.YtanmgkpgfmkobaaQT1
import Derived.Test.YtanmgkpgfmkobaaGJ
namespace Go.Proofs.YtanmgkpgfmkobaaQ.QT
open Go.RowKit Go.Proofs.YtanmgkpgfmkobaaQ.Ext Go.Proofs.YtanmgkpgfmkobaaW.PrintWords
set_option linter.unusedVariables false
set_option linter.unusedSimpArgs false
def toSt (x : S78) : Ytanmgkpgfmkobaa.StE := ⟨x.f0, x.f1, x.f2⟩
def stepWf (x : S78) : Prop := (Lit.int .i64 x.f0).wf = true ∧ (∀ y ∈ x.f1, (Lit.int .u8 y).wf = true) ∧ (Lit.int .u64 x.f2).wf = true
theorem rd_st (l : List S78) (i : Nat) (h : i < l.length) : l[i]? = some (rd_T78 l i) := by
  unfold rd_T78
  rw [Int.toNat_natCast, List.getD_eq_getElem?_getD, List.getElem?_eq_getElem h]
  rfl
theorem rd_en (l : List S32) (i : Nat) (h : i < l.length) : l[i]? = some (rd_T32 l i) := by
  unfold rd_T32
  rw [Int.toNat_natCast, List.getD_eq_getElem?_getD, List.getElem?_eq_getElem h]
  rfl
theorem fits17_l0 (l : List S78) (hl : l.length ≤ 2147483647) : ∀ (n i k : Nat), i + n = l.length → n < k → ∃ r, laws_zzFits17.l0 k l (l.length : Int) (i : Int) = some r ∧ (r = true → ∀ j x, i ≤ j → l[j]? = some x → x.f1.length ≤ 2147483647) := by
  intro n
  induction n with
  | zero =>
    intro i k hi hk
    obtain ⟨q, rfl⟩ : ∃ q, k = q + 1 := ⟨k - 1, by omega⟩
    unfold laws_zzFits17.l0
    rw [if_neg (by omega)]
    exact ⟨_, rfl, fun _ j x hj hx => by have := (List.getElem?_eq_some_iff.1 hx).1; omega⟩
  | succ n ih =>
    intro i k hi hk
    obtain ⟨q, rfl⟩ : ∃ q, k = q + 1 := ⟨k - 1, by omega⟩
    unfold laws_zzFits17.l0
    rw [if_pos (by omega), if_pos (by omega), if_pos (by omega)]
    have ew : wrap64 ((i : Int) + 1) = ((i + 1 : Nat) : Int) := by unfold wrap64; omega
    have hrd := rd_st l i (by omega)
    rw [ew]
    generalize rd_T78 l i = e at *
    unfold laws_zzFits18.f
    by_cases h2 : ((e.f1.length : Int)) > 2147483647
    · rw [if_pos h2]
      exact ⟨_, rfl, fun h => by cases h⟩
    · rw [if_neg h2]
      obtain ⟨r, hr, hb⟩ := ih (i + 1) q (by omega) (by omega)
      refine ⟨r, by simpa using hr, fun h j x hj hx => ?_⟩
      by_cases e1 : j = i
      · subst e1
        rw [hrd] at hx
        injection hx with hx
        subst hx
        omega
      · exact hb h j x (by omega) hx
theorem fits17_some (l : List S78) (k : Nat) (hk : l.length < k) : ∃ r, laws_zzFits17.f k l = some r ∧ (r = true → l.length ≤ 2147483647 ∧ ∀ x ∈ l, x.f1.length ≤ 2147483647) := by
  unfold laws_zzFits17.f
  by_cases h : (l.length : Int) > 2147483647
  · rw [if_pos h]; exact ⟨_, rfl, fun h => by cases h⟩
  · rw [if_neg h]
    obtain ⟨r, hr, hb⟩ := fits17_l0 l (by omega) l.length 0 k (by omega) hk
    exact ⟨r, hr, fun h2 => ⟨by omega, fun x hx => by obtain ⟨j, hj⟩ := List.mem_iff_getElem?.1 hx; exact hb h2 j x (Nat.zero_le _) hj⟩⟩
theorem steps_l0 (l : List S78) (hl : l.length ≤ 2147483647) : ∀ (n i k : Nat), i + n = l.length → n < k → ∃ r, laws_stepsOk.l0 k l l (l.length : Int) (i : Int) = some r ∧ (r = true → (∀ j x, i ≤ j → l[j]? = some x → x.f1.length ≤ 40) ∧ 1 ≤ l.length ∧ l.length ≤ 60) := by
  intro n
  induction n with
  | zero =>
    intro i k hi hk
    obtain ⟨q, rfl⟩ : ∃ q, k = q + 1 := ⟨k - 1, by omega⟩
    unfold laws_stepsOk.l0
    rw [if_neg (by omega)]
    by_cases h1 : (l.length : Int) ≥ 1
    · rw [if_pos h1]
      refine ⟨_, rfl, fun h => ?_⟩
      have h3 := of_decide_eq_true h
      exact ⟨fun j x hj hx => by have := (List.getElem?_eq_some_iff.1 hx).1; omega, by omega, by omega⟩
    · rw [if_neg h1]; exact ⟨_, rfl, fun h => by cases h⟩
  | succ n ih =>
    intro i k hi hk
    obtain ⟨q, rfl⟩ : ∃ q, k = q + 1 := ⟨k - 1, by omega⟩
    unfold laws_stepsOk.l0
    rw [if_pos (by omega), if_pos (by omega), if_pos (by omega)]
    have ew : wrap64 ((i : Int) + 1) = ((i + 1 : Nat) : Int) := by unfold wrap64; omega
    have hrd := rd_st l i (by omega)
    rw [ew]
    generalize rd_T78 l i = e at *
    by_cases h2 : ((e.f1.length : Int)) > 40
    · rw [if_pos h2]; exact ⟨_, rfl, fun h => by cases h⟩
    · rw [if_neg h2]
      obtain ⟨r, hr, hb⟩ := ih (i + 1) q (by omega) (by omega)
      refine ⟨r, hr, fun h => ?_⟩
      obtain ⟨g1, g2⟩ := hb h
      refine ⟨fun j x hj hx => ?_, g2⟩
      by_cases e1 : j = i
      · subst e1
        rw [hrd] at hx
        injection hx with hx
        subst hx
        omega
      · exact g1 j x (by omega) hx
theorem steps_some (l : List S78) (k : Nat) (hk : l.length < k) (hl : l.length ≤ 2147483647) : ∃ r, laws_stepsOk.f k l = some r ∧ (r = true → (∀ x ∈ l, x.f1.length ≤ 40) ∧ 1 ≤ l.length ∧ l.length ≤ 60) := by
  obtain ⟨r, hr, hb⟩ := steps_l0 l hl l.length 0 k (by omega) hk
  refine ⟨r, hr, fun h => ?_⟩
  obtain ⟨g1, g2⟩ := hb h
  exact ⟨fun x hx => by obtain ⟨j, hj⟩ := List.mem_iff_getElem?.1 hx; exact g1 j x (Nat.zero_le _) hj, g2⟩
/-- What fits has keys that fit. -/
theorem fits2_l0k (l : List S32) (hl : l.length ≤ 2147483647) : ∀ (n i k : Nat), i + n = l.length → laws_zzFits2.l0 k l (l.length : Int) (i : Int) = some true → ∀ j x, i ≤ j → l[j]? = some x → x.f0.length ≤ 2147483647 := by
  intro n
  induction n with
  | zero => intro i k hi hk j x hj hx; have := (List.getElem?_eq_some_iff.1 hx).1; omega
  | succ n ih =>
    intro i k hi h j x hj hx
    cases k with
    | zero => simp [laws_zzFits2.l0] at h
    | succ q =>
      unfold laws_zzFits2.l0 at h
      rw [if_pos (by omega), if_pos (by omega), if_pos (by omega)] at h
      have ew : wrap64 ((i : Int) + 1) = ((i + 1 : Nat) : Int) := by unfold wrap64; omega
      have hrd := rd_en l i (by omega)
      rw [ew] at h
      generalize rd_T32 l i = e at *
      obtain ⟨r, hr⟩ := fits3_some e.f0 e.f1 e.f2.f0 e.f2.f1 e.f2.f2 e.f2.f3
      rw [hr, Option.bind_some] at h
      cases r with
      | false => simp at h
      | true =>
        rw [if_pos rfl] at h
        by_cases e1 : j = i
        · subst e1
          rw [hrd] at hx
          injection hx with hx
          subst hx
          unfold laws_zzFits3.f at hr
          by_cases h2 : ((e.f0.length : Int)) > 2147483647
          · rw [if_pos h2] at hr; cases hr
          · omega
        · exact ih (i + 1) q (by omega) h j x (by omega) hx
theorem fits2_keys (l : List S32) (k : Nat) (h : laws_zzFits2.f k l = some true) : ∀ x ∈ l, x.f0.length ≤ 2147483647 := by
  have hl := fits2_long l k h
  unfold laws_zzFits2.f at h
  rw [if_neg (by omega)] at h
  intro x hx
  obtain ⟨j, hj⟩ := List.mem_iff_getElem?.1 hx
  exact fits2_l0k l hl l.length 0 k (by omega) h j x (Nat.zero_le _) hj
/-- Steps as they lie. -/
theorem srs_of_C {w : World} {A : Option Addr} {n : Nat} {l : List S78} (h : Kd.C k78 w A n l) : ∃ ss : List Ytanmgkpgfmkobaa.SR, ss.map Ytanmgkpgfmkobaa.SR.s = l.map toSt ∧ Ytanmgkpgfmkobaa.Srs w A ss := by
  obtain ⟨h1, h2, h3⟩ := h
  rcases Nat.eq_zero_or_pos n with h0 | h0
  · subst h0
    obtain rfl := List.eq_nil_of_length_eq_zero h1
    exact ⟨[], rfl, Ytanmgkpgfmkobaa.Srs.nil w A⟩
  · obtain ⟨ad, rfl, hc⟩ := h3 h0
    obtain ⟨x, hx⟩ : ∃ x, l[0]? = some x := ⟨l[0]'(by omega), List.getElem?_eq_getElem (by omega)⟩
    have e0 : ad.add (0 * 3 + 0) = ad := by unfold Addr.add; simp
    have ep : (⟨ad.block, ad.off, none⟩ : Addr) = ad := by
      obtain ⟨c, hl, hK, hcell⟩ := hc 0 x hx
      obtain ⟨A1, c1, rfl, _⟩ := k78_open hK
      have h0 := hcell 0 _ rfl
      rw [show (0 * k78.sz + 0) = 0 * 3 + 0 from rfl, e0] at h0
      exact (plain_at h0).symm
    have key : ∀ k, k ≤ l.length → ∃ ss : List Ytanmgkpgfmkobaa.SR, ss.map Ytanmgkpgfmkobaa.SR.s = (l.take k).map toSt ∧ ∀ (j : Nat) (r : Ytanmgkpgfmkobaa.SR), ss[j]? = some r → r.In w ∧ ∀ i u, r.cells[i]? = some u → w.cell? ⟨ad.block, ad.off + j * 3 + i, none⟩ = some u := by
      intro k
      induction k with
      | zero => intro _; exact ⟨[], rfl, fun j r hr => by simp at hr⟩
      | succ k ih =>
        intro hk
        obtain ⟨ss, e1, e2⟩ := ih (by omega)
        obtain ⟨x, hx⟩ : ∃ x, l[k]? = some x := ⟨_, List.getElem?_eq_getElem (by omega)⟩
        obtain ⟨c, hl, hK, hcell⟩ := hc k x hx
        obtain ⟨A1, c1, rfl, l1, g1⟩ := k78_open hK
        have hlen : ss.length = k := by have := congrArg List.length e1; rw [List.length_map, List.length_map, List.length_take] at this; omega
        refine ⟨ss ++ [⟨A1, x.f1.length, c1, toSt x⟩], by rw [List.map_append, e1, Ytanmgkpgfmkobaa.take_snoc l k x hx, List.map_append]; rfl, fun j r hr => ?_⟩
        rcases Nat.lt_trichotomy j ss.length with hj | hj | hj
        · rw [List.getElem?_append_left hj] at hr
          exact e2 j r hr
        · rw [List.getElem?_append_right (by omega), hj, Nat.sub_self] at hr
          simp only [List.getElem?_cons_zero, Option.some.injEq] at hr
          subst hr
          rw [hj, hlen]
          refine ⟨⟨sl_of_C g1, l1⟩, fun i u hi => ?_⟩
          have := hcell i u hi
          rw [← ep, Ytanmgkpgfmkobaa.add_none] at this
          rw [Nat.add_assoc]
          exact this
        · rw [List.getElem?_eq_none (by simp; omega)] at hr
          cases hr
    obtain ⟨ss, e1, e2⟩ := key l.length (Nat.le_refl _)
    rw [List.take_of_length_le (Nat.le_refl _)] at e1
    have hlen : ss.length = n := by have := congrArg List.length e1; rw [List.length_map, List.length_map] at this; omega
    refine ⟨ss, e1, ⟨⟨Ytanmgkpgfmkobaa.flatS_len ss, fun _ => ⟨ad.block, ad.off, by rw [ep], fun i u hu => ?_⟩⟩, fun r hr => ?_⟩⟩
    · have hi : i < ss.length * 3 := by have := (List.getElem?_eq_some_iff.1 hu).1; rwa [Ytanmgkpgfmkobaa.flatS_len] at this
      obtain ⟨r, hr⟩ : ∃ r, ss[i / 3]? = some r := ⟨_, List.getElem?_eq_getElem (by omega)⟩
      have hf := Ytanmgkpgfmkobaa.flatS_at ss (i / 3) (i % 3) r hr (Nat.mod_lt _ (by omega))
      rw [show i / 3 * 3 + i % 3 = i by omega, hu] at hf
      have := (e2 _ r hr).2 (i % 3) u hf.symm
      rwa [show ad.off + i / 3 * 3 + i % 3 = ad.off + i by omega] at this
    · obtain ⟨j, hj⟩ := List.mem_iff_getElem?.1 hr
      exact (e2 j r hj).1
end Go.Proofs.YtanmgkpgfmkobaaQ.QT
