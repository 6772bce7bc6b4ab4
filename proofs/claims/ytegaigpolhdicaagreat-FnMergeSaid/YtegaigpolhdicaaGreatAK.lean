/- Laws over lists of lists and steps: what their guards let in, and how they lie. -/
import Derived.Test.YtegaigpolhdicaaGreatX7
import Derived.Test.YtegaigpolhdicaaGreatGJ
import Derived.Test.YtegaigpolhdicaaGreatAJ
import Derived.Test.YtegaigpolhdicaaGreatQT1
import Derived.Test.YtegaigpolhdicaaGreatQT3
namespace Go.Proofs.YtegaigpolhdicaaGreatQ.QT
open Go.RowKit Go.Proofs.YtegaigpolhdicaaGreatQ.Ext Go.Proofs.YtegaigpolhdicaaGreatW.PrintWords
set_option linter.unusedVariables false
set_option linter.unusedSimpArgs false
def entWf (x : S44) : Prop := (∀ y ∈ x.f0, (Lit.int .u8 y).wf = true) ∧ (Lit.int .u64 x.f1).wf = true ∧ (Lit.int .u8 x.f2.f0).wf = true ∧ (Lit.int .u8 x.f2.f1).wf = true ∧ (Lit.int .u64 x.f2.f2).wf = true ∧ ∀ y ∈ x.f2.f3, (Lit.int .u8 y).wf = true
theorem fits4_some (a b c : Int) (l : List Int) : ∃ r, laws_zzFits4.f a b c l = some r := by
  unfold laws_zzFits4.f
  split <;> exact ⟨_, rfl⟩
theorem fits3_some (l : List Int) (a b c d : Int) (m : List Int) : ∃ r, laws_zzFits3.f l a b c d m = some r := by
  unfold laws_zzFits3.f
  obtain ⟨r, hr⟩ := fits4_some b c d m
  rw [hr]
  simp only [Option.bind_some]
  repeat' split
  all_goals exact ⟨_, rfl⟩
theorem fits2_l0 (l : List S44) (hl : l.length ≤ 2147483647) : ∀ (n i k : Nat), i + n = l.length → n < k → ∃ r, laws_zzFits2.l0 k l (l.length : Int) (i : Int) = some r := by
  intro n
  induction n with
  | zero =>
    intro i k hi hk
    obtain ⟨q, rfl⟩ : ∃ q, k = q + 1 := ⟨k - 1, by omega⟩
    unfold laws_zzFits2.l0
    rw [if_neg (by omega)]
    exact ⟨_, rfl⟩
  | succ n ih =>
    intro i k hi hk
    obtain ⟨q, rfl⟩ : ∃ q, k = q + 1 := ⟨k - 1, by omega⟩
    unfold laws_zzFits2.l0
    rw [if_pos (by omega), if_pos (by omega), if_pos (by omega)]
    obtain ⟨r, hr⟩ := fits3_some (rd_T44 l i).f0 (rd_T44 l i).f1 (rd_T44 l i).f2.f0 (rd_T44 l i).f2.f1 (rd_T44 l i).f2.f2 (rd_T44 l i).f2.f3
    rw [hr, Option.bind_some]
    have ew : wrap64 ((i : Int) + 1) = ((i + 1 : Nat) : Int) := by unfold wrap64; omega
    split
    · rw [ew]
      exact ih (i + 1) q (by omega) (by omega)
    · exact ⟨_, rfl⟩
theorem fits2_some (l : List S44) (k : Nat) (hk : l.length < k) : ∃ r, laws_zzFits2.f k l = some r := by
  unfold laws_zzFits2.f
  by_cases h : (l.length : Int) > 2147483647
  · rw [if_pos h]; exact ⟨_, rfl⟩
  · rw [if_neg h]
    exact fits2_l0 l (by omega) l.length 0 k (by omega) hk
def putB (x : S44) : Prop := 1 ≤ x.f0.length ∧ x.f0.length ≤ 40 ∧ x.f2.f3.length ≤ 200
theorem wf8b {x : Int} (h : (Lit.int .u8 x).wf = true) : 0 ≤ x ∧ x ≤ 255 := YtegaigpolhdicaaGreat.wf8 h
theorem ent_ok {x : S44} (hw : entWf x) (hp : putB x) : entB (toEnt x) = true := by
  obtain ⟨w0, w1, w2, w3, w4, w5⟩ := hw
  obtain ⟨p0, p1, p2⟩ := hp
  refine entB_of ⟨p0, by show x.f0.length ≤ 300; omega, fun y hy => wf8b (w0 y hy), (YtegaigpolhdicaaGreat.wf64 w1).1, (YtegaigpolhdicaaGreat.wf64 w1).2, by show x.f2.f3.length ≤ 300; omega, fun y hy => wf8b (w5 y hy), wf8b w2, wf8b w3, (YtegaigpolhdicaaGreat.wf64 w4).1, (YtegaigpolhdicaaGreat.wf64 w4).2⟩
theorem fits2_long (l : List S44) (k : Nat) (h : laws_zzFits2.f k l = some true) : l.length ≤ 2147483647 := by
  by_cases hl : (l.length : Int) > 2147483647
  · exfalso
    unfold laws_zzFits2.f at h
    rw [if_pos hl] at h
    simp at h
  · omega
def toSt (x : S39) : YtegaigpolhdicaaGreat.StE := ⟨x.f0, x.f1, x.f2⟩
def stepWf (x : S39) : Prop := (Lit.int .i64 x.f0).wf = true ∧ (∀ y ∈ x.f1, (Lit.int .u8 y).wf = true) ∧ (Lit.int .u64 x.f2).wf = true
theorem rd_st (l : List S39) (i : Nat) (h : i < l.length) : l[i]? = some (rd_T39 l i) := by
  unfold rd_T39
  rw [Int.toNat_natCast, List.getD_eq_getElem?_getD, List.getElem?_eq_getElem h]
  rfl
theorem fits17_l0 (l : List S39) (hl : l.length ≤ 2147483647) : ∀ (n i k : Nat), i + n = l.length → n < k → ∃ r, laws_zzFits17.l0 k l (l.length : Int) (i : Int) = some r ∧ (r = true → ∀ j x, i ≤ j → l[j]? = some x → x.f1.length ≤ 2147483647) := by
  intro n
  induction n with
  | zero =>
    intro i k hi hk
    obtain ⟨q, rfl⟩ : ∃ q, k = q + 1 := ⟨k - 1, by omega⟩
    unfold laws_zzFits17.l0
    rw [if_neg (by omega)]
    exact ⟨_, rfl, fun _ j x hj hx => by have := (List.getElem?_eq_some_iff.1 hx).1; omega⟩
  | succ n ih =>
    intro i k hi hk
    obtain ⟨q, rfl⟩ : ∃ q, k = q + 1 := ⟨k - 1, by omega⟩
    unfold laws_zzFits17.l0
    rw [if_pos (by omega), if_pos (by omega), if_pos (by omega)]
    have ew : wrap64 ((i : Int) + 1) = ((i + 1 : Nat) : Int) := by unfold wrap64; omega
    have hrd := rd_st l i (by omega)
    rw [ew]
    generalize rd_T39 l i = e at *
    unfold laws_zzFits18.f
    by_cases h2 : ((e.f1.length : Int)) > 2147483647
    · rw [if_pos h2]
      exact ⟨_, rfl, fun h => by cases h⟩
    · rw [if_neg h2]
      obtain ⟨r, hr, hb⟩ := ih (i + 1) q (by omega) (by omega)
      refine ⟨r, by simpa using hr, fun h j x hj hx => ?_⟩
      by_cases e1 : j = i
      · subst e1
        rw [hrd] at hx
        injection hx with hx
        subst hx
        omega
      · exact hb h j x (by omega) hx
theorem fits17_some (l : List S39) (k : Nat) (hk : l.length < k) : ∃ r, laws_zzFits17.f k l = some r ∧ (r = true → l.length ≤ 2147483647 ∧ ∀ x ∈ l, x.f1.length ≤ 2147483647) := by
  unfold laws_zzFits17.f
  by_cases h : (l.length : Int) > 2147483647
  · rw [if_pos h]; exact ⟨_, rfl, fun h => by cases h⟩
  · rw [if_neg h]
    obtain ⟨r, hr, hb⟩ := fits17_l0 l (by omega) l.length 0 k (by omega) hk
    exact ⟨r, hr, fun h2 => ⟨by omega, fun x hx => by obtain ⟨j, hj⟩ := List.mem_iff_getElem?.1 hx; exact hb h2 j x (Nat.zero_le _) hj⟩⟩
theorem steps_l0 (l : List S39) (hl : l.length ≤ 2147483647) : ∀ (n i k : Nat), i + n = l.length → n < k → ∃ r, laws_stepsOk.l0 k l l (l.length : Int) (i : Int) = some r ∧ (r = true → (∀ j x, i ≤ j → l[j]? = some x → x.f1.length ≤ 40) ∧ 1 ≤ l.length ∧ l.length ≤ 60) := by
  intro n
  induction n with
  | zero =>
    intro i k hi hk
    obtain ⟨q, rfl⟩ : ∃ q, k = q + 1 := ⟨k - 1, by omega⟩
    unfold laws_stepsOk.l0
    rw [if_neg (by omega)]
    by_cases h1 : (l.length : Int) ≥ 1
    · rw [if_pos h1]
      refine ⟨_, rfl, fun h => ?_⟩
      have h3 := of_decide_eq_true h
      exact ⟨fun j x hj hx => by have := (List.getElem?_eq_some_iff.1 hx).1; omega, by omega, by omega⟩
    · rw [if_neg h1]; exact ⟨_, rfl, fun h => by cases h⟩
  | succ n ih =>
    intro i k hi hk
    obtain ⟨q, rfl⟩ : ∃ q, k = q + 1 := ⟨k - 1, by omega⟩
    unfold laws_stepsOk.l0
    rw [if_pos (by omega), if_pos (by omega), if_pos (by omega)]
    have ew : wrap64 ((i : Int) + 1) = ((i + 1 : Nat) : Int) := by unfold wrap64; omega
    have hrd := rd_st l i (by omega)
    rw [ew]
    generalize rd_T39 l i = e at *
    by_cases h2 : ((e.f1.length : Int)) > 40
    · rw [if_pos h2]; exact ⟨_, rfl, fun h => by cases h⟩
    · rw [if_neg h2]
      obtain ⟨r, hr, hb⟩ := ih (i + 1) q (by omega) (by omega)
      refine ⟨r, hr, fun h => ?_⟩
      obtain ⟨g1, g2⟩ := hb h
      refine ⟨fun j x hj hx => ?_, g2⟩
      by_cases e1 : j = i
      · subst e1
        rw [hrd] at hx
        injection hx with hx
        subst hx
        omega
      · exact g1 j x (by omega) hx
theorem steps_some (l : List S39) (k : Nat) (hk : l.length < k) (hl : l.length ≤ 2147483647) : ∃ r, laws_stepsOk.f k l = some r ∧ (r = true → (∀ x ∈ l, x.f1.length ≤ 40) ∧ 1 ≤ l.length ∧ l.length ≤ 60) := by
  obtain ⟨r, hr, hb⟩ := steps_l0 l hl l.length 0 k (by omega) hk
  refine ⟨r, hr, fun h => ?_⟩
  obtain ⟨g1, g2⟩ := hb h
  exact ⟨fun x hx => by obtain ⟨j, hj⟩ := List.mem_iff_getElem?.1 hx; exact g1 j x (Nat.zero_le _) hj, g2⟩
/-- Steps as they lie. -/
theorem srs_of_C {w : World} {A : Option Addr} {n : Nat} {l : List S39} (h : Kd.C k39 w A n l) : ∃ ss : List YtegaigpolhdicaaGreat.SR, ss.map YtegaigpolhdicaaGreat.SR.s = l.map toSt ∧ YtegaigpolhdicaaGreat.Srs w A ss := by
  obtain ⟨h1, h2, h3⟩ := h
  rcases Nat.eq_zero_or_pos n with h0 | h0
  · subst h0
    obtain rfl := List.eq_nil_of_length_eq_zero h1
    exact ⟨[], rfl, YtegaigpolhdicaaGreat.Srs.nil w A⟩
  · obtain ⟨ad, rfl, hc⟩ := h3 h0
    obtain ⟨x, hx⟩ : ∃ x, l[0]? = some x := ⟨l[0]'(by omega), List.getElem?_eq_getElem (by omega)⟩
    have e0 : ad.add (0 * 3 + 0) = ad := by unfold Addr.add; simp
    have ep : (⟨ad.block, ad.off, none⟩ : Addr) = ad := by
      obtain ⟨c, hl, hK, hcell⟩ := hc 0 x hx
      obtain ⟨A1, c1, rfl, _⟩ := k39_open hK
      have h0 := hcell 0 _ rfl
      rw [show (0 * k39.sz + 0) = 0 * 3 + 0 from rfl, e0] at h0
      exact (plain_at h0).symm
    have key : ∀ k, k ≤ l.length → ∃ ss : List YtegaigpolhdicaaGreat.SR, ss.map YtegaigpolhdicaaGreat.SR.s = (l.take k).map toSt ∧ ∀ (j : Nat) (r : YtegaigpolhdicaaGreat.SR), ss[j]? = some r → r.In w ∧ ∀ i u, r.cells[i]? = some u → w.cell? ⟨ad.block, ad.off + j * 3 + i, none⟩ = some u := by
      intro k
      induction k with
      | zero => intro _; exact ⟨[], rfl, fun j r hr => by simp at hr⟩
      | succ k ih =>
        intro hk
        obtain ⟨ss, e1, e2⟩ := ih (by omega)
        obtain ⟨x, hx⟩ : ∃ x, l[k]? = some x := ⟨_, List.getElem?_eq_getElem (by omega)⟩
        obtain ⟨c, hl, hK, hcell⟩ := hc k x hx
        obtain ⟨A1, c1, rfl, l1, g1⟩ := k39_open hK
        have hlen : ss.length = k := by have := congrArg List.length e1; rw [List.length_map, List.length_map, List.length_take] at this; omega
        refine ⟨ss ++ [⟨A1, x.f1.length, c1, toSt x⟩], by rw [List.map_append, e1, YtegaigpolhdicaaGreat.take_snoc l k x hx, List.map_append]; rfl, fun j r hr => ?_⟩
        rcases Nat.lt_trichotomy j ss.length with hj | hj | hj
        · rw [List.getElem?_append_left hj] at hr
          exact e2 j r hr
        · rw [List.getElem?_append_right (by omega), hj, Nat.sub_self] at hr
          simp only [List.getElem?_cons_zero, Option.some.injEq] at hr
          subst hr
          rw [hj, hlen]
          refine ⟨⟨sl_of_C g1, l1⟩, fun i u hi => ?_⟩
          have := hcell i u hi
          rw [← ep, YtegaigpolhdicaaGreat.add_none] at this
          rw [Nat.add_assoc]
          exact this
        · rw [List.getElem?_eq_none (by simp; omega)] at hr
          cases hr
    obtain ⟨ss, e1, e2⟩ := key l.length (Nat.le_refl _)
    rw [List.take_of_length_le (Nat.le_refl _)] at e1
    have hlen : ss.length = n := by have := congrArg List.length e1; rw [List.length_map, List.length_map] at this; omega
    refine ⟨ss, e1, ⟨⟨YtegaigpolhdicaaGreat.flatS_len ss, fun _ => ⟨ad.block, ad.off, by rw [ep], fun i u hu => ?_⟩⟩, fun r hr => ?_⟩⟩
    · have hi : i < ss.length * 3 := by have := (List.getElem?_eq_some_iff.1 hu).1; rwa [YtegaigpolhdicaaGreat.flatS_len] at this
      obtain ⟨r, hr⟩ : ∃ r, ss[i / 3]? = some r := ⟨_, List.getElem?_eq_getElem (by omega)⟩
      have hf := YtegaigpolhdicaaGreat.flatS_at ss (i / 3) (i % 3) r hr (Nat.mod_lt _ (by omega))
      rw [show i / 3 * 3 + i % 3 = i by omega, hu] at hf
      have := (e2 _ r hr).2 (i % 3) u hf.symm
      rwa [show ad.off + i / 3 * 3 + i % 3 = ad.off + i by omega] at this
    · obtain ⟨j, hj⟩ := List.mem_iff_getElem?.1 hr
      exact (e2 j r hj).1
theorem rd_ls (l : List (List S44)) (i : Nat) (h : i < l.length) : l[i]? = some (rd_L5 l i) := by
  unfold rd_L5
  rw [Int.toNat_natCast, List.getD_eq_getElem?_getD, List.getElem?_eq_getElem h]
  rfl
theorem fits7_l0 (l : List (List S44)) (M : Nat) (hM : ∀ x ∈ l, x.length ≤ M) (hl : l.length ≤ 2147483647) : ∀ (n i k : Nat), i + n = l.length → n + M + 1 < k → ∃ r, laws_zzFits7.l0 k l (l.length : Int) (i : Int) = some r ∧ (r = true → ∀ j x, i ≤ j → l[j]? = some x → x.length ≤ 2147483647) := by
  intro n
  induction n with
  | zero =>
    intro i k hi hk
    obtain ⟨q, rfl⟩ : ∃ q, k = q + 1 := ⟨k - 1, by omega⟩
    unfold laws_zzFits7.l0
    rw [if_neg (by omega)]
    exact ⟨_, rfl, fun _ j x hj hx => by have := (List.getElem?_eq_some_iff.1 hx).1; omega⟩
  | succ n ih =>
    intro i k hi hk
    obtain ⟨q, rfl⟩ : ∃ q, k = q + 1 := ⟨k - 1, by omega⟩
    unfold laws_zzFits7.l0
    rw [if_pos (by omega), if_pos (by omega), if_pos (by omega)]
    have ew : wrap64 ((i : Int) + 1) = ((i + 1 : Nat) : Int) := by unfold wrap64; omega
    have hrd := rd_ls l i (by omega)
    rw [ew]
    generalize rd_L5 l i = e at *
    obtain ⟨r, hr⟩ := fits2_some e q (by have := hM e (List.mem_of_getElem? hrd); omega)
    rw [hr, Option.bind_some]
    cases r with
    | false => exact ⟨false, by simp, fun h => by cases h⟩
    | true =>
      obtain ⟨r, hr2, hb⟩ := ih (i + 1) q (by omega) (by omega)
      refine ⟨r, by simpa using hr2, fun h j x hj hx => ?_⟩
      by_cases e1 : j = i
      · subst e1
        rw [hrd] at hx
        injection hx with hx
        subst hx
        exact fits2_long _ _ hr
      · exact hb h j x (by omega) hx
theorem len_bound {α : Type} : ∀ l : List (List α), ∃ M, ∀ x ∈ l, x.length ≤ M
  | [] => ⟨0, fun x hx => by cases hx⟩
  | a :: l => by
    obtain ⟨M, hM⟩ := len_bound l
    refine ⟨a.length + M, fun x hx => ?_⟩
    rcases List.mem_cons.1 hx with rfl | h
    · omega
    · have := hM x h; omega
theorem fits7_some (l : List (List S44)) : ∃ k r, laws_zzFits7.f k l = some r ∧ (r = true → l.length ≤ 2147483647 ∧ ∀ x ∈ l, x.length ≤ 2147483647) := by
  obtain ⟨M, hM⟩ := len_bound l
  refine ⟨l.length + M + 2, ?_⟩
  unfold laws_zzFits7.f
  by_cases h : (l.length : Int) > 2147483647
  · rw [if_pos h]; exact ⟨_, rfl, fun h => by cases h⟩
  · rw [if_neg h]
    obtain ⟨r, hr, hb⟩ := fits7_l0 l M hM (by omega) l.length 0 (l.length + M + 2) (by omega) (by omega)
    exact ⟨r, hr, fun h2 => ⟨by omega, fun x hx => by obtain ⟨j, hj⟩ := List.mem_iff_getElem?.1 hx; exact hb h2 j x (Nat.zero_le _) hj⟩⟩
/-- Lists of lists as they lie. -/
theorem lss_of_C {w : World} {A : Option Addr} {n : Nat} {l : List (List S44)} (h : Kd.C (Kd.slice 44 k44) w A n l) : ∃ ls : List YtegaigpolhdicaaGreat.LsR, (ls.map fun q => q.es.map YtegaigpolhdicaaGreat.ER.e) = l.map (fun x => x.map toEnt) ∧ YtegaigpolhdicaaGreat.Lss w A ls ∧ ls.length = n := by
  obtain ⟨h1, h2, h3⟩ := h
  rcases Nat.eq_zero_or_pos n with h0 | h0
  · subst h0
    obtain rfl := List.eq_nil_of_length_eq_zero h1
    exact ⟨[], rfl, ⟨YtegaigpolhdicaaGreat.Sl.nil w A, fun q hq => by cases hq⟩, rfl⟩
  · obtain ⟨ad, rfl, hc⟩ := h3 h0
    obtain ⟨x, hx⟩ : ∃ x, l[0]? = some x := ⟨l[0]'(by omega), List.getElem?_eq_getElem (by omega)⟩
    have e0 : ad.add (0 * 1 + 0) = ad := by unfold Addr.add; simp
    have ep : (⟨ad.block, ad.off, none⟩ : Addr) = ad := by
      obtain ⟨c, hl, hK, hcell⟩ := hc 0 x hx
      obtain ⟨A1, c1, rfl, _⟩ := hK
      have h0 := hcell 0 _ rfl
      rw [show (0 * (Kd.slice 44 k44).sz + 0) = 0 * 1 + 0 from rfl, e0] at h0
      exact (plain_at h0).symm
    have key : ∀ k, k ≤ l.length → ∃ ls : List YtegaigpolhdicaaGreat.LsR, (ls.map fun q => q.es.map YtegaigpolhdicaaGreat.ER.e) = (l.take k).map (fun x => x.map toEnt) ∧ ∀ (j : Nat) (r : YtegaigpolhdicaaGreat.LsR), ls[j]? = some r → (YtegaigpolhdicaaGreat.Ers w r.A r.es ∧ r.es.length ≤ r.c) ∧ w.cell? ⟨ad.block, ad.off + j, none⟩ = some r.v := by
      intro k
      induction k with
      | zero => intro _; exact ⟨[], rfl, fun j r hr => by simp at hr⟩
      | succ k ih =>
        intro hk
        obtain ⟨ls, e1, e2⟩ := ih (by omega)
        obtain ⟨x, hx⟩ : ∃ x, l[k]? = some x := ⟨_, List.getElem?_eq_getElem (by omega)⟩
        obtain ⟨c, hl, hK, hcell⟩ := hc k x hx
        obtain ⟨A1, c1, rfl, l1, g1⟩ := hK
        obtain ⟨es, he, hE⟩ := YtegaigpolhdicaaGreat.ers_of (sle_of_C g1)
        have hel : es.length = x.length := by have := congrArg List.length he; rwa [List.length_map, List.length_map] at this
        have hlen : ls.length = k := by have := congrArg List.length e1; rw [List.length_map, List.length_map, List.length_take] at this; omega
        refine ⟨ls ++ [⟨A1, c1, es⟩], by rw [List.map_append, e1, YtegaigpolhdicaaGreat.take_snoc l k x hx, List.map_append, List.map_singleton, List.map_singleton, he], fun j r hr => ?_⟩
        rcases Nat.lt_trichotomy j ls.length with hj | hj | hj
        · rw [List.getElem?_append_left hj] at hr
          exact e2 j r hr
        · rw [List.getElem?_append_right (by omega), hj, Nat.sub_self] at hr
          simp only [List.getElem?_cons_zero, Option.some.injEq] at hr
          subst hr
          rw [hj, hlen]
          refine ⟨⟨hE, by show es.length ≤ c1; omega⟩, ?_⟩
          have := hcell 0 _ rfl
          rw [← ep, YtegaigpolhdicaaGreat.add_none] at this
          show _ = some (Value.slice A1 es.length c1)
          rw [hel]
          rwa [show k * (Kd.slice 44 k44).sz + 0 = k by show k * 1 + 0 = k; omega] at this
        · rw [List.getElem?_eq_none (by simp; omega)] at hr
          cases hr
    obtain ⟨ls, e1, e2⟩ := key l.length (Nat.le_refl _)
    rw [List.take_of_length_le (Nat.le_refl _)] at e1
    have hlen : ls.length = n := by have := congrArg List.length e1; rw [List.length_map, List.length_map] at this; omega
    refine ⟨ls, e1, ⟨⟨by rw [List.length_map], fun _ => ⟨ad.block, ad.off, by rw [ep], fun i u hu => ?_⟩⟩, fun q hq => ?_⟩, hlen⟩
    · rw [List.getElem?_map] at hu
      cases hr : ls[i]? with
      | none => rw [hr] at hu; cases hu
      | some r =>
        rw [hr] at hu
        injection hu with hu
        rw [← hu]
        exact (e2 i r hr).2
    · obtain ⟨j, hj⟩ := List.mem_iff_getElem?.1 hq
      exact (e2 j q hj).1
end Go.Proofs.YtegaigpolhdicaaGreatQ.QT
