/- What the guards of the laws over manifests let in. -/
import Derived.Test.YtpfmmbhbmdbmeaaDoorY9
import Derived.Test.YtpfmmbhbmdbmeaaDoorQT1
namespace Go.Proofs.YtpfmmbhbmdbmeaaDoorQ.QT
open Go.RowKit Go.Proofs.YtpfmmbhbmdbmeaaDoorQ.Ext Go.Proofs.YtpfmmbhbmdbmeaaDoorW.PrintWords
set_option linter.unusedVariables false
set_option linter.unusedSimpArgs false
def toChg (x : S45) : YtpfmmbhbmdbmeaaDoor.Chg := ⟨x.f0, x.f1, x.f2, x.f3, x.f4⟩
def chgWf (x : S45) : Prop := (Lit.int .u64 x.f0).wf = true ∧ True ∧ (Lit.int .u32 x.f2).wf = true ∧ (Lit.int .u64 x.f3).wf = true ∧ (Lit.int .u32 x.f4).wf = true
def toSets (l : List (List S45)) : List (List YtpfmmbhbmdbmeaaDoor.Chg) := l.map (·.map toChg)
theorem rd_sets (l : List (List S45)) (i : Nat) (h : i < l.length) : l[i]? = some (rd_L4 l i) := by
  unfold rd_L4
  rw [Int.toNat_natCast, List.getD_eq_getElem?_getD, List.getElem?_eq_getElem h]
  rfl
theorem rd_chg (l : List S45) (i : Nat) (h : i < l.length) : l[i]? = some (rd_T45 l i) := by
  unfold rd_T45
  rw [Int.toNat_natCast, List.getD_eq_getElem?_getD, List.getElem?_eq_getElem h]
  rfl
theorem fits14_l0 (l : List (List S45)) (hl : l.length ≤ 2147483647) : ∀ (n i k : Nat), i + n = l.length → n < k → ∃ r, laws_zzFits14.l0 k l (l.length : Int) (i : Int) = some r := by
  intro n
  induction n with
  | zero =>
    intro i k hi hk
    obtain ⟨q, rfl⟩ : ∃ q, k = q + 1 := ⟨k - 1, by omega⟩
    unfold laws_zzFits14.l0
    rw [if_neg (by omega)]
    exact ⟨_, rfl⟩
  | succ n ih =>
    intro i k hi hk
    obtain ⟨q, rfl⟩ : ∃ q, k = q + 1 := ⟨k - 1, by omega⟩
    unfold laws_zzFits14.l0
    rw [if_pos (by omega), if_pos (by omega), if_pos (by omega)]
    have ew : wrap64 ((i : Int) + 1) = ((i + 1 : Nat) : Int) := by unfold wrap64; omega
    split
    · exact ⟨_, rfl⟩
    · rw [ew]
      exact ih (i + 1) q (by omega) (by omega)
theorem fits14_some (l : List (List S45)) (hl : l.length ≤ 2147483647) : ∃ r, laws_zzFits14.f (l.length + 1) l = some r := by
  unfold laws_zzFits14.f
  rw [if_neg (by omega)]
  exact fits14_l0 l hl l.length 0 _ (by omega) (by omega)
theorem sets_l1 {x0 x7 : List (List S45)} {x8 x9 : Int} {k0 : Nat} {r0 : Bool} (h0 : laws_setsOk.l0 k0 x0 x7 x8 (wrap64 (x9 + 1)) = some r0) (x : List S45) (hl : x.length ≤ 2147483647) :
    ∀ (n i : Nat), i + n = x.length → ∃ r, laws_setsOk.l1 (k0 + n + 1) x0 x x7 x8 x9 x (x.length : Int) (i : Int) = some r ∧ (r = true → (∀ j y, i ≤ j → x[j]? = some y → y.f2 ≤ 6) ∧ x.length ≤ 20 ∧ r0 = true) := by
  intro n
  induction n with
  | zero =>
    intro i hi
    unfold laws_setsOk.l1
    rw [if_neg (by omega)]
    by_cases h2 : (x.length : Int) > 20
    · rw [if_pos h2]; exact ⟨_, rfl, fun h => by cases h⟩
    · rw [if_neg h2]
      exact ⟨r0, h0, fun h => ⟨fun j y hj hy => by have := (List.getElem?_eq_some_iff.1 hy).1; omega, by omega, h⟩⟩
  | succ n ih =>
    intro i hi
    obtain ⟨r, hr, hb⟩ := ih (i + 1) (by omega)
    have ew : wrap64 ((i : Int) + 1) = ((i + 1 : Nat) : Int) := by unfold wrap64; omega
    have hrd := rd_chg x i (by omega)
    rw [show k0 + (n + 1) + 1 = (k0 + n + 1) + 1 by omega]
    unfold laws_setsOk.l1
    rw [if_pos (by omega), if_pos (by omega), if_pos (by omega), ew]
    generalize rd_T45 x (i : Int) = e at *
    by_cases h6 : e.f2 > 6
    · rw [if_pos h6]; exact ⟨_, rfl, fun h => by cases h⟩
    · rw [if_neg h6]
      have good : ∃ r, laws_setsOk.l1 (k0 + n + 1) x0 x x7 x8 x9 x (x.length : Int) ((i + 1 : Nat) : Int) = some r ∧ (r = true → (∀ j y, i ≤ j → x[j]? = some y → y.f2 ≤ 6) ∧ x.length ≤ 20 ∧ r0 = true) := by
        refine ⟨r, hr, fun h => ⟨fun j y hj hy => ?_, (hb h).2⟩⟩
        by_cases e1 : j = i
        · subst e1
          rw [hrd] at hy
          injection hy with hy
          subst hy
          omega
        · exact (hb h).1 j y (by omega) hy
      split
      · split
        · split
          · split
            · exact good
            · exact ⟨_, rfl, fun h => by cases h⟩
          · exact ⟨_, rfl, fun h => by cases h⟩
        · exact ⟨_, rfl, fun h => by cases h⟩
      · exact good
theorem sets_l0 (l : List (List S45)) (hl : l.length ≤ 2147483647) (hx : ∀ x ∈ l, x.length ≤ 2147483647) :
    ∀ (n i : Nat), i + n = l.length → ∃ k r, laws_setsOk.l0 k l l (l.length : Int) (i : Int) = some r ∧ (r = true → (∀ j x, i ≤ j → l[j]? = some x → x.length ≤ 20 ∧ ∀ y ∈ x, y.f2 ≤ 6) ∧ l.length ≤ 20) := by
  intro n
  induction n with
  | zero =>
    intro i hi
    refine ⟨1, _, by unfold laws_setsOk.l0; rw [if_neg (by omega)], fun h => ?_⟩
    have h3 := of_decide_eq_true h
    exact ⟨fun j x hj hx => by have := (List.getElem?_eq_some_iff.1 hx).1; omega, by omega⟩
  | succ n ih =>
    intro i hi
    obtain ⟨k0, r0, hk0, hb0⟩ := ih (i + 1) (by omega)
    have ew : wrap64 ((i : Int) + 1) = ((i + 1 : Nat) : Int) := by unfold wrap64; omega
    have hrd := rd_sets l i (by omega)
    rw [← ew] at hk0
    obtain ⟨r, hr, hb⟩ := sets_l1 (x0 := l) hk0 (rd_L4 l (i : Int)) (hx _ (List.mem_of_getElem? hrd)) (rd_L4 l (i : Int)).length 0 (by omega)
    refine ⟨k0 + (rd_L4 l (i : Int)).length + 1 + 1, r, ?_, fun h => ⟨fun j x hj hxj => ?_, (hb0 (hb h).2.2).2⟩⟩
    · unfold laws_setsOk.l0
      rw [if_pos (by omega), if_pos (by omega), if_pos (by omega)]
      exact hr
    · by_cases e1 : j = i
      · subst e1
        rw [hrd] at hxj
        injection hxj with hxj
        subst hxj
        refine ⟨(hb h).2.1, fun y hy => ?_⟩
        obtain ⟨q, hq⟩ := List.mem_iff_getElem?.1 hy
        exact (hb h).1 q y (Nat.zero_le _) hq
      · exact (hb0 (hb h).2.2).1 j x (by omega) hxj
theorem setsOk_some (l : List (List S45)) (hl : l.length ≤ 2147483647) (hx : ∀ x ∈ l, x.length ≤ 2147483647) :
    ∃ k r, laws_setsOk.f k l = some r ∧ (r = true → l.length ≤ 20 ∧ ∀ x ∈ l, x.length ≤ 20 ∧ ∀ y ∈ x, y.f2 ≤ 6) := by
  obtain ⟨k, r, h, hb⟩ := sets_l0 l hl hx l.length 0 (by omega)
  exact ⟨k, r, h, fun h2 => ⟨(hb h2).2, fun x hx => by obtain ⟨j, hj⟩ := List.mem_iff_getElem?.1 hx; exact (hb h2).1 j x (Nat.zero_le _) hj⟩⟩
theorem slc_of_C {w : World} {A : Option Addr} {n : Nat} {l : List S45} (h : Kd.C k45 w A n l) : YtpfmmbhbmdbmeaaDoor.Slc w A n (l.map toChg) := by
  obtain ⟨h1, h2, h3⟩ := h
  refine ⟨by rw [List.length_map]; exact h1, fun hn => ?_⟩
  obtain ⟨ad, rfl, hc⟩ := h3 hn
  have key : ∀ (j : Nat) (p : S45) (k : Nat) (u : Value), l[j]? = some p → (toChg p).cells[k]? = some u → w.cell? (ad.add (j * 5 + k)) = some u := by
    intro j p k u hj hk
    obtain ⟨c, hl, hK, hcell⟩ := hc j p hj
    obtain rfl := k45_open hK
    exact hcell k u hk
  obtain ⟨x, hx⟩ : ∃ x, l[0]? = some x := ⟨l[0]'(by omega), List.getElem?_eq_getElem (by omega)⟩
  have h0 := key 0 x 0 _ hx rfl
  have e0 : ad.add (0 * 5 + 0) = ad := by unfold Addr.add; simp
  rw [e0] at h0
  have ep := plain_at h0
  refine ⟨ad.block, ad.off, by rw [← ep], fun j d hj k u hk => ?_⟩
  rw [List.getElem?_map] at hj
  cases hp : l[j]? with
  | none => rw [hp] at hj; cases hj
  | some p =>
    rw [hp] at hj
    simp only [Option.map_some, Option.some.injEq] at hj
    subst hj
    have := key j p k u hp hk
    rw [ep, YtpfmmbhbmdbmeaaDoor.add_none, ← Nat.add_assoc] at this
    exact this
theorem sets_of_C {w : World} {A : Option Addr} {n : Nat} {l : List (List S45)} (h : Kd.C (Kd.slice 45 k45) w A n l) : YtpfmmbhbmdbmeaaDoor.Sets w A n (toSets l) := by
  obtain ⟨h1, h2, h3⟩ := h
  refine ⟨by unfold toSets; rw [List.length_map]; exact h1, fun j hj => ?_⟩
  obtain ⟨ad, rfl, hc⟩ := h3 (by omega)
  have key : ∀ (j : Nat) (p : List S45), l[j]? = some p → ∃ B c, w.cell? (ad.add j) = some (.slice B p.length c) ∧ Kd.C k45 w B p.length p := by
    intro j p hp
    obtain ⟨c, hl, ⟨B, c2, rfl, hcc, hCC⟩, hcell⟩ := hc j p hp
    have h5 := hcell 0 _ rfl
    have e1 : j * (Kd.slice 45 k45).sz + 0 = j := Nat.mul_one j
    rw [e1] at h5
    exact ⟨B, c2, h5, hCC⟩
  obtain ⟨x, hx⟩ : ∃ x, l[0]? = some x := ⟨l[0]'(by omega), List.getElem?_eq_getElem (by omega)⟩
  obtain ⟨_, _, h0, _⟩ := key 0 x hx
  have e0 : ad.add 0 = ad := by unfold Addr.add; simp
  rw [e0] at h0
  have ep := plain_at h0
  obtain ⟨p, hp⟩ : ∃ p, l[j]? = some p := ⟨l[j]'(by omega), List.getElem?_eq_getElem (by omega)⟩
  obtain ⟨B, c, hB, hCB⟩ := key j p hp
  rw [ep, YtpfmmbhbmdbmeaaDoor.add_none] at hB
  refine ⟨ad.block, ad.off, p.map toChg, B, c, by rw [← ep], ?_, ?_, ?_⟩
  · unfold toSets
    rw [List.getElem?_map, hp]
    rfl
  · rw [List.length_map]; exact hB
  · have := slc_of_C hCB
    rwa [List.length_map]
end Go.Proofs.YtpfmmbhbmdbmeaaDoorQ.QT
