/- Units of a log: the plain functions on them. -/
import Derived.Test.YtbbncbjdpopkiaaDoorQL4
import Derived.Test.YtbbncbjdpopkiaaDoorQL2
namespace Go.Proofs.YtbbncbjdpopkiaaDoorQ.QL
open Go.RowKit Go.Proofs.YtbbncbjdpopkiaaDoorQ.Ext
set_option linter.unusedVariables false
set_option linter.unusedSimpArgs false
abbrev RecS := S40
abbrev UnitS := S80
def wfR (x : RecS) : Prop := (∀ y ∈ x.f0, (Lit.int .u8 y).wf = true) ∧ (∀ y ∈ x.f1, (Lit.int .u8 y).wf = true) ∧ ((Lit.int .u64 x.f2).wf = true) ∧ ((Lit.int .u8 x.f3).wf = true) ∧ ((Lit.int .u8 x.f4).wf = true)
theorem rdR (l : List RecS) (i : Nat) (h : i < l.length) : rd_T40 l (i : Int) = l[i] := by
  unfold rd_T40
  rw [Int.toNat_natCast, List.getD_eq_getElem?_getD, List.getElem?_eq_getElem h]
  rfl
theorem rdU (l : List UnitS) (i : Nat) (h : i < l.length) : rd_T80 l (i : Int) = l[i] := by
  unfold rd_T80
  rw [Int.toNat_natCast, List.getD_eq_getElem?_getD, List.getElem?_eq_getElem h]
  rfl
theorem w64 (i : Nat) (h : i < 4000000000) : wrap64 ((i : Int) + 1) = ((i + 1 : Nat) : Int) := by unfold wrap64; omega
def mxU (l : List UnitS) : Nat := l.foldr (fun u m => max u.f0.length m) 0
theorem mxU_le (l : List UnitS) : ∀ u ∈ l, u.f0.length ≤ mxU l := by
  induction l with
  | nil => intro u hu; cases hu
  | cons a l ih =>
    intro u hu
    unfold mxU
    rw [List.foldr_cons]
    rcases List.mem_cons.1 hu with rfl | h
    · exact Nat.le_max_left _ _
    · exact Nat.le_trans (ih u h) (Nat.le_max_right _ _)
theorem mxU_of (l : List UnitS) (M : Nat) (h : ∀ u ∈ l, u.f0.length ≤ M) : mxU l ≤ M := by
  induction l with
  | nil => exact Nat.zero_le _
  | cons a l ih =>
    unfold mxU
    rw [List.foldr_cons]
    exact Nat.max_le.2 ⟨h a (List.mem_cons_self ..), ih fun u hu => h u (List.mem_cons_of_mem _ hu)⟩
theorem fits10 (l0 l1 : List Int) (a b c : Int) : laws_zzFits10.f l0 l1 a b c = some (decide (l0.length ≤ 2147483647) && decide (l1.length ≤ 2147483647)) := by
  unfold laws_zzFits10.f
  by_cases h0 : (l0.length : Int) > 2147483647
  · rw [if_pos h0]; simp; omega
  · by_cases h1 : (l1.length : Int) > 2147483647
    · rw [if_neg h0, if_pos h1]; simp; omega
    · rw [if_neg h0, if_neg h1]; simp; omega
theorem fits13_l (l : List RecS) (hl : l.length ≤ 2147483647) : ∀ d i k, i + d = l.length → d < k → ∃ b, laws_zzFits13.l0 k l (l.length : Int) (i : Int) = some b := by
  intro d
  induction d with
  | zero =>
    intro i k hi hk
    obtain ⟨k, rfl⟩ : ∃ m, k = m + 1 := ⟨k - 1, by omega⟩
    refine ⟨true, ?_⟩
    rw [laws_zzFits13.l0, if_neg (by omega)]
  | succ d ih =>
    intro i k hi hk
    obtain ⟨k, rfl⟩ : ∃ m, k = m + 1 := ⟨k - 1, by omega⟩
    rw [laws_zzFits13.l0, if_pos (by omega), if_pos (by omega), if_pos (by omega), fits10, Option.bind_some]
    split
    · rw [w64 i (by omega)]; exact ih (i + 1) k (by omega) (by omega)
    · exact ⟨false, rfl⟩
theorem fits12_k (u : UnitS) (k : Nat) (hk : u.f0.length < k) : ∃ b, laws_zzFits12.f k u.f0 u.f1 u.f2 u.f3 = some b ∧ (b = true → u.f0.length ≤ 2147483647) := by
  unfold laws_zzFits12.f laws_zzFits13.f
  by_cases h : (u.f0.length : Int) > 2147483647
  · rw [if_pos h, Option.bind_some]; exact ⟨false, rfl, by simp⟩
  · rw [if_neg h]
    obtain ⟨b, hb⟩ := fits13_l u.f0 (by omega) u.f0.length 0 k (by omega) hk
    have hb' : laws_zzFits13.l0 k u.f0 (u.f0.length : Int) 0 = some b := hb
    rw [hb', Option.bind_some]
    cases b
    · exact ⟨false, rfl, by simp⟩
    · exact ⟨true, rfl, fun _ => by omega⟩
theorem fits11_l (l : List UnitS) (hl : l.length ≤ 2147483647) : ∀ d i k, i + d = l.length → d + mxU l < k → ∃ b, laws_zzFits11.l0 k l (l.length : Int) (i : Int) = some b ∧ (b = true → ∀ u ∈ l.drop i, u.f0.length ≤ 2147483647) := by
  intro d
  induction d with
  | zero =>
    intro i k hi hk
    obtain ⟨k, rfl⟩ : ∃ m, k = m + 1 := ⟨k - 1, by omega⟩
    refine ⟨true, ?_, ?_⟩
    · rw [laws_zzFits11.l0, if_neg (by omega)]
    · intro _ u hu; rw [List.drop_eq_nil_of_le (by omega)] at hu; cases hu
  | succ d ih =>
    intro i k hi hk
    obtain ⟨k, rfl⟩ : ∃ m, k = m + 1 := ⟨k - 1, by omega⟩
    have hm := mxU_le l l[i] (List.getElem_mem (by omega))
    obtain ⟨b, hb, hbu⟩ := fits12_k l[i] k (by omega)
    rw [laws_zzFits11.l0, if_pos (by omega), if_pos (by omega), if_pos (by omega), rdU l i (by omega), hb, Option.bind_some]
    cases b
    · exact ⟨false, rfl, by simp⟩
    · rw [if_pos rfl, w64 i (by omega)]
      obtain ⟨c, hc, hcu⟩ := ih (i + 1) k (by omega) (by omega)
      refine ⟨c, hc, fun h u hu => ?_⟩
      rw [List.drop_eq_getElem_cons (by omega)] at hu
      rcases List.mem_cons.1 hu with rfl | h2
      · exact hbu rfl
      · exact hcu h u h2
theorem fits11_k (l : List UnitS) (k : Nat) (hk : l.length + mxU l < k) : ∃ b, laws_zzFits11.f k l = some b ∧ (b = true → l.length ≤ 2147483647 ∧ mxU l ≤ 2147483647) := by
  unfold laws_zzFits11.f
  by_cases h : (l.length : Int) > 2147483647
  · rw [if_pos h]; exact ⟨false, rfl, by simp⟩
  · rw [if_neg h]
    obtain ⟨b, hb, hbu⟩ := fits11_l l (by omega) l.length 0 k (by omega) hk
    exact ⟨b, hb, fun h => ⟨by omega, mxU_of l _ (by rw [List.drop_zero] at hbu; exact hbu h)⟩⟩
/-- A record within the bounds; a unit within the bounds. -/
def ROk (r : RecS) : Prop := 1 ≤ r.f0.length ∧ r.f0.length ≤ 40 ∧ r.f1.length ≤ 200
def UOk (u : UnitS) : Prop := 1 ≤ u.f0.length ∧ u.f0.length ≤ 10 ∧ 1 ≤ u.f2 ∧ u.f2 ≤ 1000000 ∧ ∀ r ∈ u.f0, ROk r
theorem recOk_some (l0 l1 : List Int) (a b c : Int) : laws_recOk.f l0 l1 a b c = some (decide (1 ≤ l0.length ∧ l0.length ≤ 40 ∧ l1.length ≤ 200)) := by
  unfold laws_recOk.f
  by_cases h0 : (l0.length : Int) ≥ 1
  · by_cases h1 : (l0.length : Int) ≤ 40
    · rw [if_pos h0, if_pos h1]; congr 1; rw [decide_eq_decide]; omega
    · rw [if_pos h0, if_neg h1]; congr 1; rw [eq_comm, decide_eq_false_iff_not]; omega
  · rw [if_neg h0]; congr 1; rw [eq_comm, decide_eq_false_iff_not]; omega
theorem units_l1 (x0 l : List UnitS) (rs : List RecS) (j D : Nat) (hj : j < 2147483648) (hrs : rs.length ≤ 2147483647) (Q : Bool → Prop) (hQ : Q false)
    (hnext : ∀ k', D < k' → (∀ r ∈ rs, ROk r) → ∃ b, laws_unitsOk.l0 k' x0 l (l.length : Int) ((j + 1 : Nat) : Int) = some b ∧ Q b) :
    ∀ e m k, m + e = rs.length → D + e + 1 < k → (∀ r ∈ rs.take m, ROk r) → ∃ b, laws_unitsOk.l1 k x0 l (l.length : Int) (j : Int) rs (rs.length : Int) (m : Int) = some b ∧ Q b := by
  intro e
  induction e with
  | zero =>
    intro m k hi hk hp
    obtain ⟨k, rfl⟩ : ∃ n, k = n + 1 := ⟨k - 1, by omega⟩
    rw [laws_unitsOk.l1, if_neg (by omega), w64 j (by omega)]
    exact hnext k (by omega) (by rwa [List.take_of_length_le (by omega)] at hp)
  | succ e ih =>
    intro m k hi hk hp
    obtain ⟨k, rfl⟩ : ∃ n, k = n + 1 := ⟨k - 1, by omega⟩
    rw [laws_unitsOk.l1, if_pos (by omega), if_pos (by omega), if_pos (by omega), rdR rs m (by omega), recOk_some, Option.bind_some]
    by_cases h : 1 ≤ rs[m].f0.length ∧ rs[m].f0.length ≤ 40 ∧ rs[m].f1.length ≤ 200
    · rw [if_pos (by simpa using h), w64 m (by omega)]
      refine ih (m + 1) k (by omega) (by omega) ?_
      intro r hr2
      rw [List.take_succ_eq_append_getElem (by omega)] at hr2
      rcases List.mem_append.1 hr2 with h2 | h2
      · exact hp r h2
      · rw [List.mem_singleton.1 h2]; exact h
    · rw [if_neg (by simpa using h)]; exact ⟨false, rfl, hQ⟩
theorem j2_t (k : Nat) (x0 l : List UnitS) (n j : Int) (f0 : List RecS) (f1 : Bool) (f2 : Int) (f3 : Bool) : laws_unitsOk.j2 (k + 1) x0 l n j true f0 f1 f2 f3 = some false := rfl
theorem j2_f (k : Nat) (x0 l : List UnitS) (n j : Int) (f0 : List RecS) (f1 : Bool) (f2 : Int) (f3 : Bool) : laws_unitsOk.j2 (k + 1) x0 l n j false f0 f1 f2 f3 = laws_unitsOk.l1 k x0 l n j f0 (f0.length : Int) 0 := rfl
theorem j1_some (k : Nat) (x0 l : List UnitS) (n j : Int) (x22 : Bool) (f0 : List RecS) (f1 : Bool) (f2 : Int) (f3 : Bool) (Q : Bool → Prop) (hQ : Q false)
    (h : 1 ≤ f0.length → f0.length ≤ 10 → 1 ≤ f2 → f2 ≤ 1000000 → ∃ b, laws_unitsOk.l1 k x0 l n j f0 (f0.length : Int) 0 = some b ∧ Q b) : ∃ b, laws_unitsOk.j1 (k + 2) x0 l n j x22 f0 f1 f2 f3 = some b ∧ Q b := by
  have key : 1 ≤ f0.length → f0.length ≤ 10 → ¬ f2 < 1 → ∃ b, laws_unitsOk.j2 (k + 1) x0 l n j (decide (f2 > 1000000)) f0 f1 f2 f3 = some b ∧ Q b := by
    intro h1 h2 h3
    by_cases h4 : f2 > 1000000
    · rw [decide_eq_true h4, j2_t]; exact ⟨false, rfl, hQ⟩
    · rw [decide_eq_false h4, j2_f]; exact h h1 h2 (by omega) (by omega)
  unfold laws_unitsOk.j1
  repeat' split
  all_goals first | exact ⟨false, rfl, hQ⟩ | exact ⟨false, j2_t .., hQ⟩ | exact key (by omega) (by omega) (by omega)
theorem units_l0 (x0 l : List UnitS) (hl : l.length ≤ 2147483647) (hm : mxU l ≤ 2147483647) : ∀ d i k, i + d = l.length → d * (mxU l + 6) < k → (∀ u ∈ l.take i, UOk u) →
    ∃ b, laws_unitsOk.l0 k x0 l (l.length : Int) (i : Int) = some b ∧ (b = true → (∀ u ∈ l, UOk u) ∧ x0.length ≤ 20) := by
  intro d
  induction d with
  | zero =>
    intro i k hi hk hp
    obtain ⟨k, rfl⟩ : ∃ n, k = n + 1 := ⟨k - 1, by omega⟩
    rw [laws_unitsOk.l0, if_neg (by omega)]
    refine ⟨_, rfl, fun h => ⟨by rwa [List.take_of_length_le (by omega)] at hp, ?_⟩⟩
    have := of_decide_eq_true h
    omega
  | succ d ih =>
    intro i k hi hk hp
    rw [Nat.succ_mul] at hk
    obtain ⟨k, rfl⟩ : ∃ n, k = n + 3 := ⟨k - 3, by omega⟩
    have hmx := mxU_le l l[i] (List.getElem_mem (by omega))
    have key : ∀ x22, ∃ b, laws_unitsOk.j1 (k + 2) x0 l (l.length : Int) (i : Int) x22 l[i].f0 l[i].f1 l[i].f2 l[i].f3 = some b ∧ (b = true → (∀ u ∈ l, UOk u) ∧ x0.length ≤ 20) := by
      intro x22
      refine j1_some k x0 l _ _ x22 _ _ _ _ _ (by simp) ?_
      intro h1 h2 h3 h4
      refine units_l1 x0 l l[i].f0 i (d * (mxU l + 6)) (by omega) (by omega) _ (by simp) ?_ l[i].f0.length 0 k (by omega) (by omega) (by simp)
      intro k' hk' hr
      refine ih (i + 1) k' (by omega) hk' ?_
      intro u hu
      rw [List.take_succ_eq_append_getElem (by omega)] at hu
      rcases List.mem_append.1 hu with h5 | h5
      · exact hp u h5
      · rw [List.mem_singleton.1 h5]; exact ⟨h1, h2, h3, h4, hr⟩
    rw [laws_unitsOk.l0, if_pos (by omega), if_pos (by omega), if_pos (by omega), rdU l i (by omega)]
    split
    · exact key _
    · exact key _
theorem units_k (l : List UnitS) (hl : l.length ≤ 2147483647) (hm : mxU l ≤ 2147483647) (k : Nat) (hk : l.length * (mxU l + 6) < k) : ∃ b, laws_unitsOk.f k l = some b ∧ (b = true → (∀ u ∈ l, UOk u) ∧ l.length ≤ 20) := by
  unfold laws_unitsOk.f
  exact units_l0 l l hl hm l.length 0 k (by omega) hk (by simp)
/-- A number in decimal. -/
theorem decimal_some : ∀ (n : Nat) (v : Int), n ≤ 100 → 0 ≤ v → v < 10 ^ (n + 1) → v ≤ 1000000 → ∃ l, l.length ≤ n + 1 ∧ YtbbncbjdpopkiaaDoor.Byt l ∧ ∀ k, n < k → spec_decimal.f k v = some l := by
  intro n
  induction n with
  | zero =>
    intro v hn h0 h1 h2
    refine ⟨[(IntKind.u64.wrap (48 + v)) % 256], by simp, ?_, ?_⟩
    · intro x hx
      rw [List.mem_singleton.1 hx]
      exact ⟨by omega, by omega⟩
    · intro k hk
      obtain ⟨k, rfl⟩ : ∃ m, k = m + 1 := ⟨k - 1, by omega⟩
      rw [spec_decimal.f, if_pos (by simpa using h1)]
  | succ n ih =>
    intro v hn h0 h1 h2
    by_cases hv : v < 10
    · refine ⟨[(IntKind.u64.wrap (48 + v)) % 256], by simp, ?_, ?_⟩
      · intro x hx
        rw [List.mem_singleton.1 hx]
        exact ⟨by omega, by omega⟩
      · intro k hk
        obtain ⟨k, rfl⟩ : ∃ m, k = m + 1 := ⟨k - 1, by omega⟩
        rw [spec_decimal.f, if_pos hv]
    · have hd : Int.tdiv v 10 = v / 10 := by rw [Int.tdiv_eq_ediv_of_nonneg h0]
      have hw : IntKind.u64.wrap (v / 10) = v / 10 := by unfold IntKind.wrap; simp [IntKind.signed, IntKind.bits]; omega
      obtain ⟨l, hl1, hl2, hl3⟩ := ih (v / 10) (by omega) (by omega) (by rw [Int.pow_succ] at h1; omega) (by omega)
      refine ⟨l ++ [(IntKind.u64.wrap (48 + (Int.tmod v 10))) % 256], by simp; omega, ?_, ?_⟩
      · refine hl2.append ?_
        intro x hx
        rw [List.mem_singleton.1 hx]
        exact ⟨by omega, by omega⟩
      · intro k hk
        obtain ⟨k, rfl⟩ : ∃ m, k = m + 1 := ⟨k - 1, by omega⟩
        rw [spec_decimal.f, if_neg hv, hd, hw, hl3 k (by omega), Option.bind_some, if_pos (by omega)]
end Go.Proofs.YtbbncbjdpopkiaaDoorQ.QL
