/- Filters of hashes: the laws' plain part. -/
import Derived.Test.YtadhdimleabljaaQB2
import Derived.Test.YtadhdimleabljaaQB3
namespace Go.Proofs.Ytadhdimleabljaa
open Go.RowKit
set_option linter.unusedVariables false
set_option linter.unusedSimpArgs false
theorem and_pow1 (a e : Nat) (h : a.testBit e = true) : a &&& 2 ^ e ≠ 0 := by
  intro h0
  have : (a &&& 2 ^ e).testBit e = true := by rw [Nat.testBit_and, h, Nat.testBit_two_pow_self]; rfl
  rw [h0] at this
  simp at this
theorem and_pow0 (a e : Nat) (h : a.testBit e = false) : a &&& 2 ^ e = 0 := by
  apply Nat.eq_of_testBit_eq
  intro i
  rw [Nat.testBit_and, Nat.testBit_two_pow]
  by_cases hi : e = i
  · subst hi; rw [h]; simp
  · simp [hi]
def BitOf (fl : List Int) (p : Nat) : Bool := (fl.getD (p / 8) 0).toNat.testBit (p % 8)
theorem pow_e (e : Nat) (he : e < 8) : (2 : Int) ^ e = ((2 ^ e : Nat) : Int) ∧ 2 ^ e < 256 := by
  have : e = 0 ∨ e = 1 ∨ e = 2 ∨ e = 3 ∨ e = 4 ∨ e = 5 ∨ e = 6 ∨ e = 7 := by omega
  rcases this with h | h | h | h | h | h | h | h <;> subst h <;> decide
theorem or8 (a : Int) (e : Nat) (ha : 0 ≤ a ∧ a ≤ 255) (he : e < 8) : bits .or .u8 a (2 ^ e) = ((a.toNat ||| 2 ^ e : Nat) : Int) := by
  obtain ⟨h1, h2⟩ := pow_e e he
  rw [h1]
  clear h1
  generalize 2 ^ e = P at h2 ⊢
  rw [u8_or a _ ha.1 (by omega) (by omega) (by omega), Int.toNat_natCast]
theorem and8 (a : Int) (e : Nat) (ha : 0 ≤ a ∧ a ≤ 255) (he : e < 8) : bits .and .u8 a (2 ^ e) = ((a.toNat &&& 2 ^ e : Nat) : Int) := by
  obtain ⟨h1, h2⟩ := pow_e e he
  rw [h1]
  clear h1
  generalize 2 ^ e = P at h2 ⊢
  rw [u8_and a _ ha.1 (by omega) (by omega) (by omega), Int.toNat_natCast]
theorem allB_get {fl : List Int} (h : AllB fl) (i : Nat) : 0 ≤ fl.getD i 0 ∧ fl.getD i 0 ≤ 255 := by
  rw [List.getD_eq_getElem?_getD]
  cases hq : fl[i]? with
  | none => simp
  | some y => exact h y (List.mem_of_getElem? hq)
theorem bitPut_get (fl : List Int) (p i : Nat) : (bitPut fl p).getD i 0 = if i = p / 8 ∧ i < fl.length then bits .or .u8 (fl.getD i 0) (2 ^ (p % 8)) else fl.getD i 0 := by
  unfold bitPut
  simp only [List.getD_eq_getElem?_getD, List.getElem?_set]
  by_cases h : p / 8 = i
  · subst h
    by_cases hl : p / 8 < fl.length
    · simp [hl]
    · simp [hl]
  · rw [if_neg h, if_neg (by omega)]
theorem bit_put (fl : List Int) (p : Nat) (h : AllB fl) (hp : p / 8 < fl.length) : BitOf (bitPut fl p) p = true := by
  unfold BitOf
  rw [bitPut_get, if_pos ⟨rfl, hp⟩, or8 _ _ (allB_get h _) (Nat.mod_lt _ (by omega)), Int.toNat_natCast, Nat.testBit_or, Nat.testBit_two_pow_self, Bool.or_true]
theorem bit_kept (fl : List Int) (p q : Nat) (h : AllB fl) (hb : BitOf fl q = true) : BitOf (bitPut fl p) q = true := by
  unfold BitOf at *
  rw [bitPut_get]
  split
  · rw [or8 _ _ (allB_get h _) (Nat.mod_lt _ (by omega)), Int.toNat_natCast, Nat.testBit_or, hb, Bool.true_or]
  · exact hb
theorem probes_kept (fl : List Int) (nb : Nat) (x d : Int) (j q : Nat) (h : AllB fl) (hb : BitOf fl q = true) : BitOf (probes fl nb x d j) q = true := by
  induction j with
  | zero => exact hb
  | succ j ih => exact bit_kept _ _ _ (probes_in _ _ _ _ _ h) ih
theorem probes_bit (fl : List Int) (nb : Nat) (x d : Int) (j i : Nat) (h : AllB fl) (hi : i < j) (hl : nb ≤ fl.length * 8) (hn : 0 < nb) : BitOf (probes fl nb x d j) ((hashAt x d i).toNat % nb) = true := by
  induction j with
  | zero => omega
  | succ j ih =>
    by_cases hij : i = j
    · subst hij
      refine bit_put _ _ (probes_in _ _ _ _ _ h) ?_
      rw [probes_len]
      have := Nat.mod_lt (hashAt x d i).toNat hn
      omega
    · exact bit_kept _ _ _ (probes_in _ _ _ _ _ h) (ih (by omega))
theorem fold_kept (nb K : Nat) (l fl : List Int) (q : Nat) (h : AllB fl) (hb : BitOf fl q = true) : BitOf (l.foldl (putHash nb K) fl) q = true := by
  induction l generalizing fl with
  | nil => exact hb
  | cons x l ih => exact ih _ (probes_in _ _ _ _ _ h) (probes_kept _ _ _ _ _ _ h hb)
theorem fold_bit (nb K : Nat) (l fl : List Int) (x : Int) (i : Nat) (h : AllB fl) (hx : x ∈ l) (hi : i < K) (hl : nb ≤ fl.length * 8) (hn : 0 < nb) : BitOf (l.foldl (putHash nb K) fl) ((hashAt x (deltaOf x) i).toNat % nb) = true := by
  induction l generalizing fl with
  | nil => simp at hx
  | cons y l ih =>
    rw [List.foldl_cons]
    rcases List.mem_cons.1 hx with rfl | hx
    · exact fold_kept _ _ _ _ _ (probes_in _ _ _ _ _ h) (probes_bit _ _ _ _ _ _ h hi hl hn)
    · exact ih _ (probes_in _ _ _ _ _ h) hx (by rw [putHash, probes_len]; exact hl)
/-- The order does not matter. -/
theorem bitPut_comm (fl : List Int) (p q : Nat) (h : AllB fl) : bitPut (bitPut fl p) q = bitPut (bitPut fl q) p := by
  have hlen : (bitPut (bitPut fl p) q).length = (bitPut (bitPut fl q) p).length := by simp [bitPut_len]
  have hg : ∀ i, (bitPut (bitPut fl p) q).getD i 0 = (bitPut (bitPut fl q) p).getD i 0 := by
    intro i
    simp only [bitPut_get, bitPut_len]
    by_cases h1 : i = p / 8 ∧ i < fl.length
    · by_cases h2 : i = q / 8 ∧ i < fl.length
      · rw [if_pos h2, if_pos h1, if_pos h1, if_pos h2]
        have hz := allB_get h i
        have hp := Nat.mod_lt p (show 0 < 8 by omega)
        have hq := Nat.mod_lt q (show 0 < 8 by omega)
        rw [or8 _ _ (or8_in _ _ hz hp) hq, or8 _ _ (or8_in _ _ hz hq) hp, or8 _ _ hz hp, or8 _ _ hz hq, Int.toNat_natCast, Int.toNat_natCast, Nat.or_assoc, Nat.or_assoc, Nat.or_comm (2 ^ (p % 8))]
      · rw [if_neg h2, if_pos h1, if_pos h1, if_neg h2]
    · by_cases h2 : i = q / 8 ∧ i < fl.length
      · rw [if_pos h2, if_neg h1, if_neg h1, if_pos h2]
      · rw [if_neg h2, if_neg h1, if_neg h1, if_neg h2]
  apply List.ext_getElem hlen
  intro i h1 h2
  have := hg i
  rw [List.getD_eq_getElem?_getD, List.getD_eq_getElem?_getD, List.getElem?_eq_getElem h1, List.getElem?_eq_getElem h2] at this
  exact this
theorem probes_put (fl : List Int) (nb : Nat) (x d : Int) (j p : Nat) (h : AllB fl) : bitPut (probes fl nb x d j) p = probes (bitPut fl p) nb x d j := by
  induction j with
  | zero => rfl
  | succ j ih => rw [probes, bitPut_comm _ _ _ (probes_in _ _ _ _ _ h), ih, probes]
theorem probes_comm (fl : List Int) (nb : Nat) (x d x' d' : Int) (j j' : Nat) (h : AllB fl) : probes (probes fl nb x d j) nb x' d' j' = probes (probes fl nb x' d' j') nb x d j := by
  induction j with
  | zero => rfl
  | succ j ih => rw [probes, ← probes_put _ _ _ _ _ _ (probes_in _ _ _ _ _ h), ih, probes]
theorem fold_put (nb K : Nat) (l fl : List Int) (x : Int) (h : AllB fl) : l.foldl (putHash nb K) (putHash nb K fl x) = putHash nb K (l.foldl (putHash nb K) fl) x := by
  induction l generalizing fl with
  | nil => rfl
  | cons y l ih =>
    rw [List.foldl_cons, List.foldl_cons, ← ih (putHash nb K fl y) (probes_in _ _ _ _ _ h)]
    congr 1
    exact probes_comm _ _ _ _ _ _ _ _ h
theorem fold_rev (nb K : Nat) (l fl : List Int) (h : AllB fl) : l.reverse.foldl (putHash nb K) fl = l.foldl (putHash nb K) fl := by
  induction l generalizing fl with
  | nil => rfl
  | cons x l ih => rw [List.reverse_cons, List.foldl_append, List.foldl_cons, List.foldl_nil, ih _ h, List.foldl_cons, fold_put _ _ _ _ _ h]
theorem rep_in (n : Nat) : AllB (List.replicate n 0) := fun y hy => by rw [List.eq_of_mem_replicate hy]; omega
theorem filterL_rev (nb K : Nat) (l : List Int) : filterL nb K l.reverse = filterL nb K l := by
  unfold filterL filt
  rw [fold_rev _ _ _ _ (rep_in _)]
theorem filterL_bit (nb K : Nat) (l : List Int) (x : Int) (i : Nat) (hx : x ∈ l) (hi : i < K) (hn : 0 < nb) : BitOf (filterL nb K l) ((hashAt x (deltaOf x) i).toNat % (nb * 8)) = true := by
  have h := fold_bit (nb * 8) K l (List.replicate (nb + 1) 0) x i (rep_in _) hx hi (by simp; omega) (by omega)
  have hlt : (hashAt x (deltaOf x) i).toNat % (nb * 8) < nb * 8 := Nat.mod_lt _ (by omega)
  generalize (hashAt x (deltaOf x) i).toNat % (nb * 8) = p at *
  unfold BitOf filterL filt at *
  rw [List.getD_eq_getElem?_getD, List.getElem?_set_ne (by omega), ← List.getD_eq_getElem?_getD]
  exact h
theorem filterL_in (nb K : Nat) (l : List Int) (hK : K ≤ 255) : AllB (filterL nb K l) := by
  intro x hx
  rcases List.mem_or_eq_of_mem_set hx with hx | hx
  · exact fold_in _ _ _ _ (rep_in _) x hx
  · omega
theorem filterL_last (nb K : Nat) (l : List Int) : (filterL nb K l).getD nb 0 = K := by
  have : nb < (filt (nb * 8) K l (nb + 1)).length := by unfold filt; rw [fold_len]; simp
  unfold filterL
  rw [List.getD_eq_getElem?_getD, List.getElem?_set_self this]
  rfl
theorem kOf_le (b : Nat) (h1 : b ≤ 30) : 1 ≤ kOf b ∧ kOf b ≤ 20 := by
  unfold kOf kFl
  split <;> omega
end Go.Proofs.Ytadhdimleabljaa
namespace Go.Proofs.YtadhdimleabljaaQ.QB
open Go.RowKit Go.Proofs.YtadhdimleabljaaQ.Ext
open Go.Proofs.Ytadhdimleabljaa (hashAt deltaOf BitOf AllB filterL nbOf kOf)
open Go.Proofs.YtadhdimleabljaaW.PrintWords (rd shl)
set_option linter.unusedVariables false
set_option linter.unusedSimpArgs false
theorem may_loop (F : List Int) (x d : Int) (K nb : Nat) (hd : 0 ≤ d) (hx : 0 ≤ x ∧ x ≤ 4294967295) (hF : AllB F) (hlen : F.length = nb + 1) (hnb : 1 ≤ nb ∧ nb ≤ 1200) (hK : K ≤ 30) :
    ∀ k j, K - j < k → j ≤ K → ∃ r, badgery_Filter_MayContain.l0 k F (hashAt x d j) K ((nb : Int) * 8) d j = some r ∧ ((∀ i, i < K → BitOf F ((hashAt x d i).toNat % (nb * 8)) = true) → r = true) := by
  intro k
  induction k with
  | zero => intro j h; omega
  | succ k ih =>
    intro j hk hj
    unfold badgery_Filter_MayContain.l0
    by_cases hjK : j < K
    · have hb : (∀ i, i < K → BitOf F ((hashAt x d i).toNat % (nb * 8)) = true) → BitOf F ((hashAt x d j).toNat % (nb * 8)) = true := fun h => h j hjK
      have hh := Ytadhdimleabljaa.hashAt_in x d j hx.1 hx.2
      have hnext : (hashAt x d j + d) % 4294967296 = hashAt x d (j + 1) := rfl
      obtain ⟨y, hy⟩ : ∃ y, y = hashAt x d j := ⟨_, rfl⟩
      rw [← hy] at hb hh hnext ⊢
      obtain ⟨p, hp⟩ : ∃ p, p = y.toNat % (nb * 8) := ⟨_, rfl⟩
      have hplt : p < nb * 8 := by rw [hp]; exact Nat.mod_lt _ (by omega)
      have e1 : Int.tmod y ((nb : Int) * 8) = (p : Int) := by
        rw [Int.tmod_eq_emod_of_nonneg hh.1, hp, show ((y.toNat % (nb * 8) : Nat) : Int) = (y.toNat : Int) % ((nb : Int) * 8) from rfl, Int.toNat_of_nonneg hh.1]
      rw [← hp] at hb
      have e2 : Int.tdiv (p : Int) 8 % 4294967296 = ((p / 8 : Nat) : Int) := by
        rw [Int.tdiv_eq_ediv_of_nonneg (by omega)]; omega
      have e3 : Int.tmod (p : Int) 8 = ((p % 8 : Nat) : Int) := by
        rw [Int.tmod_eq_emod_of_nonneg (by omega)]; omega
      have e8 := Nat.mod_lt p (show 0 < 8 by omega)
      have e4 : shl .u8 1 ((p % 8 : Nat) : Int) = 2 ^ (p % 8) := by
        generalize p % 8 = e at *
        have : e = 0 ∨ e = 1 ∨ e = 2 ∨ e = 3 ∨ e = 4 ∨ e = 5 ∨ e = 6 ∨ e = 7 := by omega
        rcases this with h | h | h | h | h | h | h | h <;> subst h <;> decide
      have e5 : rd F ((p / 8 : Nat) : Int) = F.getD (p / 8) 0 := by unfold rd; rw [Int.toNat_natCast]
      rw [e1, e2, e3, e4, e5, if_pos (by omega), if_neg (by omega), if_pos (by omega), if_pos (by omega), if_pos (by omega), Ytadhdimleabljaa.and8 _ _ (Ytadhdimleabljaa.allB_get hF _) e8]
      unfold BitOf at hb
      by_cases hbt : (F.getD (p / 8) 0).toNat.testBit (p % 8) = true
      · rw [if_neg (by have := Ytadhdimleabljaa.and_pow1 _ _ hbt; omega), hnext]
        have e6 : ((j : Int) + 1) % 256 = ((j + 1 : Nat) : Int) := by omega
        rw [e6]
        exact ih (j + 1) (by omega) (by omega)
      · have hbf : (F.getD (p / 8) 0).toNat.testBit (p % 8) = false := by simpa using hbt
        rw [Ytadhdimleabljaa.and_pow0 _ _ hbf, if_pos (by rfl)]
        exact ⟨false, rfl, fun h => absurd (hb h) hbt⟩
    · rw [if_neg (by omega)]
      exact ⟨true, rfl, fun _ => rfl⟩
theorem may_any (l : List Int) (n b : Nat) (x : Int) (k : Nat) (hx2 : 0 ≤ x ∧ x ≤ 4294967295) (hn : n ≤ 300) (h1 : b ≤ 30) (hk : 31 ≤ k) :
    ∃ r, badgery_Filter_MayContain.f k (filterL (nbOf n b) (kOf b) l) x = some r ∧ (x ∈ l → r = true) := by
  have hnb := Ytadhdimleabljaa.nbOf_le n b hn h1
  have hK := Ytadhdimleabljaa.kOf_le b h1
  generalize nbOf n b = nb at *
  generalize kOf b = K at *
  have hlen := Ytadhdimleabljaa.filterL_len nb K l
  have hd := Ytadhdimleabljaa.delta_in x hx2.1 hx2.2
  unfold badgery_Filter_MayContain.f
  have e1 : wrap64 (((filterL nb K l).length : Int) - 1) = (nb : Int) := by
    rw [hlen]
    unfold wrap64
    omega
  have e2 : rd (filterL nb K l) (nb : Int) = (K : Int) := by
    unfold rd
    rw [Int.toNat_natCast, Ytadhdimleabljaa.filterL_last]
  have e3 : wrap64 (8 * (nb : Int)) % 4294967296 = (nb : Int) * 8 := by
    have : wrap64 (8 * (nb : Int)) = 8 * (nb : Int) := by unfold wrap64; omega
    rw [this]
    omega
  rw [e1, e2, e3]
  clear e1 e2 e3
  rw [if_neg (by omega), if_pos (by omega), if_pos (by omega), if_neg (by omega)]
  obtain ⟨r, hr, hb⟩ := may_loop _ x _ K nb hd.1 hx2 (Ytadhdimleabljaa.filterL_in nb K l (by omega)) hlen (by omega) (by omega) k 0 (by omega) (by omega)
  exact ⟨r, hr, fun hx => hb fun i hi => Ytadhdimleabljaa.filterL_bit nb K l x i hx hi (by omega)⟩
theorem may_f (l : List Int) (n b : Nat) (x : Int) (k : Nat) (hx : x ∈ l) (hl : ∀ x ∈ l, 0 ≤ x ∧ x ≤ 4294967295) (hn : n ≤ 300) (h1 : b ≤ 30) (hk : 31 ≤ k) :
    badgery_Filter_MayContain.f k (filterL (nbOf n b) (kOf b) l) x = some true := by
  obtain ⟨r, hr, hb⟩ := may_any l n b x k (hl x hx) hn h1 hk
  rw [hr, hb hx]
theorem mayHave_f (l : List Int) (n b : Nat) (x : Int) (k : Nat) (hx : x ∈ l) (hl : ∀ x ∈ l, 0 ≤ x ∧ x ≤ 4294967295) (hn : n ≤ 300) (h1 : b ≤ 30) (hk : 31 ≤ k) :
    impl_MayHave.f k (filterL (nbOf n b) (kOf b) l) x = some true := by
  have hnb := Ytadhdimleabljaa.nbOf_le n b hn h1
  have hlen := Ytadhdimleabljaa.filterL_len (nbOf n b) (kOf b) l
  unfold impl_MayHave.f impl_own.f
  rw [if_pos (by omega), Option.bind_some, may_f l n b x k hx hl hn h1 hk, Option.bind_some]
theorem has_loop (l0 l : List Int) (n b : Nat) (hsub : ∀ x ∈ l0, x ∈ l) (hl : ∀ x ∈ l, 0 ≤ x ∧ x ≤ 4294967295) (hn : n ≤ 300) (h1 : b ≤ 30) (hl0 : l0.length ≤ 2147483647) :
    ∀ k i, l0.length - i + 31 < k → i ≤ l0.length → laws_FnFilterHas.l0 k (filterL (nbOf n b) (kOf b) l) l0 l0.length i = some true := by
  intro k
  induction k with
  | zero => intro i h; omega
  | succ k ih =>
    intro i hk hi
    unfold laws_FnFilterHas.l0
    by_cases hil : i < l0.length
    · have e : rd l0 (i : Int) = l0[i] := by
        unfold rd
        rw [Int.toNat_natCast, List.getD_eq_getElem?_getD, List.getElem?_eq_getElem hil]; rfl
      have ew : wrap64 ((i : Int) + 1) = ((i + 1 : Nat) : Int) := by unfold wrap64; omega
      rw [if_pos (by omega), if_pos (by omega), if_pos (by omega), e, mayHave_f l n b _ k (hsub _ (List.getElem_mem hil)) hl hn h1 (by omega), Option.bind_some, if_pos rfl, ew]
      exact ih (i + 1) (by omega) (by omega)
    · have hlen := Ytadhdimleabljaa.filterL_len (nbOf n b) (kOf b) l
      rw [if_neg (by omega), hlen]
      congr 1
      rw [decide_eq_true_eq]
      omega
theorem bits_ok {l : List Int} {b : Int} : laws_bitsOk.f l b = some (decide (l.length ≤ 300 ∧ 1 ≤ b ∧ b ≤ 30)) := by
  unfold laws_bitsOk.f
  by_cases h1 : l.length ≤ 300
  · rw [if_pos (by omega)]
    by_cases h2 : b ≥ 1
    · rw [if_pos h2]
      by_cases h3 : b ≤ 30
      · simp [h1, h2, h3] <;> omega
      · simp [h1, h2, h3]
    · rw [if_neg h2]
      have : ¬ (l.length ≤ 300 ∧ 1 ≤ b ∧ b ≤ 30) := by omega
      simp [this]
  · rw [if_neg (by omega)]
    have : ¬ (l.length ≤ 300 ∧ 1 ≤ b ∧ b ≤ 30) := by omega
    simp [this]
theorem filterOf_f (l : List Int) (b : Nat) (hl : ∀ x ∈ l, 0 ≤ x ∧ x ≤ 4294967295) (hn : l.length ≤ 300) (h0 : 1 ≤ b) (h1 : b ≤ 30) : impl_FilterOf.f l b = some (filterL (nbOf l.length b) (kOf b) l) := by
  unfold impl_FilterOf.f
  rw [if_pos ⟨hn, all32b_of hl, by omega, by omega⟩, Int.toNat_natCast]
theorem has_f (l : List Int) (a : Int) (hl : ∀ x ∈ l, 0 ≤ x ∧ x ≤ 4294967295) : laws_FnFilterHas.f 340 l a = some true := by
  unfold laws_FnFilterHas.f
  by_cases hz : (l.length : Int) > 2147483647
  · rw [if_pos hz]
  rw [if_neg hz, bits_ok, Option.bind_some]
  by_cases hb : l.length ≤ 300 ∧ 1 ≤ a ∧ a ≤ 30
  · rw [if_pos (decide_eq_true hb)]
    obtain ⟨b, rfl⟩ : ∃ b : Nat, a = (b : Int) := ⟨a.toNat, by omega⟩
    rw [filterOf_f l b hl hb.1 (by omega) (by omega), Option.bind_some]
    exact has_loop l l l.length b (fun x h => h) hl hb.1 (by omega) (by omega) 340 0 (by omega) (by omega)
  · rw [if_neg (by simpa using hb)]
theorem more_loop (l0 l : List Int) (n b : Nat) (hsub : ∀ x ∈ l0, x ∈ l) (hl : ∀ x ∈ l, 0 ≤ x ∧ x ≤ 4294967295) (hn : n ≤ 300) (h1 : b ≤ 30) (hl0 : l0.length ≤ 2147483647) :
    ∀ k i, l0.length - i + 31 < k → i ≤ l0.length → laws_FnFilterMore.l1 k (filterL (nbOf n b) (kOf b) l) (filterL (nbOf n b) (kOf b) l) l0 l0.length i = some true := by
  intro k
  induction k with
  | zero => intro i h; omega
  | succ k ih =>
    intro i hk hi
    unfold laws_FnFilterMore.l1
    by_cases hil : i < l0.length
    · have e : rd l0 (i : Int) = l0[i] := by
        unfold rd
        rw [Int.toNat_natCast, List.getD_eq_getElem?_getD, List.getElem?_eq_getElem hil]; rfl
      have ew : wrap64 ((i : Int) + 1) = ((i + 1 : Nat) : Int) := by unfold wrap64; omega
      rw [if_pos (by omega), if_pos (by omega), if_pos (by omega), e, mayHave_f l n b _ k (hsub _ (List.getElem_mem hil)) hl hn h1 (by omega), Option.bind_some, if_pos rfl, ew]
      exact ih (i + 1) (by omega) (by omega)
    · have hlen := Ytadhdimleabljaa.filterL_len (nbOf n b) (kOf b) l
      have hnb := Ytadhdimleabljaa.nbOf_le n b hn h1
      rw [if_neg (by omega), if_pos (by omega)]
      unfold spec_SameBytes.f
      rw [if_pos (by omega), Option.bind_some, decide_eq_true rfl]
theorem more_back (l0 all : List Int) (a : Int) (hsub : ∀ x ∈ l0, x ∈ all) (hl : ∀ x ∈ all, 0 ≤ x ∧ x ≤ 4294967295) (hl0 : l0.length ≤ 2147483647) (hall : all.length ≤ 4294967294) :
    ∀ k m, m + l0.length + 40 < k → m ≤ all.length → laws_FnFilterMore.l0 k l0 a all ((all.drop m).reverse) ((m : Int) - 1) = some true := by
  intro k
  induction k with
  | zero => intro i h; omega
  | succ k ih =>
    intro m hk hm
    unfold laws_FnFilterMore.l0
    cases m with
    | succ m =>
      have e : rd all ((m : Int)) = all[m] := by
        unfold rd
        rw [Int.toNat_natCast, List.getD_eq_getElem?_getD, List.getElem?_eq_getElem (by omega)]; rfl
      have e1 : ((m + 1 : Nat) : Int) - 1 = (m : Int) := by omega
      have ew : wrap64 ((m : Int) - 1) = (m : Int) - 1 := by unfold wrap64; omega
      have ed : (all.drop (m + 1)).reverse ++ [all[m]] = (all.drop m).reverse := by
        rw [List.drop_eq_getElem_cons (show m < all.length by omega), List.reverse_cons]
      rw [e1, if_pos (by omega), if_pos (by omega), if_pos (by omega), if_pos (by simp; omega), e, ed, ew]
      exact ih m (by omega) (by omega)
    | zero =>
      rw [if_neg (by omega), bits_ok, Option.bind_some]
      by_cases hb : all.length ≤ 300 ∧ 1 ≤ a ∧ a ≤ 30
      · rw [if_pos (decide_eq_true hb)]
        obtain ⟨b, rfl⟩ : ∃ b : Nat, a = (b : Int) := ⟨a.toNat, by omega⟩
        rw [filterOf_f all b hl hb.1 (by omega) (by omega), Option.bind_some, List.drop_zero, filterOf_f all.reverse b (fun x hx => hl x (List.mem_reverse.1 hx)) (by rw [List.length_reverse]; exact hb.1) (by omega) (by omega), Option.bind_some, List.length_reverse, Ytadhdimleabljaa.filterL_rev]
        exact more_loop l0 all all.length b hsub hl hb.1 (by omega) hl0 k 0 (by omega) (by omega)
      · rw [if_neg (by simpa using hb)]
theorem more_f (l m : List Int) (a : Int) (hl : ∀ x ∈ l, 0 ≤ x ∧ x ≤ 4294967295) (hm : ∀ x ∈ m, 0 ≤ x ∧ x ≤ 4294967295) : laws_FnFilterMore.f (2 * l.length + m.length + 50) l m a = some true := by
  have hj : ∀ k, 2 * l.length + m.length + 45 < k → laws_FnFilterMore.j0 k l m a true = some true := by
    intro k hk
    cases k with
    | zero => omega
    | succ k => rw [laws_FnFilterMore.j0, if_pos rfl]
  unfold laws_FnFilterMore.f
  by_cases h1 : (l.length : Int) > 2147483647
  · rw [if_pos h1, hj _ (by omega)]
  rw [if_neg h1]
  by_cases h2 : (m.length : Int) > 2147483647
  · rw [decide_eq_true h2, hj _ (by omega)]
  rw [decide_eq_false h2, show 2 * l.length + m.length + 50 = (2 * l.length + m.length + 49) + 1 from rfl]
  rw [laws_FnFilterMore.j0]
  rw [if_neg (by simp), Option.bind_some, if_pos (by simp; omega), Option.bind_some, if_pos (by simp; omega), Option.bind_some, List.nil_append]
  have ew : wrap64 (((l ++ m).length : Int) - 1) = ((l ++ m).length : Int) - 1 := by unfold wrap64; simp; omega
  rw [ew]
  have := more_back l (l ++ m) a (fun x hx => List.mem_append_left _ hx) (fun x hx => by rcases List.mem_append.1 hx with hx | hx; exact hl x hx; exact hm x hx) (by omega) (by simp; omega) (2 * l.length + m.length + 49) (l ++ m).length (by simp; omega) (by omega)
  rwa [List.drop_length] at this
theorem filterHas_row (x0 : List Int) (x1 : Int) (w0 : ∀ y ∈ x0, (Lit.int .u32 y).wf = true) (w1 : (Lit.int .i64 x1).wf = true) : ∃ k, laws_FnFilterHas.f k x0 x1 = some true :=
  ⟨_, has_f x0 x1 fun x hx => Ytadhdimleabljaa.wf32 (w0 x hx)⟩
theorem filterMore_row (x0 x1 : List Int) (x2 : Int) (w0 : ∀ y ∈ x0, (Lit.int .u32 y).wf = true) (w1 : ∀ y ∈ x1, (Lit.int .u32 y).wf = true) (w2 : (Lit.int .i64 x2).wf = true) : ∃ k, laws_FnFilterMore.f k x0 x1 x2 = some true :=
  ⟨_, more_f x0 x1 x2 (fun x hx => Ytadhdimleabljaa.wf32 (w0 x hx)) (fun x hx => Ytadhdimleabljaa.wf32 (w1 x hx))⟩
end Go.Proofs.YtadhdimleabljaaQ.QB
