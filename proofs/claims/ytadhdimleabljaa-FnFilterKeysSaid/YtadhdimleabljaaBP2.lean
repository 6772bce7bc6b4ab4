/- Filters of hashes: the law's plain part (keys). -/
import Derived.Test.YtadhdimleabljaaBP
import Derived.Test.YtadhdimleabljaaQB5
namespace Go.Proofs.YtadhdimleabljaaQ.QB
open Go.RowKit Go.Proofs.YtadhdimleabljaaQ.Ext
open Go.Proofs.Ytadhdimleabljaa (hashAt deltaOf BitOf AllB filterL nbOf kOf)
open Go.Proofs.YtadhdimleabljaaW.PrintWords (rd shl)
set_option linter.unusedVariables false
set_option linter.unusedSimpArgs false
theorem xor_in (x y : Int) : 0 ≤ Go.bits .xor .u32 x y ∧ Go.bits .xor .u32 x y ≤ 4294967295 := by
  unfold Go.bits
  rw [IntKind.wrap_u32]
  omega
theorem hash_loop : ∀ (n : Nat) (l : List Int) (x : Int), l.length ≤ n → (0 ≤ x ∧ x ≤ 4294967295) → ∃ h, (0 ≤ h ∧ h ≤ 4294967295) ∧ ∀ k, l.length < k → badgery_Hash.l0 k l x = some h := by
  intro n
  induction n with
  | zero =>
    intro l x hl hx
    obtain rfl : l = [] := List.eq_nil_of_length_eq_zero (by omega)
    refine ⟨x, hx, fun k hk => ?_⟩
    cases k with
    | zero => omega
    | succ k => rfl
  | succ n ih =>
    intro l x hl hx
    by_cases h4 : 4 ≤ l.length
    · obtain ⟨h, hh, hk⟩ := ih (l.drop 4) (Go.bits .xor .u32 ((((x + (Go.bits .or .u32 (Go.bits .or .u32 (Go.bits .or .u32 ((rd l 0) % 4294967296) ((((rd l 1) % 4294967296) * 256) % 4294967296)) ((((rd l 2) % 4294967296) * 65536) % 4294967296)) ((((rd l 3) % 4294967296) * 16777216) % 4294967296))) % 4294967296) * 3332679571) % 4294967296) (((((x + (Go.bits .or .u32 (Go.bits .or .u32 (Go.bits .or .u32 ((rd l 0) % 4294967296) ((((rd l 1) % 4294967296) * 256) % 4294967296)) ((((rd l 2) % 4294967296) * 65536) % 4294967296)) ((((rd l 3) % 4294967296) * 16777216) % 4294967296))) % 4294967296) * 3332679571) % 4294967296) / 65536)) (by rw [List.length_drop]; omega) (xor_in _ _)
      refine ⟨h, hh, fun k hk2 => ?_⟩
      cases k with
      | zero => omega
      | succ k =>
        have := hk k (by rw [List.length_drop]; omega)
        unfold badgery_Hash.l0
        rw [if_pos (by omega), if_pos (by omega), if_pos (by omega), if_pos (by omega), if_pos (by omega), if_pos (by omega)]
        exact this
    · have h4i : ¬ ((l.length : Int) ≥ 4) := by omega
      have e : ∀ k, badgery_Hash.l0 (k + 1) l x = badgery_Hash.l0 1 l x := fun k => by
        rw [badgery_Hash.l0, if_neg h4i, badgery_Hash.l0, if_neg h4i]
      have hv : ∃ h, (0 ≤ h ∧ h ≤ 4294967295) ∧ badgery_Hash.l0 1 l x = some h := by
        rw [badgery_Hash.l0, if_neg (by omega)]
        by_cases h3 : l.length = 3
        · rw [if_pos (by omega), if_pos (by omega), if_pos (by omega), if_pos (by omega)]
          exact ⟨_, xor_in _ _, rfl⟩
        · rw [if_neg (by omega)]
          by_cases h2 : l.length = 2
          · rw [if_pos (by omega), if_pos (by omega), if_pos (by omega)]
            exact ⟨_, xor_in _ _, rfl⟩
          · rw [if_neg (by omega)]
            by_cases h1 : l.length = 1
            · rw [if_pos (by omega), if_pos (by omega)]
              exact ⟨_, xor_in _ _, rfl⟩
            · rw [if_neg (by omega)]
              exact ⟨_, hx, rfl⟩
      obtain ⟨h, hh, hk⟩ := hv
      refine ⟨h, hh, fun k hk2 => ?_⟩
      cases k with
      | zero => omega
      | succ k => rw [e, hk]
def hashF (l : List Int) : Int := (badgery_Hash.f 400 l).getD 0
theorem hash_f (l : List Int) (hl : l.length ≤ 300) : (0 ≤ hashF l ∧ hashF l ≤ 4294967295) ∧ ∀ k, 301 ≤ k → badgery_Hash.f k l = some (hashF l) := by
  obtain ⟨h, hh, hk⟩ := hash_loop l.length l (Go.bits .xor .u32 3164544308 (((((l.length : Int)) % 4294967296) * 3332679571) % 4294967296)) (by omega) (xor_in _ _)
  have e : hashF l = h := by
    unfold hashF badgery_Hash.f
    rw [hk 400 (by omega)]; rfl
  rw [e]
  exact ⟨hh, fun k h2 => by unfold badgery_Hash.f; exact hk k (by omega)⟩
theorem hashOf_f (l : List Int) (hl : l.length ≤ 300) (k : Nat) (hk : 301 ≤ k) : impl_HashOf.f k l = some (hashF l) := by
  unfold impl_HashOf.f impl_own.f
  rw [if_pos (by omega), Option.bind_some, (hash_f l hl).2 k hk, Option.bind_some]
theorem mayKey_f (F l : List Int) (hF : F.length ≤ 2000) (hl : l.length ≤ 300) (k : Nat) (hk : 301 ≤ k) : impl_MayHaveKey.f k F l = badgery_Filter_MayContain.f k F (hashF l) := by
  unfold impl_MayHaveKey.f impl_own.f badgery_Filter_MayContainKey.f
  rw [if_pos (by omega), Option.bind_some, if_pos (by omega), Option.bind_some, (hash_f l hl).2 k hk, Option.bind_some]
  cases badgery_Filter_MayContain.f k F (hashF l) <;> rfl
theorem few_f (x : List Int) (k : Nat) (hk : 2 ≤ k) : laws_few.f k [x] = some (decide (x.length ≤ 300)) := by
  obtain ⟨k, rfl⟩ : ∃ q, k = q + 2 := ⟨k - 2, by omega⟩
  unfold laws_few.f laws_few.l0
  have e : rd_L2 [x] 0 = x := rfl
  rw [if_pos (by simp), if_pos (by omega), if_pos (by simp), e]
  by_cases h : (x.length : Int) > 300
  · rw [if_pos h, decide_eq_false (by omega)]
  · rw [if_neg h, decide_eq_true (by omega)]
    unfold laws_few.l0
    rw [if_neg (by simp [wrap64])]
theorem fits_loop (l : List (List Int)) (hl : l.length ≤ 2147483647) : ∀ k i, l.length - i < k → i ≤ l.length → ∃ b, laws_zzFits8.l0 k l l.length i = some b := by
  intro k
  induction k with
  | zero => intro i h; omega
  | succ k ih =>
    intro i hk hi
    unfold laws_zzFits8.l0
    by_cases hil : i < l.length
    · have ew : wrap64 ((i : Int) + 1) = ((i + 1 : Nat) : Int) := by unfold wrap64; omega
      rw [if_pos (by omega), if_pos (by omega), if_pos (by omega), ew]
      split
      · exact ⟨_, rfl⟩
      · exact ih (i + 1) (by omega) (by omega)
    · rw [if_neg (by omega)]
      exact ⟨_, rfl⟩
theorem fits_f (l : List (List Int)) (k : Nat) (hk : l.length < k) : ∃ b, laws_zzFits8.f k l = some b ∧ (b = true → l.length ≤ 2147483647) := by
  unfold laws_zzFits8.f
  by_cases h : (l.length : Int) > 2147483647
  · rw [if_pos h]; exact ⟨false, rfl, fun h => by cases h⟩
  · rw [if_neg h]
    obtain ⟨b, hb⟩ := fits_loop l (by omega) k 0 (by omega) (by omega)
    exact ⟨b, hb, fun _ => by omega⟩
theorem keys_end (x2 : List Int) (keys : List (List Int)) (b : Nat) (hn : keys.length ≤ 60) (h1 : b ≤ 30) (hk : ∀ x ∈ keys, x.length ≤ 300) (h2 : x2.length ≤ 300) :
    ∀ k i, keys.length - i + 301 < k → i ≤ keys.length → laws_FnFilterKeys.l1 k x2 (filterL (nbOf (keys.map hashF).length b) (kOf b) (keys.map hashF)) keys keys.length i = some true := by
  have hnb := Ytadhdimleabljaa.nbOf_le (keys.map hashF).length b (by simp; omega) h1
  have hlen := Ytadhdimleabljaa.filterL_len (nbOf (keys.map hashF).length b) (kOf b) (keys.map hashF)
  have hm := fun (x : Int) (k : Nat) hx => may_any (keys.map hashF) (keys.map hashF).length b x k hx (by simp; omega) h1
  generalize filterL (nbOf (keys.map hashF).length b) (kOf b) (keys.map hashF) = F at *
  generalize nbOf (keys.map hashF).length b = nb at *
  intro k
  induction k with
  | zero => intro i h; omega
  | succ k ih =>
    intro i hk2 hi
    unfold laws_FnFilterKeys.l1
    by_cases hil : i < keys.length
    · have e : rd_L2 keys (i : Int) = keys[i] := by
        unfold rd_L2
        rw [Int.toNat_natCast, List.getD_eq_getElem?_getD, List.getElem?_eq_getElem hil]; rfl
      have ew : wrap64 ((i : Int) + 1) = ((i + 1 : Nat) : Int) := by unfold wrap64; omega
      have hki := hk _ (List.getElem_mem hil)
      obtain ⟨r, hr, hb⟩ := hm (hashF keys[i]) k (hash_f _ hki).1 (by omega)
      rw [if_pos (by omega), if_pos (by omega), if_pos (by omega), e, mayKey_f F _ (by omega) hki k (by omega), hr, hb (List.mem_map_of_mem (List.getElem_mem hil)), Option.bind_some, if_pos rfl, ew]
      exact ih (i + 1) (by omega) (by omega)
    · obtain ⟨r, hr, hb⟩ := hm (hashF x2) k (hash_f _ h2).1 (by omega)
      rw [if_neg (by omega), if_pos (by omega), mayKey_f F _ (by omega) h2 k (by omega), hr, Option.bind_some, hashOf_f x2 h2 k (by omega), Option.bind_some]
      unfold impl_MayHave.f impl_own.f
      rw [if_pos (by omega), Option.bind_some, hr, Option.bind_some, Option.bind_some]
      simp
theorem keys_j2 (x2 : List Int) (keys : List (List Int)) (a : Int) (fl : Bool) (k : Nat) (hf : fl = false → (keys.length ≤ 60 ∧ 1 ≤ a ∧ a ≤ 30 ∧ (∀ x ∈ keys, x.length ≤ 300) ∧ x2.length ≤ 300)) (hk : keys.length + 303 < k) :
    laws_FnFilterKeys.j2 k keys a x2 (keys.map hashF) fl = some true := by
  cases k with
  | zero => omega
  | succ k =>
    rw [laws_FnFilterKeys.j2]
    cases fl with
    | true => rw [if_pos rfl]
    | false =>
      obtain ⟨h1, h2, h3, h4, h5⟩ := hf rfl
      obtain ⟨b, rfl⟩ : ∃ b : Nat, a = (b : Int) := ⟨a.toNat, by omega⟩
      rw [if_neg (by simp), filterOf_f _ b (fun x hx => by obtain ⟨y, hy, rfl⟩ := List.mem_map.1 hx; exact (hash_f y (h4 y hy)).1) (by simp; omega) (by omega) (by omega), Option.bind_some]
      exact keys_end x2 keys b h1 (by omega) h4 h5 k 0 (by omega) (by omega)
theorem keys_loop (x2 : List Int) (keys : List (List Int)) (a : Int) (hlen : keys.length ≤ 2147483647) :
    ∀ k i, keys.length - i + keys.length + 310 < k → i ≤ keys.length → (∀ x ∈ keys.take i, x.length ≤ 300) → laws_FnFilterKeys.l0 k keys a x2 ((keys.take i).map hashF) keys keys.length i = some true := by
  intro k
  induction k with
  | zero => intro i h; omega
  | succ k ih =>
    intro i hk hi hfew
    unfold laws_FnFilterKeys.l0
    by_cases hil : i < keys.length
    · have e : rd_L2 keys (i : Int) = keys[i] := by
        unfold rd_L2
        rw [Int.toNat_natCast, List.getD_eq_getElem?_getD, List.getElem?_eq_getElem hil]; rfl
      have ew : wrap64 ((i : Int) + 1) = ((i + 1 : Nat) : Int) := by unfold wrap64; omega
      rw [if_pos (by omega), if_pos (by omega), if_pos (by omega), e, few_f _ k (by omega), Option.bind_some]
      by_cases h3 : keys[i].length ≤ 300
      · rw [if_pos (decide_eq_true h3), hashOf_f _ h3 k (by omega), Option.bind_some, if_pos (by simp; omega), ew]
        have em : (keys.take i).map hashF ++ [hashF keys[i]] = (keys.take (i + 1)).map hashF := by rw [List.take_succ_eq_append_getElem hil, List.map_append]; rfl
        rw [em]
        refine ih (i + 1) (by omega) (by omega) fun x hx => ?_
        rw [List.take_succ_eq_append_getElem hil] at hx
        rcases List.mem_append.1 hx with hx | hx
        · exact hfew x hx
        · simp at hx; rw [hx]; exact h3
      · rw [if_neg (by simpa using h3)]
    · rw [List.take_of_length_le (by omega)] at hfew ⊢
      rw [if_neg (by omega)]
      by_cases h60 : (keys.length : Int) > 60
      · rw [if_pos h60]; exact keys_j2 _ _ _ _ _ (fun h => by cases h) (by omega)
      · rw [if_neg h60, bits_ok, Option.bind_some]
        by_cases hb : (keys.map hashF).length ≤ 300 ∧ 1 ≤ a ∧ a ≤ 30
        · rw [if_pos (decide_eq_true hb), few_f _ k (by omega), Option.bind_some]
          exact keys_j2 _ _ _ _ _ (fun h => ⟨by omega, hb.2.1, hb.2.2, hfew, by simpa using h⟩) (by omega)
        · rw [if_neg (by simpa using hb)]; exact keys_j2 _ _ _ _ _ (fun h => by cases h) (by omega)
theorem keys_f (keys : List (List Int)) (a : Int) (x2 : List Int) : laws_FnFilterKeys.f (2 * keys.length + 320) keys a x2 = some true := by
  have hj : ∀ k, 0 < k → laws_FnFilterKeys.j0 k keys a x2 true = some true := by
    intro k hk
    cases k with
    | zero => omega
    | succ k => rw [laws_FnFilterKeys.j0, if_pos rfl]
  obtain ⟨b, hb, hlen⟩ := fits_f keys (2 * keys.length + 320) (by omega)
  unfold laws_FnFilterKeys.f
  rw [hb, Option.bind_some]
  cases b with
  | false => rw [if_neg (by simp), hj _ (by omega)]
  | true =>
    rw [if_pos rfl]
    by_cases h2 : (x2.length : Int) > 2147483647
    · rw [decide_eq_true h2, hj _ (by omega)]
    rw [decide_eq_false h2, show 2 * keys.length + 320 = (2 * keys.length + 319) + 1 from rfl]
    rw [laws_FnFilterKeys.j0]
    rw [if_neg (by simp)]
    exact keys_loop x2 keys a (hlen rfl) _ 0 (by omega) (by omega) (by simp)
theorem filterKeys_row (x0 : List (List Int)) (x1 : Int) (x2 : List Int) (w0 : ∀ y ∈ x0, ∀ z ∈ y, (Lit.int .u8 z).wf = true) (w1 : (Lit.int .i64 x1).wf = true) (w2 : ∀ y ∈ x2, (Lit.int .u8 y).wf = true) : ∃ k, laws_FnFilterKeys.f k x0 x1 x2 = some true :=
  ⟨_, keys_f x0 x1 x2⟩
end Go.Proofs.YtadhdimleabljaaQ.QB
