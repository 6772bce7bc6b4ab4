/- Texts that this claim shares with others, put together: L4 LA LB. -/
import Derived.Test.YtpfmmbhbmdbmeaaGreatDoorQL5
import Derived.Test.YtpfmmbhbmdbmeaaGreatDoorQL3
import Derived.Test.YtpfmmbhbmdbmeaaGreatDoorQL6
import Derived.Test.YtpfmmbhbmdbmeaaGreatDoorHK
section
/- Units of a log: the plain functions on them. -/
namespace Go.Proofs.YtpfmmbhbmdbmeaaGreatDoorQ.QL
open Go.RowKit Go.Proofs.YtpfmmbhbmdbmeaaGreatDoorQ.Ext
set_option linter.unusedVariables false
set_option linter.unusedSimpArgs false
abbrev RecS := S31
abbrev UnitS := S45
def wfR (x : RecS) : Prop := (∀ y ∈ x.f0, (Lit.int .u8 y).wf = true) ∧ (∀ y ∈ x.f1, (Lit.int .u8 y).wf = true) ∧ ((Lit.int .u64 x.f2).wf = true) ∧ ((Lit.int .u8 x.f3).wf = true) ∧ ((Lit.int .u8 x.f4).wf = true)
theorem rdR (l : List RecS) (i : Nat) (h : i < l.length) : rd_T31 l (i : Int) = l[i] := by
  unfold rd_T31
  rw [Int.toNat_natCast, List.getD_eq_getElem?_getD, List.getElem?_eq_getElem h]
  rfl
theorem rdU (l : List UnitS) (i : Nat) (h : i < l.length) : rd_T45 l (i : Int) = l[i] := by
  unfold rd_T45
  rw [Int.toNat_natCast, List.getD_eq_getElem?_getD, List.getElem?_eq_getElem h]
  rfl
theorem w64 (i : Nat) (h : i < 4000000000) : wrap64 ((i : Int) + 1) = ((i + 1 : Nat) : Int) := by unfold wrap64; omega
def mxU (l : List UnitS) : Nat := l.foldr (fun u m => max u.f0.length m) 0
theorem mxU_le (l : List UnitS) : ∀ u ∈ l, u.f0.length ≤ mxU l := by
  induction l with
  | nil => intro u hu; cases hu
  | cons a l ih =>
    intro u hu
    unfold mxU
    rw [List.foldr_cons]
    rcases List.mem_cons.1 hu with rfl | h
    · exact Nat.le_max_left _ _
    · exact Nat.le_trans (ih u h) (Nat.le_max_right _ _)
theorem mxU_of (l : List UnitS) (M : Nat) (h : ∀ u ∈ l, u.f0.length ≤ M) : mxU l ≤ M := by
  induction l with
  | nil => exact Nat.zero_le _
  | cons a l ih =>
    unfold mxU
    rw [List.foldr_cons]
    exact Nat.max_le.2 ⟨h a (List.mem_cons_self ..), ih fun u hu => h u (List.mem_cons_of_mem _ hu)⟩
theorem fits10 (l0 l1 : List Int) (a b c : Int) : laws_zzFits10.f l0 l1 a b c = some (decide (l0.length ≤ 2147483647) && decide (l1.length ≤ 2147483647)) := by
  unfold laws_zzFits10.f
  by_cases h0 : (l0.length : Int) > 2147483647
  · rw [if_pos h0]; simp; omega
  · by_cases h1 : (l1.length : Int) > 2147483647
    · rw [if_neg h0, if_pos h1]; simp; omega
    · rw [if_neg h0, if_neg h1]; simp; omega
theorem fits13_l (l : List RecS) (hl : l.length ≤ 2147483647) : ∀ d i k, i + d = l.length → d < k → ∃ b, laws_zzFits13.l0 k l (l.length : Int) (i : Int) = some b := by
  intro d
  induction d with
  | zero =>
    intro i k hi hk
    obtain ⟨k, rfl⟩ : ∃ m, k = m + 1 := ⟨k - 1, by omega⟩
    refine ⟨true, ?_⟩
    rw [laws_zzFits13.l0, if_neg (by omega)]
  | succ d ih =>
    intro i k hi hk
    obtain ⟨k, rfl⟩ : ∃ m, k = m + 1 := ⟨k - 1, by omega⟩
    rw [laws_zzFits13.l0, if_pos (by omega), if_pos (by omega), if_pos (by omega), fits10, Option.bind_some]
    split
    · rw [w64 i (by omega)]; exact ih (i + 1) k (by omega) (by omega)
    · exact ⟨false, rfl⟩
theorem fits12_k (u : UnitS) (k : Nat) (hk : u.f0.length < k) : ∃ b, laws_zzFits12.f k u.f0 u.f1 u.f2 u.f3 = some b ∧ (b = true → u.f0.length ≤ 2147483647) := by
  unfold laws_zzFits12.f laws_zzFits13.f
  by_cases h : (u.f0.length : Int) > 2147483647
  · rw [if_pos h, Option.bind_some]; exact ⟨false, rfl, by simp⟩
  · rw [if_neg h]
    obtain ⟨b, hb⟩ := fits13_l u.f0 (by omega) u.f0.length 0 k (by omega) hk
    have hb' : laws_zzFits13.l0 k u.f0 (u.f0.length : Int) 0 = some b := hb
    rw [hb', Option.bind_some]
    cases b
    · exact ⟨false, rfl, by simp⟩
    · exact ⟨true, rfl, fun _ => by omega⟩
theorem fits11_l (l : List UnitS) (hl : l.length ≤ 2147483647) : ∀ d i k, i + d = l.length → d + mxU l < k → ∃ b, laws_zzFits11.l0 k l (l.length : Int) (i : Int) = some b ∧ (b = true → ∀ u ∈ l.drop i, u.f0.length ≤ 2147483647) := by
  intro d
  induction d with
  | zero =>
    intro i k hi hk
    obtain ⟨k, rfl⟩ : ∃ m, k = m + 1 := ⟨k - 1, by omega⟩
    refine ⟨true, ?_, ?_⟩
    · rw [laws_zzFits11.l0, if_neg (by omega)]
    · intro _ u hu; rw [List.drop_eq_nil_of_le (by omega)] at hu; cases hu
  | succ d ih =>
    intro i k hi hk
    obtain ⟨k, rfl⟩ : ∃ m, k = m + 1 := ⟨k - 1, by omega⟩
    have hm := mxU_le l l[i] (List.getElem_mem (by omega))
    obtain ⟨b, hb, hbu⟩ := fits12_k l[i] k (by omega)
    rw [laws_zzFits11.l0, if_pos (by omega), if_pos (by omega), if_pos (by omega), rdU l i (by omega), hb, Option.bind_some]
    cases b
    · exact ⟨false, rfl, by simp⟩
    · rw [if_pos rfl, w64 i (by omega)]
      obtain ⟨c, hc, hcu⟩ := ih (i + 1) k (by omega) (by omega)
      refine ⟨c, hc, fun h u hu => ?_⟩
      rw [List.drop_eq_getElem_cons (by omega)] at hu
      rcases List.mem_cons.1 hu with rfl | h2
      · exact hbu rfl
      · exact hcu h u h2
theorem fits11_k (l : List UnitS) (k : Nat) (hk : l.length + mxU l < k) : ∃ b, laws_zzFits11.f k l = some b ∧ (b = true → l.length ≤ 2147483647 ∧ mxU l ≤ 2147483647) := by
  unfold laws_zzFits11.f
  by_cases h : (l.length : Int) > 2147483647
  · rw [if_pos h]; exact ⟨false, rfl, by simp⟩
  · rw [if_neg h]
    obtain ⟨b, hb, hbu⟩ := fits11_l l (by omega) l.length 0 k (by omega) hk
    exact ⟨b, hb, fun h => ⟨by omega, mxU_of l _ (by rw [List.drop_zero] at hbu; exact hbu h)⟩⟩
/-- A record within the bounds; a unit within the bounds. -/
def ROk (r : RecS) : Prop := 1 ≤ r.f0.length ∧ r.f0.length ≤ 40 ∧ r.f1.length ≤ 200
def UOk (u : UnitS) : Prop := 1 ≤ u.f0.length ∧ u.f0.length ≤ 10 ∧ 1 ≤ u.f2 ∧ u.f2 ≤ 1000000 ∧ ∀ r ∈ u.f0, ROk r
theorem recOk_some (l0 l1 : List Int) (a b c : Int) : laws_recOk.f l0 l1 a b c = some (decide (1 ≤ l0.length ∧ l0.length ≤ 40 ∧ l1.length ≤ 200)) := by
  unfold laws_recOk.f
  by_cases h0 : (l0.length : Int) ≥ 1
  · by_cases h1 : (l0.length : Int) ≤ 40
    · rw [if_pos h0, if_pos h1]; congr 1; rw [decide_eq_decide]; omega
    · rw [if_pos h0, if_neg h1]; congr 1; rw [eq_comm, decide_eq_false_iff_not]; omega
  · rw [if_neg h0]; congr 1; rw [eq_comm, decide_eq_false_iff_not]; omega
theorem units_l1 (x0 l : List UnitS) (rs : List RecS) (j D : Nat) (hj : j < 2147483648) (hrs : rs.length ≤ 2147483647) (Q : Bool → Prop) (hQ : Q false)
    (hnext : ∀ k', D < k' → (∀ r ∈ rs, ROk r) → ∃ b, laws_unitsOk.l0 k' x0 l (l.length : Int) ((j + 1 : Nat) : Int) = some b ∧ Q b) :
    ∀ e m k, m + e = rs.length → D + e + 1 < k → (∀ r ∈ rs.take m, ROk r) → ∃ b, laws_unitsOk.l1 k x0 l (l.length : Int) (j : Int) rs (rs.length : Int) (m : Int) = some b ∧ Q b := by
  intro e
  induction e with
  | zero =>
    intro m k hi hk hp
    obtain ⟨k, rfl⟩ : ∃ n, k = n + 1 := ⟨k - 1, by omega⟩
    rw [laws_unitsOk.l1, if_neg (by omega), w64 j (by omega)]
    exact hnext k (by omega) (by rwa [List.take_of_length_le (by omega)] at hp)
  | succ e ih =>
    intro m k hi hk hp
    obtain ⟨k, rfl⟩ : ∃ n, k = n + 1 := ⟨k - 1, by omega⟩
    rw [laws_unitsOk.l1, if_pos (by omega), if_pos (by omega), if_pos (by omega), rdR rs m (by omega), recOk_some, Option.bind_some]
    by_cases h : 1 ≤ rs[m].f0.length ∧ rs[m].f0.length ≤ 40 ∧ rs[m].f1.length ≤ 200
    · rw [if_pos (by simpa using h), w64 m (by omega)]
      refine ih (m + 1) k (by omega) (by omega) ?_
      intro r hr2
      rw [List.take_succ_eq_append_getElem (by omega)] at hr2
      rcases List.mem_append.1 hr2 with h2 | h2
      · exact hp r h2
      · rw [List.mem_singleton.1 h2]; exact h
    · rw [if_neg (by simpa using h)]; exact ⟨false, rfl, hQ⟩
theorem j2_t (k : Nat) (x0 l : List UnitS) (n j : Int) (f0 : List RecS) (f1 : Bool) (f2 : Int) (f3 : Bool) : laws_unitsOk.j2 (k + 1) x0 l n j true f0 f1 f2 f3 = some false := rfl
theorem j2_f (k : Nat) (x0 l : List UnitS) (n j : Int) (f0 : List RecS) (f1 : Bool) (f2 : Int) (f3 : Bool) : laws_unitsOk.j2 (k + 1) x0 l n j false f0 f1 f2 f3 = laws_unitsOk.l1 k x0 l n j f0 (f0.length : Int) 0 := rfl
end Go.Proofs.YtpfmmbhbmdbmeaaGreatDoorQ.QL
end
section
/- A log is a head of 20 bytes and the bytes of its records: the plain part (for the replays). -/
namespace Go.Proofs.YtpfmmbhbmdbmeaaGreatDoorQ.QL
open Go.RowKit Go.Proofs.YtpfmmbhbmdbmeaaGreatDoorQ.Ext
set_option linter.unusedVariables false
set_option linter.unusedSimpArgs false
theorem u64ok_wf {x : Int} (h : (Lit.int .u64 x).wf = true) : u64ok x = true := by
  have := YtpfmmbhbmdbmeaaGreatDoor.wf64 h
  exact u64ok_mk this.1 this.2
/-- A record as it can be put into bytes. -/
def RGood (r : RecS) : Prop := r.f0.length ≤ 1000 ∧ r.f1.length ≤ 1000 ∧ YtpfmmbhbmdbmeaaGreatDoor.Byt r.f0 ∧ YtpfmmbhbmdbmeaaGreatDoor.Byt r.f1 ∧ u64ok r.f2 = true ∧ in8 r.f3 = true ∧ in8 r.f4 = true
def rb (r : RecS) : List Int := YtpfmmbhbmdbmeaaGreatDoor.recB r.f3 r.f4 r.f2 r.f0 r.f1
theorem rb_len {r : RecS} (h : RGood r) : (rb r).length ≤ 2026 := by
  have := YtpfmmbhbmdbmeaaGreatDoor.recB_len r.f3 r.f4 r.f2 r.f0 r.f1 (by have := h.1; omega) (by have := h.2.1; omega)
  have h2 := YtpfmmbhbmdbmeaaGreatDoor.headB_len (r.f0.length : Int) (r.f1.length : Int) r.f2 r.f3 r.f4 (by omega) (by omega)
  have := h.1
  have := h.2.1
  unfold rb
  omega
theorem bitsA : ∀ n : Fin 256, 0 ≤ Go.bits .andNot .u8 (n.val : Int) 192 ∧ Go.bits .andNot .u8 (n.val : Int) 192 ≤ 255 ∧ 0 ≤ Go.bits .or .u8 (Go.bits .andNot .u8 (n.val : Int) 192) 64 ∧ Go.bits .or .u8 (Go.bits .andNot .u8 (n.val : Int) 192) 64 ≤ 255 := by decide +kernel
theorem bitsB (x : Int) (h0 : 0 ≤ x) (h1 : x ≤ 255) : (0 ≤ Go.bits .andNot .u8 x 192 ∧ Go.bits .andNot .u8 x 192 ≤ 255) ∧ 0 ≤ Go.bits .or .u8 (Go.bits .andNot .u8 x 192) 64 ∧ Go.bits .or .u8 (Go.bits .andNot .u8 x 192) 64 ≤ 255 := by
  have := bitsA ⟨x.toNat, by omega⟩
  simp only at this
  rw [Int.toNat_of_nonneg h0] at this
  exact ⟨⟨this.1, this.2.1⟩, this.2.2⟩
/-- A record of a unit as it stands in a log. -/
def wr (u : UnitS) (r : RecS) : RecS := if u.f1 = true then ⟨YtpfmmbhbmdbmeaaGreatDoor.keyB r.f0 u.f2, r.f1, r.f2, Go.bits .or .u8 (Go.bits .andNot .u8 r.f3 192) 64, r.f4⟩ else ⟨r.f0, r.f1, r.f2, Go.bits .andNot .u8 r.f3 192, r.f4⟩
theorem wr_good (u : UnitS) (r : RecS) (hw : wfR r) (hr : ROk r) (h2 : 1 ≤ u.f2) (h3 : u.f2 ≤ 1000000) : RGood (wr u r) := by
  obtain ⟨w1, w2, w3, w4, w5⟩ := hw
  obtain ⟨r1, r2, r3⟩ := hr
  have m1 := YtpfmmbhbmdbmeaaGreatDoor.wf8 w4
  have m2 := YtpfmmbhbmdbmeaaGreatDoor.wf8 w5
  have hb := bitsB r.f3 m1.1 m1.2
  have b1 := YtpfmmbhbmdbmeaaGreatDoor.Byt.of_wf w1
  have b2 := YtpfmmbhbmdbmeaaGreatDoor.Byt.of_wf w2
  unfold wr
  split
  · refine ⟨?_, by simp only; omega, YtpfmmbhbmdbmeaaGreatDoor.bytKey b1 (by omega) (show _ ≤ _ by omega), b2, u64ok_wf w3, in8_mk ⟨hb.2.1, hb.2.2⟩, in8_mk m2⟩
    simp only
    rw [YtpfmmbhbmdbmeaaGreatDoor.keyB_len]
    omega
  · exact ⟨by simp only; omega, by simp only; omega, b1, b2, u64ok_wf w3, in8_mk ⟨hb.1.1, hb.1.2⟩, in8_mk m2⟩
theorem keyB_some (l : List Int) (v : Int) (hl : l.length ≤ 1000000) (h0 : 0 ≤ v) (h1 : v ≤ 1000000) : spec_KeyBytes.f l v = some (YtpfmmbhbmdbmeaaGreatDoor.keyB l v) := by
  unfold spec_KeyBytes.f
  rw [if_pos ⟨hl, u64ok_mk h0 (show _ ≤ _ by omega)⟩]
theorem written_l (u : UnitS) (h2 : 1 ≤ u.f2) (h3 : u.f2 ≤ 1000000) (hn : u.f0.length ≤ 10) (hr : ∀ r ∈ u.f0, ROk r) (R : List RecS) (K : Nat)
    (hend : ∀ k x41 acc, K < k → acc.length ≤ 100 → x41 = (u.f1 && !u.f3) → spec_Unit_written.j1 k acc x41 u.f0 u.f1 u.f2 u.f3 = some (acc ++ R)) :
    ∀ d i k acc, i + d = u.f0.length → K + d + 1 < k → acc.length + d ≤ 100 → spec_Unit_written.l0 k acc u.f0 (u.f0.length : Int) (i : Int) u.f0 u.f1 u.f2 u.f3 = some (acc ++ ((u.f0.drop i).map (wr u) ++ R)) := by
  intro d
  induction d with
  | zero =>
    intro i k acc hi hk ha
    obtain ⟨k, rfl⟩ : ∃ n, k = n + 1 := ⟨k - 1, by omega⟩
    rw [spec_Unit_written.l0, if_neg (by omega), List.drop_eq_nil_of_le (by omega), List.map_nil, List.nil_append]
    split
    · rename_i hf
      exact hend k _ acc (by omega) (by omega) (by rw [hf]; simp)
    · rename_i hf
      exact hend k _ acc (by omega) (by omega) (by simp [hf])
  | succ d ih =>
    intro i k acc hi hk ha
    obtain ⟨k, rfl⟩ : ∃ n, k = n + 1 := ⟨k - 1, by omega⟩
    have hri := hr _ (List.getElem_mem (show i < u.f0.length by omega))
    have hd : u.f0.drop i = u.f0[i] :: u.f0.drop (i + 1) := List.drop_eq_getElem_cons (by omega)
    rw [spec_Unit_written.l0, if_pos (by omega), if_pos (by omega), if_pos (by omega), rdR u.f0 i (by omega)]
    by_cases hf : u.f1 = true
    · rw [if_pos hf, keyB_some _ _ (by have := hri.2.1; omega) (by omega) h3, Option.bind_some, if_pos (by omega), w64 i (by omega), ih (i + 1) k _ (by omega) (by omega) (by simp; omega), hd, List.map_cons, wr, if_pos hf, List.append_assoc]
      rfl
    · rw [if_neg hf, if_pos (by omega), w64 i (by omega), ih (i + 1) k _ (by omega) (by omega) (by simp; omega), hd, List.map_cons, wr, if_neg hf, List.append_assoc]
      rfl
theorem decimal_dig : ∀ (n : Nat) (v : Int), n ≤ 100 → 0 ≤ v → v < 10 ^ (n + 1) → v ≤ 1000000 → ∃ l, 1 ≤ l.length ∧ l.length ≤ n + 1 ∧ (∀ c ∈ l, 48 ≤ c ∧ c ≤ 57) ∧ YtpfmmbhbmdbmeaaGreatDoor.digN 0 l = v.toNat ∧ ∀ k, n < k → spec_decimal.f k v = some l := by
  have dapp : ∀ (l : List Int) (a : Nat) (c : Int), YtpfmmbhbmdbmeaaGreatDoor.digN a (l ++ [c]) = YtpfmmbhbmdbmeaaGreatDoor.digN a l * 10 + (c.toNat - 48) := by
    intro l
    induction l with
    | nil => intro a c; rfl
    | cons x l ih => intro a c; exact ih _ c
  have d1 : ∀ v : Int, 0 ≤ v → v < 10 → IntKind.u64.wrap (48 + v) % 256 = 48 + v := by intro v h0 h1; unfold IntKind.wrap; simp [IntKind.signed, IntKind.bits]; omega
  intro n
  induction n with
  | zero =>
    intro v hn h0 h1 h2
    have h1 : v < 10 := by simpa using h1
    refine ⟨[(IntKind.u64.wrap (48 + v)) % 256], by simp, by simp, ?_, ?_, ?_⟩
    · intro x hx
      rw [List.mem_singleton.1 hx, d1 v h0 h1]
      omega
    · show 0 * 10 + ((IntKind.u64.wrap (48 + v) % 256).toNat - 48) = _
      rw [d1 v h0 h1]
      omega
    · intro k hk
      obtain ⟨k, rfl⟩ : ∃ m, k = m + 1 := ⟨k - 1, by omega⟩
      rw [spec_decimal.f, if_pos h1]
  | succ n ih =>
    intro v hn h0 h1 h2
    by_cases hv : v < 10
    · refine ⟨[(IntKind.u64.wrap (48 + v)) % 256], by simp, by simp, ?_, ?_, ?_⟩
      · intro x hx
        rw [List.mem_singleton.1 hx, d1 v h0 hv]
        omega
      · show 0 * 10 + ((IntKind.u64.wrap (48 + v) % 256).toNat - 48) = _
        rw [d1 v h0 hv]
        omega
      · intro k hk
        obtain ⟨k, rfl⟩ : ∃ m, k = m + 1 := ⟨k - 1, by omega⟩
        rw [spec_decimal.f, if_pos hv]
    · have hd : Int.tdiv v 10 = v / 10 := by rw [Int.tdiv_eq_ediv_of_nonneg h0]
      have hm : Int.tmod v 10 = v % 10 := by rw [Int.tmod_eq_emod_of_nonneg h0]
      have hw : IntKind.u64.wrap (v / 10) = v / 10 := by unfold IntKind.wrap; simp [IntKind.signed, IntKind.bits]; omega
      obtain ⟨l, hl0, hl1, hl2, hl3, hl4⟩ := ih (v / 10) (by omega) (by omega) (by rw [Int.pow_succ] at h1; omega) (by omega)
      refine ⟨l ++ [(IntKind.u64.wrap (48 + (Int.tmod v 10))) % 256], by simp, by simp; omega, ?_, ?_, ?_⟩
      · intro x hx
        rcases List.mem_append.1 hx with hx | hx
        · exact hl2 x hx
        · rw [List.mem_singleton.1 hx, hm, d1 _ (by omega) (by omega)]
          omega
      · rw [dapp, hl3, hm, d1 _ (by omega) (by omega)]
        omega
      · intro k hk
        obtain ⟨k, rfl⟩ : ∃ m, k = m + 1 := ⟨k - 1, by omega⟩
        rw [spec_decimal.f, if_neg hv, hd, hw, hl4 k (by omega), Option.bind_some, if_pos (by omega)]
/-- A number in decimal, as it stands in a log. -/
def dec (v : Int) : List Int := (spec_decimal.f 50 v).getD []
theorem dec_some (v : Int) (h1 : 1 ≤ v) (h2 : v ≤ 1000000) : 1 ≤ (dec v).length ∧ (dec v).length ≤ 7 ∧ (∀ c ∈ dec v, 48 ≤ c ∧ c ≤ 57) ∧ YtpfmmbhbmdbmeaaGreatDoor.digN 0 (dec v) = v.toNat ∧ ∀ k, 6 < k → spec_decimal.f k v = some (dec v) := by
  obtain ⟨l, a1, a2, a3, a4, a5⟩ := decimal_dig 6 v (by omega) (by omega) (by simp; omega) h2
  have e : dec v = l := by unfold dec; rw [a5 50 (by omega)]; rfl
  rw [e]
  exact ⟨a1, a2, a3, a4, a5⟩
def txnK : List Int := [33, 98, 97, 100, 103, 101, 114, 33, 116, 120, 110]
def endR (u : UnitS) : RecS := ⟨YtpfmmbhbmdbmeaaGreatDoor.keyB txnK u.f2, dec u.f2, 0, 128, 0⟩
/-- The records of a unit as they stand in a log. -/
def WU (u : UnitS) : List RecS := u.f0.map (wr u) ++ (if (u.f1 && !u.f3) = true then [endR u] else [])
theorem written_WU (u : UnitS) (hu : UOk u) (hw : ∀ r ∈ u.f0, wfR r) : (WU u).length ≤ 11 ∧ 1 ≤ (WU u).length ∧ (∀ r ∈ WU u, RGood r) ∧ ∀ k, 40 < k → spec_Unit_written.f k u.f0 u.f1 u.f2 u.f3 = some (WU u) := by
  obtain ⟨h0, h1, h2, h3, h4⟩ := hu
  obtain ⟨d1, d2, d3, _, d5⟩ := dec_some u.f2 h2 h3
  have hend : ∀ k x41 acc, 8 < k → acc.length ≤ 100 → x41 = (u.f1 && !u.f3) → spec_Unit_written.j1 k acc x41 u.f0 u.f1 u.f2 u.f3 = some (acc ++ (if (u.f1 && !u.f3) = true then [endR u] else [])) := by
    intro k x41 acc hk ha hx
    subst hx
    obtain ⟨k, rfl⟩ : ∃ n, k = n + 1 := ⟨k - 1, by omega⟩
    rw [spec_Unit_written.j1]
    by_cases hf : (u.f1 && !u.f3) = true
    · rw [if_pos hf, keyB_some _ _ (by simp) (by omega) h3, Option.bind_some, d5 k (by omega), Option.bind_some, if_pos (by omega), if_pos hf]
      rfl
    · rw [if_neg hf, if_neg hf, List.append_nil]
  refine ⟨?_, ?_, ?_, ?_⟩
  · unfold WU; rw [List.length_append, List.length_map]
    split <;> simp <;> omega
  · unfold WU; rw [List.length_append, List.length_map]; omega
  · intro r hr
    rcases List.mem_append.1 hr with h | h
    · obtain ⟨x, hx, rfl⟩ := List.mem_map.1 h
      exact wr_good u x (hw x hx) (h4 x hx) h2 h3
    · split at h
      · rw [List.mem_singleton.1 h]
        refine ⟨?_, by show (dec u.f2).length ≤ _; omega, YtpfmmbhbmdbmeaaGreatDoor.bytKey ?_ (by omega) (show _ ≤ _ by omega), fun x hx => by have := d3 x hx; omega, show u64ok 0 = true by decide, show in8 128 = true by decide, show in8 0 = true by decide⟩
        · show (YtpfmmbhbmdbmeaaGreatDoor.keyB txnK u.f2).length ≤ _; rw [YtpfmmbhbmdbmeaaGreatDoor.keyB_len]; simp [txnK]
        · intro x hx
          have : ∀ x ∈ ([33, 98, 97, 100, 103, 101, 114, 33, 116, 120, 110] : List Int), 0 ≤ x ∧ x ≤ 255 := by decide
          exact this x hx
      · cases h
  · intro k hk
    unfold spec_Unit_written.f
    have := written_l u h2 h3 h1 h4 _ 8 hend u.f0.length 0 k [] (by omega) (by omega) (by simp; omega)
    rw [List.drop_zero, List.nil_append] at this
    exact this
theorem logRecs_WU (l : List UnitS) (hn : l.length ≤ 20) (hu : ∀ u ∈ l, UOk u) (hw : ∀ u ∈ l, ∀ r ∈ u.f0, wfR r) : (l.flatMap WU).length ≤ 220 ∧ (∀ r ∈ l.flatMap WU, RGood r) ∧ ∀ k, 100 < k → spec_LogRecs.f k l = some (l.flatMap WU) := by
  have key : ∀ d i, i + d = l.length → ((l.drop i).flatMap WU).length ≤ 11 * d ∧ ∀ k acc, 50 + d < k → acc.length + 11 * d ≤ 1000 → spec_LogRecs.l0 k acc l (l.length : Int) (i : Int) = some (acc ++ (l.drop i).flatMap WU) := by
    intro d
    induction d with
    | zero =>
      intro i hi
      rw [List.drop_eq_nil_of_le (by omega)]
      refine ⟨by simp, fun k acc hk ha => ?_⟩
      obtain ⟨k, rfl⟩ : ∃ n, k = n + 1 := ⟨k - 1, by omega⟩
      rw [spec_LogRecs.l0, if_neg (by omega)]
      simp
    | succ d ih =>
      intro i hi
      have hm := List.getElem_mem (show i < l.length by omega)
      have hd : l.drop i = l[i] :: l.drop (i + 1) := List.drop_eq_getElem_cons (by omega)
      obtain ⟨h1, _, _, h3⟩ := written_WU l[i] (hu _ hm) (hw _ hm)
      obtain ⟨h4, h6⟩ := ih (i + 1) (by omega)
      rw [hd, List.flatMap_cons]
      refine ⟨by rw [List.length_append]; omega, fun k acc hk ha => ?_⟩
      obtain ⟨k, rfl⟩ : ∃ n, k = n + 1 := ⟨k - 1, by omega⟩
      rw [spec_LogRecs.l0, if_pos (by omega), if_pos (by omega), if_pos (by omega), rdU l i (by omega), h3 k (by omega), Option.bind_some, if_pos (by omega), w64 i (by omega), h6 k _ (by omega) (by rw [List.length_append]; omega), List.append_assoc]
  obtain ⟨h1, h3⟩ := key l.length 0 (by omega)
  rw [List.drop_zero] at h1 h3
  refine ⟨by omega, fun r hr => ?_, fun k hk => ?_⟩
  · obtain ⟨u, hum, hr⟩ := List.mem_flatMap.1 hr
    exact (written_WU u (hu u hum) (hw u hum)).2.2.1 r hr
  · have := h3 k [] (by omega) (by simp; omega)
    rw [List.nil_append] at this
    exact this
abbrev PubS := S51
theorem rdP (l : List PubS) (i : Nat) (h : i < l.length) : rd_T51 l (i : Int) = l[i] := by
  unfold rd_T51
  rw [Int.toNat_natCast, List.getD_eq_getElem?_getD, List.getElem?_eq_getElem h]
  rfl
def pub (r : RecS) : PubS := ⟨r.f0, r.f1, r.f2, r.f3, r.f4⟩
theorem givenRec_some (r : RecS) (h : RGood r) : impl_givenRec.f r.f0 r.f1 r.f2 r.f3 r.f4 = some (r.f0, r.f1, r.f2, r.f3, r.f4) := by
  unfold impl_givenRec.f impl_own.f
  rw [if_pos (by have := h.1; omega), Option.bind_some, if_pos (by have := h.2.1; omega), Option.bind_some]
theorem encEntry_some (r : RecS) (h : RGood r) : badgerlog_EncodeEntry.f r.f0 r.f1 r.f2 r.f3 r.f4 = some (rb r) := by
  obtain ⟨h0, h1, h2, h3, h4, h5, h6⟩ := h
  unfold badgerlog_EncodeEntry.f
  rw [if_pos ⟨⟨by omega, by omega⟩, ⟨bytb_of h2, bytb_of h3⟩, h4, h5, h6⟩]
  rfl
theorem flat_len (L : List RecS) (hg : ∀ r ∈ L, RGood r) : (L.map rb).flatten.length ≤ 2026 * L.length := by
  induction L with
  | nil => simp
  | cons a L ih =>
    have h1 := rb_len (hg a (List.mem_cons_self ..))
    have h2 := ih fun r hr => hg r (List.mem_cons_of_mem _ hr)
    rw [List.map_cons, List.flatten_cons, List.length_append, List.length_cons]
    omega
theorem log_some (L : List RecS) (hg : ∀ r ∈ L, RGood r) (hn : L.length ≤ 1000) : ∀ k, 1002 < k → badgerlog_Log.f k (L.map pub) = some (List.replicate 20 0 ++ (L.map rb).flatten) := by
  have key : ∀ d i k acc, i + d = L.length → d + 1 < k → acc.length + 2026 * d ≤ 100000000 → badgerlog_Log.l0 k acc (L.map pub) ((L.map pub).length : Int) (i : Int) = some (acc ++ ((L.drop i).map rb).flatten) := by
    intro d
    induction d with
    | zero =>
      intro i k acc hi hk ha
      obtain ⟨k, rfl⟩ : ∃ n, k = n + 1 := ⟨k - 1, by omega⟩
      rw [badgerlog_Log.l0, if_neg (by rw [List.length_map]; omega), List.drop_eq_nil_of_le (by omega)]
      simp
    | succ d ih =>
      intro i k acc hi hk ha
      obtain ⟨k, rfl⟩ : ∃ n, k = n + 1 := ⟨k - 1, by omega⟩
      have hm := hg _ (List.getElem_mem (show i < L.length by omega))
      have hd : L.drop i = L[i] :: L.drop (i + 1) := List.drop_eq_getElem_cons (by omega)
      have hl := rb_len hm
      have he : rd_T51 (L.map pub) (i : Int) = pub L[i] := by rw [rdP _ _ (by rw [List.length_map]; omega), List.getElem_map]
      rw [badgerlog_Log.l0, if_pos (by rw [List.length_map]; omega), if_pos (by omega), if_pos (by rw [List.length_map]; omega), he]
      show ((badgerlog_EncodeEntry.f L[i].f0 L[i].f1 L[i].f2 L[i].f3 L[i].f4).bind _) = _
      rw [encEntry_some _ hm, Option.bind_some, if_pos (by omega), w64 i (by omega), ih (i + 1) k _ (by omega) (by omega) (by rw [List.length_append]; omega), hd, List.map_cons, List.flatten_cons, List.append_assoc]
  intro k hk
  unfold badgerlog_Log.f
  rw [if_pos (by decide)]
  have := key L.length 0 k (List.replicate 20 0) (by omega) (by omega) (by simp; omega)
  rw [List.drop_zero] at this
  exact this
theorem logOf_some (L : List RecS) (hg : ∀ r ∈ L, RGood r) (hn : L.length ≤ 1000) (k : Nat) (hk : 3000 < k) : impl_LogOf.f k L = some (List.replicate 20 0 ++ (L.map rb).flatten) := by
  have hfl := flat_len L hg
  have key : ∀ d i k acc, i + d = L.length → 1003 + d < k → acc = (L.take i).map pub → impl_LogOf.l0 k acc L (L.length : Int) (i : Int) = some (List.replicate 20 0 ++ (L.map rb).flatten) := by
    intro d
    induction d with
    | zero =>
      intro i k acc hi hk ha
      obtain ⟨k, rfl⟩ : ∃ n, k = n + 1 := ⟨k - 1, by omega⟩
      rw [impl_LogOf.l0, if_neg (by omega), ha, List.take_of_length_le (by omega), log_some L hg hn k (by omega), Option.bind_some, impl_own.f, if_pos (by rw [List.length_append, List.length_replicate]; omega), Option.bind_some]
    | succ d ih =>
      intro i k acc hi hk ha
      obtain ⟨k, rfl⟩ : ∃ n, k = n + 1 := ⟨k - 1, by omega⟩
      have hm := hg _ (List.getElem_mem (show i < L.length by omega))
      rw [impl_LogOf.l0, if_pos (by omega), if_pos (by omega), if_pos (by omega), rdR L i (by omega), givenRec_some _ hm, Option.bind_some, if_pos (by rw [ha, List.length_map, List.length_take]; omega), w64 i (by omega)]
      refine ih (i + 1) k _ (by omega) (by omega) ?_
      rw [ha, List.take_succ_eq_append_getElem (by omega), List.map_append]
      rfl
  unfold impl_LogOf.f
  exact key L.length 0 k [] (by omega) (by omega) (by simp)
theorem specRec_some (r : RecS) (h : RGood r) : spec_RecBytes.f r.f0 r.f1 r.f2 r.f3 r.f4 = some (rb r) := by
  obtain ⟨h1, h2, hb, hc, hu, m1, m2⟩ := h
  have hu := u64ok_of hu
  have hL := YtpfmmbhbmdbmeaaGreatDoor.headB_len (r.f0.length : Int) (r.f1.length : Int) r.f2 r.f3 r.f4 (by omega) (by omega)
  have hP : YtpfmmbhbmdbmeaaGreatDoor.Byt (YtpfmmbhbmdbmeaaGreatDoor.recP r.f3 r.f4 r.f2 r.f0 r.f1) := (YtpfmmbhbmdbmeaaGreatDoor.headB_byt _ _ _ _ _ (by omega) (by omega) (by omega) (by omega) hu.1 hu.2 (in8_of m1) (in8_of m2)).append (hb.append hc)
  have hin := YtpfmmbhbmdbmeaaGreatDoor.crcOut_in _ hP
  have hlen : (YtpfmmbhbmdbmeaaGreatDoor.recP r.f3 r.f4 r.f2 r.f0 r.f1).length ≤ 3000 := by unfold YtpfmmbhbmdbmeaaGreatDoor.recP; simp; omega
  have u64w : ∀ (n : Int), 0 ≤ n → n ≤ 4294967295 → IntKind.u64.wrap n = n := by intro n h0 h; unfold IntKind.wrap; simp [IntKind.signed, IntKind.bits]; omega
  unfold spec_RecBytes.f spec_HeadOf.f
  rw [Option.bind_some]
  simp only
  rw [Int.emod_eq_of_lt (by omega) (by omega), Int.emod_eq_of_lt (by omega) (by omega), spec_HeadBytes.f, if_pos ⟨by omega, by omega, u64ok_mk hu.1 hu.2⟩, Option.bind_some, spec_Join.f, if_pos ⟨by simp, by simp; omega⟩, Option.bind_some]
  have e1 : [YtpfmmbhbmdbmeaaGreatDoor.headB (r.f0.length : Int) (r.f1.length : Int) r.f2 r.f3 r.f4, r.f0, r.f1].flatten = YtpfmmbhbmdbmeaaGreatDoor.recP r.f3 r.f4 r.f2 r.f0 r.f1 := by simp [YtpfmmbhbmdbmeaaGreatDoor.recP]
  rw [e1, spec_Castagnoli.f, if_pos ⟨by omega, bytb_of hP⟩, Option.bind_some, u64w _ hin.1 hin.2, spec_High.f, if_pos ⟨hin.1, by omega, by omega⟩, Option.bind_some]
  have e2 : YtpfmmbhbmdbmeaaGreatDoor.highL (YtpfmmbhbmdbmeaaGreatDoor.crcOut (YtpfmmbhbmdbmeaaGreatDoor.recP r.f3 r.f4 r.f2 r.f0 r.f1)) (4 : Int).toNat = YtpfmmbhbmdbmeaaGreatDoor.be32 (YtpfmmbhbmdbmeaaGreatDoor.crcOut (YtpfmmbhbmdbmeaaGreatDoor.recP r.f3 r.f4 r.f2 r.f0 r.f1)) := YtpfmmbhbmdbmeaaGreatDoor.highL_four _ hin.1 (by have := hin.2; omega)
  rw [e2, spec_Join.f, if_pos ⟨by simp, by simp [YtpfmmbhbmdbmeaaGreatDoor.be32, YtpfmmbhbmdbmeaaGreatDoor.be16]; omega⟩, Option.bind_some]
  simp [YtpfmmbhbmdbmeaaGreatDoor.recB, rb]
/-- What is handed on of a log of units, of which so many bytes are right: in plain words. -/
def szR (r : RecS) : Nat := (rb r).length
def posR : Nat → List RecS → List (RecS × Nat)
  | _, [] => []
  | p, r :: l => (r, p) :: posR (p + szR r) l
def totR : List RecS → Nat
  | [] => 0
  | r :: l => szR r + totR l
def cutU (u : UnitS) (n : Nat) : Nat := if u.f1 = true then n - 1 else n
def repP (right : Int) : Nat → Nat → List UnitS → List (RecS × Nat) × Nat
  | _, en, [] => ([], en)
  | at', en, u :: us => if ((at' + totR (WU u) : Nat) : Int) > right ∨ u.f3 = true then ([], en) else ((posR at' (WU u)).take (cutU u (WU u).length) ++ (repP right (at' + totR (WU u)) (at' + totR (WU u)) us).1, (repP right (at' + totR (WU u)) (at' + totR (WU u)) us).2)
theorem posR_len : ∀ (l : List RecS) (p : Nat), (posR p l).length = l.length
  | [], _ => rfl
  | r :: l, p => by show (_ :: _).length = _; rw [List.length_cons, posR_len, List.length_cons]
theorem posR_fst : ∀ (l : List RecS) (p : Nat), (posR p l).map (·.1) = l
  | [], _ => rfl
  | r :: l, p => by show _ :: _ = _; rw [posR_fst]
theorem posR_at : ∀ (l : List RecS) (p j : Nat) (r : RecS), l[j]? = some r → (posR p l)[j]? = some (r, p + totR (l.take j))
  | [], _, _, _, h => by simp at h
  | x :: l, p, 0, r, h => by
    rw [List.getElem?_cons_zero] at h
    injection h with h
    subst h
    rfl
  | x :: l, p, j + 1, r, h => by
    rw [List.getElem?_cons_succ] at h
    have := posR_at l (p + szR x) j r h
    show (posR (p + szR x) l)[j]? = _
    rw [this]
    show _ = some (r, p + (szR x + totR (l.take j)))
    rw [Nat.add_assoc]
theorem totR_app : ∀ (l k : List RecS), totR (l ++ k) = totR l + totR k
  | [], k => by show totR k = 0 + _; omega
  | r :: l, k => by show szR r + totR (l ++ k) = szR r + totR l + _; rw [totR_app]; omega
theorem totR_le (l : List RecS) (hg : ∀ r ∈ l, RGood r) : totR l ≤ 2026 * l.length := by
  induction l with
  | nil => exact Nat.le_refl _
  | cons r l ih =>
    have h1 := rb_len (hg r (List.mem_cons_self ..))
    have h2 := ih fun x hx => hg x (List.mem_cons_of_mem _ hx)
    show szR r + _ ≤ _
    rw [List.length_cons]
    unfold szR
    omega
end Go.Proofs.YtpfmmbhbmdbmeaaGreatDoorQ.QL
end
section
/- Units within the bounds, whole. -/
namespace Go.Proofs.YtpfmmbhbmdbmeaaGreatDoorQ.QL
open Go.RowKit Go.Proofs.YtpfmmbhbmdbmeaaGreatDoorQ.Ext
set_option linter.unusedVariables false
set_option linter.unusedSimpArgs false
/-- Unit i of n. -/
def UOk2 (n i : Nat) (u : UnitS) : Prop := UOk u ∧ (u.f1 = false → u.f0.length = 1 ∧ u.f3 = false) ∧ (u.f3 = true → i + 1 = n)
theorem j1_some2 (k : Nat) (x0 l : List UnitS) (n j : Int) (x22 : Bool) (f0 : List RecS) (f1 : Bool) (f2 : Int) (f3 : Bool) (Q : Bool → Prop) (hQ : Q false)
    (h : x22 = false → 1 ≤ f0.length → f0.length ≤ 10 → 1 ≤ f2 → f2 ≤ 1000000 → (f1 = false → f0.length = 1 ∧ f3 = false) → ∃ b, laws_unitsOk.l1 k x0 l n j f0 (f0.length : Int) 0 = some b ∧ Q b) : ∃ b, laws_unitsOk.j1 (k + 2) x0 l n j x22 f0 f1 f2 f3 = some b ∧ Q b := by
  have key : x22 = false → 1 ≤ f0.length → f0.length ≤ 10 → ¬ f2 < 1 → (f1 = false → f0.length = 1 ∧ f3 = false) → ∃ b, laws_unitsOk.j2 (k + 1) x0 l n j (decide (f2 > 1000000)) f0 f1 f2 f3 = some b ∧ Q b := by
    intro h0 h1 h2 h3 h5
    by_cases h4 : f2 > 1000000
    · rw [decide_eq_true h4, j2_t]; exact ⟨false, rfl, hQ⟩
    · rw [decide_eq_false h4, j2_f]; exact h h0 h1 h2 (by omega) (by omega) h5
  unfold laws_unitsOk.j1
  cases x22
  · rw [if_neg (by simp)]
    by_cases h1 : (f0.length : Int) < 1
    · rw [if_pos h1, j2_t]; exact ⟨false, rfl, hQ⟩
    rw [if_neg h1]
    by_cases h2 : (f0.length : Int) > 10
    · rw [if_pos h2, j2_t]; exact ⟨false, rfl, hQ⟩
    rw [if_neg h2]
    cases f1
    · rw [if_neg (by simp)]
      by_cases h3 : (f0.length : Int) = 1
      · rw [if_pos h3]
        cases f3
        · rw [if_neg (by simp)]
          by_cases h4 : f2 < 1
          · rw [if_pos h4, j2_t]; exact ⟨false, rfl, hQ⟩
          · rw [if_neg h4]; exact key rfl (by omega) (by omega) h4 (fun _ => ⟨by omega, rfl⟩)
        · rw [if_pos rfl, j2_t]; exact ⟨false, rfl, hQ⟩
      · rw [if_neg h3, j2_t]; exact ⟨false, rfl, hQ⟩
    · rw [if_pos rfl]
      by_cases h4 : f2 < 1
      · rw [if_pos h4, j2_t]; exact ⟨false, rfl, hQ⟩
      · rw [if_neg h4]; exact key rfl (by omega) (by omega) h4 (fun h => by cases h)
  · rw [if_pos rfl]; exact ⟨false, rfl, hQ⟩
theorem units_l02 (l : List UnitS) (hl : l.length ≤ 2147483647) (hm : mxU l ≤ 2147483647) : ∀ d i k, i + d = l.length → d * (mxU l + 6) < k → (∀ j u, j < i → l[j]? = some u → UOk2 l.length j u) →
    ∃ b, laws_unitsOk.l0 k l l (l.length : Int) (i : Int) = some b ∧ (b = true → (∀ j u, l[j]? = some u → UOk2 l.length j u) ∧ l.length ≤ 20) := by
  intro d
  induction d with
  | zero =>
    intro i k hi hk hp
    obtain ⟨k, rfl⟩ : ∃ n, k = n + 1 := ⟨k - 1, by omega⟩
    rw [laws_unitsOk.l0, if_neg (by omega)]
    refine ⟨_, rfl, fun h => ⟨fun j u hj => hp j u (by have := (List.getElem?_eq_some_iff.1 hj).1; omega) hj, ?_⟩⟩
    have := of_decide_eq_true h
    omega
  | succ d ih =>
    intro i k hi hk hp
    rw [Nat.succ_mul] at hk
    obtain ⟨k, rfl⟩ : ∃ n, k = n + 3 := ⟨k - 3, by omega⟩
    have hmx := mxU_le l l[i] (List.getElem_mem (by omega))
    have key : ∀ x22 : Bool, (x22 = false → l[i].f3 = true → i + 1 = l.length) → ∃ b, laws_unitsOk.j1 (k + 2) l l (l.length : Int) (i : Int) x22 l[i].f0 l[i].f1 l[i].f2 l[i].f3 = some b ∧ (b = true → (∀ j u, l[j]? = some u → UOk2 l.length j u) ∧ l.length ≤ 20) := by
      intro x22 hx
      refine j1_some2 k l l _ _ x22 _ _ _ _ _ (by simp) ?_
      intro h0 h1 h2 h3 h4 h5
      refine units_l1 l l l[i].f0 i (d * (mxU l + 6)) (by omega) (by omega) _ (by simp) ?_ l[i].f0.length 0 k (by omega) (by omega) (by simp)
      intro k' hk' hr
      refine ih (i + 1) k' (by omega) hk' ?_
      intro j u hj hu
      rcases Nat.lt_or_ge j i with hlt | hge
      · exact hp j u hlt hu
      · obtain rfl : j = i := by omega
        rw [List.getElem?_eq_getElem (by omega)] at hu
        injection hu with hu
        subst hu
        exact ⟨⟨h1, h2, h3, h4, hr⟩, h5, hx h0⟩
    rw [laws_unitsOk.l0, if_pos (by omega), if_pos (by omega), if_pos (by omega), rdU l i (by omega)]
    split
    · refine key _ (fun h _ => ?_)
      have h1 := of_decide_eq_false h
      unfold wrap64 at h1
      omega
    · rename_i hf
      exact key _ (fun _ h => absurd h hf)
theorem units_k2 (l : List UnitS) (hl : l.length ≤ 2147483647) (hm : mxU l ≤ 2147483647) (k : Nat) (hk : l.length * (mxU l + 6) < k) : ∃ b, laws_unitsOk.f k l = some b ∧ (b = true → (∀ j u, l[j]? = some u → UOk2 l.length j u) ∧ l.length ≤ 20) := by
  unfold laws_unitsOk.f
  exact units_l02 l hl hm l.length 0 k (by omega) hk (fun j u h => absurd h (by omega))
end Go.Proofs.YtpfmmbhbmdbmeaaGreatDoorQ.QL
end
