/- Ranges of keys: what the printed functions answer. -/
import Derived.Test.YtadhdimleabljaaQR2
import Derived.Test.YtadhdimleabljaaQR1
import Derived.Test.YtadhdimleabljaaQR1
namespace Go.Proofs.YtadhdimleabljaaQ.QR
open Go.RowKit Go.Proofs.YtadhdimleabljaaQ.Ext
set_option linter.unusedVariables false
set_option linter.unusedSimpArgs false
theorem sgn_zero (x y : Int) : Ytadhdimleabljaa.sgn x y = 0 ↔ x = y := by
  unfold Ytadhdimleabljaa.sgn
  split
  · constructor
    · intro h; simp at h
    · intro h; omega
  · split <;> simp_all
theorem order_zero (l : List Int) (v : Int) (k : List Int) (u : Int) : Ytadhdimleabljaa.orderL l v k u = 0 ↔ l = k ∧ v = u := by
  unfold Ytadhdimleabljaa.orderL
  split
  · rename_i h
    rw [sgn_zero, (Ytadhdimleabljaa.cmpL_eq l k).1 h]
    constructor
    · intro e; exact ⟨rfl, e.symm⟩
    · intro e; exact e.2.symm
  · rename_i h
    constructor
    · intro e; exact absurd e h
    · intro e; exact absurd ((Ytadhdimleabljaa.cmpL_eq l k).2 e.1) h
theorem keyB_inj {l k : List Int} {v u : Int} (h : Ytadhdimleabljaa.keyB l v = Ytadhdimleabljaa.keyB k u) : l = k ∧ v = u := by
  have := Ytadhdimleabljaa.cmpKeys_keyB l k v u
  have e : Ytadhdimleabljaa.cmpKeys (Ytadhdimleabljaa.keyB l v) (Ytadhdimleabljaa.keyB k u) = 0 := by
    rw [h, Ytadhdimleabljaa.cmpKeys_keyB, order_zero]
    exact ⟨rfl, rfl⟩
  rw [e] at this
  exact (order_zero l v k u).1 this.symm
theorem order_f (l k : List Int) (v u : Int) (hl : l.length ≤ 4000000000) (hk : k.length ≤ 4000000000) : spec_Order.f l v k u = some (Ytadhdimleabljaa.orderL l v k u) := by
  unfold spec_Order.f spec_Compare.f
  rw [if_pos ⟨hl, hk⟩, Option.bind_some]
  unfold Ytadhdimleabljaa.orderL Ytadhdimleabljaa.sgn
  by_cases hz : Ytadhdimleabljaa.cmpL l k = 0
  · rw [if_pos hz, if_pos hz]
    rcases Int.lt_trichotomy v u with h | h | h
    · rw [if_neg (by omega), if_pos h, if_neg (by omega), if_neg (by omega)]
    · rw [if_neg (by omega), if_neg (by omega), if_neg (by omega), if_pos h.symm]
    · rw [if_pos h, if_pos h]
  · rw [if_neg hz, if_neg hz]
/-- A bound: there, its key, its version. -/
structure Bd where
  (t : Bool) (l : List Int) (v : Int)
structure Rg where
  (a b : Bd) (all : Bool)
def Bd.fits (b : Bd) : Prop := b.l.length ≤ 2147483647
def Bd.wf (b : Bd) : Prop := Ytadhdimleabljaa.Byt b.l ∧ u64ok b.v = true
def Bd.okB (b : Bd) : Bool := !b.t || (decide (1 ≤ b.l.length) && decide (b.l.length ≤ 40))
def Rg.wide (r : Rg) : Bool := if r.all then !r.a.t && !r.b.t else r.a.t && r.b.t && decide (Ytadhdimleabljaa.orderL r.a.l r.a.v r.b.l r.b.v ≤ 0)
def Rg.fits (r : Rg) : Prop := r.a.fits ∧ r.b.fits
def Rg.wf (r : Rg) : Prop := r.a.wf ∧ r.b.wf
def Rg.s (r : Rg) : S63 := ⟨⟨r.a.t, r.a.l, r.a.v⟩, ⟨r.b.t, r.b.l, r.b.v⟩, r.all⟩
def Rg.ok (r : Rg) : Bool := r.wide && (r.a.okB && r.b.okB)
theorem wide_f (r : Rg) (h : r.fits) : spec_Wide.f r.a.t r.a.l r.a.v r.b.t r.b.l r.b.v r.all = some r.wide := by
  obtain ⟨⟨t, l, v⟩, ⟨t2, l2, v2⟩, all⟩ := r
  obtain ⟨h1, h2⟩ := h
  simp only [Bd.fits] at h1 h2
  simp only [spec_Wide.f, spec_OrderBounds.f, order_f l l2 v v2 (by omega) (by omega), Option.bind_some, Rg.wide]
  cases all <;> cases t <;> cases t2 <;> simp
theorem boundOk_f (b : Bd) : laws_boundOk.f b.t b.l b.v = some b.okB := by
  obtain ⟨t, l, v⟩ := b
  simp only [laws_boundOk.f, Bd.okB]
  cases t
  · simp
  · simp only [if_true]
    by_cases h : 1 ≤ l.length
    · rw [if_pos (by omega)]
      simp [h]
      omega
    · rw [if_neg (by omega)]
      simp [h]
theorem rangesOk_step (k : Nat) (ls : List (S63)) (i : Nat) (r : Rg) (hr : ls[i]? = some r.s) (hf : r.fits) :
    laws_rangesOk.l0 (k + 1) ls (ls.length : Int) (i : Int) = if r.ok then laws_rangesOk.l0 k ls (ls.length : Int) (wrap64 ((i : Int) + 1)) else some false := by
  have hlt : i < ls.length := (List.getElem?_eq_some_iff.1 hr).1
  have hrd : rd_T63 ls (i : Int) = r.s := by
    unfold rd_T63
    rw [Int.toNat_natCast, List.getD_eq_getElem?_getD, hr]
    rfl
  rw [laws_rangesOk.l0]
  rw [if_pos (by omega), if_pos (by omega), if_pos (by omega)]
  simp only [hrd, Rg.s]
  rw [wide_f r hf]
  simp only [Option.bind_some, boundOk_f, Rg.ok]
  by_cases h1 : r.wide = true <;> by_cases h2 : r.a.okB = true <;> by_cases h3 : r.b.okB = true <;> simp [h1, h2, h3]
theorem rangesOk_two (k : Nat) (r s : Rg) (hr : r.fits) (hs : s.fits) : laws_rangesOk.f (k + 3) [r.s, s.s] = some (r.ok && s.ok) := by
  unfold laws_rangesOk.f
  have e1 := rangesOk_step (k + 2) [r.s, s.s] 0 r rfl hr
  have e2 := rangesOk_step (k + 1) [r.s, s.s] 1 s rfl hs
  have e3 : laws_rangesOk.l0 (k + 1) [r.s, s.s] (([r.s, s.s].length : Nat) : Int) (2 : Int) = some true := by
    rw [laws_rangesOk.l0, if_neg (by simp)]
  have w1 : wrap64 (((0 : Nat) : Int) + 1) = ((1 : Nat) : Int) := by unfold wrap64; omega
  have w2 : wrap64 (((1 : Nat) : Int) + 1) = (2 : Int) := by unfold wrap64; omega
  rw [w1, e2, w2, e3] at e1
  have e0 : laws_rangesOk.l0 (k + 3) [r.s, s.s] (([r.s, s.s].length : Nat) : Int) (0 : Int) = laws_rangesOk.l0 (k + 2 + 1) [r.s, s.s] (([r.s, s.s].length : Nat) : Int) ((0 : Nat) : Int) := rfl
  rw [e0, e1]
  cases r.ok <;> cases s.ok <;> simp
theorem fits_f (r : Rg) : laws_zzFits9.f r.a.t r.a.l r.a.v r.b.t r.b.l r.b.v r.all = some (decide (r.a.l.length ≤ 2147483647) && decide (r.b.l.length ≤ 2147483647)) := by
  simp only [laws_zzFits9.f, laws_zzFits5.f]
  by_cases h1 : r.a.l.length ≤ 2147483647
  · rw [if_neg (by omega)]
    by_cases h2 : r.b.l.length ≤ 2147483647
    · rw [if_neg (by omega)]; simp [h1, h2]
    · rw [if_pos (by omega)]; simp [h1, h2]
  · rw [if_pos (by omega)]; simp [h1]
def Bd.bytes (b : Bd) : List Int := if b.t then Ytadhdimleabljaa.keyB b.l b.v else []
theorem okB_len {b : Bd} (h : b.okB = true) (ht : b.t = true) : 1 ≤ b.l.length ∧ b.l.length ≤ 40 := by
  simp [Bd.okB, ht] at h
  exact h
theorem bytesOf_f (b : Bd) (hw : b.wf) (ho : b.okB = true) : impl_bytesOf.f b.t b.l b.v = some b.bytes := by
  obtain ⟨t, l, v⟩ := b
  unfold impl_bytesOf.f Bd.bytes
  cases t with
  | false => rfl
  | true =>
    have h2 := okB_len ho rfl
    simp only at h2
    simp only [if_true, impl_own.f]
    rw [if_pos (by omega), Option.bind_some, badgery_KeyWithTs.f, if_pos ⟨by omega, hw.2⟩]
    rfl
theorem bytes_byt (b : Bd) (hw : b.wf) : bytb b.bytes = true := by
  unfold Bd.bytes
  split
  · exact bytb_of (Ytadhdimleabljaa.bytKey hw.1 (u64ok_of hw.2).1 (u64ok_of hw.2).2)
  · rfl
theorem rangeOf_f (r : Rg) (hw : r.wf) (ha : r.a.okB = true) (hb : r.b.okB = true) : impl_rangeOf.f r.a.t r.a.l r.a.v r.b.t r.b.l r.b.v r.all = some (r.a.bytes, r.b.bytes, r.all) := by
  unfold impl_rangeOf.f
  rw [bytesOf_f _ hw.1 ha, Option.bind_some, bytesOf_f _ hw.2 hb]
  rfl
theorem ok_parts {r : Rg} (h : r.ok = true) : r.wide = true ∧ r.a.okB = true ∧ r.b.okB = true := by
  unfold Rg.ok at h
  rw [Bool.and_eq_true, Bool.and_eq_true] at h
  exact h
def Rg.same (r s : Rg) : Bool := decide (r.a.bytes = s.a.bytes) && (decide (r.b.bytes = s.b.bytes) && (r.all == s.all))
theorem sameRange_f (r s : Rg) (hr : r.wf) (hs : s.wf) (ho : r.ok = true) (hp : s.ok = true) :
    impl_SameRange.f r.a.t r.a.l r.a.v r.b.t r.b.l r.b.v r.all s.a.t s.a.l s.a.v s.b.t s.b.l s.b.v s.all = some (r.same s) := by
  obtain ⟨_, o1, o2⟩ := ok_parts ho
  obtain ⟨_, p1, p2⟩ := ok_parts hp
  unfold impl_SameRange.f
  rw [rangeOf_f r hr o1 o2, Option.bind_some, rangeOf_f s hs p1 p2, Option.bind_some]
  simp only [badgercompact_SameRange.f, badgercompact_Range_key.f, Option.bind_some, badgercompact_keyRange_equals.f, bytes_Equal.f, bytes_byt _ hr.1, bytes_byt _ hr.2, bytes_byt _ hs.1, bytes_byt _ hs.2, and_self, if_true, Rg.same]
  by_cases h1 : r.a.bytes = s.a.bytes <;> by_cases h2 : r.b.bytes = s.b.bytes <;> simp [h1, h2]
def Bd.same (b c : Bd) : Bool := b.t == c.t && (!b.t || decide (Ytadhdimleabljaa.orderL b.l b.v c.l c.v = 0))
theorem sameBound_f (b c : Bd) (hb : b.fits) (hc : c.fits) : spec_SameBound.f b.t b.l b.v c.t c.l c.v = some (b.same c) := by
  obtain ⟨t, l, v⟩ := b
  obtain ⟨t2, l2, v2⟩ := c
  simp only [Bd.fits] at hb hc
  simp only [spec_SameBound.f, spec_OrderBounds.f, order_f l l2 v v2 (by omega) (by omega), Option.bind_some, Bd.same]
  have e : (Ytadhdimleabljaa.orderL l v l2 v2 == 0) = decide (Ytadhdimleabljaa.orderL l v l2 v2 = 0) := by rw [Bool.eq_iff_iff]; simp
  cases t <;> cases t2 <;> simp [e]
theorem bytes_len (b : Bd) (h : b.t = true) : b.bytes.length = b.l.length + 8 := by
  unfold Bd.bytes
  rw [if_pos h, Ytadhdimleabljaa.keyB, List.length_append, Ytadhdimleabljaa.be64_len]
theorem same_bytes (b c : Bd) : b.same c = decide (b.bytes = c.bytes) := by
  obtain ⟨t, l, v⟩ := b
  obtain ⟨t2, l2, v2⟩ := c
  cases t <;> cases t2
  · simp [Bd.same, Bd.bytes]
  · have : (Ytadhdimleabljaa.keyB l2 v2).length = l2.length + 8 := by rw [Ytadhdimleabljaa.keyB, List.length_append, Ytadhdimleabljaa.be64_len]
    have hne : ¬ ([] : List Int) = Ytadhdimleabljaa.keyB l2 v2 := fun e => by rw [← e] at this; simp at this
    simp [Bd.same, Bd.bytes, hne]
  · have : (Ytadhdimleabljaa.keyB l v).length = l.length + 8 := by rw [Ytadhdimleabljaa.keyB, List.length_append, Ytadhdimleabljaa.be64_len]
    have hne : ¬ Ytadhdimleabljaa.keyB l v = [] := fun e => by rw [e] at this; simp at this
    simp [Bd.same, Bd.bytes, hne]
  · have : (Ytadhdimleabljaa.keyB l v = Ytadhdimleabljaa.keyB l2 v2) ↔ Ytadhdimleabljaa.orderL l v l2 v2 = 0 := by
      rw [order_zero]
      exact ⟨keyB_inj, fun ⟨e1, e2⟩ => by rw [e1, e2]⟩
    simp [Bd.same, Bd.bytes, this]
theorem same_eq (r s : Rg) : r.same s = (r.all == s.all && (r.a.same s.a && r.b.same s.b)) := by
  rw [same_bytes, same_bytes, Rg.same]
  cases decide (r.a.bytes = s.a.bytes) <;> cases decide (r.b.bytes = s.b.bytes) <;> cases (r.all == s.all) <;> rfl
theorem same_refl (r : Rg) : r.same r = true := by simp [Rg.same]
end Go.Proofs.YtadhdimleabljaaQ.QR
