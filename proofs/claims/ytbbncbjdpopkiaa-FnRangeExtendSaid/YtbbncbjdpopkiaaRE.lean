/- A range made wider by another one: what the printed functions answer. -/
import Derived.Test.YtbbncbjdpopkiaaQE4
import Derived.Test.YtbbncbjdpopkiaaQE3
namespace Go.Proofs.YtbbncbjdpopkiaaQ.QE
open Go.RowKit Go.Proofs.YtbbncbjdpopkiaaQ.Ext
set_option linter.unusedVariables false
set_option linter.unusedSimpArgs false
theorem sgn_zero (x y : Int) : Ytbbncbjdpopkiaa.sgn x y = 0 ↔ x = y := by
  unfold Ytbbncbjdpopkiaa.sgn
  split
  · constructor
    · intro h; simp at h
    · intro h; omega
  · split <;> simp_all
theorem order_zero (l : List Int) (v : Int) (k : List Int) (u : Int) : Ytbbncbjdpopkiaa.orderL l v k u = 0 ↔ l = k ∧ v = u := by
  unfold Ytbbncbjdpopkiaa.orderL
  split
  · rename_i h
    rw [sgn_zero, (Ytbbncbjdpopkiaa.cmpL_eq l k).1 h]
    constructor
    · intro e; exact ⟨rfl, e.symm⟩
    · intro e; exact e.2.symm
  · rename_i h
    constructor
    · intro e; exact absurd e h
    · intro e; exact absurd ((Ytbbncbjdpopkiaa.cmpL_eq l k).2 e.1) h
theorem keyB_inj {l k : List Int} {v u : Int} (h : Ytbbncbjdpopkiaa.keyB l v = Ytbbncbjdpopkiaa.keyB k u) : l = k ∧ v = u := by
  have := Ytbbncbjdpopkiaa.cmpKeys_keyB l k v u
  have e : Ytbbncbjdpopkiaa.cmpKeys (Ytbbncbjdpopkiaa.keyB l v) (Ytbbncbjdpopkiaa.keyB k u) = 0 := by
    rw [h, Ytbbncbjdpopkiaa.cmpKeys_keyB, order_zero]
    exact ⟨rfl, rfl⟩
  rw [e] at this
  exact (order_zero l v k u).1 this.symm
theorem order_f (l k : List Int) (v u : Int) (hl : l.length ≤ 4000000000) (hk : k.length ≤ 4000000000) : spec_Order.f l v k u = some (Ytbbncbjdpopkiaa.orderL l v k u) := by
  unfold spec_Order.f spec_Compare.f
  rw [if_pos ⟨hl, hk⟩, Option.bind_some]
  unfold Ytbbncbjdpopkiaa.orderL Ytbbncbjdpopkiaa.sgn
  by_cases hz : Ytbbncbjdpopkiaa.cmpL l k = 0
  · rw [if_pos hz, if_pos hz]
    rcases Int.lt_trichotomy v u with h | h | h
    · rw [if_neg (by omega), if_pos h, if_neg (by omega), if_neg (by omega)]
    · rw [if_neg (by omega), if_neg (by omega), if_neg (by omega), if_pos h.symm]
    · rw [if_pos h, if_pos h]
  · rw [if_neg hz, if_neg hz]
/-- A bound: there, its key, its version. -/
structure Bd where
  (t : Bool) (l : List Int) (v : Int)
structure Rg where
  (a b : Bd) (all : Bool)
def Bd.fits (b : Bd) : Prop := b.l.length ≤ 2147483647
def Bd.wf (b : Bd) : Prop := Ytbbncbjdpopkiaa.Byt b.l ∧ u64ok b.v = true
def Bd.okB (b : Bd) : Bool := !b.t || (decide (1 ≤ b.l.length) && decide (b.l.length ≤ 40))
def Rg.wide (r : Rg) : Bool := if r.all then !r.a.t && !r.b.t else r.a.t && r.b.t && decide (Ytbbncbjdpopkiaa.orderL r.a.l r.a.v r.b.l r.b.v ≤ 0)
def Rg.fits (r : Rg) : Prop := r.a.fits ∧ r.b.fits
def Rg.wf (r : Rg) : Prop := r.a.wf ∧ r.b.wf
def Rg.s (r : Rg) : S27 := ⟨⟨r.a.t, r.a.l, r.a.v⟩, ⟨r.b.t, r.b.l, r.b.v⟩, r.all⟩
def Rg.ok (r : Rg) : Bool := r.wide && (r.a.okB && r.b.okB)
theorem wide_f (r : Rg) (h : r.fits) : spec_Wide.f r.a.t r.a.l r.a.v r.b.t r.b.l r.b.v r.all = some r.wide := by
  obtain ⟨⟨t, l, v⟩, ⟨t2, l2, v2⟩, all⟩ := r
  obtain ⟨h1, h2⟩ := h
  simp only [Bd.fits] at h1 h2
  simp only [spec_Wide.f, spec_OrderBounds.f, order_f l l2 v v2 (by omega) (by omega), Option.bind_some, Rg.wide]
  cases all <;> cases t <;> cases t2 <;> simp
theorem boundOk_f (b : Bd) : laws_boundOk.f b.t b.l b.v = some b.okB := by
  obtain ⟨t, l, v⟩ := b
  simp only [laws_boundOk.f, Bd.okB]
  cases t
  · simp
  · simp only [if_true]
    by_cases h : 1 ≤ l.length
    · rw [if_pos (by omega)]
      simp [h]
      omega
    · rw [if_neg (by omega)]
      simp [h]
theorem rangesOk_step (k : Nat) (ls : List (S27)) (i : Nat) (r : Rg) (hr : ls[i]? = some r.s) (hf : r.fits) :
    laws_rangesOk.l0 (k + 1) ls (ls.length : Int) (i : Int) = if r.ok then laws_rangesOk.l0 k ls (ls.length : Int) (wrap64 ((i : Int) + 1)) else some false := by
  have hlt : i < ls.length := (List.getElem?_eq_some_iff.1 hr).1
  have hrd : rd_T27 ls (i : Int) = r.s := by
    unfold rd_T27
    rw [Int.toNat_natCast, List.getD_eq_getElem?_getD, hr]
    rfl
  rw [laws_rangesOk.l0]
  rw [if_pos (by omega), if_pos (by omega), if_pos (by omega)]
  simp only [hrd, Rg.s]
  rw [wide_f r hf]
  simp only [Option.bind_some, boundOk_f, Rg.ok]
  by_cases h1 : r.wide = true <;> by_cases h2 : r.a.okB = true <;> by_cases h3 : r.b.okB = true <;> simp [h1, h2, h3]
theorem rangesOk_two (k : Nat) (r s : Rg) (hr : r.fits) (hs : s.fits) : laws_rangesOk.f (k + 3) [r.s, s.s] = some (r.ok && s.ok) := by
  unfold laws_rangesOk.f
  have e1 := rangesOk_step (k + 2) [r.s, s.s] 0 r rfl hr
  have e2 := rangesOk_step (k + 1) [r.s, s.s] 1 s rfl hs
  have e3 : laws_rangesOk.l0 (k + 1) [r.s, s.s] (([r.s, s.s].length : Nat) : Int) (2 : Int) = some true := by
    rw [laws_rangesOk.l0, if_neg (by simp)]
  have w1 : wrap64 (((0 : Nat) : Int) + 1) = ((1 : Nat) : Int) := by unfold wrap64; omega
  have w2 : wrap64 (((1 : Nat) : Int) + 1) = (2 : Int) := by unfold wrap64; omega
  rw [w1, e2, w2, e3] at e1
  have e0 : laws_rangesOk.l0 (k + 3) [r.s, s.s] (([r.s, s.s].length : Nat) : Int) (0 : Int) = laws_rangesOk.l0 (k + 2 + 1) [r.s, s.s] (([r.s, s.s].length : Nat) : Int) ((0 : Nat) : Int) := rfl
  rw [e0, e1]
  cases r.ok <;> cases s.ok <;> simp
theorem fits_f (r : Rg) : laws_zzFits9.f r.a.t r.a.l r.a.v r.b.t r.b.l r.b.v r.all = some (decide (r.a.l.length ≤ 2147483647) && decide (r.b.l.length ≤ 2147483647)) := by
  simp only [laws_zzFits9.f, laws_zzFits5.f]
  by_cases h1 : r.a.l.length ≤ 2147483647
  · rw [if_neg (by omega)]
    by_cases h2 : r.b.l.length ≤ 2147483647
    · rw [if_neg (by omega)]; simp [h1, h2]
    · rw [if_pos (by omega)]; simp [h1, h2]
  · rw [if_pos (by omega)]; simp [h1]
def Bd.bytes (b : Bd) : List Int := if b.t then Ytbbncbjdpopkiaa.keyB b.l b.v else []
theorem okB_len {b : Bd} (h : b.okB = true) (ht : b.t = true) : 1 ≤ b.l.length ∧ b.l.length ≤ 40 := by
  simp [Bd.okB, ht] at h
  exact h
theorem bytesOf_f (b : Bd) (hw : b.wf) (ho : b.okB = true) : impl_bytesOf.f b.t b.l b.v = some b.bytes := by
  obtain ⟨t, l, v⟩ := b
  unfold impl_bytesOf.f Bd.bytes
  cases t with
  | false => rfl
  | true =>
    have h2 := okB_len ho rfl
    simp only at h2
    simp only [if_true, impl_own.f]
    rw [if_pos (by omega), Option.bind_some, badgery_KeyWithTs.f, if_pos ⟨by omega, hw.2⟩]
    rfl
theorem bytes_byt (b : Bd) (hw : b.wf) : bytb b.bytes = true := by
  unfold Bd.bytes
  split
  · exact bytb_of (Ytbbncbjdpopkiaa.bytKey hw.1 (u64ok_of hw.2).1 (u64ok_of hw.2).2)
  · rfl
theorem rangeOf_f (r : Rg) (hw : r.wf) (ha : r.a.okB = true) (hb : r.b.okB = true) : impl_rangeOf.f r.a.t r.a.l r.a.v r.b.t r.b.l r.b.v r.all = some (r.a.bytes, r.b.bytes, r.all) := by
  unfold impl_rangeOf.f
  rw [bytesOf_f _ hw.1 ha, Option.bind_some, bytesOf_f _ hw.2 hb]
  rfl
theorem ok_parts {r : Rg} (h : r.ok = true) : r.wide = true ∧ r.a.okB = true ∧ r.b.okB = true := by
  unfold Rg.ok at h
  rw [Bool.and_eq_true, Bool.and_eq_true] at h
  exact h
def Bd.same (b c : Bd) : Bool := b.t == c.t && (!b.t || decide (Ytbbncbjdpopkiaa.orderL b.l b.v c.l c.v = 0))
theorem sameBound_f (b c : Bd) (hb : b.fits) (hc : c.fits) : spec_SameBound.f b.t b.l b.v c.t c.l c.v = some (b.same c) := by
  obtain ⟨t, l, v⟩ := b
  obtain ⟨t2, l2, v2⟩ := c
  simp only [Bd.fits] at hb hc
  simp only [spec_SameBound.f, spec_OrderBounds.f, order_f l l2 v v2 (by omega) (by omega), Option.bind_some, Bd.same]
  have e : (Ytbbncbjdpopkiaa.orderL l v l2 v2 == 0) = decide (Ytbbncbjdpopkiaa.orderL l v l2 v2 = 0) := by rw [Bool.eq_iff_iff]; simp
  cases t <;> cases t2 <;> simp [e]
theorem bytes_len (b : Bd) (h : b.t = true) : b.bytes.length = b.l.length + 8 := by
  unfold Bd.bytes
  rw [if_pos h, Ytbbncbjdpopkiaa.keyB, List.length_append, Ytbbncbjdpopkiaa.be64_len]
theorem same_bytes (b c : Bd) : b.same c = decide (b.bytes = c.bytes) := by
  obtain ⟨t, l, v⟩ := b
  obtain ⟨t2, l2, v2⟩ := c
  cases t <;> cases t2
  · simp [Bd.same, Bd.bytes]
  · have : (Ytbbncbjdpopkiaa.keyB l2 v2).length = l2.length + 8 := by rw [Ytbbncbjdpopkiaa.keyB, List.length_append, Ytbbncbjdpopkiaa.be64_len]
    have hne : ¬ ([] : List Int) = Ytbbncbjdpopkiaa.keyB l2 v2 := fun e => by rw [← e] at this; simp at this
    simp [Bd.same, Bd.bytes, hne]
  · have : (Ytbbncbjdpopkiaa.keyB l v).length = l.length + 8 := by rw [Ytbbncbjdpopkiaa.keyB, List.length_append, Ytbbncbjdpopkiaa.be64_len]
    have hne : ¬ Ytbbncbjdpopkiaa.keyB l v = [] := fun e => by rw [e] at this; simp at this
    simp [Bd.same, Bd.bytes, hne]
  · have : (Ytbbncbjdpopkiaa.keyB l v = Ytbbncbjdpopkiaa.keyB l2 v2) ↔ Ytbbncbjdpopkiaa.orderL l v l2 v2 = 0 := by
      rw [order_zero]
      exact ⟨keyB_inj, fun ⟨e1, e2⟩ => by rw [e1, e2]⟩
    simp [Bd.same, Bd.bytes, this]
theorem be16_f (a b : Int) (r : List Int) (ha : 0 ≤ a ∧ a ≤ 255) (hb : 0 ≤ b ∧ b ≤ 255) : badgery_beUint16.f (a :: b :: r) = some (a * 256 + b) := by
  unfold badgery_beUint16.f
  rw [if_pos (by simp; omega), if_pos (by simp; omega)]
  have e1 : Go.Proofs.YtbbncbjdpopkiaaW.PrintWords.rd (a :: b :: r) 1 = b := rfl
  have e0 : Go.Proofs.YtbbncbjdpopkiaaW.PrintWords.rd (a :: b :: r) 0 = a := rfl
  rw [e1, e0, IntWalk.u16_in b (by omega), IntWalk.u16_in a (by omega), IntWalk.u16_in (a * 256) (by omega), u16_or b (a * 256) (by omega) (by omega) (by omega) (by omega)]
  have := nat_join 8 (a * 256).toNat b.toNat (by omega) (by omega)
  rw [Nat.or_comm, this]
  congr 1
  omega
theorem be32_f (a b c d : Int) (r : List Int) (ha : 0 ≤ a ∧ a ≤ 255) (hb : 0 ≤ b ∧ b ≤ 255) (hc : 0 ≤ c ∧ c ≤ 255) (hd : 0 ≤ d ∧ d ≤ 255) : badgery_beUint32.f (a :: b :: c :: d :: r) = some ((a * 256 + b) * 65536 + (c * 256 + d)) := by
  unfold badgery_beUint32.f
  rw [if_pos (by omega), if_pos (by simp; omega)]
  have e : ((a :: b :: c :: d :: r).take 4).drop 2 = c :: d :: [] := rfl
  rw [e, be16_f c d [] hc hd, Option.bind_some, be16_f a b _ ha hb, Option.bind_some]
  rw [Int.emod_eq_of_lt (show 0 ≤ c * 256 + d by omega) (by omega), Int.emod_eq_of_lt (show 0 ≤ a * 256 + b by omega) (by omega), Int.emod_eq_of_lt (show 0 ≤ (a * 256 + b) * 65536 by omega) (by omega), Ytbbncbjdpopkiaa.or_join32 _ _ (by omega) (by omega)]
theorem be64_f (a b c d e f g h : Int) (r : List Int) (ha : 0 ≤ a ∧ a ≤ 255) (hb : 0 ≤ b ∧ b ≤ 255) (hc : 0 ≤ c ∧ c ≤ 255) (hd : 0 ≤ d ∧ d ≤ 255) (he : 0 ≤ e ∧ e ≤ 255) (hf : 0 ≤ f ∧ f ≤ 255) (hg : 0 ≤ g ∧ g ≤ 255) (hh : 0 ≤ h ∧ h ≤ 255) :
    badgery_beUint64.f (a :: b :: c :: d :: e :: f :: g :: h :: r) = some (((a * 256 + b) * 65536 + (c * 256 + d)) * 4294967296 + ((e * 256 + f) * 65536 + (g * 256 + h))) := by
  unfold badgery_beUint64.f
  rw [if_pos (by omega), if_pos (by simp; omega)]
  have e1 : ((a :: b :: c :: d :: e :: f :: g :: h :: r).take 8).drop 4 = e :: f :: g :: h :: [] := rfl
  rw [e1, be32_f e f g h [] he hf hg hh, Option.bind_some, be32_f a b c d _ ha hb hc hd, Option.bind_some]
  rw [Ytbbncbjdpopkiaa.wrapU64 ((e * 256 + f) * 65536 + (g * 256 + h)) (by omega) (by omega), Ytbbncbjdpopkiaa.wrapU64 ((a * 256 + b) * 65536 + (c * 256 + d)) (by omega) (by omega), Ytbbncbjdpopkiaa.wrapU64 (((a * 256 + b) * 65536 + (c * 256 + d)) * 4294967296) (by omega) (by omega), Ytbbncbjdpopkiaa.or_join64 _ _ (by omega) (by omega)]
theorem parseKey_f (l : List Int) (v : Int) (h : l.length ≤ 1000000) : badgery_ParseKey.f (Ytbbncbjdpopkiaa.keyB l v) = some l := by
  have hl : (Ytbbncbjdpopkiaa.keyB l v).length = l.length + 8 := by rw [Ytbbncbjdpopkiaa.keyB, List.length_append, Ytbbncbjdpopkiaa.be64_len]
  unfold badgery_ParseKey.f
  have ew : wrap64 (((Ytbbncbjdpopkiaa.keyB l v).length : Int) - 8) = (l.length : Int) := by rw [hl]; unfold wrap64; omega
  rw [ew, if_neg (by omega), if_pos (by omega), if_pos (by omega), Int.toNat_natCast, Ytbbncbjdpopkiaa.keyB, List.take_left' rfl]
theorem parseTs_f (l : List Int) (v : Int) (h : l.length ≤ 1000000) (h1 : 1 ≤ l.length) (hv : 0 ≤ v) (hv2 : v ≤ 18446744073709551615) : badgery_ParseTs.f (Ytbbncbjdpopkiaa.keyB l v) = some v := by
  have hl : (Ytbbncbjdpopkiaa.keyB l v).length = l.length + 8 := by rw [Ytbbncbjdpopkiaa.keyB, List.length_append, Ytbbncbjdpopkiaa.be64_len]
  unfold badgery_ParseTs.f
  have ew : wrap64 (((Ytbbncbjdpopkiaa.keyB l v).length : Int) - 8) = (l.length : Int) := by rw [hl]; unfold wrap64; omega
  have ed : (Ytbbncbjdpopkiaa.keyB l v).drop l.length = Ytbbncbjdpopkiaa.be64 (18446744073709551615 - v) := by rw [Ytbbncbjdpopkiaa.keyB, List.drop_left' rfl]
  rw [ew, if_neg (by omega), if_pos (by omega), if_pos (by omega), Int.toNat_natCast, ed]
  obtain ⟨x, hx⟩ : ∃ x, x = 18446744073709551615 - v := ⟨_, rfl⟩
  rw [← hx]
  simp only [Ytbbncbjdpopkiaa.be64, Ytbbncbjdpopkiaa.be32, Ytbbncbjdpopkiaa.be16, List.cons_append, List.nil_append]
  rw [be64_f _ _ _ _ _ _ _ _ _ (by omega) (by omega) (by omega) (by omega) (by omega) (by omega) (by omega) (by omega), Option.bind_some]
  congr 1
  rw [Ytbbncbjdpopkiaa.wrapU64 _ (by omega) (by omega)]
  omega
theorem boundOf_f (l : List Int) (v : Int) (h : l.length ≤ 1000000) (h1 : 1 ≤ l.length) (hv : 0 ≤ v) (hv2 : v ≤ 18446744073709551615) : impl_boundOf.f (Ytbbncbjdpopkiaa.keyB l v) = some (true, l, v) := by
  have hl : (Ytbbncbjdpopkiaa.keyB l v).length = l.length + 8 := by rw [Ytbbncbjdpopkiaa.keyB, List.length_append, Ytbbncbjdpopkiaa.be64_len]
  unfold impl_boundOf.f impl_own.f
  rw [if_neg (by omega), parseKey_f l v h, Option.bind_some, if_pos (by omega), Option.bind_some, parseTs_f l v h h1 hv hv2, Option.bind_some]
/-- The wider range. -/
def Rg.wider (r s : Rg) : Rg := ⟨if Ytbbncbjdpopkiaa.orderL s.a.l s.a.v r.a.l r.a.v < 0 then s.a else r.a, if Ytbbncbjdpopkiaa.orderL s.b.l s.b.v r.b.l r.b.v > 0 then s.b else r.b, false⟩
end Go.Proofs.YtbbncbjdpopkiaaQ.QE
