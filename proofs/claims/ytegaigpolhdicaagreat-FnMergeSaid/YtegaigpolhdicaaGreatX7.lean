/- Skip lists, as the print tells them: entries. -/
import Derived.Test.YtegaigpolhdicaaGreatGX
import Derived.Test.YtegaigpolhdicaaGreatTB
import Derived.Test.YtegaigpolhdicaaGreatQT0
namespace Go.Proofs.YtegaigpolhdicaaGreatQ.Ext
open Go.RowKit Go.Proofs.YtegaigpolhdicaaGreatW.PrintWords Go.Proofs.YtegaigpolhdicaaGreatQ.QT
set_option linter.unusedVariables false
def toEnt (x : S44) : YtegaigpolhdicaaGreat.Ent := ⟨x.f0, x.f1, x.f2.f0, x.f2.f1, x.f2.f2, x.f2.f3⟩
def byB (l : List Int) : Bool := l.all fun x => decide (0 ≤ x) && decide (x ≤ 255)
theorem byt_of7 {l : List Int} (h : byB l = true) : YtegaigpolhdicaaGreat.Byt l := by
  intro x hx
  have := List.all_eq_true.1 h x hx
  simp at this
  omega
theorem byB_of7 {l : List Int} (h : YtegaigpolhdicaaGreat.Byt l) : byB l = true := by
  refine List.all_eq_true.2 fun x hx => ?_
  have := h x hx
  simp
  omega
def entB (e : YtegaigpolhdicaaGreat.Ent) : Bool := decide (1 ≤ e.k.length) && decide (e.k.length ≤ 300) && byB e.k && decide (0 ≤ e.v) && decide (e.v ≤ 18446744073709551615) && decide (e.d.length ≤ 300) && byB e.d && decide (0 ≤ e.m ∧ e.m ≤ 255) && decide (0 ≤ e.u ∧ e.u ≤ 255) && decide (0 ≤ e.x) && decide (e.x ≤ 18446744073709551615)
theorem entOk_of {e : YtegaigpolhdicaaGreat.Ent} (h : entB e = true) : YtegaigpolhdicaaGreat.EntOk e := by
  unfold entB at h
  simp only [Bool.and_eq_true, decide_eq_true_eq] at h
  obtain ⟨⟨⟨⟨⟨⟨⟨⟨⟨⟨h1, h2⟩, h3⟩, h4⟩, h5⟩, h6⟩, h7⟩, h8⟩, h9⟩, h10⟩, h11⟩ := h
  exact ⟨h1, h2, byt_of7 h3, h4, h5, h6, byt_of7 h7, h8, h9, h10, h11⟩
theorem entB_of {e : YtegaigpolhdicaaGreat.Ent} (h : YtegaigpolhdicaaGreat.EntOk e) : entB e = true := by
  unfold entB
  simp only [Bool.and_eq_true, decide_eq_true_eq]
  exact ⟨⟨⟨⟨⟨⟨⟨⟨⟨⟨h.kpos, h.klen⟩, byB_of7 h.kb⟩, h.v0⟩, h.v1.out⟩, h.dlen⟩, byB_of7 h.db⟩, h.m⟩, h.u⟩, h.x0⟩, h.x1.out⟩
theorem sle_of_C {w : World} {A : Option Addr} {n : Nat} {l : List S44} (h : Kd.C k44 w A n l) : YtegaigpolhdicaaGreat.Sle w A n (l.map toEnt) := by
  obtain ⟨h1, h2, h3⟩ := h
  refine ⟨by rw [List.length_map]; exact h1, fun hn => ?_⟩
  obtain ⟨ad, rfl, hc⟩ := h3 hn
  obtain ⟨x, hx⟩ : ∃ x, l[0]? = some x := ⟨l[0]'(by omega), List.getElem?_eq_getElem (by omega)⟩
  have e0 : ad.add (0 * 6 + 0) = ad := by unfold Addr.add; simp
  have ep : (⟨ad.block, ad.off, none⟩ : Addr) = ad := by
    obtain ⟨c, hl, hK, hcell⟩ := hc 0 x hx
    obtain ⟨A0, c0, A5, c5, rfl, _⟩ := k44_open hK
    have h0 := hcell 0 _ rfl
    rw [show (0 * k44.sz + 0) = 0 * 6 + 0 from rfl, e0] at h0
    exact (plain_at h0).symm
  refine ⟨ad.block, ad.off, by rw [ep], fun j e hj => ?_⟩
  rw [List.getElem?_map] at hj
  cases hp : l[j]? with
  | none => rw [hp] at hj; cases hj
  | some p =>
    rw [hp] at hj
    simp only [Option.map_some, Option.some.injEq] at hj
    subst hj
    obtain ⟨c, hl, hK, hcell⟩ := hc j p hp
    obtain ⟨A0, c0, A5, c5, rfl, l0, g0, l5, g5⟩ := k44_open hK
    have key : ∀ k u, ([.slice A0 p.f0.length c0, .int .u64 p.f1, .int .u8 p.f2.f0, .int .u8 p.f2.f1, .int .u64 p.f2.f2, .slice A5 p.f2.f3.length c5] : List Value)[k]? = some u → w.cell? ⟨ad.block, ad.off + j * 6 + k, none⟩ = some u := fun k u hk => by
      have := hcell k u hk
      rw [← ep, YtegaigpolhdicaaGreat.add_none] at this
      rw [Nat.add_assoc]
      exact this
    exact ⟨A0, _, c0, A5, _, c5, ⟨key 0 _ rfl, key 1 _ rfl, key 2 _ rfl, key 3 _ rfl, key 4 _ rfl, key 5 _ rfl, sl_of_C g0, sl_of_C g5, l0, l5⟩⟩
def impl_NoneIn.f (l0 : List Int) (l1 : List S44) : Option Bool := if 1 ≤ l0.length ∧ l0.length ≤ 1000000 ∧ l1.length ≤ 80 ∧ (l1.all fun x => entB (toEnt x)) = true then some (decide (l1.length = 0)) else none
end Go.Proofs.YtegaigpolhdicaaGreatQ.Ext
