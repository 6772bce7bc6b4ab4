/- Acts as the laws have them; what is told, cell by cell. -/
import Derived.Test.YtanmgkpgfmkobaaOZ
import Derived.Test.YtanmgkpgfmkobaaQT1
namespace Go.Proofs.Ytanmgkpgfmkobaa
open Go.RowKit
theorem told_cells {w : World} {B n c i : Nat} {A : Option Addr} {tl : List OTold} {t : OTold} (h : w.ownsRow B 57 4 (.slice A n c) n (flatT tl)) (ht : tl[i]? = some t) : ∃ g, A = some ⟨g, 0, none⟩ ∧ w.cell? ⟨g, i * 4, none⟩ = some (.int .u64 (t.ver : Int)) ∧ w.cell? ⟨g, i * 4 + 1, none⟩ = some (.bool t.conf) ∧ w.cell? ⟨g, i * 4 + 2, none⟩ = some (.int .u64 (t.below : Int)) ∧ w.cell? ⟨g, i * 4 + 3, none⟩ = some (.int .u64 (t.next : Int)) ∧ g < w.heap.size := by
  have hi := (List.getElem?_eq_some_iff.1 ht).1
  have hl := h.1
  rw [flatT_len] at hl
  obtain ⟨g, cs, hA, hb, _, _, _, _, htk⟩ := own_cells h (by omega)
  have key : ∀ j v, j < 4 → t.cells[j]? = some v → w.cell? ⟨g, i * 4 + j, none⟩ = some v := fun j v hj hv => by
    have h1 := flatT_at tl i j t ht hj
    rw [hv] at h1
    rw [hb.cell, ← h1, ← htk, List.getElem?_take_of_lt (by omega)]
  exact ⟨g, hA, key 0 _ (by omega) rfl, key 1 _ (by omega) rfl, key 2 _ (by omega) rfl, key 3 _ (by omega) rfl, hb.lt⟩
theorem owns_below {w w' : World} {base e s n : Nat} {v : Value} {xs : List Value} (h : w.ownsRow base e s v n xs) (hb : Below w.heap.size w w') : w'.ownsRow base e s v n xs := owns_of h fun b hm => hb.block b (h.lt b (Option.mem_toList.1 hm)).2
end Go.Proofs.Ytanmgkpgfmkobaa
namespace Go.Proofs.YtanmgkpgfmkobaaQ.QT
open Go.RowKit Go.Proofs.YtanmgkpgfmkobaaQ.Ext Go.Proofs.YtanmgkpgfmkobaaW.PrintWords
set_option linter.unusedVariables false
set_option linter.unusedSimpArgs false
def toAct (x : S55) : Ytanmgkpgfmkobaa.OAct := ⟨x.f0, x.f1, x.f2⟩
def actWf (x : S55) : Prop := (Lit.int .i64 x.f0).wf = true ∧ (Lit.int .i64 x.f1).wf = true ∧ (Lit.int .u64 x.f2).wf = true
/-- Acts as they lie. -/
theorem acts_of_C {w : World} {A : Option Addr} {n : Nat} {l : List S55} (h : Kd.C k55 w A n l) : Ytanmgkpgfmkobaa.Acts w A (l.map toAct) := by
  obtain ⟨h1, h2, h3⟩ := h
  refine ⟨Ytanmgkpgfmkobaa.flatA_len _, fun h0 => ?_⟩
  rw [List.length_map] at h0
  obtain ⟨ad, rfl, hc⟩ := h3 (by omega)
  obtain ⟨x, hx⟩ : ∃ x, l[0]? = some x := ⟨l[0]'(by omega), List.getElem?_eq_getElem (by omega)⟩
  have e0 : ad.add (0 * 3 + 0) = ad := by unfold Addr.add; simp
  have ep : (⟨ad.block, ad.off, none⟩ : Addr) = ad := by
    obtain ⟨c, hl, hK, hcell⟩ := hc 0 x hx
    obtain rfl := k55_open hK
    have h0 := hcell 0 _ rfl
    rw [show (0 * k55.sz + 0) = 0 * 3 + 0 from rfl, e0] at h0
    exact (plain_at h0).symm
  refine ⟨ad.block, ad.off, by rw [ep], fun i u hu => ?_⟩
  have hi : i < l.length * 3 := by
    have := (List.getElem?_eq_some_iff.1 hu).1
    rwa [Ytanmgkpgfmkobaa.flatA_len, List.length_map] at this
  obtain ⟨r, hr⟩ : ∃ r, l[i / 3]? = some r := ⟨_, List.getElem?_eq_getElem (by omega)⟩
  have hf := Ytanmgkpgfmkobaa.flatA_at (l.map toAct) (i / 3) (i % 3) (toAct r) (by rw [List.getElem?_map, hr]; rfl) (Nat.mod_lt _ (by omega))
  rw [show i / 3 * 3 + i % 3 = i by omega, hu] at hf
  obtain ⟨c, hl, hK, hcell⟩ := hc (i / 3) r hr
  obtain rfl := k55_open hK
  have h5 := hcell (i % 3) u hf.symm
  rw [← ep, Ytanmgkpgfmkobaa.add_none] at h5
  rw [show (i / 3 * k55.sz + i % 3) = i / 3 * 3 + i % 3 from rfl, show i / 3 * 3 + i % 3 = i by omega] at h5
  exact h5
end Go.Proofs.YtanmgkpgfmkobaaQ.QT
