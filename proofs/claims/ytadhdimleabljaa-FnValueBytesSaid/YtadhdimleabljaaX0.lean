/- From my words for memory to the print's, and back. -/
import Derived.Test.YtadhdimleabljaaM
import Derived.Test.YtadhdimleabljaaWMore
namespace Go.Proofs.YtadhdimleabljaaQ.Ext
open Go.RowKit Go.Proofs.YtadhdimleabljaaW.PrintWords
set_option linter.unusedVariables false
theorem plain_at {w : World} {ad : Addr} {v : Value} (h : w.cell? ad = some v) : ad = ⟨ad.block, ad.off, none⟩ := by
  obtain ⟨g, o, s⟩ := ad
  cases s with
  | none => rfl
  | some s =>
    unfold World.cell? at h
    split at h <;> simp at h
theorem sl_of_C {w : World} {A : Option Addr} {n : Nat} {k : IntKind} {l : List Int} (h : Kd.C (Kd.int k) w A n l) : Ytadhdimleabljaa.Sl w A n (Ytadhdimleabljaa.nums k l) := by
  obtain ⟨h1, h2, h3⟩ := h
  refine ⟨by rw [Ytadhdimleabljaa.nums_length]; exact h1, fun hn => ?_⟩
  obtain ⟨ad, rfl, hc⟩ := h3 hn
  have key : ∀ j p, l[j]? = some p → w.cell? (ad.add j) = some (.int k p) := by
    intro j p hj
    obtain ⟨c, hl, hk, hcell⟩ := hc j p hj
    have hk : c = [Value.int k p] := hk
    subst hk
    have := hcell 0 _ rfl
    simpa [Kd.int, Kd.scalar] using this
  obtain ⟨x, hx⟩ : ∃ x, l[0]? = some x := ⟨l[0]'(by omega), List.getElem?_eq_getElem (by omega)⟩
  have h0 := key 0 x hx
  have e0 : ad.add 0 = ad := by unfold Addr.add; simp
  rw [e0] at h0
  have ep := plain_at h0
  refine ⟨ad.block, ad.off, by rw [← ep], fun j u hu => ?_⟩
  simp only [Ytadhdimleabljaa.nums, List.getElem?_map, Option.map_eq_some_iff] at hu
  obtain ⟨p, hp, rfl⟩ := hu
  have := key j p hp
  rw [ep, Ytadhdimleabljaa.add_none] at this
  exact this
theorem C_of_sl {w : World} {A : Option Addr} {n : Nat} {k : IntKind} {l : List Int} (h : Ytadhdimleabljaa.Sl w A n (Ytadhdimleabljaa.nums k l)) (hn : n ≤ 9223372036854775807) : Kd.C (Kd.int k) w A n l := by
  refine ⟨by have := h.1; rwa [Ytadhdimleabljaa.nums_length] at this, hn, fun h0 => ?_⟩
  obtain ⟨g, o, rfl, hc⟩ := h.2 h0
  refine ⟨⟨g, o, none⟩, rfl, fun j p hj => ⟨[Value.int k p], rfl, rfl, fun i u hu => ?_⟩⟩
  cases i with
  | zero =>
    simp at hu
    subst hu
    have := hc j (.int k p) (by simp [Ytadhdimleabljaa.nums, hj])
    rw [Ytadhdimleabljaa.add_none]
    simpa [Kd.int, Kd.scalar] using this
  | succ i => simp at hu
theorem R_of_own {w : World} {base e : Nat} {k : IntKind} {v : Value} {l : List Int} (h : w.ownsRow base e 1 v l.length (Ytadhdimleabljaa.nums k l)) : Kd.R (Kd.int k) e w base (fun _ => True) v l := by
  refine ⟨fun _ _ => trivial, Ytadhdimleabljaa.nums k l, h, ⟨by simp [Ytadhdimleabljaa.nums, Kd.int, Kd.scalar], fun j p hj => ?_⟩⟩
  show (List.take (Kd.int k).sz _) = [Value.int k p]
  have e1 : (Kd.int k).sz = 1 := rfl
  rw [e1, Nat.mul_one]
  have hlt : j < l.length := (List.getElem?_eq_some_iff.1 hj).1
  have hp : l[j] = p := (List.getElem?_eq_some_iff.1 hj).2
  rw [List.drop_eq_getElem_cons (by rw [Ytadhdimleabljaa.nums_length]; exact hlt)]
  simp [Ytadhdimleabljaa.nums, hp]
theorem own_of_R {w : World} {base e : Nat} {ok : Nat → Prop} {k : IntKind} {v : Value} {l : List Int} (h : Kd.R (Kd.int k) e w base ok v l) : w.ownsRow base e 1 v l.length (Ytadhdimleabljaa.nums k l) := by
  obtain ⟨_, inner, ho, hr, hp⟩ := h
  have e1 : (Kd.int k).sz = 1 := rfl
  rw [e1] at ho hr hp
  have : inner = Ytadhdimleabljaa.nums k l := by
    apply List.ext_getElem?
    intro j
    rcases Nat.lt_or_ge j l.length with hj | hj
    · have := hp j l[j] (List.getElem?_eq_getElem hj)
      have this : (inner.drop (j * 1)).take 1 = [Value.int k l[j]] := this
      have this := congrArg (fun l : List Value => l[0]?) this
      simp only [Nat.mul_one, List.getElem?_take, List.getElem?_drop, Nat.add_zero, if_pos (show 0 < 1 by omega), List.getElem?_cons_zero] at this
      rw [this]
      simp [Ytadhdimleabljaa.nums, List.getElem?_eq_getElem hj]
    · rw [List.getElem?_eq_none (by omega), List.getElem?_eq_none (by rw [Ytadhdimleabljaa.nums_length]; omega)]
  rw [← this]
  exact ho
/-- A call that makes numbers, in the print's form. -/
theorem made_R {w : World} {e : Nat} {k : IntKind} {l : List Int} {E : Ending} {w' : World} (h : Ytadhdimleabljaa.Made w e (Ytadhdimleabljaa.nums k l) E w') : ∃ v, E = .returned v ∧ Kd.R (Kd.int k) e w' w.heap.size (fun _ => True) v l ∧ Below w.heap.size w w' := by
  obtain ⟨v, rfl, ho, hb⟩ := h
  rw [Ytadhdimleabljaa.nums_length] at ho
  exact ⟨v, rfl, R_of_own ho, hb⟩
theorem V_of_C {α : Type} {d : Kd α} (hd : d.Heap) {w : World} {e base c : Nat} {A : Option Addr} {l : List α} (h : d.C w A l.length l) (hc : l.length ≤ c) : Kd.V d e w base (fun k => k < w.heap.size) (.slice A l.length c) l :=
  Kd.V_mk hc (Kd.C_F hd h)
end Go.Proofs.YtadhdimleabljaaQ.Ext
