/- How a law's arguments come in, in the print's kinds: whole numbers, bools, slices, structs. -/
import Derived.Test.YtadhdimleabljaaV2
import Derived.Test.YtadhdimleabljaaX0
namespace Go.Proofs.YtadhdimleabljaaQ.Ext
open Go.ChangeShapes Go.WideShapes Go.ChangeAt Go.RowKit Go.Proofs.YtadhdimleabljaaW.PrintWords
set_option linter.unusedVariables false
/-- What is read as data of type t reads as kind d, and is wf. -/
structure Vw {H : Type} (enc : TypeId × Value → H) (P : Program) (w : World) (t : Nat) {α : Type} (d : Kd α) (wf : α → Prop) : Prop where
  go : ∀ fuel cs y, DataW.trod enc P w 0 (fun _ => true) true fuel t cs = some y → ∃ x : α, d.K w x cs ∧ wf x
section
variable {H : Type} {enc : TypeId × Value → H} {P : Program} {w : World} {α β : Type} {d : Kd α} {d2 : Kd β} {wf : α → Prop}
theorem vw_int {t : Nat} {k : IntKind} (ht : P.underlying t = some (.int k)) : Vw enc P w t (Kd.int k) (fun x => (Lit.int k x).wf = true) :=
  ⟨fun fuel cs y h => by
    obtain ⟨n, e, hw⟩ := Ytadhdimleabljaa.int_cell ht h
    exact ⟨n, e, hw⟩⟩
theorem vw_bool {t : Nat} (ht : P.underlying t = some .bool) : Vw enc P w t Kd.bool (fun _ => True) :=
  ⟨fun fuel cs y h => by
    obtain ⟨n, e⟩ := Ytadhdimleabljaa.bool_cell ht h
    exact ⟨n, e, trivial⟩⟩
theorem vw_slice {t e : Nat} (ht : P.underlying t = some (.slice e)) (hc : P.cellsOf e = d.sz) (hv : Vw enc P w e d wf) : Vw enc P w t (Kd.slice e d) (fun xs => ∀ x ∈ xs, wf x) :=
  ⟨fun fuel cs y h => by
    rcases Deep.open_slice ht h with ⟨rfl, _⟩ | ⟨a, len, cap, m, n, D, Pl, rfl, hb, hl, hm, hmm, _, hx⟩
    · exact ⟨[], ⟨none, 0, rfl, Nat.le_refl _, Kd.C_nil _ _⟩, by simp⟩
    · have hle : len ≤ m := by rw [hmm]; simp [hl]
      have key : ∀ j, j ≤ len → ∃ xs : List α, xs.length = j ∧ (∀ x ∈ xs, wf x) ∧ ∀ i p, xs[i]? = some p → ∃ c, c.length = d.sz ∧ d.K w p c ∧ ∀ q u, c[q]? = some u → w.cell? (a.add (i * d.sz + q)) = some u := by
        intro j
        induction j with
        | zero => intro _; exact ⟨[], rfl, by simp, fun i p hp => by simp at hp⟩
        | succ j ih =>
          intro hj
          obtain ⟨xs, h1, h2, h3⟩ := ih (by omega)
          obtain ⟨c, hc1, hc2⟩ := hx j (by omega)
          obtain ⟨x, hk, hw⟩ := hv.go _ _ _ hc2
          refine ⟨xs ++ [x], by simp [h1], ?_, ?_⟩
          · intro z hz
            rcases List.mem_append.1 hz with hz | hz
            · exact h2 z hz
            · rw [List.mem_singleton.1 hz]; exact hw
          · intro i p hp
            rcases Nat.lt_or_ge i xs.length with hi | hi
            · rw [List.getElem?_append_left hi] at hp
              exact h3 i p hp
            · have hi' : i = xs.length := by
                have := (List.getElem?_eq_some_iff.1 hp).1
                simp at this
                omega
              subst hi'
              simp at hp
              subst hp
              refine ⟨c, d.K_len hk, hk, fun q u hu => ?_⟩
              have hq : q < P.cellsOf e := by
                have := (List.getElem?_eq_some_iff.1 hu).1
                rw [d.K_len hk] at this
                omega
              obtain ⟨_, _, hcell⟩ := World.cells?_some hc1
              rw [h1, ← hc, ← Deep.add_add, hcell q hq, hu]
      obtain ⟨xs, h1, h2, h3⟩ := key len (Nat.le_refl _)
      subst h1
      refine ⟨xs, ⟨some a, cap, rfl, hl, rfl, by unfold maxLen at hm; omega, fun _ => ⟨a, rfl, h3⟩⟩, h2⟩⟩
/-- A struct's fields, one behind the other. -/
theorem kpair {a : Kd α} {b : Kd β} {x : α} {y : β} {cs : List Value} {o : Nat} (h : a.K w x ((cs.drop o).take a.sz)) (k : b.K w y (cs.drop (o + a.sz))) : (Kd.pair a b).K w (x, y) (cs.drop o) :=
  ⟨_, _, by rw [← List.drop_drop, List.take_append_drop], h, k⟩
theorem klast {a : Kd α} {x : α} {cs : List Value} {o : Nat} (h : a.K w x ((cs.drop o).take a.sz)) (hl : cs.length = o + a.sz) : a.K w x (cs.drop o) := by
  rwa [List.take_of_length_le (by rw [List.length_drop]; omega)] at h
theorem kfield {a : Kd α} {x : α} {cs : List Value} {o n : Nat} (hc : n = a.sz) (h : a.K w x ((cs.drop o).take n)) : a.K w x ((cs.drop o).take a.sz) := hc ▸ h
theorem kzero {a : Kd α} {x : α} {cs : List Value} (h : a.K w x (cs.drop 0)) : a.K w x cs := h
end
end Go.Proofs.YtadhdimleabljaaQ.Ext
