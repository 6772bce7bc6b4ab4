/- How great what comes in is, for statements with a bound. -/
import Derived.Test.YtpfmmbhbmdbmeaaDoorGB
import Derived.Test.YtpfmmbhbmdbmeaaDoorGX
import Derived.Test.YtpfmmbhbmdbmeaaDoorRows
namespace Go.Proofs.YtpfmmbhbmdbmeaaDoorQ.Ext
open Go.ChangeShapes Go.WideShapes Go.ChangeAt Go.RowKit Go.Proofs.YtpfmmbhbmdbmeaaDoorW.PrintWords
open Go.Proofs.YtpfmmbhbmdbmeaaDoor (Rows.uptoBulk Rows.uptoBulkAll Rows.uptoSmall)
set_option linter.unusedVariables false
theorem bulk_one {H : Type} (d : DataW H) : 1 ≤ Rows.uptoBulk d := by
  cases d with
  | lit l => cases l <;> simp [Rows.uptoBulk]
  | nil => simp [Rows.uptoBulk]
  | ptr d => simp [Rows.uptoBulk]
  | slice elems spare => simp [Rows.uptoBulk]
  | agg parts => simp [Rows.uptoBulk]
  | iface t d => simp [Rows.uptoBulk]
  | map entries => simp [Rows.uptoBulk]
  | held h => simp [Rows.uptoBulk]
theorem bulk_app {H : Type} (l r : List (DataW H)) : Rows.uptoBulkAll (l ++ r) = Rows.uptoBulkAll l + Rows.uptoBulkAll r := by
  induction l with
  | nil => simp [Rows.uptoBulkAll]
  | cons x l ih => simp only [List.cons_append, Rows.uptoBulkAll, ih]; omega
/-- What is read as data of type t and kind d is of measure m at most its bulk. -/
structure Vz {H : Type} (enc : TypeId × Value → H) (P : Program) (w : World) (t : Nat) {α : Type} (d : Kd α) (m : α → Nat) : Prop where
  go : ∀ fuel cs y, DataW.trod enc P w 0 (fun _ => true) true fuel t cs = some y → ∀ x : α, d.K w x cs → m x ≤ Rows.uptoBulk y.1
section
variable {H : Type} {enc : TypeId × Value → H} {P : Program} {w : World} {α : Type} {d : Kd α} {m : α → Nat}
theorem vz_one {t : Nat} : Vz enc P w t d (fun _ => 1) := ⟨fun _ _ y _ _ _ => bulk_one y.1⟩
theorem vz_slice {t e : Nat} (ht : P.underlying t = some (.slice e)) (hc : P.cellsOf e = d.sz) (hv : Vz enc P w e d m) : Vz enc P w t (Kd.slice e d) (fun xs => (xs.map m).sum + 1) :=
  ⟨fun fuel cs y h xs hK => by
    obtain ⟨A, c0, he, hcc, hC⟩ := hK
    rcases Deep.open_slice ht h with ⟨rfl, _⟩ | ⟨a, len, cap, mm, n, D, Pl, rfl, hb, hl, hm, hmm, rfl, hx⟩
    · injection he with he _
      injection he with _ he _
      obtain rfl : xs = [] := List.eq_nil_of_length_eq_zero he.symm
      exact bulk_one _
    · injection he with he _
      injection he with e1 e2 e3
      subst e1 e2 e3
      obtain ⟨h1, h2, h3⟩ := hC
      have hle : xs.length ≤ mm := by rw [hmm]; simp [hl]
      have key : ∀ j, j ≤ xs.length → ((xs.take j).map m).sum ≤ Rows.uptoBulkAll ((List.range j).map D) := by
        intro j
        induction j with
        | zero => intro _; simp
        | succ j ih =>
          intro hj
          have h4 := ih (by omega)
          obtain ⟨ad, had, hcell⟩ := h3 (by omega)
          injection had with had
          subst had
          have hxj := List.getElem?_eq_getElem (show j < xs.length by omega)
          obtain ⟨c, hcl, hK, hcs⟩ := hcell j _ hxj
          obtain ⟨c', hc1, hc2⟩ := hx j (by omega)
          obtain ⟨hl', _, hc3⟩ := World.cells?_some hc1
          have e : c' = c := by
            apply List.ext_getElem?
            intro q
            by_cases hq : q < d.sz
            · obtain ⟨u, hu⟩ : ∃ u, c[q]? = some u := ⟨_, List.getElem?_eq_getElem (by omega)⟩
              rw [hu, ← hcs q u hu, ← hc, ← Deep.add_add]
              exact (hc3 q (by omega)).symm
            · rw [List.getElem?_eq_none (by omega), List.getElem?_eq_none (by omega)]
          subst e
          have h5 : m xs[j] ≤ Rows.uptoBulk (D j) := hv.go _ _ _ hc2 _ hK
          rw [List.take_add_one, hxj, List.range_succ, List.map_append, List.map_append, List.sum_append, bulk_app]
          simp only [Option.toList_some, List.map_cons, List.map_nil, List.sum_cons, List.sum_nil, Rows.uptoBulkAll]
          omega
      have h6 := key xs.length (Nat.le_refl _)
      rw [List.take_length] at h6
      simp only [Rows.uptoBulk]
      omega⟩
theorem bulk_bound {l : List (DataW H)} (hk : Rows.uptoSmall H l = true) : Rows.uptoBulkAll l ≤ 1048576 := of_decide_eq_true hk
theorem sum_ones {β : Type} (l : List β) : (l.map fun _ => 1).sum = l.length := by
  induction l with
  | nil => rfl
  | cons a l ih => rw [List.map_cons, List.sum_cons, ih, List.length_cons]; omega
theorem sum_lists {β : Type} (l : List (List β)) : (l.map fun x => (x.map fun _ => 1).sum + 1).sum = l.flatten.length + l.length := by
  induction l with
  | nil => rfl
  | cons a l ih => rw [List.map_cons, List.sum_cons, ih, sum_ones, List.flatten_cons, List.length_append, List.length_cons]; omega
end
end Go.Proofs.YtpfmmbhbmdbmeaaDoorQ.Ext
