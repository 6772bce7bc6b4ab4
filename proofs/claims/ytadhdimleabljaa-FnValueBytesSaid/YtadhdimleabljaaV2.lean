/- How struct arguments come in. -/
import Derived.Test.YtadhdimleabljaaV
namespace Go.Proofs.Ytadhdimleabljaa
open Go.ChangeShapes Go.WideShapes Go.ChangeAt Go.RowKit
set_option linter.unusedVariables false
section
variable {H : Type} {enc : TypeId × Value → H} {P : Program} {w : World} {base : Nat} {spare : Nat → Bool} {held : Bool}
theorem fields_of {t : TypeId} {fs : Array Field} {fuel : Nat} {cs : List Value} {x : DataW H × List MemPlace} (ht : P.underlying t = some (.struct fs)) (h : DataW.trod enc P w base spare held fuel t cs = some x) :
    cs.length = P.cellsOf t ∧ ∃ n, ∀ (i : Nat) (f : Field), fs[i]? = some f → ∃ y, DataW.trod enc P w base spare held n f.type ((cs.drop f.offset).take (P.cellsOf f.type)) = some y := by
  obtain ⟨xs, n, _, _, hl, hlen, hf⟩ := DataW.trod_struct ht h
  refine ⟨hl, n, fun i f hi => ?_⟩
  have hlt : i < xs.length := by
    rw [hlen]
    exact (Array.getElem?_eq_some_iff.1 hi).1
  exact ⟨xs[i], by rw [hf i f hi, List.getElem?_eq_getElem hlt]⟩
theorem int_cell {t : TypeId} {k : IntKind} {fuel : Nat} {cs : List Value} {y : DataW H × List MemPlace} (ht : P.underlying t = some (.int k)) (h : DataW.trod enc P w base spare held fuel t cs = some y) : ∃ n, cs = [.int k n] ∧ (Lit.int k n).wf = true := by
  obtain ⟨n, e, _, hw⟩ := DataW.trod_int ht h
  exact ⟨n, e, hw⟩
theorem bool_cell {t : TypeId} {fuel : Nat} {cs : List Value} {y : DataW H × List MemPlace} (ht : P.underlying t = some .bool) (h : DataW.trod enc P w base spare held fuel t cs = some y) : ∃ b, cs = [.bool b] := by
  obtain ⟨n, e, _⟩ := DataW.trod_bool ht h
  exact ⟨n, e⟩
theorem ints_cell {t e : TypeId} {k : IntKind} {fuel : Nat} {cs : List Value} {y : DataW H × List MemPlace} (ht : P.underlying t = some (.slice e)) (he : P.underlying e = some (.int k)) (hce : P.cellsOf e = 1)
    (hf : DataW.trod enc P w 0 (fun _ => true) true fuel t cs = some y) :
    ∃ A n c l, cs = [.slice A n c] ∧ n ≤ c ∧ Sl w A n (nums k l) ∧ ∀ x ∈ l, (Lit.int k x).wf = true := by
  rcases open_ints ht he hce hf with ⟨hcs, _⟩ | ⟨x, l, cc, zs, hcs, _, hl, hm, hz, _, hcell, hwz⟩
  · exact ⟨none, 0, 0, [], hcs, Nat.le_refl _, Sl.nil _ _, by simp⟩
  · refine ⟨some x, l, cc, zs.take l, hcs, hl, ⟨by rw [nums_length, List.length_take]; simp at hz; omega, fun hn => ?_⟩, fun y hy => hwz y (List.mem_of_mem_take hy)⟩
    obtain ⟨b, off, rfl, hc2⟩ := ints_at hcell (by simp at hz; omega)
    refine ⟨b, off, rfl, fun j u hu => ?_⟩
    have hj := (List.getElem?_eq_some_iff.1 hu).1
    rw [nums_length, List.length_take] at hj
    rw [hc2 j (by omega), ← hu, nums_get _ _ _ (by rw [List.length_take]; omega)]
    congr 2
    rw [List.getD_eq_getElem?_getD, List.getD_eq_getElem?_getD, List.getElem?_take_of_lt (by omega)]
theorem one_cell {f : TypeId} {off : Nat} {fuel : Nat} {cs : List Value} (h1 : P.cellsOf f = 1) (v : Value) (hv : cs[off]? = some v)
    (h : ∃ y, DataW.trod enc P w base spare held fuel f ((cs.drop off).take (P.cellsOf f)) = some y) : ∃ y, DataW.trod enc P w base spare held fuel f [v] = some y := by
  rw [h1] at h
  have hlt := (List.getElem?_eq_some_iff.1 hv).1
  have e : (cs.drop off).take 1 = [v] := by
    rw [List.drop_eq_getElem_cons hlt]
    have := (List.getElem?_eq_some_iff.1 hv).2
    simp [this]
  rwa [e] at h
theorem agg_of {t : TypeId} {fs : Array Field} {v : Value} {r : Reach} {b0 : Nat} {d : DataW H} {p : List MemPlace} (hs : P.underlying t = some (.struct fs)) (hv : Value.okWide P w r b0 t v) (h : DataW.Trod enc P w base spare held t v d p) :
    ∃ l : List Value, v = .agg l.toArray ∧ ∃ fuel x, DataW.trod enc P w base spare held fuel t l = some x := by
  obtain ⟨cs, rfl, hsz⟩ := okWide_struct hs hv
  obtain ⟨fuel, hf⟩ := h
  exact ⟨cs.toList, by simp, fuel, _, by simpa [Value.cells] using hf⟩
theorem two_of {α : Type} {l : List α} (h : l.length = 2) : ∃ a b, l = [a, b] := by
  match l, h with
  | [a, b], _ => exact ⟨a, b, rfl⟩
theorem three_of {α : Type} {l : List α} (h : l.length = 3) : ∃ a b c, l = [a, b, c] := by
  match l, h with
  | [a, b, c], _ => exact ⟨a, b, c, rfl⟩
theorem four_of {α : Type} {l : List α} (h : l.length = 4) : ∃ a b c d, l = [a, b, c, d] := by
  match l, h with
  | [a, b, c, d], _ => exact ⟨a, b, c, d, rfl⟩
theorem five_of {α : Type} {l : List α} (h : l.length = 5) : ∃ a b c d e, l = [a, b, c, d, e] := by
  match l, h with
  | [a, b, c, d, e], _ => exact ⟨a, b, c, d, e, rfl⟩
end

section
variable {H : Type} {enc : TypeId × Value → H} {W : World} {base : Nat} {v : Value} {d : DataW H} {p : List MemPlace} {fuel : Nat} {cs : List Value} {y : DataW H × List MemPlace}
theorem cellsU32 : Try.prog.cellsOf 22 = 1 := by kernel_rfl
theorem cellsU64 : Try.prog.cellsOf 27 = 1 := by kernel_rfl
theorem cellsBytes : Try.prog.cellsOf 26 = 1 := by kernel_rfl
theorem cellsBool : Try.prog.cellsOf 4 = 1 := by kernel_rfl

set_option maxRecDepth 100000 in
theorem view_u32s (hok : Value.okWide Try.prog W .any base 40 v) (h : DataW.Trod enc Try.prog W 0 (fun _ => true) true 40 v d p) :
    ∃ A n c l, v = .slice A n c ∧ n ≤ c ∧ Sl W A n (nums .u32 l) ∧ ∀ x ∈ l, (Lit.int .u32 x).wf = true := view_ints Try.underlying40 Try.underlying22 cellsU32 hok h
set_option maxRecDepth 100000 in
theorem view_u64s (hok : Value.okWide Try.prog W .any base 52 v) (h : DataW.Trod enc Try.prog W 0 (fun _ => true) true 52 v d p) :
    ∃ A n c l, v = .slice A n c ∧ n ≤ c ∧ Sl W A n (nums .u64 l) ∧ ∀ x ∈ l, (Lit.int .u64 x).wf = true := view_ints Try.underlying52 Try.underlying27 cellsU64 hok h
/-- A spot: log, length, offset. -/
structure SpotD where
  (a b c : Int)
def SpotD.val (s : SpotD) : Value := .agg #[.int .u32 s.a, .int .u32 s.b, .int .u32 s.c]
def SpotD.ok (s : SpotD) : Prop := (Lit.int .u32 s.a).wf = true ∧ (Lit.int .u32 s.b).wf = true ∧ (Lit.int .u32 s.c).wf = true
theorem spot_cells3 : Try.prog.cellsOf 24 = 3 := by kernel_rfl
set_option maxRecDepth 100000 in
theorem view_spot (hok : Value.okWide Try.prog W .any base 24 v) (h : DataW.Trod enc Try.prog W 0 (fun _ => true) true 24 v d p) :
    ∃ s : SpotD, v = s.val ∧ s.ok := by
  obtain ⟨l, rfl, fuel, x, hx⟩ := agg_of Try.underlying24 hok h
  obtain ⟨hl, n, hf⟩ := fields_of Try.underlying24 hx
  rw [spot_cells3] at hl
  obtain ⟨v0, v1, v2, rfl⟩ := three_of hl
  obtain ⟨_, h0⟩ := one_cell cellsU32 v0 rfl (hf 0 _ rfl)
  obtain ⟨_, h1⟩ := one_cell cellsU32 v1 rfl (hf 1 _ rfl)
  obtain ⟨_, h2⟩ := one_cell cellsU32 v2 rfl (hf 2 _ rfl)
  obtain ⟨a, e0, w0⟩ := int_cell Try.underlying22 h0
  obtain ⟨b, e1, w1⟩ := int_cell Try.underlying22 h1
  obtain ⟨c, e2, w2⟩ := int_cell Try.underlying22 h2
  simp at e0 e1 e2
  subst e0 e1 e2
  exact ⟨⟨a, b, c⟩, rfl, w0, w1, w2⟩

/-- The head of a record: key, data, time, both marks. -/
structure HeadD where
  (k d e m u : Int)
def HeadD.val (s : HeadD) : Value := .agg #[.int .u32 s.k, .int .u32 s.d, .int .u64 s.e, .int .u8 s.m, .int .u8 s.u]
def HeadD.ok (s : HeadD) : Prop := (Lit.int .u32 s.k).wf = true ∧ (Lit.int .u32 s.d).wf = true ∧ (Lit.int .u64 s.e).wf = true ∧ (Lit.int .u8 s.m).wf = true ∧ (Lit.int .u8 s.u).wf = true
theorem head_cells5 : Try.prog.cellsOf 37 = 5 := by kernel_rfl
set_option maxRecDepth 100000 in
theorem view_head (hok : Value.okWide Try.prog W .any base 37 v) (h : DataW.Trod enc Try.prog W 0 (fun _ => true) true 37 v d p) :
    ∃ s : HeadD, v = s.val ∧ s.ok := by
  obtain ⟨l, rfl, fuel, x, hx⟩ := agg_of Try.underlying37 hok h
  obtain ⟨hl, n, hf⟩ := fields_of Try.underlying37 hx
  rw [head_cells5] at hl
  obtain ⟨v0, v1, v2, v3, v4, rfl⟩ := five_of hl
  obtain ⟨_, h0⟩ := one_cell cellsU32 v0 rfl (hf 0 _ rfl)
  obtain ⟨_, h1⟩ := one_cell cellsU32 v1 rfl (hf 1 _ rfl)
  obtain ⟨_, h2⟩ := one_cell cellsU64 v2 rfl (hf 2 _ rfl)
  obtain ⟨_, h3⟩ := one_cell cells1 v3 rfl (hf 3 _ rfl)
  obtain ⟨_, h4⟩ := one_cell cells1 v4 rfl (hf 4 _ rfl)
  obtain ⟨a, e0, w0⟩ := int_cell Try.underlying22 h0
  obtain ⟨b, e1, w1⟩ := int_cell Try.underlying22 h1
  obtain ⟨c, e2, w2⟩ := int_cell Try.underlying27 h2
  obtain ⟨q, e3, w3⟩ := int_cell Try.underlying5 h3
  obtain ⟨r, e4, w4⟩ := int_cell Try.underlying5 h4
  simp at e0 e1 e2 e3 e4
  subst e0 e1 e2 e3 e4
  exact ⟨⟨a, b, c, q, r⟩, rfl, w0, w1, w2, w3, w4⟩

/-- A value: both marks, time, data. -/
structure ValD where
  (m u e : Int) (A : Option Addr) (n c : Nat) (l : List Int)
def ValD.val (s : ValD) : Value := .agg #[.int .u8 s.m, .int .u8 s.u, .int .u64 s.e, .slice s.A s.n s.c]
def ValD.ok (W : World) (s : ValD) : Prop := (Lit.int .u8 s.m).wf = true ∧ (Lit.int .u8 s.u).wf = true ∧ (Lit.int .u64 s.e).wf = true ∧ s.n ≤ s.c ∧ Sl W s.A s.n (nums .u8 s.l) ∧ ∀ x ∈ s.l, (Lit.int .u8 x).wf = true
theorem val_cells4 : Try.prog.cellsOf 69 = 4 := by kernel_rfl
set_option maxRecDepth 100000 in
theorem view_val (hok : Value.okWide Try.prog W .any base 69 v) (h : DataW.Trod enc Try.prog W 0 (fun _ => true) true 69 v d p) :
    ∃ s : ValD, v = s.val ∧ s.ok W := by
  obtain ⟨l, rfl, fuel, x, hx⟩ := agg_of Try.underlying69 hok h
  obtain ⟨hl, n, hf⟩ := fields_of Try.underlying69 hx
  rw [val_cells4] at hl
  obtain ⟨v0, v1, v2, v3, rfl⟩ := four_of hl
  obtain ⟨_, h0⟩ := one_cell cells1 v0 rfl (hf 0 _ rfl)
  obtain ⟨_, h1⟩ := one_cell cells1 v1 rfl (hf 1 _ rfl)
  obtain ⟨_, h2⟩ := one_cell cellsU64 v2 rfl (hf 2 _ rfl)
  obtain ⟨_, h3⟩ := one_cell cellsBytes v3 rfl (hf 3 _ rfl)
  obtain ⟨a, e0, w0⟩ := int_cell Try.underlying5 h0
  obtain ⟨b, e1, w1⟩ := int_cell Try.underlying5 h1
  obtain ⟨c, e2, w2⟩ := int_cell Try.underlying27 h2
  obtain ⟨A, n, k, l, e3, w3, w4, w5⟩ := ints_cell Try.underlying26 Try.underlying5 cells1 h3
  simp at e0 e1 e2 e3
  subst e0 e1 e2 e3
  exact ⟨⟨a, b, c, A, n, k, l⟩, rfl, w0, w1, w2, w3, w4, w5⟩
end
end Go.Proofs.Ytadhdimleabljaa
