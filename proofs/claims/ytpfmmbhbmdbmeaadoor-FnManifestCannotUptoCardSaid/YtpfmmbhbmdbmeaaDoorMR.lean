/- Words for a range over a map with whole-number keys. -/
import Derived.Test.YtpfmmbhbmdbmeaaDoorMP
import Derived.Maps.RangeWalk
namespace Go.Proofs.YtpfmmbhbmdbmeaaDoor
open Go.RowKit
set_option linter.unusedVariables false
/-- A range over the map at block b is under way, its iterator at block r: what is left of it. -/
def RanAt (P : Program) (w : World) (k : TypeId) (q : IntKind) (b r n : Nat) (m : Int → Option Value) (left : Int → Bool) (cnt : Nat) : Prop :=
  ∃ (D : DataW Value) (lf : Lit → Bool), w.ranges P k heldR b r n D lf cnt ∧ (∀ x, (Lit.int q x).wf = true → Maps.has D (.int q x) = (m x).isSome ∧ ∀ z, D.atKey (.int q x) z = (match m x with | some v => .held v | none => z)) ∧ ∀ x, (Lit.int q x).wf = true → lf (.int q x) = left x
section
variable {P : Program} {w w' : World} {k : TypeId} {q : IntKind} {b r n cnt : Nat} {m : Int → Option Value} {left : Int → Bool}
theorem RanAt.map (h : RanAt P w k q b r n m left cnt) : MapAt P w k q b n m := by
  obtain ⟨D, lf, h1, h2, _⟩ := h
  exact ⟨D, h1.owns, h2⟩
theorem RanAt.left_eq (h : RanAt P w k q b r n m left cnt) : w.rangeLeft b r = cnt := by
  obtain ⟨D, lf, h1, _⟩ := h
  exact h1.left_eq
theorem RanAt.lt (h : RanAt P w k q b r n m left cnt) : r < w.heap.size := by
  obtain ⟨D, lf, h1, _⟩ := h
  exact h1.lt
theorem RanAt.kept {row : Option Nat} (h : RanAt P w k q b r n m left cnt) (hg : w.grownBy w' row) (hb : some b ≠ row) (hr : some r ≠ row) : RanAt P w' k q b r n m left cnt := by
  obtain ⟨D, lf, h1, h2, h3⟩ := h
  exact ⟨D, lf, h1.kept hg hb hr, h2, h3⟩
theorem RanAt.alloc (h : RanAt P w k q b r n m left cnt) (o : Obj) : RanAt P (w.alloc o) k q b r n m left cnt := h.kept (World.grownBy_alloc w o none) (by simp) (by simp)
theorem RanAt.below (h : RanAt P w k q b r n m left cnt) (hb : Below w.heap.size w w') : RanAt P w' k q b r n m left cnt :=
  h.kept (row := none) ⟨hb.os, hb.tape, hb.output, hb.size, fun i hi _ => hb.block i hi⟩ (by simp) (by simp)
theorem RanAt.iter (h : RanAt P w k q b r n m left cnt) : ∃ a b c d, w.heap[r]? = some (.mapIter a b c d) := by
  obtain ⟨D, lf, ⟨es, clock, since, seen, c0, _, _, _, _, h5, _⟩, _⟩ := h
  exact ⟨_, _, _, _, h5⟩
theorem RanAt.ne_blk (h : RanAt P w k q b r n m left cnt) {g t : Nat} {cs : List Value} (hb : Blk w g t cs) : g ≠ r := fun e => by
  obtain ⟨a1, a2, a3, a4, h1⟩ := h.iter
  subst e
  have h2 : w.heap[g]? = some (.cells cs.toArray t (0, 0)) := hb
  rw [h1] at h2
  injection h2 with h2
  cases h2
theorem RanAt.ne_own (h : RanAt P w k q b r n m left cnt) {base e s j : Nat} {v : Value} {xs : List Value} (ho : w.ownsRow base e s v j xs) : v.ownBlock ≠ some r := fun hb => by
  obtain ⟨a1, a2, a3, a4, h1⟩ := h.iter
  rcases ho.2 with ⟨rfl, _⟩ | ⟨g, cap, cur, rfl, _, hh, _⟩
  · cases hb
  · simp only [Value.ownBlock, Option.some.injEq] at hb
    subst hb
    rw [h1] at hh
    injection hh with hh
    cases hh
theorem RanAt.congr {l2 : Int → Bool} (h : RanAt P w k q b r n m left cnt) (e : ∀ x, (Lit.int q x).wf = true → left x = l2 x) : RanAt P w k q b r n m l2 cnt := by
  obtain ⟨D, lf, h1, h2, h3⟩ := h
  exact ⟨D, lf, h1, h2, fun x hx => (h3 x hx).trans (e x hx)⟩
theorem same_int {q : IntKind} (x y : Int) : (Lit.int q y).sameKey (Lit.int q x) = decide (y = x) := by
  by_cases e : y = x
  · subst e
    rw [decide_eq_true rfl]
    unfold Lit.sameKey
    simp
  · rw [decide_eq_false e]
    cases h : (Lit.int q y).sameKey (Lit.int q x) with
    | false => rfl
    | true => exact absurd (WideAt.sameKey_eq h) (lit_ne e)
end
theorem own_size {P : Program} {w : World} {k : TypeId} {b n : Nat} {D : DataW Value} {R : Value → Option (DataW Value × List MemPlace)} (h1 : w.ownsMap P k R b n D) : Maps.size D ≤ n := by
  obtain ⟨es, clock, hb, F, hs, hD⟩ := h1
  rw [hD]
  show (List.foldr DataW.insert [] _).length ≤ n
  rw [length_read]
  exact hs
theorem MapAt.len {P : Program} {w : World} {k : TypeId} {q : IntKind} {b n : Nat} {m : Int → Option Value} (h : MapAt P w k q b n m) {t e : TypeId} (ht : P.underlying t = some (.map k e)) :
    ∃ j : Nat, j ≤ n ∧ ∀ ty, (Builtin.len_ #[t] ty #[.map (some b)]).run P w = .ok (.int .i64 (j : Int)) w := by
  obtain ⟨D, h1, h2⟩ := h
  refine ⟨Maps.size D, ?_, fun ty => h1.len ht ty⟩
  obtain ⟨es, clock, hb, F, hs, hD⟩ := h1
  rw [hD]
  show (List.foldr DataW.insert [] _).length ≤ n
  rw [length_read]
  exact hs
section
variable {P : Program} {w : World} {ops : Array Oper} {rest : List Oper} {o : Oper} {a : Act} {Q : Exit → Act → World → Prop} {k : TypeId} {q : IntKind} {b n : Nat} {m : Int → Option Value}
/-- 'range m' at the operation. -/
theorem wpList_range_at (hg : o.guard = none) (mo : Operand) (t : TypeId) (hop : o.op = Op.range t mo) (h : MapAt P w k q b n m) (hk : P.underlying k = some (.int q)) {e : TypeId} (ht : P.underlying t = some (.map k e)) (hm : a.eval mo = .map (some b))
    (hK : ∀ w' cnt, RanAt P w' k q b w.heap.size n m (fun x => (m x).isSome) cnt → cnt ≤ n → w.grownBy w' none → w'.heap.size = w.heap.size + 1 → wpList P ops Q rest (a.put o.dst (.pointer (some ⟨w.heap.size, 0, none⟩))) w') :
    wpList P ops Q (o :: rest) a w := by
  obtain ⟨D, h1, h2⟩ := h
  exact wpList_range_own w hg mo t hop k e (Maps.int_keyed hk) ht heldR b n D hm h1 (fun w' hr hg hs => hK w' _ ⟨D, _, hr, h2, fun x hx => (h2 x hx).1⟩ (own_size h1) hg hs)
/-- The step of a range at the operation. -/
theorem wpList_next_at (hg : o.guard = none) (it : Operand) (hop : o.op = Op.next it false) {r cnt : Nat} {left : Int → Bool} (h : RanAt P w k q b r n m left cnt) (hk : P.underlying k = some (.int q)) (hit : a.eval it = .pointer (some ⟨r, 0, none⟩))
    (hDone : (∀ x, (Lit.int q x).wf = true → left x = false) → wpList P ops Q rest (a.put o.dst (.tuple #[.bool false])) w)
    (hMore : ∀ (x : Int) (v : Value) (w' : World) (cnt' : Nat), (Lit.int q x).wf = true → left x = true → m x = some v → RanAt P w' k q b r n m (fun y => left y && !decide (y = x)) cnt' → cnt' < cnt → w.grownBy w' (some r) → w'.heap.size = w.heap.size →
      (Instr.entry (.pointer (some ⟨r, 0, none⟩))).run P w' = .ok (.tuple #[.int q x, v]) w' → wpList P ops Q rest (a.put o.dst (.tuple #[.bool true, .int q x, v])) w') :
    wpList P ops Q (o :: rest) a w := by
  obtain ⟨D, lf, h1, h2, h3⟩ := h
  refine wpList_next_ranges w hg it hop k (Maps.int_keyed hk) heldR (Value.int q) (fun v : Value => v) (fun key kl hkey => by obtain ⟨x, rfl, _⟩ := Maps.keyOf_int_inv hk hkey; exact ⟨x, rfl⟩) (fun v y _ => ⟨v, rfl⟩)
    b r n D lf cnt hit h1 (fun _ hl => hDone (fun x hx => by rw [← h3 x hx]; exact hl _)) (fun x c kl y w' cnt' hkey hlk hv hat hrg hlt hgr hsz hen => ?_)
  obtain ⟨x', ex, rfl, hwx⟩ := Maps.keyOf_int_inv hk hkey
  cases ex
  have hy : y.1 = .held c := by simp only [heldR, Option.some.injEq] at hv; rw [← hv]
  have hm : m x = some c := by
    have h4 := (h2 x hwx).2
    cases hmx : m x with
    | none =>
      rw [hmx] at h4
      have h5 := h4 (.lit (.bool true))
      rw [hat, hy] at h5
      cases h5
    | some u =>
      rw [hmx] at h4
      have h5 := h4 (.lit (.bool true))
      rw [hat, hy] at h5
      injection h5 with h5
      rw [h5]
  exact hMore x c w' cnt' hwx (by rw [← h3 x hwx]; exact hlk) hm ⟨D, _, hrg, h2, fun z hz => by rw [h3 z hz, same_int]⟩ hlt hgr hsz hen
end
end Go.Proofs.YtpfmmbhbmdbmeaaDoor
