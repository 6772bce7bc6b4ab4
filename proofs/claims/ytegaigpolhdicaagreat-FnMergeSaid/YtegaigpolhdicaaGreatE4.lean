/- Values in bytes: the thin package's contracts. -/
import Derived.Test.YtegaigpolhdicaaGreatGE
import Derived.Test.YtegaigpolhdicaaGreatGB
import Derived.Test.YtegaigpolhdicaaGreatQV
namespace Go.Proofs.YtegaigpolhdicaaGreat
open Go.RowKit
open Go.Proofs.YtegaigpolhdicaaGreatQ.Ext (sl_of_C C_of_sl own_of_R R_of_own)
open Go.Proofs.YtegaigpolhdicaaGreatW.PrintWords (Kd)
set_option linter.unusedVariables false
set_option linter.unusedSimpArgs false
/-- A value of the package: its data lie in new memory. -/
theorem structOf_any (m u e : Int) (A : Option Addr) (n c : Nat) (l : List Int) (w : World) (h : Sl w A n (nums .u8 l)) (hc : n ≤ c) (hn : n ≤ 1000000) :
    Calls Tryz.prog 32 #[.agg #[.int .u8 m, .int .u8 u, .int .u64 e, .slice A n c]] w fun E w' => ∃ v, E = .returned (.agg #[.int .u8 m, .int .u8 u, .int .u64 e, v, .int .u64 0]) ∧ w'.ownsRow w.heap.size 5 1 v n (nums .u8 l) ∧ Below w.heap.size w w' := by
  have hl : l.length = n := by have := h.1; rwa [nums_length] at this
  subst hl
  have := Go.Proofs.YtegaigpolhdicaaGreatQ.QV.impl_structOf.calls m u e A c l m u e l 0 w (C_of_sl h (by omega)) hc (by
    unfold Go.Proofs.YtegaigpolhdicaaGreatQ.QV.impl_structOf.f Go.Proofs.YtegaigpolhdicaaGreatQ.Ext.impl_own.f
    rw [if_pos (by omega)]
    rfl)
  exact this.mono fun E w' ⟨v, he, hr, hb⟩ => ⟨v, he, own_of_R hr, hb⟩
theorem valueOf_any (m u e ver : Int) (A : Option Addr) (n c : Nat) (l : List Int) (w : World) (h : Sl w A n (nums .u8 l)) (hc : n ≤ c) (hn : n ≤ 1000000) :
    Calls Tryz.prog 36 #[.agg #[.int .u8 m, .int .u8 u, .int .u64 e, .slice A n c, .int .u64 ver]] w fun E w' => ∃ v, E = .returned (.agg #[.int .u8 m, .int .u8 u, .int .u64 e, v]) ∧ w'.ownsRow w.heap.size 5 1 v n (nums .u8 l) ∧ Below w.heap.size w w' := by
  have hl : l.length = n := by have := h.1; rwa [nums_length] at this
  subst hl
  have := Go.Proofs.YtegaigpolhdicaaGreatQ.QV.impl_valueOf.calls m u e A c l ver m u e l w (C_of_sl h (by omega)) hc (by
    unfold Go.Proofs.YtegaigpolhdicaaGreatQ.QV.impl_valueOf.f Go.Proofs.YtegaigpolhdicaaGreatQ.Ext.impl_own.f
    rw [if_pos (by omega)]
    rfl)
  exact this.mono fun E w' ⟨v, he, hr, hb⟩ => ⟨v, he, own_of_R hr, hb⟩
end Go.Proofs.YtegaigpolhdicaaGreat
