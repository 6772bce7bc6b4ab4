/- Texts that this claim shares with others, put together: M2 M3. -/
import Derived.Test.YtegaigpolhdicaaGreatGB
import Derived.StillTailTactics
import Derived.IntWalk
/- More words for memory: what a drawn region keeps. -/
namespace Go.Proofs.YtegaigpolhdicaaGreat
open Go.RowKit
set_option linter.unusedVariables false
section
variable {w w1 : World} {p a : Addr} {u v : Value}
theorem cell_far (hne : p.block ≠ a.block) (h : w.cell? p = some v) : (w.setCell a u).cell? p = some v := by
  rw [World.cell?_setCell_far w a p u (fun e => hne e.symm)]; exact h
end
section
variable {w w' w1 : World} {a b n : Nat} {v0 v1 v2 v3 : Value}
end
end Go.Proofs.YtegaigpolhdicaaGreat

/- More steps of drawn regions. -/
namespace Go.Proofs.YtegaigpolhdicaaGreat
open Go.RowKit
set_option linter.unusedVariables false
set_option linter.unusedSimpArgs false
/-- append of whatever slice of one-cell elements, as one step of a region that draws. -/
theorem step_append_sl {P : Program} {ops : Array Oper} {o : Oper} {a : Act} {w : World} {K : Act → World → Prop} {Q : Exit → Act → World → Prop} {E : Prop} (hgd : o.guard = none) (s x : Operand) (t : TypeId)
    (ho : o.op = .call { callee := .builtin .append, args := #[s, x], argTypes := #[t, t] })
    (base : Nat) (e : TypeId) (z : Value) (bytes : Nat) (ht : P.underlying t = some (.slice e))
    (hinfo : (P.info? e).map (fun i => (i.zero, i.size, i.bytes)) = some (some z, 1, bytes)) (hz : z.cells.size = 1)
    (v : Value) (n : Nat) (xs : List Value) (hs : a.eval s = v) (hown : w.ownsRow base e 1 v n xs)
    (A : Option Addr) (m c : Nat) (news : List Value) (hx : a.eval x = .slice A m c) (hr : Sl w A m news) (h1 : ∀ u ∈ news, u.oneCell' = true)
    (hbytes : (n + m) * bytes ≤ 140737488355328) (hb0 : 0 < bytes) (hbase : base ≤ w.heap.size)
    (h : ∀ v' w', w'.ownsRow base e 1 v' (n + m) (xs ++ news) → w.grownBy w' v.ownBlock → (v'.ownBlock = v.ownBlock ∨ v'.ownBlock = some w.heap.size) → K (a.put o.dst v') w') :
    if Region.wanted o (yielded ops a.tmps) = true then Oper.wp P o a w K Q else E := by
  have hw : Region.wanted o (yielded ops a.tmps) = true := by simp [Region.wanted, hgd]
  rw [if_pos hw]
  obtain ⟨v', w', hrun, h2, h3, h4⟩ := run_append_sl (P := P) w base t o.type e z bytes ht hinfo hz v n xs hown A m c news hr h1 hbytes hb0 hbase
  unfold Oper.wp execOp
  simp only [ho, resolve, invoke, builtin, Sem.run_bind, Sem.run_pure, Result.andThen_ok, List.map_toArray, List.map_cons, List.map_nil, hs, hx, hrun]
  exact h v' w' h2 h3 h4
theorem own_drew {w : World} {base e s n : Nat} {v : Value} {xs : List Value} (h : w.ownsRow base e s v n xs) : w.drew.ownsRow base e s v n xs := h
end Go.Proofs.YtegaigpolhdicaaGreat
