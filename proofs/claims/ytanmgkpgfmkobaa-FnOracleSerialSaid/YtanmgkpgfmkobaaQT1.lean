-- Lines that a program has printed for this claim: functions as plain Lean functions, and their walks.
import Derived.Test.YtanmgkpgfmkobaaQT0
namespace Go.Proofs.YtanmgkpgfmkobaaQ.QT
open Go.RowKit Go.Proofs.YtanmgkpgfmkobaaQ.Ext Go.Proofs.YtanmgkpgfmkobaaW.PrintWords Go.Proofs.YtanmgkpgfmkobaaW.PrintLast
set_option linter.unusedVariables false
set_option linter.unusedSimpArgs false

/-! ### laws_actsOk: function 23 -/
def laws_actsOk.f (l0 : List (S55)) : Option (Bool) := some (decide ((l0.length : Int) ≤ 100))
set_option maxHeartbeats 8000000 in
set_option maxRecDepth 100000 in
theorem laws_actsOk.calls (A0 : Option Addr) (c0 : Nat) (l0 : List (S55)) (r : Bool) (w : World) (hr0 : Kd.C k55 w A0 l0.length l0) (hc0 : l0.length ≤ c0) (h : laws_actsOk.f l0 = some r) :
    Calls Try.prog 23 #[.slice A0 l0.length c0] w fun e w' => e = .returned (.bool r) ∧ Drawn0 w w' := by
  have HR0 := Aside0.mk hr0
  have HC0 := Aside0.mk hc0
  clear hr0 hc0
  have H : (some (decide ((l0.length : Int) ≤ 100))) = some r := h
  clear h
  obtain rfl := Option.some.inj H
  go_enter Try.func23, Try.ntmps23
  go_wp2
  go_ret
  exact ⟨by first | rfl | (simp; done) | (simp [*]; done), by repeat (first | exact Drawn0.refl _ | apply Drawn0.step)⟩

end Go.Proofs.YtanmgkpgfmkobaaQ.QT
