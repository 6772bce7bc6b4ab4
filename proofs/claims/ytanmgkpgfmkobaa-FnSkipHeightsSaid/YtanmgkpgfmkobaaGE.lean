/- Texts that this claim shares with others, put together: E1 E2 E3. -/
import Derived.Test.YtanmgkpgfmkobaaGB
import Derived.StillTailTactics
/- Values: contracts. -/
namespace Go.Proofs.Ytanmgkpgfmkobaa
open Go.RowKit
set_option linter.unusedVariables false
set_option linter.unusedSimpArgs false
/-- A value's bytes. -/
def valB (m u e : Int) (l : List Int) : List Int := [m, u] ++ (vint 9 e ++ l)
theorem valB_len (m u e : Int) (l : List Int) : (valB m u e l).length = 2 + (vint 9 e).length + l.length := by simp [valB]; omega
theorem two63 (x : Int) (h : x < 2 ^ (64 - 7 * 9)) : x < 128 := by simp at h; omega
theorem sizeVarint_any (x : Int) (w : World) (h0 : 0 ≤ x) (h1 : Hid (x ≤ 18446744073709551615)) :
    Calls Try.prog 129 #[.int .u64 x] w fun e w' => e = .returned (.int .i64 (vint 9 x).length) ∧ w = w' := by
  obtain ⟨L, hL⟩ : ∃ L, L = (vint 9 x).length := ⟨_, rfl⟩
  have hv := vint_len 9 x
  have HL := Lib.hid hL
  have HV : L ≤ 10 := by omega
  rw [← hL]
  have hx : Hid (x < 2 ^ (64 - 7 * 0)) := by show _ < _; have := h1.out; simp; omega
  clear hL hv
  go_enter Try.func129, Try.ntmps129
  go_wp2
  go_loopg [0, 2] 10 (fun q v0 v2 wr => ∃ (i : Nat) (y : Int), v0 = .int .u64 y ∧ v2 = .int .i64 i ∧ i ≤ 9 ∧ 0 ≤ y ∧ Hid (i + q = 10) ∧ Hid (y < 2 ^ (64 - 7 * i)) ∧ Hid (L = i + (vint (9 - i) y).length) ∧ w = wr)
  case atStart => exact ⟨0, x, rfl, rfl, by omega, h0, rfl, hx, by have := HL.out; simpa [Hid] using this, rfl⟩
  case round =>
    obtain ⟨i, y, rfl, rfl, hi, hy0, hq, hy, hl, rfl⟩ := hrel
    by_cases hc : y < 128
    · have e0 : y / 128 = 0 := by omega
      have el : L = i + 1 := by have := hl.out; rw [vint_small _ _ hc] at this; simpa using this
      subst el
      go_wp2
      go_ret
      exact ⟨by simp, rfl⟩
    · have hz : (y / 128 == 0) = false := by simp; omega
      have i8 : i ≤ 8 := by
        rcases Nat.lt_or_ge i 9 with h | h
        · omega
        · exfalso
          have : i = 9 := by omega
          subst this
          exact hc (two63 y hy.out)
      have hy2 : Hid (y / 128 < 2 ^ (64 - 7 * (i + 1))) := two64 i i8 y hy.out
      have hl2 : Hid (L = (i + 1) + (vint (9 - (i + 1)) (y / 128)).length) := by
        have := hl.out
        obtain ⟨k, hk⟩ : ∃ k, 9 - i = k + 1 := ⟨8 - i, by omega⟩
        rw [hk, vint_big _ _ (by omega)] at this
        rw [show 9 - (i + 1) = k by omega]
        show _ = _
        simp at this
        omega
      go_wp2
      cases gk with
      | zero => exact absurd hq.out (by omega)
      | succ k1 =>
        go_roundg k1
        case measure => omega
        case rel => exact ⟨i + 1, y / 128, by simp, by go_num, by omega, by omega, by have := hq.out; show _ = _; omega, hy2, hl2, rfl⟩
theorem encodedSize_any (g : Nat) (e : Int) (A : Option Addr) (n c : Nat) (w : World) (h2 : w.cell? ⟨g, 2, none⟩ = some (.int .u64 e)) (h3 : w.cell? ⟨g, 3, none⟩ = some (.slice A n c)) (hn : n ≤ 1000000)
    (h0 : 0 ≤ e) (h1 : Hid (e ≤ 18446744073709551615)) :
    Calls Try.prog 120 #[.pointer (some ⟨g, 0, none⟩)] w fun E w' => E = .returned (.int .u32 ((2 + (vint 9 e).length + n : Nat) : Int)) ∧ w = w' := by
  have hv := vint_len 9 e
  obtain ⟨hv1, hv2⟩ := hv
  go_enter Try.func120, Try.ntmps120
  go_wp2_with fail
  refine (sizeVarint_any e w h0 h1).mono ?_
  rintro E w1 ⟨rfl, rfl⟩
  go_wp2
  go_ret
  refine ⟨?_, rfl⟩
  show Ending.returned (.int .u32 ((n : Int) + 2 + ((vint 9 e).length : Int))) = _
  congr 2
  omega
end Go.Proofs.Ytanmgkpgfmkobaa

/- Values by the specification. -/
namespace Go.Proofs.Ytanmgkpgfmkobaa
open Go.RowKit
set_option linter.unusedVariables false
set_option linter.unusedSimpArgs false
end Go.Proofs.Ytanmgkpgfmkobaa

/- Values in bytes: contracts. -/
namespace Go.Proofs.Ytanmgkpgfmkobaa
open Go.RowKit
set_option linter.unusedVariables false
set_option linter.unusedSimpArgs false
theorem sl_wrote {w w' : World} {g t n : Nat} {cs : List Value} {A : Option Addr} {xs : List Value} (h : Wrote w g t cs w') (hne : ∀ b o, A = some ⟨b, o, none⟩ → b ≠ g) (hs : Sl w A n xs) : Sl w' A n xs :=
  ⟨hs.1, fun hn => by
    obtain ⟨b, o, e, hc⟩ := hs.2 hn
    exact ⟨b, o, e, fun j u hu => cell_wrote h (hne b o e) (hc j u hu)⟩⟩
end Go.Proofs.Ytanmgkpgfmkobaa
