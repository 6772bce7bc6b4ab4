/- Filters of hashes: contracts. -/
import Derived.Test.YtadhdimleabljaaGB
namespace Go.Proofs.Ytadhdimleabljaa
open Go.RowKit
set_option linter.unusedVariables false
set_option linter.unusedSimpArgs false
theorem made_list (z : Value) (c : Nat) : madeCells #[z] c = (List.replicate c z).toArray := by
  apply Array.ext
  · simp [madeCells]
  · intro i h1 h2
    simp [madeCells, Nat.mod_one]
set_option maxRecDepth 100000 in
theorem extend_any (N : Nat) (w : World) (h0 : 9 ≤ N) (h1 : N ≤ 1270) :
    Calls Try.prog 166 #[.slice none 0 0, .int .i64 N] w fun E w' => ∃ g c, E = .returned (.tuple #[.slice (some ⟨g, 0, none⟩) N c, .slice (some ⟨g, 0, none⟩) N c]) ∧ w.heap.size ≤ g ∧ Blk w' g 5 (List.replicate c (.int .u8 0)) ∧ N ≤ c ∧ c ≤ 1300 ∧ Below w.heap.size w w' := by
  obtain ⟨i0, hi0, hz0, hz1, hz2⟩ := info_parts infoU8
  have hmk : ∀ (c : Nat) (W : World), N ≤ c → c ≤ 1300 → (Instr.makeSlice 26 (.int .i64 (N : Int)) (.int .i64 (c : Int))).run Try.prog W = .ok (.slice (some ⟨W.heap.size, 0, none⟩) N c) (W.alloc (.cells (List.replicate c (Value.int .u8 0)).toArray 5)) := by
    intro c W h2 h3
    have := run_make (P := Try.prog) W 26 5 i0 (.int .u8 0) Try.underlying26 hi0 hz0 .i64 .i64 (N : Int) (c : Int) (by omega) (by omega) (by rw [hz2]; omega) (by omega)
    rw [hz1, Nat.mul_one, Int.toNat_natCast, Int.toNat_natCast] at this
    rw [this]
    have e : (Value.int .u8 0).cells = #[Value.int .u8 0] := rfl
    rw [e, made_list]
  have hcp : ∀ (A : Option Addr) (n c : Nat) (W : World), (Builtin.copy_ #[26, 26] 3 #[.slice A n c, .slice none 0 0]).run Try.prog W = .ok (.int .i64 0) W := fun A n c W =>
    run_copy_none (P := Try.prog) W 26 26 3 5 A none n c 0 0 Try.underlying26 sizeU8 (by simp)
  have HMK := Lib.hid hmk
  clear hmk hi0 hz0 hz1 hz2
  have hn : ¬ (N : Int) ≤ 0 := by omega
  go_enter Try.func166, Try.ntmps166
  go_wp2
  go_loopg [8] 1 (fun q v8 wr => ∃ c : Nat, v8 = .int .i64 c ∧ c ≤ 1300 ∧ Hid ((c = 1024 ∧ q = 1) ∨ (c = 1280 ∧ q = 0)) ∧ w = wr)
  case atStart => exact ⟨1024, rfl, by omega, .inl ⟨rfl, rfl⟩, rfl⟩
  case round =>
    obtain ⟨c, rfl, hc, hq, rfl⟩ := hrel
    by_cases hlt : c < N
    · have hq1 : c = 1024 ∧ gk = 1 := by rcases hq.out with h | h; exact h; omega
      obtain ⟨rfl, rfl⟩ := hq1
      go_wp2
      go_roundg 0
      case measure => omega
      case rel => exact ⟨1280, rfl, by omega, .inr ⟨rfl, rfl⟩, rfl⟩
    · have hle : N ≤ c := by omega
      have hm := HMK.out c
      have hm2 := fun W => hm W hle hc
      clear hm
      go_wp2
      go_ret2
      exact ⟨w.heap.size, c, rfl, Nat.le_refl _, Blk.new _ _ _, hle, hc, bl_alloc (Below.refl _ _) _⟩
end Go.Proofs.Ytadhdimleabljaa
