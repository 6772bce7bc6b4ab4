/- The record of a checksum: contracts. -/
import Derived.Test.YtadhdimleabljaaGM
import Derived.Test.YtadhdimleabljaaGB
import Derived.StillTailTactics
namespace Go.Proofs.Ytadhdimleabljaa
open Go.RowKit
set_option linter.unusedVariables false
set_option linter.unusedSimpArgs false
theorem cell_app0 {w w1 : World} {p : Addr} {v : Value} {r : Option Nat} (hg : w.grownBy w1 r) (hr : r ≠ some p.block) (h : w.cell? p = some v) : w1.cell? p = some v := by
  rw [hg.cell_far p (World.block_lt_of_cell? w _ h) (fun e => hr e.symm)]; exact h
theorem bl_app0 {w0 w w1 : World} {r : Option Nat} (hb : Hid (Below w0.heap.size w0 w)) (hg : w.grownBy w1 r) (hr : ∀ k, r = some k → w0.heap.size ≤ k) : Hid (Below w0.heap.size w0 w1) := hb.out.grown hg hb.out.size hr
theorem sl_wrote' {w w' : World} {g t n : Nat} {cs : List Value} {A : Option Addr} {xs : List Value} (h : Wrote w g t cs w') (hne : ∀ b o, A = some ⟨b, o, none⟩ → b ≠ g) (hs : Sl w A n xs) : Sl w' A n xs :=
  ⟨hs.1, fun hn => by
    obtain ⟨b, o, e, hc⟩ := hs.2 hn
    exact ⟨b, o, e, fun j u hu => cell_wrote h (hne b o e) (hc j u hu)⟩⟩
theorem bsz {w w1 : World} (h : Hid (Below w.heap.size w w1)) : w.heap.size ≤ w1.heap.size := h.out.size
/-- A checksum's record. -/
def sumR (x : Int) : List Int := if x = 0 then [] else 16 :: vint 9 x
set_option maxRecDepth 100000 in
theorem marshal0_any (g : Nat) (w : World) (hc0 : w.cell? ⟨g, 0, none⟩ = some (.int .i32 0)) (hc1 : w.cell? ⟨g, 1, none⟩ = some (.int .u64 0)) :
    Calls Try.prog 122 #[.pointer (some ⟨g, 0, none⟩)] w (Made w 5 (nums .u8 (sumR 0))) := by
  go_enter Try.func122, Try.ntmps122
  go_wp2
  go_ret
  exact ⟨_, rfl, World.ownsRow_nil w _ _ _, Below.refl _ _⟩
set_option maxRecDepth 100000 in
theorem marshal1_any (g : Nat) (x : Int) (w : World) (hc0 : w.cell? ⟨g, 0, none⟩ = some (.int .i32 0)) (hc1 : w.cell? ⟨g, 1, none⟩ = some (.int .u64 x)) (h0 : 0 ≤ x) (h1 : Hid (x ≤ 18446744073709551615)) (hx : (x == 0) = false) :
    Calls Try.prog 122 #[.pointer (some ⟨g, 0, none⟩)] w (Made w 5 (nums .u8 (sumR x))) := by
  have hx2 : (x != 0) = true := by simp [bne, hx]
  have HX : Hid (sumR x = [16] ++ vint 9 x) := by
    show _ = _
    unfold sumR
    rw [if_neg (by simpa using hx)]
    rfl
  have hg := World.block_lt_of_cell? w _ hc1
  go_enter Try.func122, Try.ntmps122
  go_wp2_with fail
  have HB : Hid (Below w.heap.size w w) := Below.refl _ _
  go_region_held3 (fun w' => w'.cell? ⟨g, 1, none⟩ = some (.int .u64 x) ∧ Hid (Below w.heap.size w w')) (first | exact ⟨hc1, HB⟩ | ((try go_split_ands); (repeat' with_reducible apply And.intro); all_goals first | exact cell_keep (by assumption) (by assumption) | exact bl_keep (by assumption) (by assumption) | exact cell_drew (by assumption) | exact bl_keepD (by assumption) | exact cell_alloc _ (by assumption) | exact bl_keepA _ (by assumption) | exact bl_keepN _ (by assumption)) | ((go_split_ands); exact ⟨cell_app0 hg1 (by simp [Value.ownBlock]) (by assumption), bl_app0 (by assumption) hg1 (by simp [Value.ownBlock])⟩) | ((go_split_ands); exact ⟨cell_app0 hon.1 (by intro e; have := (hown1.lt _ e).1; simp only at *; omega) (by assumption), bl_app0 (by assumption) hon.1 (fun k e => (hown1.lt _ e).1)⟩)) (first | (refine step_append_sl rfl (.tmp 23) (.tmp 24) 26 rfl w.heap.size 5 (.int .u8 0) 1 Try.underlying26 infoU8 rfl (.slice none 0 0) 0 [] rfl (World.ownsRow_nil _ _ _ _) _ 1 1 [.int .u8 16] rfl (sl_one _ _ _) (by simp [Value.oneCell']) (by omega) (by omega) (by simp) ?_; intro v1 w1 hown1 hg1 hat1) | (go_at_call 157; refine Calls.mono (appendUvarint_any x w.heap.size [16] v1 _ h0 h1.out ?cb (by simp) hown1) ?_; (case cb => first | exact bsz (by assumption) | exact bsz (And.right (by assumption))); rintro E w2 ⟨v2, rfl, hown2, hon⟩))
  all_goals
    go_split_ands
    have HBf : Hid (Below w.heap.size w w2) := by assumption
    have HO2 := Lib.hid hown2
    clear hown1 hg1 hat1 hown2 hon
    go_wp2
    go_ret
    exact ⟨v2, rfl, by rw [nums_length, HX.out]; exact HO2.out, HBf.out⟩
end Go.Proofs.Ytadhdimleabljaa
