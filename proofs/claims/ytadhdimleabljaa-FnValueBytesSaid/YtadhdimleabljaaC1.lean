/- Contracts: copies of bytes, numbers in as few bytes as they need. -/
import Derived.Test.YtadhdimleabljaaM
namespace Go.Proofs.Ytadhdimleabljaa
open Go.RowKit
set_option linter.unusedVariables false
set_option linter.unusedSimpArgs false

theorem infoU8 : (Try.prog.info? 5).map (fun i => (i.zero, i.size, i.bytes)) = some (some (.int .u8 0), 1, 1) := by kernel_rfl

theorem own_any (A : Option Addr) (n c : Nat) (l : List Int) (w : World) (h : Sl w A n (nums .u8 l)) (hn : n ≤ 140737488355328) :
    Calls Try.prog 89 #[.slice A n c] w (Made w 5 (nums .u8 l)) := by
  have hlen : (nums .u8 l).length = n := h.1
  have Hl := Lib.hid hlen
  clear hlen
  go_enter Try.func89, Try.ntmps89
  go_wp2_with (at_builtin; refine wpList_append_sl _ rfl (.tmp 3) (.tmp 4) 26 rfl w.heap.size 5 (.int .u8 0) 1 Try.underlying26 infoU8 rfl (.slice (some ⟨w.heap.size, 0, none⟩) 0 0) 0 [] rfl ?c1 A n c (nums .u8 l) rfl (h.alloc _) (nums_one _ _) ?c2 (by omega) ?c3 ?_; (case c1 => exact World.ownsRow_made w #[] 0 (Nat.le_refl _) (by simp [maxLen]) rfl); (case c2 => omega); (case c3 => simp); intro v1 w1 hown1 hg1 hat1)
  go_ret
  refine ⟨v1, rfl, ?_, ?_⟩
  · rw [Hl.out]; simpa using hown1
  · exact ((Below.refl _ _).alloc (Nat.le_refl _) _).grown hg1 (by simp) (by simp [Value.ownBlock])

/-- The bytes of a number, the lowest seven bits first (fuel: how many more). -/
def vint : Nat → Int → List Int
  | 0, x => [x]
  | k + 1, x => if x < 128 then [x] else (x % 128 + 128) :: vint k (x / 128)
theorem vint_small (k : Nat) (x : Int) (h : x < 128) : vint k x = [x] := by cases k <;> simp [vint, h]
theorem vint_big (k : Nat) (x : Int) (h : 128 ≤ x) : vint (k + 1) x = (x % 128 + 128) :: vint k (x / 128) := by rw [vint, if_neg (by omega)]
theorem or128 (x : Int) : bits .or .u8 (x % 256) 128 = x % 128 + 128 := by
  have hd : ∀ n : Fin 256, (n.val ||| 128) = n.val % 128 + 128 := by decide +kernel
  rw [u8_or (x % 256) 128 (by omega) (by omega) (by omega) (by omega)]
  have h2 := hd ⟨(x % 256).toNat, by omega⟩
  simp only at h2
  have h3 : (128 : Int).toNat = 128 := rfl
  rw [h3, h2]
  omega

/-- w' is w with new blocks, and v's row (or its new one) written. -/
def Onto (w : World) (v : Value) (w' : World) (v' : Value) : Prop :=
  w.grownBy w' v.ownBlock ∧ (v'.ownBlock = v.ownBlock ∨ ∃ b, v'.ownBlock = some b ∧ w.heap.size ≤ b)
theorem Onto.refl (w : World) (v : Value) : Onto w v w v := ⟨World.grownBy.refl w _, .inl rfl⟩
theorem grownBy_then {a b c : World} {r s : Option Nat} (h : a.grownBy b r) (k : b.grownBy c s) (hs : s = r ∨ ∃ x, s = some x ∧ a.heap.size ≤ x) : a.grownBy c r :=
  ⟨k.os.trans h.os, k.tape.trans h.tape, k.output.trans h.output, Nat.le_trans h.size k.size, fun i hi hne => (k.block i (Nat.lt_of_lt_of_le hi h.size) (by
    rcases hs with rfl | ⟨x, rfl, hx⟩
    · exact hne
    · intro e; injection e with e; omega)).trans (h.block i hi hne)⟩
theorem Onto.step {w w1 w2 : World} {v v1 v2 : Value} (h : Onto w v w1 v1) (o : Obj) (hg : (w1.alloc o).grownBy w2 v1.ownBlock) (ha : v2.ownBlock = v1.ownBlock ∨ v2.ownBlock = some (w1.alloc o).heap.size) : Onto w v w2 v2 := by
  have h1 : w.grownBy (w1.alloc o) v.ownBlock := grownBy_then h.1 (World.grownBy_alloc w1 o v.ownBlock) (.inl rfl)
  have hs : w.heap.size ≤ (w1.alloc o).heap.size := h1.size
  refine ⟨grownBy_then h1 hg h.2, ?_⟩
  rcases ha with ha | ha
  · rw [ha]; exact h.2
  · exact .inr ⟨_, ha, hs⟩

theorem appendUvarint_any (x : Int) (base : Nat) (l : List Int) (v : Value) (w : World) (h0 : 0 ≤ x) (h1 : x ≤ 18446744073709551615) (hb : base ≤ w.heap.size)
    (hl : l.length ≤ 1000000) (hown : w.ownsRow base 5 1 v l.length (nums .u8 l)) :
    Calls Try.prog 157 #[v, .int .u64 x] w fun e w' => ∃ v', e = .returned v' ∧
      w'.ownsRow base 5 1 v' (l ++ vint 9 x).length (nums .u8 (l ++ vint 9 x)) ∧ Onto w v w' v' := by
  have H1 : Hid (x < 128 ^ 10) := by show _ < _; omega
  clear h1
  go_enter Try.func157, Try.ntmps157
  go_wp2
  go_loopg [0, 1] 9 (fun kq v0 v1 w' => ∃ (x' : Int) (l' : List Int), v1 = .int .u64 x' ∧ Hid (0 ≤ x' ∧ x' < 128 ^ (kq + 1)) ∧ Hid (l ++ vint 9 x = l' ++ vint kq x') ∧ Hid (l'.length + kq = l.length + 9) ∧ Hid (w'.ownsRow base 5 1 v0 l'.length (nums .u8 l')) ∧ Hid (Onto w v w' v0))
  case atStart => exact ⟨x, l, rfl, ⟨h0, H1.out⟩, rfl, rfl, hown, Onto.refl _ _⟩
  case round =>
    obtain ⟨x', l', rfl, hx, he, hlen, ho, hf⟩ := hrel
    by_cases hlt : x' < 128
    · have hx0 := hx.out.1
      go_wp2_with (at_builtin; refine wpList_append_sl _ rfl (.tmp 15) (.tmp 18) 26 rfl base 5 (.int .u8 0) 1 Try.underlying26 infoU8 rfl u0 l'.length (nums .u8 l') rfl ?c1 _ 1 1 [_] rfl (sl_one _ _ _) ?c4 ?c2 (by omega) ?c3 ?_; (case c1 => exact ho.out.alloc _); (case c4 => simp [Value.oneCell']); (case c2 => have := hlen.out; omega); (case c3 => have := hf.out.1.size; simp; omega); intro v1 w1 hown1 hg1 hat1)
      go_ret
      refine ⟨v1, rfl, ?_, hf.out.step _ hg1 hat1⟩
      rw [he.out, vint_small _ _ hlt, nums_snoc, List.length_append]
      exact hown1
    · have hx1 := hx.out.2
      go_wp2_with (at_builtin; refine wpList_append_sl _ rfl (.tmp 7) (.tmp 11) 26 rfl base 5 (.int .u8 0) 1 Try.underlying26 infoU8 rfl u0 l'.length (nums .u8 l') rfl ?d1 _ 1 1 [_] rfl (sl_one _ _ _) ?d4 ?d2 (by omega) ?d3 ?_; (case d1 => exact ho.out.alloc _); (case d4 => simp [Value.oneCell']); (case d2 => have := hlen.out; omega); (case d3 => have := hf.out.1.size; simp; omega); intro v1 w1 hown1 hg1 hat1)
      cases gk with
      | zero => exact absurd hx1 (by simp only [Nat.zero_add, Int.pow_one]; omega)
      | succ k1 =>
        go_roundg k1
        case measure => omega
        case rel => exact ⟨x' / 128, l' ++ [x' % 128 + 128], rfl, ⟨by have := hx.out.1; omega, by rw [Int.pow_succ] at hx1; omega⟩, by rw [Hid, he.out, vint_big _ _ (by omega)]; simp, by have := hlen.out; simp [Hid]; omega, by rw [Hid, nums_snoc, ← or128, List.length_append]; exact hown1, hf.out.step _ hg1 hat1⟩
end Go.Proofs.Ytadhdimleabljaa
