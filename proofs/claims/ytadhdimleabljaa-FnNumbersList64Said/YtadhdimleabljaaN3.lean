/- Lists of numbers of 64 bits. -/
import Derived.Test.YtadhdimleabljaaN1
import Derived.Test.YtadhdimleabljaaC8
namespace Go.Proofs.Ytadhdimleabljaa
open Go.RowKit
set_option linter.unusedVariables false
set_option linter.unusedSimpArgs false
def le64s (l : List Int) : List Int := (l.map fun x => lowL x 8).flatten
theorem le64s_snoc (l : List Int) (x : Int) : le64s (l ++ [x]) = le64s l ++ lowL x 8 := by simp [le64s]
theorem le64s_append (a b : List Int) : le64s (a ++ b) = le64s a ++ le64s b := by simp [le64s]
theorem le64s_len (l : List Int) : (le64s l).length = 8 * l.length := by
  induction l with
  | nil => rfl
  | cons x l ih =>
    have : le64s (x :: l) = lowL x 8 ++ le64s l := by simp [le64s]
    rw [this, List.length_append, ih, lowL_len]
    simp
    omega
theorem infoU64 : (Try.prog.info? 27).map (fun i => (i.zero, i.size, i.bytes)) = some (some (.int .u64 0), 1, 8) := by kernel_rfl
set_option maxRecDepth 100000 in
theorem u64Bytes_any (A : Option Addr) (n c : Nat) (l : List Int) (w : World) (h : Sl w A n (nums .u64 l)) (hw : ∀ x ∈ l, 0 ≤ x) (hn : n ≤ 1000000) :
    Calls Try.prog 98 #[.slice A n c] w (Made w 5 (nums .u8 (le64s l))) := by
  have H := Lib.hid h
  have HP := Lib.hid hw
  have hlen : l.length = n := by have := h.1; rwa [nums_length] at this
  have HL := Lib.hid hlen
  clear h hlen hw
  by_cases h0 : n = 0
  · subst h0
    go_enter Try.func98, Try.ntmps98
    go_wp2
    go_ret
    have : l = [] := List.eq_nil_of_length_eq_zero HL.out
    subst this
    exact ⟨_, rfl, World.ownsRow_nil w _ _ _, Below.refl _ _⟩
  have hz : ((n : Int) == 0) = false := by simp; omega
  go_enter Try.func98, Try.ntmps98
  go_wp2
  go_loopg [3, 5, 6, 12] n (fun q v3 v5 v6 v12 wr => ∃ (i : Nat), v12 = .int .i64 i ∧ i ≤ n ∧ Hid (i + q = n) ∧ Hid (wr.ownsRow w.heap.size 5 1 v3 (8 * i) (nums .u8 (le64s (l.take i)))) ∧ Hid (Below w.heap.size w wr))
  case atStart => exact ⟨0, rfl, by omega, by simp [Hid], World.ownsRow_nil w _ _ _, Below.refl _ _⟩
  case round =>
    obtain ⟨i, rfl, hi, hq, ho, hb⟩ := hrel
    by_cases h1 : i < n
    · obtain ⟨gkO, rfl⟩ : ∃ q, gk = q + 1 := ⟨gk - 1, by have := hq.out; omega⟩
      obtain ⟨g, o, x, rfl, hl, hc⟩ := (H.out.below hb.out).num h1
      have hx0 := HP.out x (List.mem_of_getElem? hl.out)
      go_wp2
      go_loopg [3, 6] 8 (fun q2 v3 v6 wr2 => ∃ (k : Nat), v6 = .int .i64 k ∧ k ≤ 8 ∧ Hid (k + q2 = 8) ∧ Hid (wr2.ownsRow w.heap.size 5 1 v3 (8 * i + k) (nums .u8 (le64s (l.take i) ++ lowL x k))) ∧ Hid (Below w.heap.size w wr2))
      case atStart => exact ⟨0, rfl, by omega, by simp [Hid], by simpa [lowL, Hid] using ho.out, hb⟩
      case round =>
        obtain ⟨k, rfl, hk, hq2, ho2, hb2⟩ := hrel
        by_cases hk8 : k < 8
        · go_wp2_with (at_builtin; refine wpList_append_sl _ rfl (.tmp 20) (.tmp 26) 26 rfl w.heap.size 5 (.int .u8 0) 1 Try.underlying26 infoU8 rfl u3 (8 * i + k) (nums .u8 (le64s (l.take i) ++ lowL x k)) rfl ?c1 _ 1 1 [_] rfl (sl_one _ _ _) ?c4 ?c2 (by omega) ?c3 ?_; (case c1 => exact ho2.out.alloc _); (case c4 => simp [Value.oneCell']); (case c2 => omega); (case c3 => have := hb2.out.size; simp; omega); intro v1 w1 hown1 hg1 hat1)
          cases gk with
          | zero => exact absurd hq2.out (by omega)
          | succ k2 =>
            go_roundg k2
            case measure => omega
            case rel =>
              refine ⟨k + 1, by go_num, by omega, by have := hq2.out; show _ = _; omega, ?_, below_app hb2.out ho2.out _ hg1⟩
              show World.ownsRow _ _ _ _ _ _ _
              rw [lowL, ← List.append_assoc, nums_snoc, ← Nat.add_assoc]
              exact hown1
        · obtain rfl : k = 8 := by omega
          go_wp2
          go_roundg gkO
          case measure => omega
          case rel =>
            refine ⟨i + 1, by go_num, by omega, by have := hq.out; show _ = _; omega, ?_, hb2⟩
            obtain ⟨g1, rfl⟩ := List.getElem?_eq_some_iff.1 hl.out
            show World.ownsRow _ _ _ _ _ _ _
            rw [List.take_succ_eq_append_getElem g1, le64s_snoc, show 8 * (i + 1) = 8 * i + 8 by omega]
            exact ho2.out
    · obtain rfl : i = n := by omega
      go_wp2
      go_ret
      have := ho.out
      rw [List.take_of_length_le (by have := HL.out; omega)] at this
      exact ⟨_, rfl, by rw [nums_length, le64s_len, HL.out]; exact this, hb.out⟩
end Go.Proofs.Ytadhdimleabljaa
