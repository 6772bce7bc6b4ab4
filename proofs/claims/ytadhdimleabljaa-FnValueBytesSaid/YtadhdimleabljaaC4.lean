/- Contracts: lists of bytes joined, numbers with the highest or the lowest byte first. -/
import Derived.Test.YtadhdimleabljaaC3
namespace Go.Proofs.Ytadhdimleabljaa
open Go.RowKit
set_option linter.unusedVariables false
set_option linter.unusedSimpArgs false

/-- A slice of slices of bytes that reads as lists. -/
def Sls (w : World) (A : Option Addr) (n : Nat) (ls : List (List Int)) : Prop :=
  ls.length = n ∧ (0 < n → ∃ g o, A = some ⟨g, o, none⟩ ∧ ∀ j l, ls[j]? = some l → ∃ B c, w.cell? ⟨g, o + j, none⟩ = some (.slice B l.length c) ∧ l.length ≤ c ∧ Sl w B l.length (nums .u8 l))
theorem Sls.below {w w' : World} {A : Option Addr} {n : Nat} {ls : List (List Int)} (h : Sls w A n ls) (hb : Below w.heap.size w w') : Sls w' A n ls :=
  ⟨h.1, fun hn => by
    obtain ⟨g, o, e, hc⟩ := h.2 hn
    refine ⟨g, o, e, fun j l hl => ?_⟩
    obtain ⟨B, c, h1, h2, h3⟩ := hc j l hl
    exact ⟨B, c, by rw [hb.cell (World.block_lt_of_cell? w _ h1)]; exact h1, h2, h3.below hb⟩⟩
theorem Sls.num {w : World} {A : Option Addr} {n : Nat} {ls : List (List Int)} (h : Sls w A n ls) {j : Nat} (hj : j < n) :
    ∃ g o B c l, A = some ⟨g, o, none⟩ ∧ Hid (ls[j]? = some l) ∧ w.cell? ⟨g, o + j, none⟩ = some (.slice B l.length c) ∧ l.length ≤ c ∧ Hid (Sl w B l.length (nums .u8 l)) := by
  obtain ⟨g, o, e, hc⟩ := h.2 (by omega)
  have hl : j < ls.length := by have := h.1; omega
  obtain ⟨B, c, h1, h2, h3⟩ := hc j _ (List.getElem?_eq_getElem hl)
  exact ⟨g, o, B, c, ls[j], e, List.getElem?_eq_getElem hl, h1, h2, h3⟩
theorem flatten_take (ls : List (List Int)) (i : Nat) (l : List Int) (h : ls[i]? = some l) : (ls.take (i + 1)).flatten = (ls.take i).flatten ++ l := by
  obtain ⟨g, rfl⟩ := List.getElem?_eq_some_iff.1 h
  rw [List.take_succ_eq_append_getElem g, List.flatten_append]
  simp only [List.flatten_cons, List.flatten_nil, List.append_nil]
theorem flatten_take_le (ls : List (List Int)) (i : Nat) : (ls.take i).flatten.length ≤ ls.flatten.length := by
  conv => rhs; rw [← List.take_append_drop i ls]
  rw [List.flatten_append, List.length_append]
  omega

theorem join_any (A : Option Addr) (n c : Nat) (ls : List (List Int)) (w : World) (h : Sls w A n ls) (hn : n ≤ 1000000) (hb : Hid (ls.flatten.length ≤ 100000000)) :
    Calls Try.prog 37 #[.slice A n c] w (Made w 5 (nums .u8 ls.flatten)) := by
  have H : Hid (Sls w A n ls) := h
  clear h
  go_enter Try.func37, Try.ntmps37
  go_wp2
  go_loopg [3, 9] n (fun q v3 v9 wr => ∃ i : Nat, v9 = .int .i64 i ∧ i ≤ n ∧ Hid (i + q = n) ∧ Hid (wr.ownsRow w.heap.size 5 1 v3 (ls.take i).flatten.length (nums .u8 (ls.take i).flatten)) ∧ Hid (Below w.heap.size w wr))
  case atStart => exact ⟨0, rfl, by omega, by simp [Hid], World.ownsRow_made w #[] 0 (Nat.le_refl _) (by simp [maxLen]) rfl, (Below.refl _ _).alloc (Nat.le_refl _) _⟩
  case round =>
    obtain ⟨i, rfl, hi1, hq, ho, hbl⟩ := hrel
    by_cases h1 : i < n
    · obtain ⟨g, o, B, cc, l, rfl, hl, hc, hcc, hs⟩ := (H.out.below hbl.out).num h1
      have hfl := flatten_take ls i l hl.out
      have Hfl := Lib.hid hfl
      clear hfl
      have hle := flatten_take_le ls (i + 1)
      rw [Hfl.out, List.length_append] at hle
      have Hle := Lib.hid hle
      clear hle
      go_wp2_with (at_builtin; refine wpList_append_sl _ rfl (.tmp 13) (.tmp 14) 26 rfl w.heap.size 5 (.int .u8 0) 1 Try.underlying26 infoU8 rfl u3 _ _ rfl ho.out _ l.length cc (nums .u8 l) rfl hs.out (nums_one _ _) ?c2 (by omega) ?c3 ?_; (case c2 => have := Hle.out; have := hb.out; omega); (case c3 => exact hbl.out.size); intro v1 w1 hown1 hg1 hat1)
      cases gk with
      | zero => exact absurd hq.out (by omega)
      | succ k1 =>
        go_roundg k1
        case measure => omega
        case rel => exact ⟨i + 1, by go_num, by omega, by have := hq.out; show _ = _; omega, by show World.ownsRow _ _ _ _ _ _ _; rw [Hfl.out, nums_append, List.length_append]; exact hown1, hbl.out.grown hg1 hbl.out.size (fun k hk => (ho.out.lt k hk).1)⟩
    · obtain rfl : i = n := by omega
      go_wp2
      go_ret
      refine ⟨_, rfl, ?_, hbl.out⟩
      have := ho.out
      rw [List.take_of_length_le (by rw [H.out.1]; exact Nat.le_refl _)] at this
      rw [nums_length]
      exact this

/-- A number in some bytes, the highest one first. -/
def highL (n : Int) : Nat → List Int
  | 0 => []
  | k + 1 => (n / 256 ^ k % 256) :: highL n k
theorem pow256 (k : Nat) : (256 : Int) ^ k = 2 ^ (8 * k) := by rw [Int.pow_mul]; rfl
theorem highL_len (n : Int) (k : Nat) : (highL n k).length = k := by
  induction k with
  | zero => rfl
  | succ k ih => simp [highL, ih]
theorem highL_two (n : Int) (h0 : 0 ≤ n) (h1 : n < 65536) : highL n 2 = be16 n := by
  simp only [highL, be16, Int.pow_succ, Int.pow_zero]
  simp
  omega
theorem highL_four (n : Int) (h0 : 0 ≤ n) (h1 : n < 4294967296) : highL n 4 = be32 n := by
  simp only [highL, be32, be16, Int.pow_succ, Int.pow_zero]
  simp
  omega
theorem highL_eight (n : Int) (h0 : 0 ≤ n) (h1 : n < 18446744073709551616) : highL n 8 = be64 n := by
  simp only [highL, be64, be32, be16, Int.pow_succ, Int.pow_zero]
  simp
  omega

set_option maxRecDepth 100000 in
theorem high_any (x : Int) (k : Nat) (w : World) (h0 : 0 ≤ x) (hk : k ≤ 8) :
    Calls Try.prog 64 #[.int .u64 x, .int .i64 k] w (Made w 5 (nums .u8 (highL x k))) := by
  go_enter Try.func64, Try.ntmps64
  go_wp2
  go_loopg [5, 6] k (fun q v5 v6 wr => ∃ (i : Nat) (l : List Int), v6 = .int .i64 ((i : Int) - 1) ∧ i ≤ 8 ∧ Hid (i = q) ∧ Hid (l.length + i = k) ∧ Hid (l ++ highL x i = highL x k) ∧ Hid (wr.ownsRow w.heap.size 5 1 v5 l.length (nums .u8 l)) ∧ Hid (Below w.heap.size w wr))
  case atStart => exact ⟨k, [], rfl, hk, rfl, by simp [Hid], rfl, World.ownsRow_made w #[] 0 (Nat.le_refl _) (by simp [maxLen]) rfl, (Below.refl _ _).alloc (Nat.le_refl _) _⟩
  case round =>
    obtain ⟨i, l, rfl, hi, hq, hll, hc, ho, hb⟩ := hrel
    rcases Nat.eq_zero_or_pos i with h1 | h1
    · subst h1
      go_wp2
      go_ret
      refine ⟨_, rfl, ?_, hb.out⟩
      have := ho.out
      rw [← hc.out, nums_length]
      simpa [highL] using this
    · obtain ⟨j, rfl⟩ : ∃ j, i = j + 1 := ⟨i - 1, by omega⟩
      go_wp2_with (at_builtin; refine wpList_append_sl _ rfl (.tmp 14) (.tmp 20) 26 rfl w.heap.size 5 (.int .u8 0) 1 Try.underlying26 infoU8 rfl u5 l.length (nums .u8 l) rfl ?c1 _ 1 1 [_] rfl (sl_one _ _ _) ?c4 ?c2 (by omega) ?c3 ?_; (case c1 => exact ho.out.alloc _); (case c4 => simp [Value.oneCell']); (case c2 => have := hll.out; omega); (case c3 => have := hb.out.size; simp; omega); intro v1 w1 hown1 hg1 hat1)
      cases gk with
      | zero => exact absurd hq.out (by omega)
      | succ k1 =>
        go_roundg k1
        case measure => omega
        case rel =>
          refine ⟨j, l ++ [x / 2 ^ (8 * j) % 256], rfl, by omega, by have := hq.out; show _ = _; omega, by have := hll.out; simp [Hid]; omega, ?_, ?_, ?_⟩
          · show _ = _
            rw [← hc.out, highL, pow256, List.append_assoc]; rfl
          · show World.ownsRow _ _ _ _ _ _ _
            rw [nums_snoc, List.length_append]; exact hown1
          · exact below_app hb.out ho.out _ hg1

theorem few_one (l : List Int) : True := trivial
theorem few_any (A : Option Addr) (n c : Nat) (ls : List (List Int)) (w : World) (h : Sls w A n ls) (hn : n ≤ 1000000) :
    Calls Try.prog 29 #[.slice A n c] w fun e w' => e = .returned (.bool (ls.all fun l => decide (l.length ≤ 300))) ∧ w = w' := by
  have H : Hid (Sls w A n ls) := h
  clear h
  go_enter Try.func29, Try.ntmps29
  go_wp2
  go_loopg [7] n (fun q v7 wr => ∃ i : Nat, v7 = .int .i64 i ∧ i ≤ n ∧ Hid (i + q = n) ∧ Hid ((ls.take i).all (fun l => decide (l.length ≤ 300)) = true) ∧ w = wr)
  case atStart => exact ⟨0, rfl, by omega, by simp [Hid], rfl, rfl⟩
  case round =>
    obtain ⟨i, rfl, hi1, hq, ha, rfl⟩ := hrel
    by_cases h1 : i < n
    · obtain ⟨g, o, B, cc, l, rfl, hl, hc, hcc, hs⟩ := H.out.num h1
      by_cases hle : l.length ≤ 300
      · go_wp2
        cases gk with
        | zero => exact absurd hq.out (by omega)
        | succ k1 =>
          go_roundg k1
          case measure => omega
          case rel =>
            refine ⟨i + 1, by go_num, by omega, by have := hq.out; show _ = _; omega, ?_, rfl⟩
            obtain ⟨g1, rfl⟩ := List.getElem?_eq_some_iff.1 hl.out
            show _ = _
            rw [List.take_succ_eq_append_getElem g1, List.all_append, ha.out]
            simp [hle]
      · go_wp2
        go_ret
        refine ⟨?_, rfl⟩
        have hf : (ls.all fun l => decide (l.length ≤ 300)) = false := by
          rw [List.all_eq_false]
          exact ⟨l, List.mem_of_getElem? hl.out, by simpa using hle⟩
        rw [hf]; rfl
    · obtain rfl : i = n := by omega
      go_wp2
      go_ret
      refine ⟨?_, rfl⟩
      have := ha.out
      rw [List.take_of_length_le (by rw [H.out.1]; exact Nat.le_refl _)] at this
      rw [this]; rfl
end Go.Proofs.Ytadhdimleabljaa
