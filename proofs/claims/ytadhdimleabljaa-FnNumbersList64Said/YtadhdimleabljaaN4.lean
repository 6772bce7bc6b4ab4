/- Lists of numbers of 64 bits, read. -/
import Derived.Test.YtadhdimleabljaaN3
namespace Go.Proofs.Ytadhdimleabljaa
open Go.RowKit
set_option linter.unusedVariables false
set_option linter.unusedSimpArgs false
/-- The number of the last t of eight bytes from i on. -/
def hv (l : List Int) (i : Nat) : Nat → Int
  | 0 => 0
  | t + 1 => hv l i t * 256 + l.getD (i + (7 - t)) 0
def leN8 (l : List Int) : Nat → List Int
  | 0 => []
  | j + 1 => leN8 l j ++ [hv l (8 * j) 8]
theorem leN8_len (l : List Int) (j : Nat) : (leN8 l j).length = j := by
  induction j with
  | zero => rfl
  | succ j ih => rw [leN8, List.length_append, ih]; rfl
theorem byt_getD {l : List Int} (h : Byt l) (i : Nat) : 0 ≤ l.getD i 0 ∧ l.getD i 0 ≤ 255 := by
  rw [List.getD_eq_getElem?_getD]
  rcases hx : l[i]? with _ | x
  · simp
  · have := h x (List.mem_of_getElem? hx)
    exact ⟨this.1, this.2⟩
theorem hv_bound (l : List Int) (h : Byt l) (i t : Nat) : 0 ≤ hv l i t ∧ hv l i t < 256 ^ t := by
  induction t with
  | zero => simp [hv]
  | succ t ih =>
    have := byt_getD h (i + (7 - t))
    rw [hv, Int.pow_succ]
    omega
theorem or_hi (v x : Int) (hv0 : 0 ≤ v) (hv1 : v < 256 ^ 7) (hx0 : 0 ≤ x) (hx1 : x ≤ 255) : bits .or .u64 (v * 256) x = v * 256 + x := by
  have e : (256 : Int) ^ 7 = 72057594037927936 := by decide
  rw [e] at hv1
  rw [u64_or _ _ (by omega) (by omega) hx0 (by omega), nat_join 8 _ _ (by omega) (by omega)]
  omega
theorem wrap_hi (v : Int) (hv0 : 0 ≤ v) (hv1 : v < 256 ^ 7) : IntKind.u64.wrap (v * 256) = v * 256 := by
  have e : (256 : Int) ^ 7 = 72057594037927936 := by decide
  rw [e] at hv1
  exact wrapU64 _ (by omega) (by omega)
theorem pow_le7 (t : Nat) (h : t ≤ 7) (v : Int) (hv : v < 256 ^ t) : v < 256 ^ 7 := by
  have : t = 0 ∨ t = 1 ∨ t = 2 ∨ t = 3 ∨ t = 4 ∨ t = 5 ∨ t = 6 ∨ t = 7 := by omega
  rcases this with rfl | rfl | rfl | rfl | rfl | rfl | rfl | rfl <;> simp at hv ⊢ <;> omega
set_option maxRecDepth 100000 in
theorem bytesU64_any (A : Option Addr) (n c : Nat) (l : List Int) (w : World) (h : Sl w A n (nums .u8 l)) (hB : Byt l) (hn : n ≤ 1000000) :
    Calls Try.prog 99 #[.slice A n c] w (Made w 27 (nums .u64 (leN8 l (n / 8)))) := by
  have H := Lib.hid h
  have HB := Lib.hid hB
  have hlen : l.length = n := by have := h.1; rwa [nums_length] at this
  have HL := Lib.hid hlen
  clear h hlen hB
  by_cases h0 : n = 0
  · subst h0
    go_enter Try.func99, Try.ntmps99
    go_wp2
    go_ret
    exact ⟨_, rfl, World.ownsRow_nil w _ _ _, Below.refl _ _⟩
  have hz : ((n : Int) == 0) = false := by simp; omega
  go_enter Try.func99, Try.ntmps99
  go_wp2
  go_loopg [3, 4, 5, 6] (n / 8) (fun q v3 v4 v5 v6 wr => ∃ (i j : Nat), v4 = .int .i64 i ∧ i ≤ n ∧ Hid (i = 8 * j) ∧ Hid (j + q = n / 8) ∧ Hid (wr.ownsRow w.heap.size 27 1 v3 j (nums .u64 (leN8 l j))) ∧ Hid (Below w.heap.size w wr))
  case atStart => exact ⟨0, 0, rfl, by omega, rfl, by simp [Hid], World.ownsRow_nil w _ _ _, Below.refl _ _⟩
  case round =>
    obtain ⟨i, j, rfl, hi, hij, hq, ho, hb⟩ := hrel
    by_cases h1 : i + 8 ≤ n
    · obtain ⟨gkO, rfl⟩ : ∃ q, gk = q + 1 := ⟨gk - 1, by have := hq.out; have := hij.out; omega⟩
      have HA := Lib.hid (H.out.below hb.out)
      go_wp2
      go_loopg [5, 6] 8 (fun q2 v5 v6 wr2 => ∃ (k : Nat) (v : Int), v6 = .int .i64 ((k : Int) - 1) ∧ v5 = .int .u64 v ∧ k ≤ 8 ∧ Hid (k = q2) ∧ Hid (v = hv l i (8 - k)) ∧ wr = wr2)
      case atStart => exact ⟨8, 0, rfl, rfl, by omega, rfl, by simp [hv, Hid], rfl⟩
      case round =>
        obtain ⟨k, v, rfl, rfl, hk, hqk, hvv, rfl⟩ := hrel
        rcases Nat.eq_zero_or_pos k with hk0 | hk0
        · subst hk0
          have hbj : (j + 1) * 8 ≤ 140737488355328 := by have := hq.out; omega
          go_wp2_with (at_builtin; refine wpList_append_sl _ rfl (.tmp 31) (.tmp 33) 52 rfl w.heap.size 27 (.int .u64 0) 8 Try.underlying52 infoU64 rfl u3 j (nums .u64 (leN8 l j)) rfl ?c1 _ 1 1 [_] rfl (sl_one _ _ _) ?c4 ?c2 (by omega) ?c3 ?_; (case c1 => exact ho.out.alloc _); (case c4 => simp [Value.oneCell']); (case c2 => exact hbj); (case c3 => have := hb.out.size; simp; omega); intro v1 w1 hown1 hg1 hat1)
          go_roundg gkO
          case measure => omega
          case rel =>
            refine ⟨i + 8, j + 1, by go_num, by omega, by have := hij.out; show _ = _; omega, by have := hq.out; show _ = _; omega, ?_, below_app hb.out ho.out _ hg1⟩
            show World.ownsRow _ _ _ _ _ _ _
            have := hown1
            rw [hvv.out, hij.out] at this
            rw [leN8, nums_snoc]
            exact this
        · obtain ⟨m, rfl⟩ : ∃ m, k = m + 1 := ⟨k - 1, by omega⟩
          obtain ⟨g, o, x, rfl, hlx, hcx⟩ := HA.out.num (show i + m < n by omega)
          have hx := HB.out x (List.mem_of_getElem? hlx.out)
          obtain ⟨hx0, hx1⟩ := hx
          have hvb := hv_bound l HB.out i (8 - (m + 1))
          rw [← hvv.out] at hvb
          obtain ⟨hv0, hv1⟩ := hvb
          have hv7 := pow_le7 _ (by omega) v hv1
          obtain ⟨y, hy⟩ : ∃ y, y = v * 256 := ⟨_, rfl⟩
          obtain ⟨z, hzz⟩ : ∃ z, z = v * 256 + x := ⟨_, rfl⟩
          have k1 : IntKind.u64.wrap (v * 256) = y := by rw [wrap_hi v hv0 hv7, hy]
          have k2 : v * 256 % 18446744073709551616 = y := by
            have e := wrap_hi v hv0 hv7
            rw [IntKind.wrap_u64] at e
            rw [e, hy]
          have o1 : bits .or .u64 y x = z := by rw [hy, or_hi v x hv0 hv7 hx0 hx1, hzz]
          have d1 : IntKind.u64.wrap x = x := wrapU64 x hx0 (by omega)
          have HZ : Hid (z = hv l i (8 - m)) := by
            show _ = _
            rw [show 8 - m = (8 - (m + 1)) + 1 by omega, hv, ← hvv.out, show 7 - (8 - (m + 1)) = m by omega, List.getD_eq_getElem?_getD, hlx.out, hzz]
            rfl
          clear hy hzz hv1 hv7
          go_wp2
          cases gk with
          | zero => exact absurd hqk.out (by omega)
          | succ k1 =>
            go_roundg k1
            case measure => omega
            case rel => exact ⟨m, z, rfl, rfl, by omega, by have := hqk.out; show _ = _; omega, HZ, rfl⟩
    · go_wp2
      go_ret
      have ej : j = n / 8 := by have := hij.out; have := hq.out; omega
      subst ej
      exact ⟨_, rfl, by rw [nums_length, leN8_len]; exact ho.out, hb.out⟩
theorem hv_mid (p r : List Int) (x : Int) (h0 : 0 ≤ x) (h1 : x < 18446744073709551616) : hv (p ++ (lowL x 8 ++ r)) p.length 8 = x := by
  have e (i : Nat) := getD_mid p (lowL x 8 ++ r) i
  simp only [hv, Nat.reduceSub, e]
  simp [lowL]
  omega
theorem leN8_take (l : List Int) (hl : ∀ x ∈ l, 0 ≤ x ∧ x ≤ 18446744073709551615) : ∀ j, j ≤ l.length → leN8 (le64s l) j = l.take j := by
  intro j
  induction j with
  | zero => intro _; rfl
  | succ j ih =>
    intro hj
    rw [leN8, ih (by omega), List.take_succ_eq_append_getElem (by omega)]
    congr 1
    have hx := hl l[j] (List.getElem_mem ..)
    have e : le64s l = le64s (l.take j) ++ (lowL l[j] 8 ++ le64s (l.drop (j + 1))) := by
      have e1 : l = l.take j ++ (l[j] :: l.drop (j + 1)) := by rw [← List.drop_eq_getElem_cons]; exact (List.take_append_drop j l).symm
      conv => lhs; rw [e1]
      rw [le64s_append]
      congr 1
    have hlen : (le64s (l.take j)).length = 8 * j := by rw [le64s_len, List.length_take]; omega
    rw [e, ← hlen, hv_mid _ _ _ hx.1 (by omega)]
theorem leN8_back (l : List Int) (hl : ∀ x ∈ l, 0 ≤ x ∧ x ≤ 18446744073709551615) : leN8 (le64s l) l.length = l := by
  rw [leN8_take l hl _ (Nat.le_refl _), List.take_length]
theorem byt_lowL (x : Int) (k : Nat) : Byt (lowL x k) := by
  induction k with
  | zero => intro y hy; cases hy
  | succ k ih =>
    intro y hy
    rw [lowL, List.mem_append] at hy
    rcases hy with hy | hy
    · exact ih y hy
    · simp at hy
      subst hy
      exact ⟨by omega, by omega⟩
theorem byt_le64s (l : List Int) : Byt (le64s l) := by
  intro x hx
  simp only [le64s, List.mem_flatten, List.mem_map] at hx
  obtain ⟨y, ⟨z, _, rfl⟩, hy⟩ := hx
  exact byt_lowL z 8 x hy
end Go.Proofs.Ytadhdimleabljaa
