/- Numbers in as few bytes as they need: what is written is read again; the thin package's and the reference's functions. -/
import Derived.Test.YtadhdimleabljaaC8
namespace Go.Proofs.Ytadhdimleabljaa
open Go.RowKit
set_option linter.unusedVariables false
set_option linter.unusedSimpArgs false

theorem two64 (i : Nat) (h : i ≤ 8) (x : Int) (hx : x < 2 ^ (64 - 7 * i)) : x / 128 < 2 ^ (64 - 7 * (i + 1)) := by
  rcases two7 i (by omega) with rfl | rfl | rfl | rfl | rfl | rfl | rfl | rfl | rfl | rfl <;> simp at hx ⊢ <;> omega
theorem step_sum (i : Nat) (h : i ≤ 8) (a x : Int) : a + x % 128 * 2 ^ (7 * i) + x / 128 * 2 ^ (7 * (i + 1)) = a + x * 2 ^ (7 * i) := by
  rcases two7 i (by omega) with rfl | rfl | rfl | rfl | rfl | rfl | rfl | rfl | rfl | rfl <;> simp <;> omega
theorem uvar_vint (k : Nat) : ∀ (i : Nat) (x a : Int) (rest : List Int), i + k = 9 → 0 ≤ x → x < 2 ^ (64 - 7 * i) → uvarL (vint k x ++ rest) i a = (a + x * 2 ^ (7 * i), ((i + (vint k x).length : Nat) : Int)) := by
  induction k with
  | zero =>
    intro i x a rest hi h0 h1
    obtain rfl : i = 9 := by omega
    simp at h1
    rw [vint, List.cons_append, uvarL, if_neg (by omega), if_pos (by omega), if_neg (by omega)]
    rfl
  | succ k ih =>
    intro i x a rest hi h0 h1
    by_cases hx : x < 128
    · rw [vint_small _ _ hx, List.cons_append, uvarL, if_neg (by omega), if_pos hx, if_neg (by omega)]
      rfl
    · rw [vint_big _ _ (by omega), List.cons_append, uvarL, if_neg (by omega), if_neg (by omega), ih (i + 1) (x / 128) _ rest (by omega) (by omega) (two64 i (by omega) x h1)]
      have e : (x % 128 + 128) % 128 = x % 128 := by omega
      rw [e, step_sum i (by omega)]
      simp only [List.length_cons]
      congr 1
      omega
theorem uvar_cut (k : Nat) : ∀ (i m : Nat) (x a : Int), i + k = 9 → 0 ≤ x → x < 2 ^ (64 - 7 * i) → m < (vint k x).length → uvarL ((vint k x).take m) i a = (0, 0) := by
  induction k with
  | zero =>
    intro i m x a hi h0 h1 hm
    simp [vint] at hm
    subst hm
    rfl
  | succ k ih =>
    intro i m x a hi h0 h1 hm
    cases m with
    | zero => rfl
    | succ m =>
      by_cases hx : x < 128
      · rw [vint_small _ _ hx] at hm; simp at hm
      · rw [vint_big _ _ (by omega)] at hm ⊢
        rw [List.take_succ_cons, uvarL, if_neg (by omega), if_neg (by omega)]
        exact ih (i + 1) m (x / 128) _ (by omega) (by omega) (two64 i (by omega) x h1) (by simpa using hm)
theorem uvar_back (x : Int) (rest : List Int) (h0 : 0 ≤ x) (h1 : x ≤ 18446744073709551615) : uvarL (vint 9 x ++ rest) 0 0 = (x, ((vint 9 x).length : Int)) := by
  rw [uvar_vint 9 0 x 0 rest rfl h0 (by simp; omega)]
  simp
theorem uvar_short (x : Int) (m : Nat) (h0 : 0 ≤ x) (h1 : x ≤ 18446744073709551615) (hm : m < (vint 9 x).length) : uvarL ((vint 9 x).take m) 0 0 = (0, 0) :=
  uvar_cut 9 0 m x 0 rfl h0 (by simp; omega) hm
theorem vint_byt' (x : Int) (h0 : 0 ≤ x) (h1 : Hid (x ≤ 18446744073709551615)) : Byt (vint 9 x) := vint_byt 9 x h0 (by have := h1.out; simp; omega)

theorem tdiv_u64 (x : Int) (h0 : 0 ≤ x) (h1 : x ≤ 18446744073709551615) : IntKind.u64.wrap (x.tdiv 128) = x / 128 := by
  rw [Int.tdiv_eq_ediv_of_nonneg h0, wrapU64 _ (by omega) (by omega)]
theorem specVarint_any (x : Int) (w : World) (h0 : 0 ≤ x) (h1 : Hid (x ≤ 18446744073709551615)) :
    Calls Try.prog 33 #[.int .u64 x] w (Made w 5 (nums .u8 (vint 9 x))) := by
  have H1 : Hid (x < 128 ^ 10) := by show _ < _; have := h1.out; omega
  go_enter Try.func33, Try.ntmps33
  go_wp2
  go_loopg [0, 3] 9 (fun kq v0 v3 w' => ∃ (x' : Int) (l' : List Int), v0 = .int .u64 x' ∧ Hid (x' ≤ 18446744073709551615) ∧ Hid (0 ≤ x' ∧ x' < 128 ^ (kq + 1)) ∧ Hid (vint 9 x = l' ++ vint kq x') ∧ Hid (l'.length + kq = 9) ∧ Hid (w'.ownsRow w.heap.size 5 1 v3 l'.length (nums .u8 l')) ∧ Hid (Below w.heap.size w w'))
  case atStart => exact ⟨x, [], rfl, h1, ⟨h0, H1.out⟩, rfl, rfl, World.ownsRow_made w #[] 0 (Nat.le_refl _) (by simp [maxLen]) rfl, (Below.refl _ _).alloc (Nat.le_refl _) _⟩
  case round =>
    obtain ⟨x', l', rfl, hm, hx, he, hlen, ho, hb⟩ := hrel
    by_cases hlt : x' < 128
    · have hx0 := hx.out.1
      go_wp2_with (at_builtin; refine wpList_append_sl _ rfl (.tmp 16) (.tmp 19) 26 rfl w.heap.size 5 (.int .u8 0) 1 Try.underlying26 infoU8 rfl u3 l'.length (nums .u8 l') rfl ?c1 _ 1 1 [_] rfl (sl_one _ _ _) ?c4 ?c2 (by omega) ?c3 ?_; (case c1 => exact ho.out.alloc _); (case c4 => simp [Value.oneCell']); (case c2 => have := hlen.out; omega); (case c3 => have := hb.out.size; simp; omega); intro v1 w1 hown1 hg1 hat1)
      go_ret
      refine ⟨v1, rfl, ?_, below_app hb.out ho.out _ hg1⟩
      rw [he.out, vint_small _ _ hlt, nums_length, nums_snoc, List.length_append]
      exact hown1
    · have hx1 := hx.out.2
      go_wp2_with (at_builtin; refine wpList_append_sl _ rfl (.tmp 7) (.tmp 12) 26 rfl w.heap.size 5 (.int .u8 0) 1 Try.underlying26 infoU8 rfl u3 l'.length (nums .u8 l') rfl ?d1 _ 1 1 [_] rfl (sl_one _ _ _) ?d4 ?d2 (by omega) ?d3 ?_; (case d1 => exact ho.out.alloc _); (case d4 => simp [Value.oneCell']); (case d2 => have := hlen.out; omega); (case d3 => have := hb.out.size; simp; omega); intro v1 w1 hown1 hg1 hat1)
      cases gk with
      | zero => exact absurd hx1 (by simp only [Nat.zero_add, Int.pow_one]; omega)
      | succ k1 =>
        rw [tdiv_u64 x' hx.out.1 hm.out]
        go_roundg k1
        case measure => omega
        case rel => exact ⟨x' / 128, l' ++ [x' % 128 + 128], rfl, by have := hm.out; have := hx.out.1; show _ ≤ _; omega, ⟨by have := hx.out.1; omega, by rw [Int.pow_succ] at hx1; omega⟩, by rw [Hid, he.out, vint_big _ _ (by omega)]; simp, by have := hlen.out; simp [Hid]; omega, by rw [Hid, nums_snoc, List.length_append]; exact hown1, below_app hb.out ho.out _ hg1⟩

theorem readVarint_any (A : Option Addr) (n c : Nat) (l : List Int) (w : World) (h : Sl w A n (nums .u8 l)) (hb : Byt l) (hn : n ≤ 1000000) :
    Calls Try.prog 34 #[.slice A n c] w fun e w' => e = .returned (.tuple #[.int .u64 (uvarL l 0 0).1, .int .i64 (uvarL l 0 0).2]) ∧ Below w.heap.size w w' := by
  have H : Hid (Sl w A n (nums .u8 l)) := h
  have HB : Hid (Byt l) := hb
  have Hl : Hid (l.length = n) := by have := h.1; rwa [nums_length] at this
  clear h hb
  go_enter Try.func34, Try.ntmps34
  go_wp2_with fail
  refine (own_any A n c l w H.out (by omega)).mono ?_
  intro e w1 h1
  obtain ⟨A1, c1, rfl, hc1, hs1, hb1, ho1⟩ := h1.sv
  clear h1 ho1
  go_wp2_with fail
  refine (pubUvarint_any A1 _ c1 l w1 hs1.out HB.out (by rw [Hl.out]; omega)).mono ?_
  rintro e w2 ⟨rfl, rfl⟩
  go_wp2
  go_ret2
  exact ⟨rfl, by (repeat first | with_reducible exact Below.refl _ _ | with_reducible apply bl_drewN | with_reducible apply bl_drew | with_reducible apply bl_alloc | (with_reducible refine bl_trans ?_ (Hid.out (by assumption))))⟩

set_option maxRecDepth 100000 in
theorem putVarint_any (x : Int) (w : World) (h0 : 0 ≤ x) (h1 : Hid (x ≤ 18446744073709551615)) :
    Calls Try.prog 50 #[.int .u64 x] w (Made w 5 (nums .u8 (vint 9 x))) := by
  have hl := vint_len 9 x
  have hl2 : (vint 9 x).length ≤ 10 := hl.2
  clear hl
  obtain ⟨i0, hi0, hz0, hz1, hz2⟩ := info_parts infoU8
  go_enter Try.func50, Try.ntmps50
  go_wp2_with (at_make; refine wpList_make_full _ rfl (.const (.int .i64 10)) (.const (.int .i64 10)) 26 rfl w.heap.size 5 i0 (.int .u8 0) 1 Try.underlying26 hi0 hz0 hz1 .i64 .i64 10 10 10 rfl rfl rfl rfl (by rw [hz2]; omega) (by simp [maxLen]) (Nat.le_refl _) ?_; intro w1 hown1 hg1; obtain ⟨g, cur, hA1, hgb, hblk, hnc, hcl, hct⟩ := own_blk hown1 (by omega); injection hA1 with hA1; injection hA1 with hA1 _; subst hA1; have HG1 := Lib.hid hg1; have HB1 : Hid (Blk w1 w.heap.size 5 cur) := hblk; have HC1 := Lib.hid hcl; clear hown1 hg1 hblk hcl hct hi0 hz0 hz1 hz2)
  refine (pubPut_any w.heap.size 0 10 10 5 x cur w1 HB1.out hl2 (by have := HC1.out; omega) h0 h1).mono ?_
  rintro e w2 ⟨rfl, hw2⟩
  have HW2 := Lib.hid hw2
  clear hw2
  go_wp2
  go_ret
  have ho := blk_own (base := w.heap.size) (n := (vint 9 x).length) (c := 10) HW2.out.1 (Nat.le_refl _) hl2 (by rw [splice_len _ _ _ (by rw [nums_length]; have := HC1.out; omega)]; exact HC1.out) (by omega)
  have e1 : (splice cur 0 (nums .u8 (vint 9 x))).take (vint 9 x).length = nums .u8 (vint 9 x) := by
    rw [splice, List.take_zero, List.nil_append]
    exact List.take_left' (nums_length _ _)
  rw [e1] at ho
  exact ⟨_, rfl, by rw [nums_length]; exact ho, below_wrote ((Below.refl _ _).grown HG1.out (Nat.le_refl _) (by simp)) (Nat.le_refl _) HG1.out.size HW2.out⟩
end Go.Proofs.Ytadhdimleabljaa
