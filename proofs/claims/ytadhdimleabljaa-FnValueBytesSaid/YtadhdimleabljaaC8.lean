/- Contracts: numbers in as few bytes as they need, written into a block and read. -/
import Derived.Test.YtadhdimleabljaaC7
namespace Go.Proofs.Ytadhdimleabljaa
open Go.RowKit
set_option linter.unusedVariables false
set_option linter.unusedSimpArgs false

theorem grownBy_any {w w' : World} (h : w.grownBy w' none) (row : Option Nat) : w.grownBy w' row := ⟨h.os, h.tape, h.output, h.size, fun k hk _ => h.block k hk (by simp)⟩
theorem vint_len (k : Nat) (x : Int) : 1 ≤ (vint k x).length ∧ (vint k x).length ≤ k + 1 := by
  induction k generalizing x with
  | zero => simp [vint]
  | succ k ih =>
    unfold vint
    split
    · simp
    · have := ih (x / 128); simp; omega
theorem vint_byt (k : Nat) (x : Int) (h0 : 0 ≤ x) (h1 : x < 128 ^ (k + 1)) : Byt (vint k x) := by
  induction k generalizing x with
  | zero => intro y hy; simp [vint] at hy; subst hy; simp at h1; omega
  | succ k ih =>
    unfold vint
    split
    · intro y hy; simp at hy; subst hy; omega
    · intro y hy
      rcases List.mem_cons.1 hy with rfl | hy
      · omega
      · exact ih (x / 128) (by omega) (by rw [Int.pow_succ] at h1; omega) y hy

theorem putUvarint_any (g off n c t : Nat) (x : Int) (cs : List Value) (w : World) (h : Blk w g t cs) (hn : (vint 9 x).length ≤ n) (hfit : off + n ≤ cs.length) (h0 : 0 ≤ x) (h1 : Hid (x ≤ 18446744073709551615)) :
    Calls Try.prog 144 #[.slice (some ⟨g, off, none⟩) n c, .int .u64 x] w fun e w' => e = .returned (.int .i64 (vint 9 x).length) ∧ Wrote w g t (splice cs off (nums .u8 (vint 9 x))) w' := by
  have H : Hid (Blk w g t cs) := h
  clear h
  go_enter Try.func144, Try.ntmps144
  go_wp2_with fail
  refine (appendUvarint_any x w.heap.size [] (.slice none 0 0) w h0 h1.out (Nat.le_refl _) (by simp) (World.ownsRow_nil w _ _ _)).mono ?_
  rintro e w1 ⟨v', rfl, ho, hon⟩
  rw [List.nil_append] at ho
  obtain ⟨A1, c1, rfl, hc1, hs1⟩ := own_sl ho
  have HS := Lib.hid hs1
  have HB : Hid (Blk w1 g t cs) := H.out.grown hon.1 (by simp [Value.ownBlock])
  have HO := Lib.hid hon
  clear hs1 ho hon
  go_wp2_with (show wpList _ _ _ (Oper.mk (some 8) _ _ _ _ _ :: _) _ _; refine wpList_copy_blk rfl (.tmp 5) (.tmp 7) 26 26 rfl 5 Try.underlying26 sizeU8 A1 _ g off n c _ c1 t cs (nums .u8 (vint 9 x)) rfl (fun _ => rfl) rfl HB.out HS.out hfit (nums_one _ _) (vint 9 x).length (Nat.min_eq_left hn) ?_; intro w2 hw2; have HW2 := Lib.hid hw2; clear hw2)
  go_ret
  refine ⟨rfl, ?_⟩
  have := HW2.out
  rw [List.take_of_length_le (by rw [nums_length]; exact hn)] at this
  exact ⟨this.1, grownBy_then (grownBy_any HO.out.1 (some g)) this.2 (.inl rfl)⟩

theorem pubPut_any (g off n c t : Nat) (x : Int) (cs : List Value) (w : World) (h : Blk w g t cs) (hn : (vint 9 x).length ≤ n) (hfit : off + n ≤ cs.length) (h0 : 0 ≤ x) (h1 : Hid (x ≤ 18446744073709551615)) :
    Calls Try.prog 102 #[.slice (some ⟨g, off, none⟩) n c, .int .u64 x] w fun e w' => e = .returned (.int .i64 (vint 9 x).length) ∧ Wrote w g t (splice cs off (nums .u8 (vint 9 x))) w' := by
  have H : Hid (Blk w g t cs) := h
  clear h
  go_enter Try.func102, Try.ntmps102
  go_wp2_with fail
  refine (putUvarint_any g off n c t x cs w H.out hn hfit h0 h1).mono ?_
  rintro e w1 ⟨rfl, hw⟩
  have HW := Lib.hid hw
  clear hw
  go_wp2
  go_ret
  exact ⟨rfl, HW.out⟩

/-- Reading a number of as few bytes as it needs: the number and how many bytes it has. -/
def uvarL : List Int → Nat → Int → Int × Int
  | [], _, _ => (0, 0)
  | b :: l, i, x => if i = 10 then (0, -11) else if b < 128 then (if i = 9 ∧ 1 < b then (0, -10) else (x + b * 2 ^ (7 * i), i + 1)) else uvarL l (i + 1) (x + (b % 128) * 2 ^ (7 * i))

theorem uvarL_at (l : List Int) (i : Nat) (x b : Int) (R : Int × Int) (h : l[i]? = some b) (hr : R = uvarL (l.drop i) i x) :
    R = if i = 10 then (0, -11) else if b < 128 then (if i = 9 ∧ 1 < b then (0, -10) else (x + b * 2 ^ (7 * i), (i : Int) + 1)) else uvarL (l.drop (i + 1)) (i + 1) (x + (b % 128) * 2 ^ (7 * i)) := by
  obtain ⟨g, rfl⟩ := List.getElem?_eq_some_iff.1 h
  rw [hr, List.drop_eq_getElem_cons g, uvarL]
theorem uvarL_ten (l : List Int) (x b : Int) (R : Int × Int) (h : l[10]? = some b) (hr : R = uvarL (l.drop 10) 10 x) : R = (0, -11) := by
  rw [uvarL_at l 10 x b R h hr]; rfl
theorem uvarL_any (l : List Int) (x y : Int) : uvarL l 10 x = uvarL l 10 y := by cases l <;> simp [uvarL]
theorem two7 (i : Nat) (h : i ≤ 9) : i = 0 ∨ i = 1 ∨ i = 2 ∨ i = 3 ∨ i = 4 ∨ i = 5 ∨ i = 6 ∨ i = 7 ∨ i = 8 ∨ i = 9 := by omega
set_option maxRecDepth 100000 in
theorem or_shl (i : Nat) (x b : Int) (hi : i ≤ 9) (hx : 0 ≤ x ∧ x < 2 ^ (7 * i)) (hb : 0 ≤ b) (hb1 : b ≤ 127) (hb9 : i = 9 → b ≤ 1) : bits .or .u64 x (IntKind.u64.wrap (b * 2 ^ (7 * i))) = x + b * 2 ^ (7 * i) := by
  have hw : 0 ≤ b * 2 ^ (7 * i) ∧ b * 2 ^ (7 * i) < 18446744073709551616 ∧ x < 18446744073709551616 ∧ (b * 2 ^ (7 * i)).toNat % 2 ^ (7 * i) = 0 ∧ x.toNat < 2 ^ (7 * i) := by
    rcases two7 i hi with rfl | rfl | rfl | rfl | rfl | rfl | rfl | rfl | rfl | rfl <;> simp at hx hb9 ⊢ <;> omega
  obtain ⟨h1, h2, h3, h4, h5⟩ := hw
  rw [wrapU64 _ h1 (by omega), u64_or _ _ hx.1 h3 h1 h2, Nat.or_comm, nat_join (7 * i) _ _ h4 h5]
  omega
theorem p63 : (2 : Int) ^ (7 * 9) = 9223372036854775808 := by decide
theorem and127 (b : Int) (hb : 0 ≤ b) (hb1 : b ≤ 255) : IntKind.u64.wrap (bits .and .u8 b 127) = b % 128 := by
  rw [u8_and b 127 hb (by omega) (by omega) (by omega)]
  have : (127 : Int).toNat = 127 := rfl
  rw [this, nat_mask7, wrapU64 _ (by omega) (by omega)]
  omega
theorem next_bound (i : Nat) (x b : Int) (hi : i ≤ 8) (hx : 0 ≤ x ∧ x < 2 ^ (7 * i)) (hb : 0 ≤ b) (hb1 : b ≤ 127) : 0 ≤ x + b * 2 ^ (7 * i) ∧ x + b * 2 ^ (7 * i) < 2 ^ (7 * (i + 1)) := by
  rcases two7 i (by omega) with rfl | rfl | rfl | rfl | rfl | rfl | rfl | rfl | rfl | rfl <;> simp at hx ⊢ <;> omega
set_option maxRecDepth 100000 in
theorem uvarint_any (A : Option Addr) (n c : Nat) (l : List Int) (w : World) (h : Sl w A n (nums .u8 l)) (hb : Byt l) (hn : n ≤ 1000000000) :
    Calls Try.prog 138 #[.slice A n c] w fun e w' => e = .returned (.tuple #[.int .u64 (uvarL l 0 0).1, .int .i64 (uvarL l 0 0).2]) ∧ w = w' := by
  have H : Hid (Sl w A n (nums .u8 l)) := h
  have HB : Hid (Byt l) := hb
  clear h hb
  obtain ⟨R, hR⟩ : ∃ R, R = uvarL l 0 0 := ⟨_, rfl⟩
  have HR := Lib.hid hR
  rw [← hR]
  clear hR
  go_enter Try.func138, Try.ntmps138
  go_wp2
  go_loopg [4, 5, 10] n (fun q v4 v5 v10 wr => ∃ (i : Nat) (x : Int), v4 = .int .u64 x ∧ v5 = .int .u64 (7 * (i : Int)) ∧ v10 = .int .i64 i ∧ i ≤ n ∧ i ≤ 10 ∧ Hid (i + q = n) ∧ Hid (i < 10 → 0 ≤ x ∧ x < 2 ^ (7 * i)) ∧ Hid (R = uvarL (l.drop i) i x) ∧ w = wr)
  case atStart => exact ⟨0, 0, rfl, rfl, rfl, by omega, by omega, by simp [Hid], by simp [Hid], HR.out, rfl⟩
  case round =>
    obtain ⟨i, x, rfl, rfl, rfl, hi, hi10, hq, hx, hr, rfl⟩ := hrel
    by_cases h1 : i < n
    · obtain ⟨g, o, b, rfl, hlb, hc⟩ := H.out.num h1
      have hbb := HB.out b (List.mem_of_getElem? hlb.out)
      obtain ⟨hb0, hb1⟩ := hbb
      by_cases h10 : i = 10
      · subst h10
        go_wp2
        go_ret2
        have hd := uvarL_ten _ _ _ _ hlb.out (hr.out)
        rw [hd]
        exact ⟨rfl, rfl⟩
      · have h10b : ((i : Int) == 10) = false := by simp; omega
        have hi9 : i ≤ 9 := by omega
        clear h10
        by_cases hlt : b < 128
        · by_cases h9 : i = 9
          · subst h9
            by_cases hb9 : 1 < b
            · go_wp2
              go_ret2
              have hd := uvarL_at _ _ _ _ _ hlb.out hr.out
              rw [if_neg (by omega), if_pos hlt, if_pos ⟨rfl, hb9⟩] at hd
              rw [hd]
              exact ⟨rfl, rfl⟩
            · go_wp2
              go_ret2
              have hd := uvarL_at _ _ _ _ _ hlb.out hr.out
              rw [if_neg (by omega), if_pos hlt, if_neg (by omega)] at hd
              have e := or_shl 9 x b (by omega) (hx.out (by omega)) hb0 (by omega) (by omega)
              rw [p63, wrapU64 _ (by omega) (by omega)] at e
              rw [hd, p63, ← e]
              exact ⟨rfl, rfl⟩
          · have h9b : ((i : Int) == 9) = false := by simp; omega
            have H9 := Lib.hid h9
            clear h9
            go_wp2
            go_ret2
            have hd := uvarL_at _ _ _ _ _ hlb.out hr.out
            rw [if_neg (by omega), if_pos hlt, if_neg (by have := H9.out; omega)] at hd
            rw [hd, ← or_shl i x b (by omega) (hx.out (by omega)) hb0 (by omega) (by have := H9.out; omega)]
            exact ⟨rfl, rfl⟩
        · go_wp2
          rw [and127 b hb0 hb1]
          cases gk with
          | zero => exact absurd hq.out (by omega)
          | succ k1 =>
            go_roundg k1
            case measure => omega
            case rel =>
              refine ⟨i + 1, _, rfl, by go_num, by go_num, by omega, by omega, by have := hq.out; show _ = _; omega, ?_, ?_, rfl⟩
              · intro h10
                rw [or_shl i x (b % 128) (by omega) (hx.out (by omega)) (by omega) (by omega) (by omega)]
                exact next_bound i x (b % 128) (by omega) (hx.out (by omega)) (by omega) (by omega)
              · have hd := uvarL_at _ _ _ _ _ hlb.out hr.out
                rw [if_neg (by omega), if_neg (by omega)] at hd
                show _ = _
                rw [hd]
                by_cases h9 : i = 9
                · subst h9; exact uvarL_any _ _ _
                · rw [or_shl i x (b % 128) (by omega) (hx.out (by omega)) (by omega) (by omega) (by omega)]
    · obtain rfl : i = n := by omega
      go_wp2
      go_ret2
      rw [hr.out, List.drop_eq_nil_of_le (by have := H.out.1; rw [nums_length] at this; omega)]
      exact ⟨rfl, rfl⟩
theorem pubUvarint_any (A : Option Addr) (n c : Nat) (l : List Int) (w : World) (h : Sl w A n (nums .u8 l)) (hb : Byt l) (hn : n ≤ 1000000000) :
    Calls Try.prog 91 #[.slice A n c] w fun e w' => e = .returned (.tuple #[.int .u64 (uvarL l 0 0).1, .int .i64 (uvarL l 0 0).2]) ∧ w = w' := by
  have H : Hid (Sl w A n (nums .u8 l)) := h
  have HB : Hid (Byt l) := hb
  clear h hb
  go_enter Try.func91, Try.ntmps91
  go_wp2_with fail
  refine (uvarint_any A n c l w H.out HB.out hn).mono ?_
  rintro e w1 ⟨rfl, rfl⟩
  go_wp2
  go_ret2
  exact ⟨rfl, rfl⟩
end Go.Proofs.Ytadhdimleabljaa
