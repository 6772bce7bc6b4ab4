/- Texts that this claim shares with others, put together: L1 C8 C9 V V2 S1 H1 H2 H3. -/
import Derived.Test.YtanmgkpgfmkobaaGA
import Derived.Test.YtanmgkpgfmkobaaRows
import Derived.ProofKit
import Derived.OpenShut
import Derived.ShutString
import Derived.ChangeOld
import Derived.Below
import Derived.SizedLaws
import Derived.Deep.Slices
import Derived.BigRegion
import Derived.IntWalk
/- Walks of laws on keys. -/
namespace Go.Proofs.Ytanmgkpgfmkobaa
open Go.RowKit
set_option linter.unusedVariables false
set_option linter.unusedSimpArgs false

/-- What a law's call comes to. -/
def Holds (w : World) (e : Ending) (w' : World) : Prop := e = .returned (.bool true) ∧ Below w.heap.size w w'

end Go.Proofs.Ytanmgkpgfmkobaa

/- Contracts: numbers in as few bytes as they need, written into a block and read. -/
namespace Go.Proofs.Ytanmgkpgfmkobaa
open Go.RowKit
set_option linter.unusedVariables false
set_option linter.unusedSimpArgs false

theorem grownBy_any {w w' : World} (h : w.grownBy w' none) (row : Option Nat) : w.grownBy w' row := ⟨h.os, h.tape, h.output, h.size, fun k hk _ => h.block k hk (by simp)⟩
theorem vint_len (k : Nat) (x : Int) : 1 ≤ (vint k x).length ∧ (vint k x).length ≤ k + 1 := by
  induction k generalizing x with
  | zero => simp [vint]
  | succ k ih =>
    unfold vint
    split
    · simp
    · have := ih (x / 128); simp; omega
theorem vint_byt (k : Nat) (x : Int) (h0 : 0 ≤ x) (h1 : x < 128 ^ (k + 1)) : Byt (vint k x) := by
  induction k generalizing x with
  | zero => intro y hy; simp [vint] at hy; subst hy; simp at h1; omega
  | succ k ih =>
    unfold vint
    split
    · intro y hy; simp at hy; subst hy; omega
    · intro y hy
      rcases List.mem_cons.1 hy with rfl | hy
      · omega
      · exact ih (x / 128) (by omega) (by rw [Int.pow_succ] at h1; omega) y hy

theorem putUvarint_any (g off n c t : Nat) (x : Int) (cs : List Value) (w : World) (h : Blk w g t cs) (hn : (vint 9 x).length ≤ n) (hfit : off + n ≤ cs.length) (h0 : 0 ≤ x) (h1 : Hid (x ≤ 18446744073709551615)) :
    Calls Try.prog 136 #[.slice (some ⟨g, off, none⟩) n c, .int .u64 x] w fun e w' => e = .returned (.int .i64 (vint 9 x).length) ∧ Wrote w g t (splice cs off (nums .u8 (vint 9 x))) w' := by
  have H : Hid (Blk w g t cs) := h
  clear h
  go_enter Try.func136, Try.ntmps136
  go_wp2_with fail
  refine (appendUvarint_any x w.heap.size [] (.slice none 0 0) w h0 h1.out (Nat.le_refl _) (by simp) (World.ownsRow_nil w _ _ _)).mono ?_
  rintro e w1 ⟨v', rfl, ho, hon⟩
  rw [List.nil_append] at ho
  obtain ⟨A1, c1, rfl, hc1, hs1⟩ := own_sl ho
  have HS := Lib.hid hs1
  have HB : Hid (Blk w1 g t cs) := H.out.grown hon.1 (by simp [Value.ownBlock])
  have HO := Lib.hid hon
  clear hs1 ho hon
  go_wp2_with (show wpList _ _ _ (Oper.mk (some 8) _ _ _ _ _ :: _) _ _; refine wpList_copy_blk rfl (.tmp 5) (.tmp 7) 27 27 rfl 5 Try.underlying27 sizeU8 A1 _ g off n c _ c1 t cs (nums .u8 (vint 9 x)) rfl (fun _ => rfl) rfl HB.out HS.out hfit (nums_one _ _) (vint 9 x).length (Nat.min_eq_left hn) ?_; intro w2 hw2; have HW2 := Lib.hid hw2; clear hw2)
  go_ret
  refine ⟨rfl, ?_⟩
  have := HW2.out
  rw [List.take_of_length_le (by rw [nums_length]; exact hn)] at this
  exact ⟨this.1, grownBy_then (grownBy_any HO.out.1 (some g)) this.2 (.inl rfl)⟩

/-- Reading a number of as few bytes as it needs: the number and how many bytes it has. -/
def uvarL : List Int → Nat → Int → Int × Int
  | [], _, _ => (0, 0)
  | b :: l, i, x => if i = 10 then (0, -11) else if b < 128 then (if i = 9 ∧ 1 < b then (0, -10) else (x + b * 2 ^ (7 * i), i + 1)) else uvarL l (i + 1) (x + (b % 128) * 2 ^ (7 * i))

theorem uvarL_at (l : List Int) (i : Nat) (x b : Int) (R : Int × Int) (h : l[i]? = some b) (hr : R = uvarL (l.drop i) i x) :
    R = if i = 10 then (0, -11) else if b < 128 then (if i = 9 ∧ 1 < b then (0, -10) else (x + b * 2 ^ (7 * i), (i : Int) + 1)) else uvarL (l.drop (i + 1)) (i + 1) (x + (b % 128) * 2 ^ (7 * i)) := by
  obtain ⟨g, rfl⟩ := List.getElem?_eq_some_iff.1 h
  rw [hr, List.drop_eq_getElem_cons g, uvarL]
theorem uvarL_ten (l : List Int) (x b : Int) (R : Int × Int) (h : l[10]? = some b) (hr : R = uvarL (l.drop 10) 10 x) : R = (0, -11) := by
  rw [uvarL_at l 10 x b R h hr]; rfl
theorem uvarL_any (l : List Int) (x y : Int) : uvarL l 10 x = uvarL l 10 y := by cases l <;> simp [uvarL]
theorem two7 (i : Nat) (h : i ≤ 9) : i = 0 ∨ i = 1 ∨ i = 2 ∨ i = 3 ∨ i = 4 ∨ i = 5 ∨ i = 6 ∨ i = 7 ∨ i = 8 ∨ i = 9 := by omega
set_option maxRecDepth 100000 in
theorem or_shl (i : Nat) (x b : Int) (hi : i ≤ 9) (hx : 0 ≤ x ∧ x < 2 ^ (7 * i)) (hb : 0 ≤ b) (hb1 : b ≤ 127) (hb9 : i = 9 → b ≤ 1) : bits .or .u64 x (IntKind.u64.wrap (b * 2 ^ (7 * i))) = x + b * 2 ^ (7 * i) := by
  have hw : 0 ≤ b * 2 ^ (7 * i) ∧ b * 2 ^ (7 * i) < 18446744073709551616 ∧ x < 18446744073709551616 ∧ (b * 2 ^ (7 * i)).toNat % 2 ^ (7 * i) = 0 ∧ x.toNat < 2 ^ (7 * i) := by
    rcases two7 i hi with rfl | rfl | rfl | rfl | rfl | rfl | rfl | rfl | rfl | rfl <;> simp at hx hb9 ⊢ <;> omega
  obtain ⟨h1, h2, h3, h4, h5⟩ := hw
  rw [wrapU64 _ h1 (by omega), u64_or _ _ hx.1 h3 h1 h2, Nat.or_comm, nat_join (7 * i) _ _ h4 h5]
  omega
theorem p63 : (2 : Int) ^ (7 * 9) = 9223372036854775808 := by decide
theorem and127 (b : Int) (hb : 0 ≤ b) (hb1 : b ≤ 255) : IntKind.u64.wrap (bits .and .u8 b 127) = b % 128 := by
  rw [u8_and b 127 hb (by omega) (by omega) (by omega)]
  have : (127 : Int).toNat = 127 := rfl
  rw [this, nat_mask7, wrapU64 _ (by omega) (by omega)]
  omega
theorem next_bound (i : Nat) (x b : Int) (hi : i ≤ 8) (hx : 0 ≤ x ∧ x < 2 ^ (7 * i)) (hb : 0 ≤ b) (hb1 : b ≤ 127) : 0 ≤ x + b * 2 ^ (7 * i) ∧ x + b * 2 ^ (7 * i) < 2 ^ (7 * (i + 1)) := by
  rcases two7 i (by omega) with rfl | rfl | rfl | rfl | rfl | rfl | rfl | rfl | rfl | rfl <;> simp at hx ⊢ <;> omega
set_option maxRecDepth 100000 in
theorem uvarint_any (A : Option Addr) (n c : Nat) (l : List Int) (w : World) (h : Sl w A n (nums .u8 l)) (hb : Byt l) (hn : n ≤ 1000000000) :
    Calls Try.prog 123 #[.slice A n c] w fun e w' => e = .returned (.tuple #[.int .u64 (uvarL l 0 0).1, .int .i64 (uvarL l 0 0).2]) ∧ w = w' := by
  have H : Hid (Sl w A n (nums .u8 l)) := h
  have HB : Hid (Byt l) := hb
  clear h hb
  obtain ⟨R, hR⟩ : ∃ R, R = uvarL l 0 0 := ⟨_, rfl⟩
  have HR := Lib.hid hR
  rw [← hR]
  clear hR
  go_enter Try.func123, Try.ntmps123
  go_wp2
  go_loopg [4, 5, 10] n (fun q v4 v5 v10 wr => ∃ (i : Nat) (x : Int), v4 = .int .u64 x ∧ v5 = .int .u64 (7 * (i : Int)) ∧ v10 = .int .i64 i ∧ i ≤ n ∧ i ≤ 10 ∧ Hid (i + q = n) ∧ Hid (i < 10 → 0 ≤ x ∧ x < 2 ^ (7 * i)) ∧ Hid (R = uvarL (l.drop i) i x) ∧ w = wr)
  case atStart => exact ⟨0, 0, rfl, rfl, rfl, by omega, by omega, by simp [Hid], by simp [Hid], HR.out, rfl⟩
  case round =>
    obtain ⟨i, x, rfl, rfl, rfl, hi, hi10, hq, hx, hr, rfl⟩ := hrel
    by_cases h1 : i < n
    · obtain ⟨g, o, b, rfl, hlb, hc⟩ := H.out.num h1
      have hbb := HB.out b (List.mem_of_getElem? hlb.out)
      obtain ⟨hb0, hb1⟩ := hbb
      by_cases h10 : i = 10
      · subst h10
        go_wp2
        go_ret2
        have hd := uvarL_ten _ _ _ _ hlb.out (hr.out)
        rw [hd]
        exact ⟨rfl, rfl⟩
      · have h10b : ((i : Int) == 10) = false := by simp; omega
        have hi9 : i ≤ 9 := by omega
        clear h10
        by_cases hlt : b < 128
        · by_cases h9 : i = 9
          · subst h9
            by_cases hb9 : 1 < b
            · go_wp2
              go_ret2
              have hd := uvarL_at _ _ _ _ _ hlb.out hr.out
              rw [if_neg (by omega), if_pos hlt, if_pos ⟨rfl, hb9⟩] at hd
              rw [hd]
              exact ⟨rfl, rfl⟩
            · go_wp2
              go_ret2
              have hd := uvarL_at _ _ _ _ _ hlb.out hr.out
              rw [if_neg (by omega), if_pos hlt, if_neg (by omega)] at hd
              have e := or_shl 9 x b (by omega) (hx.out (by omega)) hb0 (by omega) (by omega)
              rw [p63, wrapU64 _ (by omega) (by omega)] at e
              rw [hd, p63, ← e]
              exact ⟨rfl, rfl⟩
          · have h9b : ((i : Int) == 9) = false := by simp; omega
            have H9 := Lib.hid h9
            clear h9
            go_wp2
            go_ret2
            have hd := uvarL_at _ _ _ _ _ hlb.out hr.out
            rw [if_neg (by omega), if_pos hlt, if_neg (by have := H9.out; omega)] at hd
            rw [hd, ← or_shl i x b (by omega) (hx.out (by omega)) hb0 (by omega) (by have := H9.out; omega)]
            exact ⟨rfl, rfl⟩
        · go_wp2
          rw [and127 b hb0 hb1]
          cases gk with
          | zero => exact absurd hq.out (by omega)
          | succ k1 =>
            go_roundg k1
            case measure => omega
            case rel =>
              refine ⟨i + 1, _, rfl, by go_num, by go_num, by omega, by omega, by have := hq.out; show _ = _; omega, ?_, ?_, rfl⟩
              · intro h10
                rw [or_shl i x (b % 128) (by omega) (hx.out (by omega)) (by omega) (by omega) (by omega)]
                exact next_bound i x (b % 128) (by omega) (hx.out (by omega)) (by omega) (by omega)
              · have hd := uvarL_at _ _ _ _ _ hlb.out hr.out
                rw [if_neg (by omega), if_neg (by omega)] at hd
                show _ = _
                rw [hd]
                by_cases h9 : i = 9
                · subst h9; exact uvarL_any _ _ _
                · rw [or_shl i x (b % 128) (by omega) (hx.out (by omega)) (by omega) (by omega) (by omega)]
    · obtain rfl : i = n := by omega
      go_wp2
      go_ret2
      rw [hr.out, List.drop_eq_nil_of_le (by have := H.out.1; rw [nums_length] at this; omega)]
      exact ⟨rfl, rfl⟩
end Go.Proofs.Ytanmgkpgfmkobaa

/- Numbers in as few bytes as they need: what is written is read again; the thin package's and the reference's functions. -/
namespace Go.Proofs.Ytanmgkpgfmkobaa
open Go.RowKit
set_option linter.unusedVariables false
set_option linter.unusedSimpArgs false

theorem two64 (i : Nat) (h : i ≤ 8) (x : Int) (hx : x < 2 ^ (64 - 7 * i)) : x / 128 < 2 ^ (64 - 7 * (i + 1)) := by
  rcases two7 i (by omega) with rfl | rfl | rfl | rfl | rfl | rfl | rfl | rfl | rfl | rfl <;> simp at hx ⊢ <;> omega
theorem step_sum (i : Nat) (h : i ≤ 8) (a x : Int) : a + x % 128 * 2 ^ (7 * i) + x / 128 * 2 ^ (7 * (i + 1)) = a + x * 2 ^ (7 * i) := by
  rcases two7 i (by omega) with rfl | rfl | rfl | rfl | rfl | rfl | rfl | rfl | rfl | rfl <;> simp <;> omega
theorem uvar_vint (k : Nat) : ∀ (i : Nat) (x a : Int) (rest : List Int), i + k = 9 → 0 ≤ x → x < 2 ^ (64 - 7 * i) → uvarL (vint k x ++ rest) i a = (a + x * 2 ^ (7 * i), ((i + (vint k x).length : Nat) : Int)) := by
  induction k with
  | zero =>
    intro i x a rest hi h0 h1
    obtain rfl : i = 9 := by omega
    simp at h1
    rw [vint, List.cons_append, uvarL, if_neg (by omega), if_pos (by omega), if_neg (by omega)]
    rfl
  | succ k ih =>
    intro i x a rest hi h0 h1
    by_cases hx : x < 128
    · rw [vint_small _ _ hx, List.cons_append, uvarL, if_neg (by omega), if_pos hx, if_neg (by omega)]
      rfl
    · rw [vint_big _ _ (by omega), List.cons_append, uvarL, if_neg (by omega), if_neg (by omega), ih (i + 1) (x / 128) _ rest (by omega) (by omega) (two64 i (by omega) x h1)]
      have e : (x % 128 + 128) % 128 = x % 128 := by omega
      rw [e, step_sum i (by omega)]
      simp only [List.length_cons]
      congr 1
      omega
theorem uvar_cut (k : Nat) : ∀ (i m : Nat) (x a : Int), i + k = 9 → 0 ≤ x → x < 2 ^ (64 - 7 * i) → m < (vint k x).length → uvarL ((vint k x).take m) i a = (0, 0) := by
  induction k with
  | zero =>
    intro i m x a hi h0 h1 hm
    simp [vint] at hm
    subst hm
    rfl
  | succ k ih =>
    intro i m x a hi h0 h1 hm
    cases m with
    | zero => rfl
    | succ m =>
      by_cases hx : x < 128
      · rw [vint_small _ _ hx] at hm; simp at hm
      · rw [vint_big _ _ (by omega)] at hm ⊢
        rw [List.take_succ_cons, uvarL, if_neg (by omega), if_neg (by omega)]
        exact ih (i + 1) m (x / 128) _ (by omega) (by omega) (two64 i (by omega) x h1) (by simpa using hm)
theorem uvar_back (x : Int) (rest : List Int) (h0 : 0 ≤ x) (h1 : x ≤ 18446744073709551615) : uvarL (vint 9 x ++ rest) 0 0 = (x, ((vint 9 x).length : Int)) := by
  rw [uvar_vint 9 0 x 0 rest rfl h0 (by simp; omega)]
  simp
theorem uvar_short (x : Int) (m : Nat) (h0 : 0 ≤ x) (h1 : x ≤ 18446744073709551615) (hm : m < (vint 9 x).length) : uvarL ((vint 9 x).take m) 0 0 = (0, 0) :=
  uvar_cut 9 0 m x 0 rfl h0 (by simp; omega) hm
theorem vint_byt' (x : Int) (h0 : 0 ≤ x) (h1 : Hid (x ≤ 18446744073709551615)) : Byt (vint 9 x) := vint_byt 9 x h0 (by have := h1.out; simp; omega)

theorem tdiv_u64 (x : Int) (h0 : 0 ≤ x) (h1 : x ≤ 18446744073709551615) : IntKind.u64.wrap (x.tdiv 128) = x / 128 := by
  rw [Int.tdiv_eq_ediv_of_nonneg h0, wrapU64 _ (by omega) (by omega)]
end Go.Proofs.Ytanmgkpgfmkobaa

/- How a law's arguments come in: each as a value that reads as plain data. -/
namespace Go.Proofs.Ytanmgkpgfmkobaa
open Go.ChangeShapes Go.WideShapes Go.ChangeAt Go.RowKit
set_option linter.unusedVariables false

theorem wf_u8 {x : Int} (h : (Lit.int .u8 x).wf = true) : 0 ≤ x ∧ x ≤ 255 := by
  simp [Lit.wf, IntKind.min, IntKind.max, IntKind.bits, IntKind.signed] at h; omega

theorem view_ints {H : Type} {enc : TypeId × Value → H} {P : Program} {W : World} {base t e : Nat} {k : IntKind} {v : Value} {d : DataW H} {p : List MemPlace} (ht : P.underlying t = some (.slice e)) (he : P.underlying e = some (.int k)) (hce : P.cellsOf e = 1)
    (hok : Value.okWide P W .any base t v) (h : DataW.Trod enc P W 0 (fun _ => true) true t v d p) :
    ∃ A n c l, v = .slice A n c ∧ n ≤ c ∧ Sl W A n (nums k l) ∧ ∀ x ∈ l, (Lit.int k x).wf = true := by
  obtain ⟨A, n, c, rfl⟩ := okWide_slice ht hok
  obtain ⟨fuel, hf⟩ := h
  rcases open_ints ht he hce hf with ⟨hcs, _⟩ | ⟨x, l, cc, zs, hcs, _, hl, hm, hz, _, hcell, hwz⟩
  · simp [Value.cells] at hcs
    obtain ⟨rfl, rfl, rfl⟩ := hcs
    exact ⟨none, 0, 0, [], rfl, Nat.le_refl _, Sl.nil _ _, by simp⟩
  · simp [Value.cells] at hcs
    obtain ⟨rfl, rfl, rfl⟩ := hcs
    refine ⟨some x, n, c, zs.take n, rfl, hl, ⟨by rw [nums_length, List.length_take]; simp at hz; omega, fun hn => ?_⟩, fun y hy => hwz y (List.mem_of_mem_take hy)⟩
    obtain ⟨b, off, rfl, hc2⟩ := ints_at hcell (by simp at hz; omega)
    refine ⟨b, off, rfl, fun j u hu => ?_⟩
    have hj := (List.getElem?_eq_some_iff.1 hu).1
    rw [nums_length, List.length_take] at hj
    rw [hc2 j (by omega), ← hu, nums_get _ _ _ (by rw [List.length_take]; omega)]
    congr 2
    rw [List.getD_eq_getElem?_getD, List.getD_eq_getElem?_getD, List.getElem?_take_of_lt (by omega)]

theorem lt_of_trod {H : Type} {enc : TypeId × Value → H} {P : Program} {W : World} {t : Nat} {v : Value} {d : DataW H} {p : List MemPlace} (h : DataW.Trod enc P W 0 (fun _ => true) true t v d p) : ∀ x ∈ p, x.block < W.heap.size := by
  obtain ⟨m, hm⟩ := h
  exact DataW.trod_lt m _ _ _ hm
theorem and2 {a b : Bool} (h : a = true) (k : b = true) : (a && b) = true := by rw [h, k]; rfl
theorem ownKnob' : ownKnob Try.prog.godebug = none := by kernel_rfl
theorem laidOut' : laidOutB Try.prog = true := by kernel_rfl
theorem cells1 : Try.prog.cellsOf 5 = 1 := by kernel_rfl
set_option maxRecDepth 100000 in
theorem view_bytes {H : Type} {enc : TypeId × Value → H} {W : World} {base : Nat} {v : Value} {d : DataW H} {p : List MemPlace}
    (hok : Value.okWide Try.prog W .any base 27 v) (h : DataW.Trod enc Try.prog W 0 (fun _ => true) true 27 v d p) :
    ∃ A n c l, v = .slice A n c ∧ n ≤ c ∧ Sl W A n (nums .u8 l) ∧ ∀ x ∈ l, (Lit.int .u8 x).wf = true := view_ints Try.underlying27 Try.underlying5 cells1 hok h
theorem wf_u64 {x : Int} (h : (Lit.int .u64 x).wf = true) : 0 ≤ x ∧ Hid (x ≤ 18446744073709551615) := bounds_u64 h
def headCodes : List Nat := [104, 97, 114, 110, 101, 115, 115]
def cutCodes : List Nat := [99, 117, 116]
def sumCodes : List Nat := [54, 55, 98, 98, 50, 97, 51, 100, 101, 52, 56, 56, 56, 99, 48, 54, 51, 98, 57, 49, 101, 101, 54, 98, 97, 99, 101, 49, 55, 98, 97, 48, 99, 53, 49, 102, 100, 97, 50, 57, 99, 53, 99, 53, 98, 101, 55, 57, 56, 102, 100, 57, 98, 102, 99, 100, 100, 98, 98, 100, 50, 49, 52, 51]
def restCodes : List Nat := [97, 116, 32, 108, 111, 111, 112, 46, 101, 120, 97, 109, 112, 108, 101, 47, 112, 117, 98, 45, 103, 48, 49, 53, 48, 49, 47, 108, 97, 119, 115, 46, 70, 110, 83, 107, 105, 112, 69, 109, 112, 116, 121, 32, 108, 111, 111, 112, 46, 101, 120, 97, 109, 112, 108, 101, 47, 112, 117, 98, 45, 103, 48, 49, 53, 48, 49, 47, 108, 97, 119, 115, 46, 70, 110, 83, 107, 105, 112, 71, 101, 116, 32, 108, 111, 111, 112, 46, 101, 120, 97, 109, 112, 108, 101, 47, 112, 117, 98, 45, 103, 48, 49, 53, 48, 49, 47, 108, 97, 119, 115, 46, 70, 110, 83, 107, 105, 112, 83, 116, 101, 112, 115, 32, 108, 111, 111, 112, 46, 101, 120, 97, 109, 112, 108, 101, 47, 112, 117, 98, 45, 103, 48, 49, 53, 48, 49, 47, 108, 97, 119, 115, 46, 70, 110, 79, 114, 97, 99, 108, 101, 32, 108, 111, 111, 112, 46, 101, 120, 97, 109, 112, 108, 101, 47, 112, 117, 98, 45, 103, 48, 49, 53, 48, 49, 47, 108, 97, 119, 115, 46, 70, 110, 79, 114, 97, 99, 108, 101, 66, 101, 108, 111, 119, 32, 108, 111, 111, 112, 46, 101, 120, 97, 109, 112, 108, 101, 47, 112, 117, 98, 45, 103, 48, 49, 53, 48, 49, 47, 108, 97, 119, 115, 46, 70, 110, 79, 114, 97, 99, 108, 101, 83, 101, 114, 105, 97, 108, 32, 108, 111, 111, 112, 46, 101, 120, 97, 109, 112, 108, 101, 47, 112, 117, 98, 45, 103, 48, 49, 53, 48, 49, 47, 108, 97, 119, 115, 46, 70, 110, 83, 107, 105, 112, 72, 101, 105, 103, 104, 116, 115, 32, 108, 111, 111, 112, 46, 101, 120, 97, 109, 112, 108, 101, 47, 112, 117, 98, 45, 103, 48, 49, 53, 48, 49, 47, 108, 97, 119, 115, 46, 70, 110, 83, 107, 105, 112, 79, 110, 101]
theorem order_eq : Try.prog.initOrder = String.ofList ((headCodes ++ 32 :: (sumCodes ++ 32 :: (cutCodes ++ 32 :: restCodes))).map Char.ofNat) := by kernel_rfl
theorem words_cons (c : Char) (w : List Char) (ws : List (List Char)) (r : List Char) (h : c ≠ Char.ofNat 32) (hr : wordsSigns r = w :: ws) : wordsSigns (c :: r) = (c :: w) :: ws := by
  rw [wordsSigns.eq_3 c r (fun e => h e), hr]
theorem words_step (a r : List Char) (h : a.all (fun c => c != Char.ofNat 32) = true) : wordsSigns (a ++ Char.ofNat 32 :: r) = a :: wordsSigns r := by
  induction a with
  | nil => rfl
  | cons c a ih =>
    simp only [List.all_cons, Bool.and_eq_true, bne_iff_ne] at h
    exact words_cons c a _ _ h.1 (ih h.2)
theorem order_words : ∃ ws, wordsSigns Try.prog.initOrder.toList = "harness".toList :: sumCodes.map Char.ofNat :: "cut".toList :: ws := by
  refine ⟨wordsSigns (restCodes.map Char.ofNat), ?_⟩
  rw [order_eq, String.toList_ofList, List.map_append, List.map_cons, List.map_append, List.map_cons, List.map_append, List.map_cons,
    words_step _ _ (by decide +kernel), words_step _ _ (by decide +kernel), words_step _ _ (by decide +kernel)]
  have e1 : headCodes.map Char.ofNat = "harness".toList := by kernel_rfl
  have e2 : cutCodes.map Char.ofNat = "cut".toList := by kernel_rfl
  rw [e1, e2]
theorem behind {S : List Char} (hS : isSumSigns S = true) (r : List (List Char)) : behindMainWord ("harness".toList :: S :: r) = r := by
  show (if (("harness".toList == "harness".toList || "harness".toList == "ownmain".toList) && isSumSigns S) = true then r else _) = r
  rw [hS, if_pos]
  simp
theorem cutNe1 : ("cut".toList == "gc".toList) = false := by decide +kernel
theorem cutNe2 : ("cut".toList == "spec".toList) = false := by decide +kernel
theorem cutNe3 : ("cut".toList == "carried".toList) = false := by decide +kernel
theorem make_of {P : Program} {S : List Char} {ws : List (List Char)} (hS : isSumSigns S = true) (h : wordsSigns P.initOrder.toList = "harness".toList :: S :: "cut".toList :: ws) : P.make = some .cut := by
  unfold Program.make
  rw [h, behind hS]
  simp only [cutNe1, cutNe2, beq_self_eq_true]
  rfl
theorem strip (ws : List (List Char)) : stripLifts liftWords ("cut".toList :: ws) = ([], "cut".toList :: ws) := by kernel_rfl
theorem mayEnter_of {P : Program} {S : List Char} {ws : List (List Char)} (hS : isSumSigns S = true) (h : wordsSigns P.initOrder.toList = "harness".toList :: S :: "cut".toList :: ws)
    (h1 : P.laysLater = false) (h2 : P.bearsReflect = false) (h3 : P.doorFits [] = true) : P.mayEnter = true := by
  unfold Program.mayEnter
  rw [h, behind hS]
  simp only [cutNe1, cutNe2, cutNe3, strip, h1, h2, h3]
  simp
theorem lifts_of {P : Program} {S : List Char} {ws : List (List Char)} (hS : isSumSigns S = true) (h : wordsSigns P.initOrder.toList = "harness".toList :: S :: "cut".toList :: ws) : P.liftsFinal = false := by
  unfold Program.liftsFinal Program.headLifts
  rw [h, behind hS]
  simp only [strip]
  have : (("cut".toList :: ws).head? == some "carried".toList) = false := by
    show (some "cut".toList == some "carried".toList) = false
    decide +kernel
  rw [this]
  simp
theorem sumSigns : isSumSigns (sumCodes.map Char.ofNat) = true := by kernel_rfl
theorem laysLater' : Try.prog.laysLater = false := by kernel_rfl
theorem bears' : Try.prog.bearsReflect = false := by kernel_rfl
theorem door' : Try.prog.doorFits [] = true := by kernel_rfl
theorem make' : Try.prog.make = some .cut := by obtain ⟨ws, h⟩ := order_words; exact make_of sumSigns h
theorem mayEnter' : Try.prog.mayEnter = true := by obtain ⟨ws, h⟩ := order_words; exact mayEnter_of sumSigns h laysLater' bears' door'
theorem lifts' : Try.prog.liftsFinal = false := by obtain ⟨ws, h⟩ := order_words; exact lifts_of sumSigns h
end Go.Proofs.Ytanmgkpgfmkobaa

/- How struct arguments come in. -/
namespace Go.Proofs.Ytanmgkpgfmkobaa
open Go.ChangeShapes Go.WideShapes Go.ChangeAt Go.RowKit
set_option linter.unusedVariables false
section
variable {H : Type} {enc : TypeId × Value → H} {P : Program} {w : World} {base : Nat} {spare : Nat → Bool} {held : Bool}
theorem fields_of {t : TypeId} {fs : Array Field} {fuel : Nat} {cs : List Value} {x : DataW H × List MemPlace} (ht : P.underlying t = some (.struct fs)) (h : DataW.trod enc P w base spare held fuel t cs = some x) :
    cs.length = P.cellsOf t ∧ ∃ n, ∀ (i : Nat) (f : Field), fs[i]? = some f → ∃ y, DataW.trod enc P w base spare held n f.type ((cs.drop f.offset).take (P.cellsOf f.type)) = some y := by
  obtain ⟨xs, n, _, _, hl, hlen, hf⟩ := DataW.trod_struct ht h
  refine ⟨hl, n, fun i f hi => ?_⟩
  have hlt : i < xs.length := by
    rw [hlen]
    exact (Array.getElem?_eq_some_iff.1 hi).1
  exact ⟨xs[i], by rw [hf i f hi, List.getElem?_eq_getElem hlt]⟩
theorem int_cell {t : TypeId} {k : IntKind} {fuel : Nat} {cs : List Value} {y : DataW H × List MemPlace} (ht : P.underlying t = some (.int k)) (h : DataW.trod enc P w base spare held fuel t cs = some y) : ∃ n, cs = [.int k n] ∧ (Lit.int k n).wf = true := by
  obtain ⟨n, e, _, hw⟩ := DataW.trod_int ht h
  exact ⟨n, e, hw⟩
theorem bool_cell {t : TypeId} {fuel : Nat} {cs : List Value} {y : DataW H × List MemPlace} (ht : P.underlying t = some .bool) (h : DataW.trod enc P w base spare held fuel t cs = some y) : ∃ b, cs = [.bool b] := by
  obtain ⟨n, e, _⟩ := DataW.trod_bool ht h
  exact ⟨n, e⟩
theorem ints_cell {t e : TypeId} {k : IntKind} {fuel : Nat} {cs : List Value} {y : DataW H × List MemPlace} (ht : P.underlying t = some (.slice e)) (he : P.underlying e = some (.int k)) (hce : P.cellsOf e = 1)
    (hf : DataW.trod enc P w 0 (fun _ => true) true fuel t cs = some y) :
    ∃ A n c l, cs = [.slice A n c] ∧ n ≤ c ∧ Sl w A n (nums k l) ∧ ∀ x ∈ l, (Lit.int k x).wf = true := by
  rcases open_ints ht he hce hf with ⟨hcs, _⟩ | ⟨x, l, cc, zs, hcs, _, hl, hm, hz, _, hcell, hwz⟩
  · exact ⟨none, 0, 0, [], hcs, Nat.le_refl _, Sl.nil _ _, by simp⟩
  · refine ⟨some x, l, cc, zs.take l, hcs, hl, ⟨by rw [nums_length, List.length_take]; simp at hz; omega, fun hn => ?_⟩, fun y hy => hwz y (List.mem_of_mem_take hy)⟩
    obtain ⟨b, off, rfl, hc2⟩ := ints_at hcell (by simp at hz; omega)
    refine ⟨b, off, rfl, fun j u hu => ?_⟩
    have hj := (List.getElem?_eq_some_iff.1 hu).1
    rw [nums_length, List.length_take] at hj
    rw [hc2 j (by omega), ← hu, nums_get _ _ _ (by rw [List.length_take]; omega)]
    congr 2
    rw [List.getD_eq_getElem?_getD, List.getD_eq_getElem?_getD, List.getElem?_take_of_lt (by omega)]
theorem one_cell {f : TypeId} {off : Nat} {fuel : Nat} {cs : List Value} (h1 : P.cellsOf f = 1) (v : Value) (hv : cs[off]? = some v)
    (h : ∃ y, DataW.trod enc P w base spare held fuel f ((cs.drop off).take (P.cellsOf f)) = some y) : ∃ y, DataW.trod enc P w base spare held fuel f [v] = some y := by
  rw [h1] at h
  have hlt := (List.getElem?_eq_some_iff.1 hv).1
  have e : (cs.drop off).take 1 = [v] := by
    rw [List.drop_eq_getElem_cons hlt]
    have := (List.getElem?_eq_some_iff.1 hv).2
    simp [this]
  rwa [e] at h
theorem agg_of {t : TypeId} {fs : Array Field} {v : Value} {r : Reach} {b0 : Nat} {d : DataW H} {p : List MemPlace} (hs : P.underlying t = some (.struct fs)) (hv : Value.okWide P w r b0 t v) (h : DataW.Trod enc P w base spare held t v d p) :
    ∃ l : List Value, v = .agg l.toArray ∧ ∃ fuel x, DataW.trod enc P w base spare held fuel t l = some x := by
  obtain ⟨cs, rfl, hsz⟩ := okWide_struct hs hv
  obtain ⟨fuel, hf⟩ := h
  exact ⟨cs.toList, by simp, fuel, _, by simpa [Value.cells] using hf⟩
theorem two_of {α : Type} {l : List α} (h : l.length = 2) : ∃ a b, l = [a, b] := by
  match l, h with
  | [a, b], _ => exact ⟨a, b, rfl⟩
theorem three_of {α : Type} {l : List α} (h : l.length = 3) : ∃ a b c, l = [a, b, c] := by
  match l, h with
  | [a, b, c], _ => exact ⟨a, b, c, rfl⟩
theorem four_of {α : Type} {l : List α} (h : l.length = 4) : ∃ a b c d, l = [a, b, c, d] := by
  match l, h with
  | [a, b, c, d], _ => exact ⟨a, b, c, d, rfl⟩
theorem five_of {α : Type} {l : List α} (h : l.length = 5) : ∃ a b c d e, l = [a, b, c, d, e] := by
  match l, h with
  | [a, b, c, d, e], _ => exact ⟨a, b, c, d, e, rfl⟩
end

section
variable {H : Type} {enc : TypeId × Value → H} {W : World} {base : Nat} {v : Value} {d : DataW H} {p : List MemPlace} {fuel : Nat} {cs : List Value} {y : DataW H × List MemPlace}
theorem cellsU32 : Try.prog.cellsOf 26 = 1 := by kernel_rfl
theorem cellsU64 : Try.prog.cellsOf 28 = 1 := by kernel_rfl
theorem cellsBytes : Try.prog.cellsOf 27 = 1 := by kernel_rfl
theorem cellsBool : Try.prog.cellsOf 4 = 1 := by kernel_rfl

set_option maxRecDepth 100000 in
theorem view_u32s (hok : Value.okWide Try.prog W .any base 22 v) (h : DataW.Trod enc Try.prog W 0 (fun _ => true) true 22 v d p) :
    ∃ A n c l, v = .slice A n c ∧ n ≤ c ∧ Sl W A n (nums .u32 l) ∧ ∀ x ∈ l, (Lit.int .u32 x).wf = true := view_ints Try.underlying22 Try.underlying26 cellsU32 hok h
set_option maxRecDepth 100000 in
theorem view_u64s (hok : Value.okWide Try.prog W .any base 59 v) (h : DataW.Trod enc Try.prog W 0 (fun _ => true) true 59 v d p) :
    ∃ A n c l, v = .slice A n c ∧ n ≤ c ∧ Sl W A n (nums .u64 l) ∧ ∀ x ∈ l, (Lit.int .u64 x).wf = true := view_ints Try.underlying59 Try.underlying28 cellsU64 hok h
/-- A spot: log, length, offset. -/
structure SpotD where
  (a b c : Int)
def SpotD.val (s : SpotD) : Value := .agg #[.int .u32 s.a, .int .u32 s.b, .int .u32 s.c]
def SpotD.ok (s : SpotD) : Prop := (Lit.int .u32 s.a).wf = true ∧ (Lit.int .u32 s.b).wf = true ∧ (Lit.int .u32 s.c).wf = true
/-- The head of a record: key, data, time, both marks. -/
structure HeadD where
  (k d e m u : Int)
def HeadD.val (s : HeadD) : Value := .agg #[.int .u32 s.k, .int .u32 s.d, .int .u64 s.e, .int .u8 s.m, .int .u8 s.u]
def HeadD.ok (s : HeadD) : Prop := (Lit.int .u32 s.k).wf = true ∧ (Lit.int .u32 s.d).wf = true ∧ (Lit.int .u64 s.e).wf = true ∧ (Lit.int .u8 s.m).wf = true ∧ (Lit.int .u8 s.u).wf = true
/-- A value: both marks, time, data. -/
structure ValD where
  (m u e : Int) (A : Option Addr) (n c : Nat) (l : List Int)
def ValD.val (s : ValD) : Value := .agg #[.int .u8 s.m, .int .u8 s.u, .int .u64 s.e, .slice s.A s.n s.c]
def ValD.ok (W : World) (s : ValD) : Prop := (Lit.int .u8 s.m).wf = true ∧ (Lit.int .u8 s.u).wf = true ∧ (Lit.int .u64 s.e).wf = true ∧ s.n ≤ s.c ∧ Sl W s.A s.n (nums .u8 s.l) ∧ ∀ x ∈ s.l, (Lit.int .u8 x).wf = true
theorem val_cells4 : Try.prog.cellsOf 30 = 4 := by kernel_rfl
set_option maxRecDepth 100000 in
theorem view_val (hok : Value.okWide Try.prog W .any base 30 v) (h : DataW.Trod enc Try.prog W 0 (fun _ => true) true 30 v d p) :
    ∃ s : ValD, v = s.val ∧ s.ok W := by
  obtain ⟨l, rfl, fuel, x, hx⟩ := agg_of Try.underlying30 hok h
  obtain ⟨hl, n, hf⟩ := fields_of Try.underlying30 hx
  rw [val_cells4] at hl
  obtain ⟨v0, v1, v2, v3, rfl⟩ := four_of hl
  obtain ⟨_, h0⟩ := one_cell cells1 v0 rfl (hf 0 _ rfl)
  obtain ⟨_, h1⟩ := one_cell cells1 v1 rfl (hf 1 _ rfl)
  obtain ⟨_, h2⟩ := one_cell cellsU64 v2 rfl (hf 2 _ rfl)
  obtain ⟨_, h3⟩ := one_cell cellsBytes v3 rfl (hf 3 _ rfl)
  obtain ⟨a, e0, w0⟩ := int_cell Try.underlying5 h0
  obtain ⟨b, e1, w1⟩ := int_cell Try.underlying5 h1
  obtain ⟨c, e2, w2⟩ := int_cell Try.underlying28 h2
  obtain ⟨A, n, k, l, e3, w3, w4, w5⟩ := ints_cell Try.underlying27 Try.underlying5 cells1 h3
  simp at e0 e1 e2 e3
  subst e0 e1 e2 e3
  exact ⟨⟨a, b, c, A, n, k, l⟩, rfl, w0, w1, w2, w3, w4, w5⟩
end
end Go.Proofs.Ytanmgkpgfmkobaa

/- Where records lie: contracts. -/
namespace Go.Proofs.Ytanmgkpgfmkobaa
open Go.RowKit
set_option linter.unusedVariables false
set_option linter.unusedSimpArgs false
/-- Spots: (log, length, offset). -/
def spotLt (a b c d e f : Int) : Bool := if a != d then decide (a < d) else if c != f then decide (c < f) else decide (b < e)
def Ret (w : World) (v : Value) (e : Ending) (w' : World) : Prop := e = .returned v ∧ Below w.heap.size w w'

theorem blk_new (w : World) (o : Obj) : (w.alloc o).heap[w.heap.size]? = some o := heap_alloc_new w o
theorem blk_old {w : World} {g : Nat} {o : Obj} (h : w.heap[g]? = some o) (o' : Obj) : (w.alloc o').heap[g]? = some o := (Below.heap_alloc w o' g (Array.getElem?_eq_some_iff.1 h).1).trans h
theorem blk_below {w w1 : World} {g : Nat} {o : Obj} (h : w.heap[g]? = some o) (hb : Below w.heap.size w w1) : w1.heap[g]? = some o := (hb.block g (Array.getElem?_eq_some_iff.1 h).1).trans h
theorem cell_keep {w w1 : World} {p : Addr} {v : Value} (hb : Hid (Below w.heap.size w w1)) (h : w.cell? p = some v) : w1.cell? p = some v := by
  rw [hb.out.cell (World.block_lt_of_cell? w _ h)]; exact h
theorem bl_keep {w w' w1 : World} (hb : Hid (Below w'.heap.size w' w1)) (h : Hid (Below w.heap.size w w')) : Hid (Below w.heap.size w w1) := bl_trans h.out hb.out
theorem cell_drew {w : World} {p : Addr} {v : Value} (h : w.cell? p = some v) : w.drew.cell? p = some v := h
theorem bl_keepD {w w1 : World} (h : Hid (Below w.heap.size w w1)) : Hid (Below w.heap.size w w1.drew) := bl_drew h.out
theorem cell_alloc {w : World} {p : Addr} {v : Value} (o : Obj) (h : w.cell? p = some v) : (w.alloc o).cell? p = some v := by
  rw [World.cell?_alloc_lt w o p (World.block_lt_of_cell? w _ h)]; exact h
theorem bl_keepA {w w1 : World} (o : Obj) (h : Hid (Below w.heap.size w w1)) : Hid (Below w.heap.size w (w1.alloc o)) := bl_alloc h.out o
/-- The cells of a block, one by one. -/
theorem cell_blk {w : World} {g t : Nat} {cs : Array Value} {fr : Nat × Nat} (h : w.heap[g]? = some (.cells cs t fr)) (i : Nat) (v : Value) (hv : cs[i]? = some v) : w.cell? ⟨g, i, none⟩ = some v := by
  simp [World.cell?, h, hv]
def SpotWf (a b c : Int) : Prop := (Lit.int .u32 a).wf = true ∧ (Lit.int .u32 b).wf = true ∧ (Lit.int .u32 c).wf = true
end Go.Proofs.Ytanmgkpgfmkobaa

/- Heads of records: contracts. -/
namespace Go.Proofs.Ytanmgkpgfmkobaa
open Go.RowKit
set_option linter.unusedVariables false
set_option linter.unusedSimpArgs false
/-- A head's bytes. -/
def headB (k d e m u : Int) : List Int := [m, u] ++ (vint 9 k ++ (vint 9 d ++ vint 9 e))
theorem vint_len5 (x : Int) (h : x ≤ 4294967295) : ∀ k : Nat, (vint (k + 4) x).length ≤ 5 := by
  intro k
  unfold vint
  split
  · simp
  unfold vint
  split
  · simp
  unfold vint
  split
  · simp
  unfold vint
  split
  · simp
  rw [vint_small _ _ (by omega)]
  simp
theorem wrote_drew {w w' : World} {g t : Nat} {cs : List Value} (h : Wrote w g t cs w') : Wrote w g t cs w'.drew := ⟨h.1, h.2.os, h.2.tape, h.2.output, h.2.size, h.2.block⟩
theorem wrote_from {w w' : World} {g t : Nat} {cs : List Value} (h : Wrote w.drew g t cs w') : Wrote w g t cs w' := ⟨h.1, h.2.os, h.2.tape, h.2.output, h.2.size, h.2.block⟩
/-- A piece written behind those before it. -/
theorem wrote_more {w w1 w2 : World} {g t off : Nat} {cs a b : List Value} (h : Wrote w g t (splice cs 0 a) w1) (k : Wrote w1.drew g t (splice (splice cs 0 a) off b) w2) (ho : off = a.length) (hf : a.length + b.length ≤ cs.length) : Wrote w g t (splice cs 0 (a ++ b)) w2 := by
  have := h.trans (wrote_from k)
  rwa [splice_splice _ _ _ _ _ (by omega) (by omega)] at this
theorem cell_wrote {w w' : World} {g t b i : Nat} {cs : List Value} {v : Value} (h : Wrote w g t cs w') (hne : b ≠ g) (hq : w.cell? ⟨b, i, none⟩ = some v) : w'.cell? ⟨b, i, none⟩ = some v := by
  have hl := World.block_lt_of_cell? w _ hq
  have := h.2.block b hl (fun e => hne (by injection e))
  rw [← hq]
  simp [World.cell?, this]
theorem u32_64 {x : Int} (h : x ≤ 4294967295) : Hid (x ≤ 18446744073709551615) := Int.le_trans h (by decide)
theorem grownBy_below {w w0 : World} (h : Below w.heap.size w w0) (g : Nat) : w.grownBy w0 (some g) := ⟨h.os, h.tape, h.output, h.size, fun k hk _ => h.block k hk⟩
/-- A call that hands back bytes that it has made. -/
def Gave (w : World) (l : List Int) (e : Ending) (w' : World) : Prop := ∃ A c, e = .returned (.slice A l.length c) ∧ l.length ≤ c ∧ Hid (Sl w' A l.length (nums .u8 l)) ∧ Hid (Below w.heap.size w w')
theorem headB_len (k d e m u : Int) (hk : k ≤ 4294967295) (hd : d ≤ 4294967295) : 5 ≤ (headB k d e m u).length ∧ (headB k d e m u).length ≤ 22 := by
  have h1 := vint_len 9 k
  have h2 := vint_len 9 d
  have h3 := vint_len 9 e
  have h4 : (vint 9 k).length ≤ 5 := vint_len5 k hk 5
  have h5 : (vint 9 d).length ≤ 5 := vint_len5 d hd 5
  simp only [headB, List.length_append, List.length_cons, List.length_nil]
  omega
end Go.Proofs.Ytanmgkpgfmkobaa

/- Heads of records: more contracts. -/
namespace Go.Proofs.Ytanmgkpgfmkobaa
open Go.RowKit
set_option linter.unusedVariables false
set_option linter.unusedSimpArgs false
theorem Made.of_gave {w w1 w2 : World} {l : List Int} {A : Option Addr} {c : Nat} (hb : Below w.heap.size w w1) (h : Made w1 5 (nums .u8 l) (.returned (.slice A l.length c)) w2) : Made w 5 (nums .u8 l) (.returned (.slice A l.length c)) w2 := by
  obtain ⟨v, e, ho, hb2⟩ := h
  injection e with e
  subst e
  exact ⟨_, rfl, own_weaken' ho hb.size, hb.trans (hb2.mono hb.size)⟩
end Go.Proofs.Ytanmgkpgfmkobaa

/- The head of a record by the specification. -/
namespace Go.Proofs.Ytanmgkpgfmkobaa
open Go.RowKit
set_option linter.unusedVariables false
set_option linter.unusedSimpArgs false
theorem Sl.up {w w' : World} {A : Option Addr} {n : Nat} {xs : List Value} (h : Hid (Sl w A n xs)) (hb : Below w.heap.size w w') : Sl w' A n xs := h.out.below hb
theorem bl_keepN {w w1 : World} (n : Nat) (h : Hid (Below w.heap.size w w1)) : Hid (Below w.heap.size w (w1.drewN n)) := bl_drewN h.out n
theorem sv_two (w : World) (g t : Nat) (a b : Int) (hg : g = w.heap.size) : Sl (w.alloc (.cells #[.int .u8 a, .int .u8 b] t)) (some ⟨g, 0, none⟩) 2 (nums .u8 [a, b]) := by
  subst hg
  have := (Blk.new w t [.int .u8 a, .int .u8 b]).sl (off := 0) (n := 2) (by simp)
  simpa [nums] using this
theorem sls_four (w : World) (g t : Nat) (v1 v2 v3 v4 : Value) (l1 l2 l3 l4 : List Int) (hg : g = w.heap.size) (h1 : SV w v1 l1) (h2 : SV w v2 l2) (h3 : SV w v3 l3) (h4 : SV w v4 l4) :
    Sls (w.alloc (.cells #[v1, v2, v3, v4] t)) (some ⟨g, 0, none⟩) 4 [l1, l2, l3, l4] := by
  subst hg
  exact sls_new w t [v1, v2, v3, v4] [l1, l2, l3, l4] rfl (fun j m hj => by
    match j, hj with
    | 0, hj => exact ⟨v1, rfl, by simp at hj; subst hj; exact h1⟩
    | 1, hj => exact ⟨v2, rfl, by simp at hj; subst hj; exact h2⟩
    | 2, hj => exact ⟨v3, rfl, by simp at hj; subst hj; exact h3⟩
    | 3, hj => exact ⟨v4, rfl, by simp at hj; subst hj; exact h4⟩
    | j + 4, hj => simp at hj)
def HeadIn (k d e : Int) : Prop := 0 ≤ k ∧ k ≤ 4294967295 ∧ 0 ≤ d ∧ d ≤ 4294967295 ∧ 0 ≤ e ∧ Hid (e ≤ 18446744073709551615)
theorem wf32 {x : Int} (h : (Lit.int .u32 x).wf = true) : 0 ≤ x ∧ x ≤ 4294967295 := by
  simp [Lit.wf, IntKind.min, IntKind.max, IntKind.bits, IntKind.signed] at h; omega
theorem headIn_of {s : HeadD} (h : s.ok) : HeadIn s.k s.d s.e := by
  obtain ⟨h1, h2, h3, _, _⟩ := h
  exact ⟨(wf32 h1).1, (wf32 h1).2, (wf32 h2).1, (wf32 h2).2, (wf64 h3).1, (wf64 h3).2⟩
end Go.Proofs.Ytanmgkpgfmkobaa
