/- Texts that this claim shares with others, put together: L1 C8 C9 V V2 S1 H1 H2 H3. -/
import Derived.Test.YtpfmmbhbmdbmeaaGreatDoorGA
import Derived.Test.YtpfmmbhbmdbmeaaGreatDoorRows
import Derived.ProofKit
import Derived.OpenShut
import Derived.ShutString
import Derived.ChangeOld
import Derived.Below
import Derived.SizedLaws
import Derived.Deep.Slices
import Derived.BigRegion
import Derived.IntWalk
/- Walks of laws on keys. -/
namespace Go.Proofs.YtpfmmbhbmdbmeaaGreatDoor
open Go.RowKit
set_option linter.unusedVariables false
set_option linter.unusedSimpArgs false

end Go.Proofs.YtpfmmbhbmdbmeaaGreatDoor

/- Contracts: numbers in as few bytes as they need, written into a block and read. -/
namespace Go.Proofs.YtpfmmbhbmdbmeaaGreatDoor
open Go.RowKit
set_option linter.unusedVariables false
set_option linter.unusedSimpArgs false

theorem grownBy_any {w w' : World} (h : w.grownBy w' none) (row : Option Nat) : w.grownBy w' row := ⟨h.os, h.tape, h.output, h.size, fun k hk _ => h.block k hk (by simp)⟩
theorem vint_len (k : Nat) (x : Int) : 1 ≤ (vint k x).length ∧ (vint k x).length ≤ k + 1 := by
  induction k generalizing x with
  | zero => simp [vint]
  | succ k ih =>
    unfold vint
    split
    · simp
    · have := ih (x / 128); simp; omega
theorem vint_byt (k : Nat) (x : Int) (h0 : 0 ≤ x) (h1 : x < 128 ^ (k + 1)) : Byt (vint k x) := by
  induction k generalizing x with
  | zero => intro y hy; simp [vint] at hy; subst hy; simp at h1; omega
  | succ k ih =>
    unfold vint
    split
    · intro y hy; simp at hy; subst hy; omega
    · intro y hy
      rcases List.mem_cons.1 hy with rfl | hy
      · omega
      · exact ih (x / 128) (by omega) (by rw [Int.pow_succ] at h1; omega) y hy

theorem putUvarint_any (g off n c t : Nat) (x : Int) (cs : List Value) (w : World) (h : Blk w g t cs) (hn : (vint 9 x).length ≤ n) (hfit : off + n ≤ cs.length) (h0 : 0 ≤ x) (h1 : Hid (x ≤ 18446744073709551615)) :
    Calls Tryz.prog 68 #[.slice (some ⟨g, off, none⟩) n c, .int .u64 x] w fun e w' => e = .returned (.int .i64 (vint 9 x).length) ∧ Wrote w g t (splice cs off (nums .u8 (vint 9 x))) w' := by
  have H : Hid (Blk w g t cs) := h
  clear h
  go_enter Tryz.func68, Tryz.ntmps68
  go_wp2_with fail
  refine (appendUvarint_any x w.heap.size [] (.slice none 0 0) w h0 h1.out (Nat.le_refl _) (by simp) (World.ownsRow_nil w _ _ _)).mono ?_
  rintro e w1 ⟨v', rfl, ho, hon⟩
  rw [List.nil_append] at ho
  obtain ⟨A1, c1, rfl, hc1, hs1⟩ := own_sl ho
  have HS := Lib.hid hs1
  have HB : Hid (Blk w1 g t cs) := H.out.grown hon.1 (by simp [Value.ownBlock])
  have HO := Lib.hid hon
  clear hs1 ho hon
  go_wp2_with (show wpList _ _ _ (Oper.mk (some 8) _ _ _ _ _ :: _) _ _; refine wpList_copy_blk rfl (.tmp 5) (.tmp 7) 27 27 rfl 5 Tryz.underlying27 sizeU8 A1 _ g off n c _ c1 t cs (nums .u8 (vint 9 x)) rfl (fun _ => rfl) rfl HB.out HS.out hfit (nums_one _ _) (vint 9 x).length (Nat.min_eq_left hn) ?_; intro w2 hw2; have HW2 := Lib.hid hw2; clear hw2)
  go_ret
  refine ⟨rfl, ?_⟩
  have := HW2.out
  rw [List.take_of_length_le (by rw [nums_length]; exact hn)] at this
  exact ⟨this.1, grownBy_then (grownBy_any HO.out.1 (some g)) this.2 (.inl rfl)⟩

theorem pubPut_any (g off n c t : Nat) (x : Int) (cs : List Value) (w : World) (h : Blk w g t cs) (hn : (vint 9 x).length ≤ n) (hfit : off + n ≤ cs.length) (h0 : 0 ≤ x) (h1 : Hid (x ≤ 18446744073709551615)) :
    Calls Tryz.prog 54 #[.slice (some ⟨g, off, none⟩) n c, .int .u64 x] w fun e w' => e = .returned (.int .i64 (vint 9 x).length) ∧ Wrote w g t (splice cs off (nums .u8 (vint 9 x))) w' := by
  have H : Hid (Blk w g t cs) := h
  clear h
  go_enter Tryz.func54, Tryz.ntmps54
  go_wp2_with fail
  refine (putUvarint_any g off n c t x cs w H.out hn hfit h0 h1).mono ?_
  rintro e w1 ⟨rfl, hw⟩
  have HW := Lib.hid hw
  clear hw
  go_wp2
  go_ret
  exact ⟨rfl, HW.out⟩

/-- Reading a number of as few bytes as it needs: the number and how many bytes it has. -/
def uvarL : List Int → Nat → Int → Int × Int
  | [], _, _ => (0, 0)
  | b :: l, i, x => if i = 10 then (0, -11) else if b < 128 then (if i = 9 ∧ 1 < b then (0, -10) else (x + b * 2 ^ (7 * i), i + 1)) else uvarL l (i + 1) (x + (b % 128) * 2 ^ (7 * i))

theorem uvarL_at (l : List Int) (i : Nat) (x b : Int) (R : Int × Int) (h : l[i]? = some b) (hr : R = uvarL (l.drop i) i x) :
    R = if i = 10 then (0, -11) else if b < 128 then (if i = 9 ∧ 1 < b then (0, -10) else (x + b * 2 ^ (7 * i), (i : Int) + 1)) else uvarL (l.drop (i + 1)) (i + 1) (x + (b % 128) * 2 ^ (7 * i)) := by
  obtain ⟨g, rfl⟩ := List.getElem?_eq_some_iff.1 h
  rw [hr, List.drop_eq_getElem_cons g, uvarL]
theorem uvarL_ten (l : List Int) (x b : Int) (R : Int × Int) (h : l[10]? = some b) (hr : R = uvarL (l.drop 10) 10 x) : R = (0, -11) := by
  rw [uvarL_at l 10 x b R h hr]; rfl
theorem uvarL_any (l : List Int) (x y : Int) : uvarL l 10 x = uvarL l 10 y := by cases l <;> simp [uvarL]
theorem two7 (i : Nat) (h : i ≤ 9) : i = 0 ∨ i = 1 ∨ i = 2 ∨ i = 3 ∨ i = 4 ∨ i = 5 ∨ i = 6 ∨ i = 7 ∨ i = 8 ∨ i = 9 := by omega
set_option maxRecDepth 100000 in
theorem or_shl (i : Nat) (x b : Int) (hi : i ≤ 9) (hx : 0 ≤ x ∧ x < 2 ^ (7 * i)) (hb : 0 ≤ b) (hb1 : b ≤ 127) (hb9 : i = 9 → b ≤ 1) : bits .or .u64 x (IntKind.u64.wrap (b * 2 ^ (7 * i))) = x + b * 2 ^ (7 * i) := by
  have hw : 0 ≤ b * 2 ^ (7 * i) ∧ b * 2 ^ (7 * i) < 18446744073709551616 ∧ x < 18446744073709551616 ∧ (b * 2 ^ (7 * i)).toNat % 2 ^ (7 * i) = 0 ∧ x.toNat < 2 ^ (7 * i) := by
    rcases two7 i hi with rfl | rfl | rfl | rfl | rfl | rfl | rfl | rfl | rfl | rfl <;> simp at hx hb9 ⊢ <;> omega
  obtain ⟨h1, h2, h3, h4, h5⟩ := hw
  rw [wrapU64 _ h1 (by omega), u64_or _ _ hx.1 h3 h1 h2, Nat.or_comm, nat_join (7 * i) _ _ h4 h5]
  omega
theorem p63 : (2 : Int) ^ (7 * 9) = 9223372036854775808 := by decide
theorem and127 (b : Int) (hb : 0 ≤ b) (hb1 : b ≤ 255) : IntKind.u64.wrap (bits .and .u8 b 127) = b % 128 := by
  rw [u8_and b 127 hb (by omega) (by omega) (by omega)]
  have : (127 : Int).toNat = 127 := rfl
  rw [this, nat_mask7, wrapU64 _ (by omega) (by omega)]
  omega
theorem next_bound (i : Nat) (x b : Int) (hi : i ≤ 8) (hx : 0 ≤ x ∧ x < 2 ^ (7 * i)) (hb : 0 ≤ b) (hb1 : b ≤ 127) : 0 ≤ x + b * 2 ^ (7 * i) ∧ x + b * 2 ^ (7 * i) < 2 ^ (7 * (i + 1)) := by
  rcases two7 i (by omega) with rfl | rfl | rfl | rfl | rfl | rfl | rfl | rfl | rfl | rfl <;> simp at hx ⊢ <;> omega
end Go.Proofs.YtpfmmbhbmdbmeaaGreatDoor

/- Numbers in as few bytes as they need: what is written is read again; the thin package's and the reference's functions. -/
namespace Go.Proofs.YtpfmmbhbmdbmeaaGreatDoor
open Go.RowKit
set_option linter.unusedVariables false
set_option linter.unusedSimpArgs false

theorem two64 (i : Nat) (h : i ≤ 8) (x : Int) (hx : x < 2 ^ (64 - 7 * i)) : x / 128 < 2 ^ (64 - 7 * (i + 1)) := by
  rcases two7 i (by omega) with rfl | rfl | rfl | rfl | rfl | rfl | rfl | rfl | rfl | rfl <;> simp at hx ⊢ <;> omega
theorem step_sum (i : Nat) (h : i ≤ 8) (a x : Int) : a + x % 128 * 2 ^ (7 * i) + x / 128 * 2 ^ (7 * (i + 1)) = a + x * 2 ^ (7 * i) := by
  rcases two7 i (by omega) with rfl | rfl | rfl | rfl | rfl | rfl | rfl | rfl | rfl | rfl <;> simp <;> omega
theorem uvar_vint (k : Nat) : ∀ (i : Nat) (x a : Int) (rest : List Int), i + k = 9 → 0 ≤ x → x < 2 ^ (64 - 7 * i) → uvarL (vint k x ++ rest) i a = (a + x * 2 ^ (7 * i), ((i + (vint k x).length : Nat) : Int)) := by
  induction k with
  | zero =>
    intro i x a rest hi h0 h1
    obtain rfl : i = 9 := by omega
    simp at h1
    rw [vint, List.cons_append, uvarL, if_neg (by omega), if_pos (by omega), if_neg (by omega)]
    rfl
  | succ k ih =>
    intro i x a rest hi h0 h1
    by_cases hx : x < 128
    · rw [vint_small _ _ hx, List.cons_append, uvarL, if_neg (by omega), if_pos hx, if_neg (by omega)]
      rfl
    · rw [vint_big _ _ (by omega), List.cons_append, uvarL, if_neg (by omega), if_neg (by omega), ih (i + 1) (x / 128) _ rest (by omega) (by omega) (two64 i (by omega) x h1)]
      have e : (x % 128 + 128) % 128 = x % 128 := by omega
      rw [e, step_sum i (by omega)]
      simp only [List.length_cons]
      congr 1
      omega
theorem uvar_cut (k : Nat) : ∀ (i m : Nat) (x a : Int), i + k = 9 → 0 ≤ x → x < 2 ^ (64 - 7 * i) → m < (vint k x).length → uvarL ((vint k x).take m) i a = (0, 0) := by
  induction k with
  | zero =>
    intro i m x a hi h0 h1 hm
    simp [vint] at hm
    subst hm
    rfl
  | succ k ih =>
    intro i m x a hi h0 h1 hm
    cases m with
    | zero => rfl
    | succ m =>
      by_cases hx : x < 128
      · rw [vint_small _ _ hx] at hm; simp at hm
      · rw [vint_big _ _ (by omega)] at hm ⊢
        rw [List.take_succ_cons, uvarL, if_neg (by omega), if_neg (by omega)]
        exact ih (i + 1) m (x / 128) _ (by omega) (by omega) (two64 i (by omega) x h1) (by simpa using hm)
theorem uvar_back (x : Int) (rest : List Int) (h0 : 0 ≤ x) (h1 : x ≤ 18446744073709551615) : uvarL (vint 9 x ++ rest) 0 0 = (x, ((vint 9 x).length : Int)) := by
  rw [uvar_vint 9 0 x 0 rest rfl h0 (by simp; omega)]
  simp
theorem uvar_short (x : Int) (m : Nat) (h0 : 0 ≤ x) (h1 : x ≤ 18446744073709551615) (hm : m < (vint 9 x).length) : uvarL ((vint 9 x).take m) 0 0 = (0, 0) :=
  uvar_cut 9 0 m x 0 rfl h0 (by simp; omega) hm
theorem vint_byt' (x : Int) (h0 : 0 ≤ x) (h1 : Hid (x ≤ 18446744073709551615)) : Byt (vint 9 x) := vint_byt 9 x h0 (by have := h1.out; simp; omega)

theorem tdiv_u64 (x : Int) (h0 : 0 ≤ x) (h1 : x ≤ 18446744073709551615) : IntKind.u64.wrap (x.tdiv 128) = x / 128 := by
  rw [Int.tdiv_eq_ediv_of_nonneg h0, wrapU64 _ (by omega) (by omega)]
theorem specVarint_any (x : Int) (w : World) (h0 : 0 ≤ x) (h1 : Hid (x ≤ 18446744073709551615)) :
    Calls Tryz.prog 22 #[.int .u64 x] w (Made w 5 (nums .u8 (vint 9 x))) := by
  have H1 : Hid (x < 128 ^ 10) := by show _ < _; have := h1.out; omega
  go_enter Tryz.func22, Tryz.ntmps22
  go_wp2
  go_loopg [0, 3] 9 (fun kq v0 v3 w' => ∃ (x' : Int) (l' : List Int), v0 = .int .u64 x' ∧ Hid (x' ≤ 18446744073709551615) ∧ Hid (0 ≤ x' ∧ x' < 128 ^ (kq + 1)) ∧ Hid (vint 9 x = l' ++ vint kq x') ∧ Hid (l'.length + kq = 9) ∧ Hid (w'.ownsRow w.heap.size 5 1 v3 l'.length (nums .u8 l')) ∧ Hid (Below w.heap.size w w'))
  case atStart => exact ⟨x, [], rfl, h1, ⟨h0, H1.out⟩, rfl, rfl, World.ownsRow_made w #[] 0 (Nat.le_refl _) (by simp [maxLen]) rfl, (Below.refl _ _).alloc (Nat.le_refl _) _⟩
  case round =>
    obtain ⟨x', l', rfl, hm, hx, he, hlen, ho, hb⟩ := hrel
    by_cases hlt : x' < 128
    · have hx0 := hx.out.1
      go_wp2_with (at_builtin; refine wpList_append_sl _ rfl (.tmp 16) (.tmp 19) 27 rfl w.heap.size 5 (.int .u8 0) 1 Tryz.underlying27 infoU8 rfl u3 l'.length (nums .u8 l') rfl ?c1 _ 1 1 [_] rfl (sl_one _ _ _) ?c4 ?c2 (by omega) ?c3 ?_; (case c1 => exact ho.out.alloc _); (case c4 => simp [Value.oneCell']); (case c2 => have := hlen.out; omega); (case c3 => have := hb.out.size; simp; omega); intro v1 w1 hown1 hg1 hat1)
      go_ret
      refine ⟨v1, rfl, ?_, below_app hb.out ho.out _ hg1⟩
      rw [he.out, vint_small _ _ hlt, nums_length, nums_snoc, List.length_append]
      exact hown1
    · have hx1 := hx.out.2
      go_wp2_with (at_builtin; refine wpList_append_sl _ rfl (.tmp 7) (.tmp 12) 27 rfl w.heap.size 5 (.int .u8 0) 1 Tryz.underlying27 infoU8 rfl u3 l'.length (nums .u8 l') rfl ?d1 _ 1 1 [_] rfl (sl_one _ _ _) ?d4 ?d2 (by omega) ?d3 ?_; (case d1 => exact ho.out.alloc _); (case d4 => simp [Value.oneCell']); (case d2 => have := hlen.out; omega); (case d3 => have := hb.out.size; simp; omega); intro v1 w1 hown1 hg1 hat1)
      cases gk with
      | zero => exact absurd hx1 (by simp only [Nat.zero_add, Int.pow_one]; omega)
      | succ k1 =>
        rw [tdiv_u64 x' hx.out.1 hm.out]
        go_roundg k1
        case measure => omega
        case rel => exact ⟨x' / 128, l' ++ [x' % 128 + 128], rfl, by have := hm.out; have := hx.out.1; show _ ≤ _; omega, ⟨by have := hx.out.1; omega, by rw [Int.pow_succ] at hx1; omega⟩, by rw [Hid, he.out, vint_big _ _ (by omega)]; simp, by have := hlen.out; simp [Hid]; omega, by rw [Hid, nums_snoc, List.length_append]; exact hown1, below_app hb.out ho.out _ hg1⟩

end Go.Proofs.YtpfmmbhbmdbmeaaGreatDoor

/- How a law's arguments come in: each as a value that reads as plain data. -/
namespace Go.Proofs.YtpfmmbhbmdbmeaaGreatDoor
open Go.ChangeShapes Go.WideShapes Go.ChangeAt Go.RowKit
set_option linter.unusedVariables false

theorem lt_of_trod {H : Type} {enc : TypeId × Value → H} {P : Program} {W : World} {t : Nat} {v : Value} {d : DataW H} {p : List MemPlace} (h : DataW.Trod enc P W 0 (fun _ => true) true t v d p) : ∀ x ∈ p, x.block < W.heap.size := by
  obtain ⟨m, hm⟩ := h
  exact DataW.trod_lt m _ _ _ hm
theorem and2 {a b : Bool} (h : a = true) (k : b = true) : (a && b) = true := by rw [h, k]; rfl
theorem ownKnob' : ownKnob Tryz.prog.godebug = none := by kernel_rfl
theorem laidOut' : laidOutB Tryz.prog = true := by kernel_rfl
def headCodes : List Nat := [104, 97, 114, 110, 101, 115, 115]
def cutCodes : List Nat := [99, 117, 116]
def sumCodes : List Nat := [100, 100, 55, 99, 55, 101, 50, 57, 51, 98, 56, 98, 48, 54, 53, 51, 50, 99, 54, 97, 56, 97, 102, 55, 56, 54, 97, 99, 50, 101, 98, 52, 57, 50, 51, 99, 57, 51, 54, 101, 55, 48, 57, 100, 49, 52, 97, 97, 99, 48, 57, 54, 49, 56, 97, 56, 55, 102, 98, 98, 55, 54, 48, 57]
def restCodes : List Nat := [97, 116, 32, 108, 111, 111, 112, 46, 101, 120, 97, 109, 112, 108, 101, 47, 112, 117, 98, 45, 103, 48, 49, 53, 48, 49, 47, 108, 97, 119, 115, 46, 70, 110, 76, 111, 103, 66, 114, 111, 107, 101, 110, 32, 108, 111, 111, 112, 46, 101, 120, 97, 109, 112, 108, 101, 47, 112, 117, 98, 45, 103, 48, 49, 53, 48, 49, 47, 108, 97, 119, 115, 46, 70, 110, 76, 111, 103, 67, 117, 116, 32, 108, 111, 111, 112, 46, 101, 120, 97, 109, 112, 108, 101, 47, 112, 117, 98, 45, 103, 48, 49, 53, 48, 49, 47, 108, 97, 119, 115, 46, 70, 110, 76, 111, 103, 82, 101, 112, 108, 97, 121]
theorem order_eq : Tryz.prog.initOrder = String.ofList ((headCodes ++ 32 :: (sumCodes ++ 32 :: (cutCodes ++ 32 :: restCodes))).map Char.ofNat) := by kernel_rfl
theorem words_cons (c : Char) (w : List Char) (ws : List (List Char)) (r : List Char) (h : c ≠ Char.ofNat 32) (hr : wordsSigns r = w :: ws) : wordsSigns (c :: r) = (c :: w) :: ws := by
  rw [wordsSigns.eq_3 c r (fun e => h e), hr]
theorem words_step (a r : List Char) (h : a.all (fun c => c != Char.ofNat 32) = true) : wordsSigns (a ++ Char.ofNat 32 :: r) = a :: wordsSigns r := by
  induction a with
  | nil => rfl
  | cons c a ih =>
    simp only [List.all_cons, Bool.and_eq_true, bne_iff_ne] at h
    exact words_cons c a _ _ h.1 (ih h.2)
theorem order_words : ∃ ws, wordsSigns Tryz.prog.initOrder.toList = "harness".toList :: sumCodes.map Char.ofNat :: "cut".toList :: ws := by
  refine ⟨wordsSigns (restCodes.map Char.ofNat), ?_⟩
  rw [order_eq, String.toList_ofList, List.map_append, List.map_cons, List.map_append, List.map_cons, List.map_append, List.map_cons,
    words_step _ _ (by decide +kernel), words_step _ _ (by decide +kernel), words_step _ _ (by decide +kernel)]
  have e1 : headCodes.map Char.ofNat = "harness".toList := by kernel_rfl
  have e2 : cutCodes.map Char.ofNat = "cut".toList := by kernel_rfl
  rw [e1, e2]
theorem behind {S : List Char} (hS : isSumSigns S = true) (r : List (List Char)) : behindMainWord ("harness".toList :: S :: r) = r := by
  show (if (("harness".toList == "harness".toList || "harness".toList == "ownmain".toList) && isSumSigns S) = true then r else _) = r
  rw [hS, if_pos]
  simp
theorem cutNe1 : ("cut".toList == "gc".toList) = false := by decide +kernel
theorem cutNe2 : ("cut".toList == "spec".toList) = false := by decide +kernel
theorem cutNe3 : ("cut".toList == "carried".toList) = false := by decide +kernel
theorem make_of {P : Program} {S : List Char} {ws : List (List Char)} (hS : isSumSigns S = true) (h : wordsSigns P.initOrder.toList = "harness".toList :: S :: "cut".toList :: ws) : P.make = some .cut := by
  unfold Program.make
  rw [h, behind hS]
  simp only [cutNe1, cutNe2, beq_self_eq_true]
  rfl
theorem strip (ws : List (List Char)) : stripLifts liftWords ("cut".toList :: ws) = ([], "cut".toList :: ws) := by kernel_rfl
theorem mayEnter_of {P : Program} {S : List Char} {ws : List (List Char)} (hS : isSumSigns S = true) (h : wordsSigns P.initOrder.toList = "harness".toList :: S :: "cut".toList :: ws)
    (h1 : P.laysLater = false) (h2 : P.bearsReflect = false) (h3 : P.doorFits [] = true) : P.mayEnter = true := by
  unfold Program.mayEnter
  rw [h, behind hS]
  simp only [cutNe1, cutNe2, cutNe3, strip, h1, h2, h3]
  simp
theorem lifts_of {P : Program} {S : List Char} {ws : List (List Char)} (hS : isSumSigns S = true) (h : wordsSigns P.initOrder.toList = "harness".toList :: S :: "cut".toList :: ws) : P.liftsFinal = false := by
  unfold Program.liftsFinal Program.headLifts
  rw [h, behind hS]
  simp only [strip]
  have : (("cut".toList :: ws).head? == some "carried".toList) = false := by
    show (some "cut".toList == some "carried".toList) = false
    decide +kernel
  rw [this]
  simp
theorem sumSigns : isSumSigns (sumCodes.map Char.ofNat) = true := by kernel_rfl
theorem laysLater' : Tryz.prog.laysLater = false := by kernel_rfl
theorem bears' : Tryz.prog.bearsReflect = false := by kernel_rfl
theorem door' : Tryz.prog.doorFits [] = true := by kernel_rfl
theorem make' : Tryz.prog.make = some .cut := by obtain ⟨ws, h⟩ := order_words; exact make_of sumSigns h
theorem mayEnter' : Tryz.prog.mayEnter = true := by obtain ⟨ws, h⟩ := order_words; exact mayEnter_of sumSigns h laysLater' bears' door'
theorem lifts' : Tryz.prog.liftsFinal = false := by obtain ⟨ws, h⟩ := order_words; exact lifts_of sumSigns h
end Go.Proofs.YtpfmmbhbmdbmeaaGreatDoor

/- How struct arguments come in. -/
namespace Go.Proofs.YtpfmmbhbmdbmeaaGreatDoor
open Go.ChangeShapes Go.WideShapes Go.ChangeAt Go.RowKit
set_option linter.unusedVariables false
section
variable {H : Type} {enc : TypeId × Value → H} {P : Program} {w : World} {base : Nat} {spare : Nat → Bool} {held : Bool}
theorem fields_of {t : TypeId} {fs : Array Field} {fuel : Nat} {cs : List Value} {x : DataW H × List MemPlace} (ht : P.underlying t = some (.struct fs)) (h : DataW.trod enc P w base spare held fuel t cs = some x) :
    cs.length = P.cellsOf t ∧ ∃ n, ∀ (i : Nat) (f : Field), fs[i]? = some f → ∃ y, DataW.trod enc P w base spare held n f.type ((cs.drop f.offset).take (P.cellsOf f.type)) = some y := by
  obtain ⟨xs, n, _, _, hl, hlen, hf⟩ := DataW.trod_struct ht h
  refine ⟨hl, n, fun i f hi => ?_⟩
  have hlt : i < xs.length := by
    rw [hlen]
    exact (Array.getElem?_eq_some_iff.1 hi).1
  exact ⟨xs[i], by rw [hf i f hi, List.getElem?_eq_getElem hlt]⟩
theorem int_cell {t : TypeId} {k : IntKind} {fuel : Nat} {cs : List Value} {y : DataW H × List MemPlace} (ht : P.underlying t = some (.int k)) (h : DataW.trod enc P w base spare held fuel t cs = some y) : ∃ n, cs = [.int k n] ∧ (Lit.int k n).wf = true := by
  obtain ⟨n, e, _, hw⟩ := DataW.trod_int ht h
  exact ⟨n, e, hw⟩
theorem bool_cell {t : TypeId} {fuel : Nat} {cs : List Value} {y : DataW H × List MemPlace} (ht : P.underlying t = some .bool) (h : DataW.trod enc P w base spare held fuel t cs = some y) : ∃ b, cs = [.bool b] := by
  obtain ⟨n, e, _⟩ := DataW.trod_bool ht h
  exact ⟨n, e⟩
end

section
variable {H : Type} {enc : TypeId × Value → H} {W : World} {base : Nat} {v : Value} {d : DataW H} {p : List MemPlace} {fuel : Nat} {cs : List Value} {y : DataW H × List MemPlace}
/-- A spot: log, length, offset. -/
structure SpotD where
  (a b c : Int)
def SpotD.ok (s : SpotD) : Prop := (Lit.int .u32 s.a).wf = true ∧ (Lit.int .u32 s.b).wf = true ∧ (Lit.int .u32 s.c).wf = true
/-- The head of a record: key, data, time, both marks. -/
structure HeadD where
  (k d e m u : Int)
def HeadD.ok (s : HeadD) : Prop := (Lit.int .u32 s.k).wf = true ∧ (Lit.int .u32 s.d).wf = true ∧ (Lit.int .u64 s.e).wf = true ∧ (Lit.int .u8 s.m).wf = true ∧ (Lit.int .u8 s.u).wf = true
/-- A value: both marks, time, data. -/
structure ValD where
  (m u e : Int) (A : Option Addr) (n c : Nat) (l : List Int)
def ValD.ok (W : World) (s : ValD) : Prop := (Lit.int .u8 s.m).wf = true ∧ (Lit.int .u8 s.u).wf = true ∧ (Lit.int .u64 s.e).wf = true ∧ s.n ≤ s.c ∧ Sl W s.A s.n (nums .u8 s.l) ∧ ∀ x ∈ s.l, (Lit.int .u8 x).wf = true
end
end Go.Proofs.YtpfmmbhbmdbmeaaGreatDoor

/- Where records lie: contracts. -/
namespace Go.Proofs.YtpfmmbhbmdbmeaaGreatDoor
open Go.RowKit
set_option linter.unusedVariables false
set_option linter.unusedSimpArgs false
theorem blk_new (w : World) (o : Obj) : (w.alloc o).heap[w.heap.size]? = some o := heap_alloc_new w o
theorem blk_below {w w1 : World} {g : Nat} {o : Obj} (h : w.heap[g]? = some o) (hb : Below w.heap.size w w1) : w1.heap[g]? = some o := (hb.block g (Array.getElem?_eq_some_iff.1 h).1).trans h
theorem cell_keep {w w1 : World} {p : Addr} {v : Value} (hb : Hid (Below w.heap.size w w1)) (h : w.cell? p = some v) : w1.cell? p = some v := by
  rw [hb.out.cell (World.block_lt_of_cell? w _ h)]; exact h
theorem bl_keep {w w' w1 : World} (hb : Hid (Below w'.heap.size w' w1)) (h : Hid (Below w.heap.size w w')) : Hid (Below w.heap.size w w1) := bl_trans h.out hb.out
theorem cell_drew {w : World} {p : Addr} {v : Value} (h : w.cell? p = some v) : w.drew.cell? p = some v := h
theorem bl_keepD {w w1 : World} (h : Hid (Below w.heap.size w w1)) : Hid (Below w.heap.size w w1.drew) := bl_drew h.out
theorem cell_alloc {w : World} {p : Addr} {v : Value} (o : Obj) (h : w.cell? p = some v) : (w.alloc o).cell? p = some v := by
  rw [World.cell?_alloc_lt w o p (World.block_lt_of_cell? w _ h)]; exact h
theorem bl_keepA {w w1 : World} (o : Obj) (h : Hid (Below w.heap.size w w1)) : Hid (Below w.heap.size w (w1.alloc o)) := bl_alloc h.out o
/-- The cells of a block, one by one. -/
theorem cell_blk {w : World} {g t : Nat} {cs : Array Value} {fr : Nat × Nat} (h : w.heap[g]? = some (.cells cs t fr)) (i : Nat) (v : Value) (hv : cs[i]? = some v) : w.cell? ⟨g, i, none⟩ = some v := by
  simp [World.cell?, h, hv]
end Go.Proofs.YtpfmmbhbmdbmeaaGreatDoor

/- Heads of records: contracts. -/
namespace Go.Proofs.YtpfmmbhbmdbmeaaGreatDoor
open Go.RowKit
set_option linter.unusedVariables false
set_option linter.unusedSimpArgs false
/-- A head's bytes. -/
def headB (k d e m u : Int) : List Int := [m, u] ++ (vint 9 k ++ (vint 9 d ++ vint 9 e))
theorem vint_len5 (x : Int) (h : x ≤ 4294967295) : ∀ k : Nat, (vint (k + 4) x).length ≤ 5 := by
  intro k
  unfold vint
  split
  · simp
  unfold vint
  split
  · simp
  unfold vint
  split
  · simp
  unfold vint
  split
  · simp
  rw [vint_small _ _ (by omega)]
  simp
theorem wrote_drew {w w' : World} {g t : Nat} {cs : List Value} (h : Wrote w g t cs w') : Wrote w g t cs w'.drew := ⟨h.1, h.2.os, h.2.tape, h.2.output, h.2.size, h.2.block⟩
theorem wrote_from {w w' : World} {g t : Nat} {cs : List Value} (h : Wrote w.drew g t cs w') : Wrote w g t cs w' := ⟨h.1, h.2.os, h.2.tape, h.2.output, h.2.size, h.2.block⟩
/-- A piece written behind those before it. -/
theorem wrote_more {w w1 w2 : World} {g t off : Nat} {cs a b : List Value} (h : Wrote w g t (splice cs 0 a) w1) (k : Wrote w1.drew g t (splice (splice cs 0 a) off b) w2) (ho : off = a.length) (hf : a.length + b.length ≤ cs.length) : Wrote w g t (splice cs 0 (a ++ b)) w2 := by
  have := h.trans (wrote_from k)
  rwa [splice_splice _ _ _ _ _ (by omega) (by omega)] at this
theorem cell_wrote {w w' : World} {g t b i : Nat} {cs : List Value} {v : Value} (h : Wrote w g t cs w') (hne : b ≠ g) (hq : w.cell? ⟨b, i, none⟩ = some v) : w'.cell? ⟨b, i, none⟩ = some v := by
  have hl := World.block_lt_of_cell? w _ hq
  have := h.2.block b hl (fun e => hne (by injection e))
  rw [← hq]
  simp [World.cell?, this]
theorem u32_64 {x : Int} (h : x ≤ 4294967295) : Hid (x ≤ 18446744073709551615) := Int.le_trans h (by decide)
theorem grownBy_below {w w0 : World} (h : Below w.heap.size w w0) (g : Nat) : w.grownBy w0 (some g) := ⟨h.os, h.tape, h.output, h.size, fun k hk _ => h.block k hk⟩
set_option maxRecDepth 100000 in
theorem headEncode_any (g c t : Nat) (n : Nat) (k d e m u : Int) (cs : List Value) (w : World) (h : Blk w g t cs) (hn : 22 ≤ n) (hc : n ≤ c) (hfit : n ≤ cs.length)
    (hk0 : 0 ≤ k) (hk : k ≤ 4294967295) (hd0 : 0 ≤ d) (hd : d ≤ 4294967295) (he0 : 0 ≤ e) (he : Hid (e ≤ 18446744073709551615)) :
    Calls Tryz.prog 42 #[.agg #[.int .u32 k, .int .u32 d, .int .u64 e, .int .u8 m, .int .u8 u], .slice (some ⟨g, 0, none⟩) n c] w fun E w' =>
      E = .returned (.int .i64 (headB k d e m u).length) ∧ Wrote w g t (splice cs 0 (nums .u8 (headB k d e m u))) w' := by
  have H : Hid (Blk w g t cs) := h
  have hg := h.lt
  have K64 := u32_64 hk
  have D64 := u32_64 hd
  clear h
  go_enter Tryz.func42, Tryz.ntmps42
  go_wp2_with fail
  have h1 := blk_new w (.cells #[.int .u32 k, .int .u32 d, .int .u64 e, .int .u8 m, .int .u8 u] 99)
  have HB : Hid (Below w.heap.size w (w.alloc (.cells #[.int .u32 k, .int .u32 d, .int .u64 e, .int .u8 m, .int .u8 u] 99))) := bl_alloc (Below.refl _ _) _
  have hK0 : Blk (w.alloc (.cells #[.int .u32 k, .int .u32 d, .int .u64 e, .int .u8 m, .int .u8 u] 99)) g t cs := H.out.alloc _
  generalize w.alloc (.cells #[.int .u32 k, .int .u32 d, .int .u64 e, .int .u8 m, .int .u8 u] 99) = w0 at *
  have q0 := cell_blk h1 0 (.int .u32 k) rfl
  have q1 := cell_blk h1 1 (.int .u32 d) rfl
  have q2 := cell_blk h1 2 (.int .u64 e) rfl
  have q3 := cell_blk h1 3 (.int .u8 m) rfl
  have q4 := cell_blk h1 4 (.int .u8 u) rfl
  have hc0 : w0.cell? ⟨g, 0, none⟩ = some cs[0] := by rw [hK0.cell, List.getElem?_eq_getElem]
  have hc1 : w0.cell? ⟨g, 1, none⟩ = some cs[1] := by rw [hK0.cell, List.getElem?_eq_getElem]
  have hf0 := hK0.frozen 0
  have hf1 := hK0.frozen 1
  have hne : w.heap.size ≠ g := by omega
  have hne2 : g ≠ w.heap.size := by omega
  have HK0 := Lib.hid hK0
  clear h1 hK0
  go_region
  have hW1 : Wrote w0 g t (splice cs 0 [.int .u8 m, .int .u8 u]) ((w0.setCell ⟨g, 0, none⟩ (.int .u8 m)).setCell ⟨g, 1, none⟩ (.int .u8 u)).drew := by
    have hs := splice_two cs 0 (.int .u8 m) (.int .u8 u) (by omega)
    have := (Wrote.sets HK0.out 0 (.int .u8 m)).trans (Wrote.sets (HK0.out.set_ 0 (.int .u8 m)) 1 (.int .u8 u))
    rw [hs] at this
    exact wrote_drew this
  have HW1 := Lib.hid hW1
  generalize ((w0.setCell ⟨g, 0, none⟩ (.int .u8 m)).setCell ⟨g, 1, none⟩ (.int .u8 u)).drew = w1 at *
  have p0 := cell_wrote hW1 hne q0
  have p1 := cell_wrote hW1 hne q1
  have p2 := cell_wrote hW1 hne q2
  clear hW1 q0 q1 q2 q3 q4 hc0 hc1 hf0 hf1
  obtain ⟨lk1, lk5⟩ : 1 ≤ (vint 9 k).length ∧ (vint 9 k).length ≤ 5 := ⟨(vint_len 9 k).1, vint_len5 k hk 5⟩
  obtain ⟨ld1, ld5⟩ : 1 ≤ (vint 9 d).length ∧ (vint 9 d).length ≤ 5 := ⟨(vint_len 9 d).1, vint_len5 d hd 5⟩
  obtain ⟨le1, le5⟩ : 1 ≤ (vint 9 e).length ∧ (vint 9 e).length ≤ 10 := vint_len 9 e
  obtain ⟨i1, hi1⟩ : ∃ i1, i1 = 2 + (vint 9 k).length := ⟨_, rfl⟩
  obtain ⟨i2, hi2⟩ : ∃ i2, i2 = i1 + (vint 9 d).length := ⟨_, rfl⟩
  obtain ⟨i3, hi3⟩ : ∃ i3, i3 = i2 + (vint 9 e).length := ⟨_, rfl⟩
  have s1 : IntKind.i64.wrap (2 + ((vint 9 k).length : Int)) = (i1 : Int) := by rw [IntWalk.i64_in _ (by omega)]; omega
  have s2 : IntKind.i64.wrap ((i1 : Int) + ((vint 9 d).length : Int)) = (i2 : Int) := by rw [IntWalk.i64_in _ (by omega)]; omega
  have s3 : IntKind.i64.wrap ((i2 : Int) + ((vint 9 e).length : Int)) = (i3 : Int) := by rw [IntWalk.i64_in _ (by omega)]; omega
  have b1 : i1 ≤ 7 := by omega
  have b2 : i2 ≤ 12 := by omega
  have b3 : i3 ≤ 22 := by omega
  have c1 : ¬ c = 2 := by omega
  have c2 : ¬ c = i1 := by omega
  have c3 : ¬ c = i2 := by omega
  have c4 : i1 ≤ n := by omega
  have c5 : i2 ≤ n := by omega
  have c6 : (2 : Int) ≤ (n : Int) := by omega
  have z1 : (vint 9 k).length ≤ n - 2 := by omega
  have z2 : (vint 9 d).length ≤ n - i1 := by omega
  have z3 : (vint 9 e).length ≤ n - i2 := by omega
  have f1 : 2 + (n - 2) ≤ (splice cs 0 [Value.int .u8 m, Value.int .u8 u]).length := by rw [splice_len _ _ _ (by simp; omega)]; omega
  have HI := Lib.hid (And.intro hi1 (And.intro hi2 hi3))
  have LK := Lib.hid (And.intro lk1 (And.intro ld1 le1))
  clear hi1 hi2 hi3 lk1 ld1 le1
  go_wp2_with fail
  go_region_with (go_at_call 54; rw [wrapU64 k hk0 K64.out]; refine (pubPut_any g 2 (n - 2) (c - 2) t k _ _ (wrote_drew HW1.out).1 z1 f1 hk0 K64).mono ?_; rintro e w2 ⟨rfl, hw2⟩; have HW2 := Lib.hid hw2; clear hw2)
  have HV2 : Hid (Wrote w0 g t (splice cs 0 ([.int .u8 m, .int .u8 u] ++ nums .u8 (vint 9 k))) w2) := wrote_more HW1.out HW2.out rfl (by rw [nums_length]; simp; omega)
  have r1 := cell_wrote (wrote_from HW2.out) hne p1
  have r2 := cell_wrote (wrote_from HW2.out) hne p2
  have f2 : i1 + (n - i1) ≤ (splice cs 0 ([Value.int .u8 m, .int .u8 u] ++ nums .u8 (vint 9 k))).length := by rw [splice_len _ _ _ (by rw [List.length_append, nums_length]; simp; omega)]; omega
  clear p0 p1 p2 HW2
  go_wp2_with fail
  go_region_with (go_at_call 54; rw [wrapU64 d hd0 D64.out]; refine (pubPut_any g i1 (n - i1) (c - i1) t d _ _ (wrote_drew HV2.out).1 z2 f2 hd0 D64).mono ?_; rintro e w3 ⟨rfl, hw3⟩; have HW3 := Lib.hid hw3; clear hw3)
  have HV3 : Hid (Wrote w0 g t (splice cs 0 (([.int .u8 m, .int .u8 u] ++ nums .u8 (vint 9 k)) ++ nums .u8 (vint 9 d))) w3) := wrote_more HV2.out HW3.out (by rw [List.length_append, nums_length]; simp; have := HI.out; omega) (by rw [List.length_append, nums_length, nums_length]; simp; omega)
  have t2 := cell_wrote (wrote_from HW3.out) hne r2
  have f3 : i2 + (n - i2) ≤ (splice cs 0 (([Value.int .u8 m, .int .u8 u] ++ nums .u8 (vint 9 k)) ++ nums .u8 (vint 9 d))).length := by rw [splice_len _ _ _ (by rw [List.length_append, List.length_append, nums_length, nums_length]; simp; omega)]; omega
  clear r1 r2 HW3
  go_wp2_with fail
  go_region_with (go_at_call 54; refine (pubPut_any g i2 (n - i2) (c - i2) t e _ _ (wrote_drew HV3.out).1 z3 f3 he0 he).mono ?_; rintro e w4 ⟨rfl, hw4⟩; have HW4 := Lib.hid hw4; clear hw4)
  have HV4 : Hid (Wrote w0 g t (splice cs 0 ((([.int .u8 m, .int .u8 u] ++ nums .u8 (vint 9 k)) ++ nums .u8 (vint 9 d)) ++ nums .u8 (vint 9 e))) w4) := wrote_more HV3.out HW4.out (by simp only [List.length_append, nums_length]; simp; have := HI.out; omega) (by simp only [List.length_append, nums_length]; simp; omega)
  clear t2 HW4
  go_wp2
  go_ret
  refine ⟨?_, ?_⟩
  · have := HI.out
    have e1 : (headB k d e m u).length = i3 := by simp [headB]; omega
    rw [e1]
    rfl
  · have e2 : nums .u8 (headB k d e m u) = (([.int .u8 m, .int .u8 u] ++ nums .u8 (vint 9 k)) ++ nums .u8 (vint 9 d)) ++ nums .u8 (vint 9 e) := by simp [headB, nums]
    rw [e2]
    exact ⟨HV4.out.1, grownBy_then (grownBy_below HB.out g) HV4.out.2 (.inl rfl)⟩
/-- A call that hands back bytes that it has made. -/
def Gave (w : World) (l : List Int) (e : Ending) (w' : World) : Prop := ∃ A c, e = .returned (.slice A l.length c) ∧ l.length ≤ c ∧ Hid (Sl w' A l.length (nums .u8 l)) ∧ Hid (Below w.heap.size w w')
theorem headB_len (k d e m u : Int) (hk : k ≤ 4294967295) (hd : d ≤ 4294967295) : 5 ≤ (headB k d e m u).length ∧ (headB k d e m u).length ≤ 22 := by
  have h1 := vint_len 9 k
  have h2 := vint_len 9 d
  have h3 := vint_len 9 e
  have h4 : (vint 9 k).length ≤ 5 := vint_len5 k hk 5
  have h5 : (vint 9 d).length ≤ 5 := vint_len5 d hd 5
  simp only [headB, List.length_append, List.length_cons, List.length_nil]
  omega
end Go.Proofs.YtpfmmbhbmdbmeaaGreatDoor

/- Heads of records: more contracts. -/
namespace Go.Proofs.YtpfmmbhbmdbmeaaGreatDoor
open Go.RowKit
set_option linter.unusedVariables false
set_option linter.unusedSimpArgs false
end Go.Proofs.YtpfmmbhbmdbmeaaGreatDoor

/- The head of a record by the specification. -/
namespace Go.Proofs.YtpfmmbhbmdbmeaaGreatDoor
open Go.RowKit
set_option linter.unusedVariables false
set_option linter.unusedSimpArgs false
theorem Sl.up {w w' : World} {A : Option Addr} {n : Nat} {xs : List Value} (h : Hid (Sl w A n xs)) (hb : Below w.heap.size w w') : Sl w' A n xs := h.out.below hb
theorem bl_keepN {w w1 : World} (n : Nat) (h : Hid (Below w.heap.size w w1)) : Hid (Below w.heap.size w (w1.drewN n)) := bl_drewN h.out n
theorem sv_two (w : World) (g t : Nat) (a b : Int) (hg : g = w.heap.size) : Sl (w.alloc (.cells #[.int .u8 a, .int .u8 b] t)) (some ⟨g, 0, none⟩) 2 (nums .u8 [a, b]) := by
  subst hg
  have := (Blk.new w t [.int .u8 a, .int .u8 b]).sl (off := 0) (n := 2) (by simp)
  simpa [nums] using this
theorem sls_four (w : World) (g t : Nat) (v1 v2 v3 v4 : Value) (l1 l2 l3 l4 : List Int) (hg : g = w.heap.size) (h1 : SV w v1 l1) (h2 : SV w v2 l2) (h3 : SV w v3 l3) (h4 : SV w v4 l4) :
    Sls (w.alloc (.cells #[v1, v2, v3, v4] t)) (some ⟨g, 0, none⟩) 4 [l1, l2, l3, l4] := by
  subst hg
  exact sls_new w t [v1, v2, v3, v4] [l1, l2, l3, l4] rfl (fun j m hj => by
    match j, hj with
    | 0, hj => exact ⟨v1, rfl, by simp at hj; subst hj; exact h1⟩
    | 1, hj => exact ⟨v2, rfl, by simp at hj; subst hj; exact h2⟩
    | 2, hj => exact ⟨v3, rfl, by simp at hj; subst hj; exact h3⟩
    | 3, hj => exact ⟨v4, rfl, by simp at hj; subst hj; exact h4⟩
    | j + 4, hj => simp at hj)
set_option maxHeartbeats 2000000 in
theorem specHead_any (k d e m u : Int) (w : World)
    (hk0 : 0 ≤ k) (hk : k ≤ 4294967295) (hd0 : 0 ≤ d) (hd : d ≤ 4294967295) (he0 : 0 ≤ e) (he : Hid (e ≤ 18446744073709551615)) :
    Calls Tryz.prog 10 #[.agg #[.int .u32 k, .int .u32 d, .int .u64 e, .int .u8 m, .int .u8 u]] w (Made w 5 (nums .u8 (headB k d e m u))) := by
  have hL := headB_len k d e m u hk hd
  obtain ⟨hL1, hL2⟩ := hL
  have HF : Hid ([[m, u], vint 9 k, vint 9 d, vint 9 e].flatten = headB k d e m u) := by show _ = _; simp [headB]
  have K64 := u32_64 hk
  have D64 := u32_64 hd
  have wk : IntKind.u64.wrap k = k := wrapU64 k hk0 K64.out
  have wd : IntKind.u64.wrap d = d := wrapU64 d hd0 D64.out
  go_enter Tryz.func10, Tryz.ntmps10
  go_wp2_with fail
  have h1 := blk_new w (.cells #[.int .u32 k, .int .u32 d, .int .u64 e, .int .u8 m, .int .u8 u] 34)
  have HB : Hid (Below w.heap.size w (w.alloc (.cells #[.int .u32 k, .int .u32 d, .int .u64 e, .int .u8 m, .int .u8 u] 34))) := bl_alloc (Below.refl _ _) _
  generalize w.alloc (.cells #[.int .u32 k, .int .u32 d, .int .u64 e, .int .u8 m, .int .u8 u] 34) = w0 at *
  have q0 := cell_blk h1 0 (.int .u32 k) rfl
  have q1 := cell_blk h1 1 (.int .u32 d) rfl
  have q2 := cell_blk h1 2 (.int .u64 e) rfl
  have q3 := cell_blk h1 3 (.int .u8 m) rfl
  have q4 := cell_blk h1 4 (.int .u8 u) rfl
  clear h1
  go_region_held3 (fun w' => w'.cell? ⟨w.heap.size, 0, none⟩ = some (.int .u32 k) ∧ w'.cell? ⟨w.heap.size, 1, none⟩ = some (.int .u32 d) ∧ w'.cell? ⟨w.heap.size, 2, none⟩ = some (.int .u64 e) ∧ w'.cell? ⟨w.heap.size, 3, none⟩ = some (.int .u8 m) ∧ w'.cell? ⟨w.heap.size, 4, none⟩ = some (.int .u8 u) ∧ Hid (Below w.heap.size w w')) (first | ((try go_split_ands); (repeat' with_reducible apply And.intro); all_goals first | exact cell_keep (by assumption) (by assumption) | exact bl_keep (by assumption) (by assumption) | exact cell_drew (by assumption) | exact bl_keepD (by assumption) | exact cell_alloc _ (by assumption) | exact bl_keepA _ (by assumption) | exact bl_keepN _ (by assumption))) (first | (go_at_call 22; refine (specVarint_any _ _ (by first | exact hk0 | exact hd0 | exact he0) (by first | exact K64 | exact D64 | exact he)).mono ?_; intro E w1 h1; obtain ⟨A1, c1, rfl, hc1, hs1, hb1, ho1⟩ := h1.sv; clear h1 ho1) | (go_at_call 21; refine Calls.mono (join_any _ 4 4 [[m, u], vint 9 k, vint 9 d, vint 9 e] _ (sls_four _ _ _ _ _ _ _ _ _ _ _ (by simp) (SV.mk' (Sl.up (Lib.hid (sv_two _ _ 5 m u rfl)) (by (repeat first | with_reducible exact Below.refl _ _ | with_reducible apply bl_drewN | with_reducible apply bl_drew | with_reducible apply bl_alloc | (with_reducible refine bl_trans ?_ (Hid.out (by assumption)))))) (by omega)) (SV.mk' (Sl.up (by assumption) (by (repeat first | with_reducible exact Below.refl _ _ | with_reducible apply bl_drewN | with_reducible apply bl_drew | with_reducible apply bl_alloc | (with_reducible refine bl_trans ?_ (Hid.out (by assumption)))))) (by first | assumption | omega)) (SV.mk' (Sl.up (by assumption) (by (repeat first | with_reducible exact Below.refl _ _ | with_reducible apply bl_drewN | with_reducible apply bl_drew | with_reducible apply bl_alloc | (with_reducible refine bl_trans ?_ (Hid.out (by assumption)))))) (by first | assumption | omega)) (SV.mk' (Sl.up (by assumption) (by (repeat first | with_reducible exact Below.refl _ _ | with_reducible apply bl_drewN | with_reducible apply bl_drew | with_reducible apply bl_alloc | (with_reducible refine bl_trans ?_ (Hid.out (by assumption)))))) (by first | assumption | omega))) (by omega) (by show _ ≤ _; rw [HF.out]; omega)) ?_; intro E w2 h2; rw [HF.out] at h2; obtain ⟨A2, c2, rfl, hc2, hs2, hb2, ho2⟩ := h2.sv; clear h2))
  all_goals go_split_ands
  all_goals (go_wp2; go_ret; exact Made.mk' (by (repeat first | with_reducible exact Below.refl _ _ | with_reducible apply bl_drewN | with_reducible apply bl_drew | with_reducible apply bl_alloc | (with_reducible refine bl_trans ?_ (Hid.out (by assumption))))) hb2.out ho2.out)
end Go.Proofs.YtpfmmbhbmdbmeaaGreatDoor
