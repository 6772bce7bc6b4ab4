/- Numbers, the lowest byte first. -/
import Derived.Test.YtadhdimleabljaaGB
import Derived.Test.YtadhdimleabljaaGM
import Derived.StillTailTactics
import Derived.IntWalk
namespace Go.Proofs.Ytadhdimleabljaa
open Go.RowKit
set_option linter.unusedVariables false
set_option linter.unusedSimpArgs false
def lowL (x : Int) : Nat → List Int
  | 0 => []
  | k + 1 => lowL x k ++ [x / 2 ^ (8 * k) % 256]
theorem lowL_len (x : Int) (k : Nat) : (lowL x k).length = k := by
  induction k with
  | zero => rfl
  | succ k ih => rw [lowL, List.length_append, ih]; rfl
def le32 (x : Int) : List Int := [x % 256, x / 256 % 256, x / 65536 % 256, x / 16777216 % 256]
theorem lowL_four (x : Int) : lowL x 4 = le32 x := by
  simp [lowL, le32]
def le32s (l : List Int) : List Int := (l.map le32).flatten
theorem le32s_snoc (l : List Int) (x : Int) : le32s (l ++ [x]) = le32s l ++ le32 x := by simp [le32s]
theorem le32s_len (l : List Int) : (le32s l).length = 4 * l.length := by
  induction l with
  | nil => rfl
  | cons x l ih =>
    have : le32s (x :: l) = le32 x ++ le32s l := by simp [le32s]
    rw [this, List.length_append, ih]
    simp [le32]
    omega
theorem infoU32 : (Try.prog.info? 22).map (fun i => (i.zero, i.size, i.bytes)) = some (some (.int .u32 0), 1, 4) := by kernel_rfl
set_option maxRecDepth 100000 in
theorem low_any (x : Int) (k : Nat) (w : World) (h0 : 0 ≤ x) (hk : k ≤ 8) :
    Calls Try.prog 38 #[.int .u64 x, .int .i64 k] w (Made w 5 (nums .u8 (lowL x k))) := by
  go_enter Try.func38, Try.ntmps38
  go_wp2
  go_loopg [5, 6, 9] k (fun q v5 v6 v9 wr => ∃ (i : Nat), v9 = .int .i64 i ∧ i ≤ k ∧ Hid (i + q = k) ∧ Hid (wr.ownsRow w.heap.size 5 1 v5 i (nums .u8 (lowL x i))) ∧ Hid (Below w.heap.size w wr))
  case atStart => exact ⟨0, rfl, by omega, by simp [Hid], World.ownsRow_made w #[] 0 (Nat.le_refl _) (by simp [maxLen]) rfl, (Below.refl _ _).alloc (Nat.le_refl _) _⟩
  case round =>
    obtain ⟨i, rfl, hi, hq, ho, hb⟩ := hrel
    by_cases h1 : i < k
    · go_wp2_with (at_builtin; refine wpList_append_sl _ rfl (.tmp 12) (.tmp 18) 26 rfl w.heap.size 5 (.int .u8 0) 1 Try.underlying26 infoU8 rfl u5 i (nums .u8 (lowL x i)) rfl ?c1 _ 1 1 [_] rfl (sl_one _ _ _) ?c4 ?c2 (by omega) ?c3 ?_; (case c1 => exact ho.out.alloc _); (case c4 => simp [Value.oneCell']); (case c2 => omega); (case c3 => have := hb.out.size; simp; omega); intro v1 w1 hown1 hg1 hat1)
      cases gk with
      | zero => exact absurd hq.out (by omega)
      | succ k1 =>
        go_roundg k1
        case measure => omega
        case rel =>
          refine ⟨i + 1, by go_num, by omega, by have := hq.out; show _ = _; omega, ?_, ?_⟩
          · show World.ownsRow _ _ _ _ _ _ _
            rw [lowL, nums_snoc]; exact hown1
          · exact below_app hb.out ho.out _ hg1
    · obtain rfl : i = k := by omega
      go_wp2
      go_ret
      exact ⟨_, rfl, by rw [nums_length, lowL_len]; exact ho.out, hb.out⟩

theorem u32Bytes_any (A : Option Addr) (n c : Nat) (l : List Int) (w : World) (h : Sl w A n (nums .u32 l)) (hn : n ≤ 1000000) :
    Calls Try.prog 93 #[.slice A n c] w (Made w 5 (nums .u8 (le32s l))) := by
  have H := Lib.hid h
  have hlen : l.length = n := by have := h.1; rwa [nums_length] at this
  have HL := Lib.hid hlen
  clear h hlen
  by_cases h0 : n = 0
  · subst h0
    go_enter Try.func93, Try.ntmps93
    go_wp2
    go_ret
    have : l = [] := List.eq_nil_of_length_eq_zero HL.out
    subst this
    exact ⟨_, rfl, World.ownsRow_nil w _ _ _, Below.refl _ _⟩
  have hz : ((n : Int) == 0) = false := by simp; omega
  go_enter Try.func93, Try.ntmps93
  go_wp2
  go_loopg [3, 5, 11] n (fun q v3 v5 v11 wr => ∃ (i : Nat), v11 = .int .i64 i ∧ i ≤ n ∧ Hid (i + q = n) ∧ Hid (wr.ownsRow w.heap.size 5 1 v3 (4 * i) (nums .u8 (le32s (l.take i)))) ∧ Hid (Below w.heap.size w wr))
  case atStart => exact ⟨0, rfl, by omega, by simp [Hid], World.ownsRow_nil w _ _ _, Below.refl _ _⟩
  case round =>
    obtain ⟨i, rfl, hi, hq, ho, hb⟩ := hrel
    by_cases h1 : i < n
    · obtain ⟨g, o, x, rfl, hl, hc⟩ := (H.out.below hb.out).num h1
      go_wp2_with (at_builtin; refine wpList_append_sl _ rfl (.tmp 15) (.tmp 27) 26 rfl w.heap.size 5 (.int .u8 0) 1 Try.underlying26 infoU8 rfl u3 (4 * i) (nums .u8 (le32s (l.take i))) rfl ?c1 _ 4 4 [_, _, _, _] rfl (sl_four _ _ _ _ _ _) ?c4 ?c2 (by omega) ?c3 ?_; (case c1 => exact ho.out.alloc _); (case c4 => simp [Value.oneCell']); (case c2 => omega); (case c3 => have := hb.out.size; simp; omega); intro v1 w1 hown1 hg1 hat1)
      cases gk with
      | zero => exact absurd hq.out (by omega)
      | succ k1 =>
        go_roundg k1
        case measure => omega
        case rel =>
          refine ⟨i + 1, by go_num, by omega, by have := hq.out; show _ = _; omega, ?_, ?_⟩
          · show World.ownsRow _ _ _ _ _ _ _
            obtain ⟨g1, rfl⟩ := List.getElem?_eq_some_iff.1 hl.out
            rw [List.take_succ_eq_append_getElem g1, le32s_snoc, nums_append, show 4 * (i + 1) = 4 * i + 4 by omega]
            exact hown1
          · exact below_app hb.out ho.out _ hg1
    · obtain rfl : i = n := by omega
      go_wp2
      go_ret
      have := ho.out
      rw [List.take_of_length_le (by have := HL.out; omega)] at this
      exact ⟨_, rfl, by rw [nums_length, le32s_len, HL.out]; exact this, hb.out⟩
def val4 (l : List Int) (i : Nat) : Int := l.getD i 0 + l.getD (i + 1) 0 * 256 + l.getD (i + 2) 0 * 65536 + l.getD (i + 3) 0 * 16777216
def leN (l : List Int) : Nat → List Int
  | 0 => []
  | j + 1 => leN l j ++ [val4 l (4 * j)]
theorem leN_len (l : List Int) (j : Nat) : (leN l j).length = j := by
  induction j with
  | zero => rfl
  | succ j ih => rw [leN, List.length_append, ih]; rfl
theorem or_lo8 (a b : Int) (ha : In8 a) (hb : In8 b) : bits .or .u32 a (b * 256) = a + b * 256 := by
  obtain ⟨ha0, ha1⟩ := ha
  obtain ⟨hb0, hb1⟩ := hb
  rw [u32_or _ _ ha0 (by omega) (by omega) (by omega), Nat.or_comm, nat_join 8 _ _ (by omega) (by omega)]
  omega
theorem or_lo16 (a b : Int) (ha0 : 0 ≤ a) (ha1 : a ≤ 65535) (hb : In8 b) : bits .or .u32 a (b * 65536) = a + b * 65536 := by
  obtain ⟨hb0, hb1⟩ := hb
  rw [u32_or _ _ ha0 (by omega) (by omega) (by omega), Nat.or_comm, nat_join 16 _ _ (by omega) (by omega)]
  omega
theorem or_lo24 (a b : Int) (ha0 : 0 ≤ a) (ha1 : a ≤ 16777215) (hb : In8 b) : bits .or .u32 a (b * 16777216) = a + b * 16777216 := by
  obtain ⟨hb0, hb1⟩ := hb
  rw [u32_or _ _ ha0 (by omega) (by omega) (by omega), Nat.or_comm, nat_join 24 _ _ (by omega) (by omega)]
  omega
set_option maxRecDepth 100000 in
theorem bytesU32_any (A : Option Addr) (n c : Nat) (l : List Int) (w : World) (h : Sl w A n (nums .u8 l)) (hB : Byt l) (hn : n ≤ 1000000) :
    Calls Try.prog 94 #[.slice A n c] w (Made w 22 (nums .u32 (leN l (n / 4)))) := by
  have H := Lib.hid h
  have HB := Lib.hid hB
  have hlen : l.length = n := by have := h.1; rwa [nums_length] at this
  have HL := Lib.hid hlen
  clear h hlen hB
  by_cases h0 : n = 0
  · subst h0
    go_enter Try.func94, Try.ntmps94
    go_wp2
    go_ret
    exact ⟨_, rfl, World.ownsRow_nil w _ _ _, Below.refl _ _⟩
  have hz : ((n : Int) == 0) = false := by simp; omega
  go_enter Try.func94, Try.ntmps94
  go_wp2
  go_loopg [3, 4] (n / 4) (fun q v3 v4 wr => ∃ (i j : Nat), v4 = .int .i64 i ∧ i ≤ n ∧ Hid (i = 4 * j) ∧ Hid (j + q = n / 4) ∧ Hid (wr.ownsRow w.heap.size 22 1 v3 j (nums .u32 (leN l j))) ∧ Hid (Below w.heap.size w wr))
  case atStart => exact ⟨0, 0, rfl, by omega, rfl, by simp [Hid], World.ownsRow_nil w _ _ _, Below.refl _ _⟩
  case round =>
    obtain ⟨i, j, rfl, hi, hij, hq, ho, hb⟩ := hrel
    by_cases h1 : i + 4 ≤ n
    · obtain ⟨g, o, x0, rfl, hl0, hc0⟩ := (H.out.below hb.out).num (show i < n by omega)
      obtain ⟨g', o', x1, e1, hl1, hc1⟩ := (H.out.below hb.out).num (show i + 1 < n by omega)
      injection e1 with e1; injection e1 with e1 e2; subst e1 e2
      obtain ⟨g', o', x2, e1, hl2, hc2⟩ := (H.out.below hb.out).num (show i + 2 < n by omega)
      injection e1 with e1; injection e1 with e1 e2; subst e1 e2
      obtain ⟨g', o', x3, e1, hl3, hc3⟩ := (H.out.below hb.out).num (show i + 3 < n by omega)
      injection e1 with e1; injection e1 with e1 e2; subst e1 e2
      have hx0 : In8 x0 := HB.out _ (List.mem_of_getElem? hl0.out)
      have hx1 : In8 x1 := HB.out _ (List.mem_of_getElem? hl1.out)
      have hx2 : In8 x2 := HB.out _ (List.mem_of_getElem? hl2.out)
      have hx3 : In8 x3 := HB.out _ (List.mem_of_getElem? hl3.out)
      have hgl : g < w.heap.size := by
        obtain ⟨g', o', u', e1, _, hcell⟩ := H.out.at_ (show i < n by omega)
        injection e1 with e1; injection e1 with e1 e2; subst e1 e2
        exact World.block_lt_of_cell? w _ hcell
      have bj : (j + 1) * 4 ≤ 140737488355328 := by have := hq.out; omega
      obtain ⟨p0, p1⟩ := hx0
      obtain ⟨p2, p3⟩ := hx1
      obtain ⟨p4, p5⟩ := hx2
      obtain ⟨p6, p7⟩ := hx3
      obtain ⟨y1, hy1⟩ : ∃ y, y = x1 * 256 := ⟨_, rfl⟩
      obtain ⟨y2, hy2⟩ : ∃ y, y = x2 * 65536 := ⟨_, rfl⟩
      obtain ⟨y3, hy3⟩ : ∃ y, y = x3 * 16777216 := ⟨_, rfl⟩
      obtain ⟨z1, hz1⟩ : ∃ z, z = x0 + x1 * 256 := ⟨_, rfl⟩
      obtain ⟨z2, hz2⟩ : ∃ z, z = z1 + x2 * 65536 := ⟨_, rfl⟩
      obtain ⟨z3, hz3⟩ : ∃ z, z = z2 + x3 * 16777216 := ⟨_, rfl⟩
      have d0 : IntKind.u32.wrap x0 = x0 := IntWalk.u32_in _ (by omega)
      have d1 : IntKind.u32.wrap x1 = x1 := IntWalk.u32_in _ (by omega)
      have d2 : IntKind.u32.wrap x2 = x2 := IntWalk.u32_in _ (by omega)
      have d3 : IntKind.u32.wrap x3 = x3 := IntWalk.u32_in _ (by omega)
      have e0 : x0 % 4294967296 = x0 := by omega
      have e1 : x1 % 4294967296 = x1 := by omega
      have e2 : x2 % 4294967296 = x2 := by omega
      have e3 : x3 % 4294967296 = x3 := by omega
      have k1 : IntKind.u32.wrap (x1 * 256) = y1 := by rw [IntWalk.u32_in _ (by omega), hy1]
      have k2 : IntKind.u32.wrap (x2 * 65536) = y2 := by rw [IntWalk.u32_in _ (by omega), hy2]
      have k3 : IntKind.u32.wrap (x3 * 16777216) = y3 := by rw [IntWalk.u32_in _ (by omega), hy3]
      have m1 : x1 * 256 % 4294967296 = y1 := by omega
      have m2 : x2 * 65536 % 4294967296 = y2 := by omega
      have m3 : x3 * 16777216 % 4294967296 = y3 := by omega
      have o1 : bits .or .u32 x0 y1 = z1 := by rw [hy1, or_lo8 x0 x1 ⟨p0, p1⟩ ⟨p2, p3⟩, hz1]
      have o2 : bits .or .u32 z1 y2 = z2 := by rw [hy2, or_lo16 z1 x2 (by omega) (by omega) ⟨p4, p5⟩, hz2]
      have o3 : bits .or .u32 z2 y3 = z3 := by rw [hy3, or_lo24 z2 x3 (by omega) (by omega) ⟨p6, p7⟩, hz3]
      have s1 : IntKind.i64.wrap ((i : Int) + 1) = (i : Int) + 1 := IntWalk.i64_in _ (by omega)
      have s2 : IntKind.i64.wrap ((i : Int) + 2) = (i : Int) + 2 := IntWalk.i64_in _ (by omega)
      have s3 : IntKind.i64.wrap ((i : Int) + 3) = (i : Int) + 3 := IntWalk.i64_in _ (by omega)
      have b0 : (i : Int) < (n : Int) := by omega
      have b1 : (i : Int) + 1 < (n : Int) := by omega
      have b2 : (i : Int) + 2 < (n : Int) := by omega
      have b3 : (i : Int) + 3 < (n : Int) := by omega
      have n1 : (0 : Int) ≤ (i : Int) + 1 := by omega
      have n2 : (0 : Int) ≤ (i : Int) + 2 := by omega
      have n3 : (0 : Int) ≤ (i : Int) + 3 := by omega
      have t1 : ((i : Int) + 1).toNat = i + 1 := by omega
      have t2 : ((i : Int) + 2).toNat = i + 2 := by omega
      have t3 : ((i : Int) + 3).toNat = i + 3 := by omega
      have HZ : Hid (z3 = val4 l i) := by
        show _ = _
        have a0 : l.getD i 0 = x0 := by rw [List.getD_eq_getElem?_getD, hl0.out]; rfl
        have a1 : l.getD (i + 1) 0 = x1 := by rw [List.getD_eq_getElem?_getD, hl1.out]; rfl
        have a2 : l.getD (i + 2) 0 = x2 := by rw [List.getD_eq_getElem?_getD, hl2.out]; rfl
        have a3 : l.getD (i + 3) 0 = x3 := by rw [List.getD_eq_getElem?_getD, hl3.out]; rfl
        rw [val4, a0, a1, a2, a3, hz3, hz2, hz1]
      clear hy1 hy2 hy3 hz1 hz2 hz3
      go_wp2_with fail
      go_region_held3 (fun w' => w'.cell? ⟨g, o + i, none⟩ = some (.int .u8 x0) ∧ w'.cell? ⟨g, o + (i + 1), none⟩ = some (.int .u8 x1) ∧ w'.cell? ⟨g, o + (i + 2), none⟩ = some (.int .u8 x2) ∧ w'.cell? ⟨g, o + (i + 3), none⟩ = some (.int .u8 x3)) (first | ((try go_split_ands); (repeat' with_reducible apply And.intro); all_goals first | exact cell_keep (by assumption) (by assumption) | exact bl_keep (by assumption) (by assumption) | exact cell_drew (by assumption) | exact bl_keepD (by assumption) | exact cell_alloc _ (by assumption) | exact bl_keepA _ (by assumption) | exact bl_keepN _ (by assumption)) | ((try go_split_ands); (repeat' with_reducible apply And.intro); all_goals exact cell_app hg1 (fun k hk => (ho.out.lt k hk).1) hgl (by assumption))) (first | (refine step_append_sl rfl (.tmp 15) (.tmp 45) 40 rfl w.heap.size 22 (.int .u32 0) 4 Try.underlying40 infoU32 rfl u3 j (nums .u32 (leN l j)) rfl ?c1 _ 1 1 [_] rfl (sl_one _ _ _) ?c4 ?c2 (by omega) ?c3 ?_; (case c1 => exact own_drew (ho.out.alloc _)); (case c4 => simp [Value.oneCell']); (case c2 => exact bj); (case c3 => have := hb.out.size; simp; omega); intro v1 w1 hown1 hg1 hat1))
      go_split_ands
      cases gk with
      | zero => exact absurd hq.out (by have := hij.out; omega)
      | succ k1 =>
        go_wp2
        go_roundg k1
        case measure => omega
        case rel =>
          refine ⟨i + 4, j + 1, by go_num, by omega, by have := hij.out; show _ = _; omega, by have := hq.out; show _ = _; omega, ?_, ?_⟩
          · show World.ownsRow _ _ _ _ _ _ _
            have := hown1
            rw [HZ.out, hij.out] at this
            rw [leN, nums_snoc]
            exact this
          · exact below_app hb.out ho.out _ (grown_drew hg1)
    · go_wp2
      go_ret
      have ej : j = n / 4 := by have := hij.out; have := hq.out; omega
      subst ej
      exact ⟨_, rfl, by rw [nums_length, leN_len]; exact ho.out, hb.out⟩
end Go.Proofs.Ytadhdimleabljaa
