/- Contracts: what the references do with bytes: compare, join, numbers with the highest byte first. -/
import Derived.Test.YtadhdimleabljaaC2
namespace Go.Proofs.Ytadhdimleabljaa
open Go.RowKit
set_option linter.unusedVariables false
set_option linter.unusedSimpArgs false

/-- Two lists of numbers compared: the first that differs decides. -/
def cmpL : List Int → List Int → Int
  | [], [] => 0
  | [], _ :: _ => -1
  | _ :: _, [] => 1
  | a :: l, b :: m => if a = b then cmpL l m else if a < b then -1 else 1
theorem cmpL_range (l m : List Int) : cmpL l m = -1 ∨ cmpL l m = 0 ∨ cmpL l m = 1 := by
  induction l generalizing m with
  | nil => cases m <;> simp [cmpL]
  | cons a l ih =>
    cases m with
    | nil => simp [cmpL]
    | cons b m =>
      simp only [cmpL]
      split
      · exact ih m
      · split <;> simp
theorem cmpL_eq (l m : List Int) : cmpL l m = 0 ↔ l = m := by
  induction l generalizing m with
  | nil => cases m <;> simp [cmpL]
  | cons a l ih =>
    cases m with
    | nil => simp [cmpL]
    | cons b m =>
      simp only [cmpL]
      split
      · subst_vars; simp [ih]
      · rename_i h
        split <;> simp [h]
theorem cmpL_gt (l m : List Int) (h1 : m.length = 0) (h2 : 0 < l.length) : cmpL l m = 1 := by
  cases m with
  | nil => cases l with
    | nil => simp at h2
    | cons a l => rfl
  | cons b m => simp at h1
theorem cmpL_lt (l m : List Int) (h1 : l.length = 0) (h2 : 0 < m.length) : cmpL l m = -1 := by
  cases l with
  | nil => cases m with
    | nil => simp at h2
    | cons a l => rfl
  | cons b m => simp at h1
theorem cmpL_step (l m : List Int) (k : Nat) (x y : Int) (h1 : l[k]? = some x) (h2 : m[k]? = some y) : cmpL (l.drop k) (m.drop k) =
    if x = y then cmpL (l.drop (k + 1)) (m.drop (k + 1)) else if x < y then -1 else 1 := by
  obtain ⟨g1, rfl⟩ := List.getElem?_eq_some_iff.1 h1
  obtain ⟨g2, rfl⟩ := List.getElem?_eq_some_iff.1 h2
  rw [List.drop_eq_getElem_cons g1, List.drop_eq_getElem_cons g2, cmpL]
theorem Sl.num {w : World} {A : Option Addr} {n : Nat} {k : IntKind} {l : List Int} (h : Sl w A n (nums k l)) {j : Nat} (hj : j < n) :
    ∃ g o x, A = some ⟨g, o, none⟩ ∧ Hid (l[j]? = some x) ∧ w.cell? ⟨g, o + j, none⟩ = some (.int k x) := by
  obtain ⟨g, o, e, hc⟩ := h.2 (by omega)
  have hl : j < l.length := by have := h.1; rw [nums_length] at this; omega
  refine ⟨g, o, l[j], e, List.getElem?_eq_getElem hl, hc j _ ?_⟩
  simp [nums, List.getElem?_map, List.getElem?_eq_getElem hl]

/-- The world has drawn, no more. -/
def Drew (w w' : World) : Prop := ∃ k, w' = w.drewN k
theorem Drew.refl (w : World) : Drew w w := ⟨0, rfl⟩
theorem Drew.below {w w' : World} (h : Drew w w') : Below w.heap.size w w' := by
  obtain ⟨k, rfl⟩ := h
  exact ⟨rfl, rfl, rfl, Nat.le_refl _, fun _ _ => rfl⟩
theorem Drew.step {w w' : World} (h : Drew w w') (n : Nat) : Drew w (w'.drewN n) := by
  obtain ⟨k, rfl⟩ := h
  exact ⟨k + n, by simp [World.drewN, Nat.add_assoc]⟩

theorem compare_any (A B : Option Addr) (n m c d : Nat) (l k : List Int) (w : World) (ha : Sl w A n (nums .u8 l)) (hb : Sl w B m (nums .u8 k)) (hn : n ≤ 4000000000) (hm : m ≤ 4000000000) :
    Calls Try.prog 88 #[.slice A n c, .slice B m d] w fun e w' => e = .returned (.int .i64 (cmpL l k)) ∧ Drew w w' := by
  have hln : l.length = n := by have := ha.1; rwa [nums_length] at this
  have hlm : k.length = m := by have := hb.1; rwa [nums_length] at this
  have Hn := Lib.hid hln
  have Hm := Lib.hid hlm
  clear hln hlm
  have HA : Hid (Sl w A n (nums .u8 l)) := ha
  have HB : Hid (Sl w B m (nums .u8 k)) := hb
  clear ha hb
  go_enter Try.func88, Try.ntmps88
  go_wp2
  go_loopg [5] n (fun q v5 w' => ∃ i : Nat, v5 = .int .i64 i ∧ i ≤ n ∧ i ≤ m ∧ Hid (i + q = n) ∧ Hid (cmpL l k = cmpL (l.drop i) (k.drop i)) ∧ Drew w w')
  case atStart => exact ⟨0, rfl, by omega, by omega, by simp [Hid], rfl, Drew.refl _⟩
  case round =>
    obtain ⟨i, rfl, hi1, hi2, hq, hc, ⟨j, rfl⟩⟩ := hrel
    by_cases h1 : i < n
    · by_cases h2 : i < m
      · obtain ⟨g, o, x, rfl, hx, hca⟩ := HA.out.num h1
        obtain ⟨g', o', y, rfl, hy, hcb⟩ := HB.out.num h2
        have hs := cmpL_step l k i x y hx.out hy.out
        rw [← hc.out] at hs
        have HS := Lib.hid hs
        clear hs
        rcases Int.lt_trichotomy x y with he | he | he
        · have he2 : (x != y) = true := by simp; omega
          go_wp2
          go_quiet (fail)
          go_wp2
          go_quiet (fail)
          go_wp2
          go_ret
          refine ⟨?_, (Drew.step (Drew.step ⟨j, rfl⟩ _) _)⟩
          rw [HS.out, if_neg (by omega), if_pos he]; rfl
        · have he2 : (x != y) = false := by simp [he]
          have HE := Lib.hid he
          clear he
          go_wp2
          go_quiet (fail)
          go_wp2
          cases gk with
          | zero => exact absurd hq.out (by omega)
          | succ k1 =>
            go_roundg k1
            case measure => omega
            case rel => exact ⟨i + 1, by go_num, by omega, by omega, by have := hq.out; show _ = _; omega, by show _ = _; rw [HS.out, if_pos HE.out], ⟨j + nq, rfl⟩⟩
        · have he2 : (x != y) = true := by simp; omega
          go_wp2
          go_quiet (fail)
          go_wp2
          go_quiet (fail)
          go_wp2
          go_ret
          refine ⟨?_, (Drew.step (Drew.step ⟨j, rfl⟩ _) _)⟩
          rw [HS.out, if_neg (by omega), if_neg (by omega)]; rfl
      · have hnm : m < n := by omega
        go_wp2
        go_ret
        refine ⟨?_, ⟨j, rfl⟩⟩
        rw [hc.out, cmpL_gt _ _ (by rw [List.length_drop, Hm.out]; omega) (by rw [List.length_drop, Hn.out]; omega)]; rfl
    · rcases Nat.lt_or_ge n m with hnm | hnm
      · go_wp2
        go_ret
        refine ⟨?_, ⟨j, rfl⟩⟩
        rw [hc.out, cmpL_lt _ _ (by rw [List.length_drop, Hn.out]; omega) (by rw [List.length_drop, Hm.out]; omega)]; rfl
      · have hnm2 : ¬ m < n := by omega
        have hnm3 : ¬ n < m := by omega
        go_wp2
        go_ret
        refine ⟨?_, ⟨j, rfl⟩⟩
        rw [hc.out, List.drop_eq_nil_of_le (by rw [Hn.out]; omega), List.drop_eq_nil_of_le (by rw [Hm.out]; omega)]; rfl

theorem sameBytes_any (A B : Option Addr) (n m c d : Nat) (l k : List Int) (w : World) (ha : Sl w A n (nums .u8 l)) (hb : Sl w B m (nums .u8 k)) (hn : n ≤ 4000000000) (hm : m ≤ 4000000000) :
    Calls Try.prog 30 #[.slice A n c, .slice B m d] w fun e w' => e = .returned (.bool (decide (l = k))) ∧ Drew w w' := by
  have HA : Hid (Sl w A n (nums .u8 l)) := ha
  have HB : Hid (Sl w B m (nums .u8 k)) := hb
  clear ha hb
  go_enter Try.func30, Try.ntmps30
  go_wp2_with fail
  refine (compare_any A B n m c d l k w HA.out HB.out hn hm).mono ?_
  rintro e w1 ⟨rfl, ⟨j, rfl⟩⟩
  go_wp2
  go_ret
  refine ⟨?_, ⟨j, rfl⟩⟩
  show Ending.returned (.bool _) = _
  congr 2
  rw [Bool.eq_iff_iff]
  simp [cmpL_eq]
end Go.Proofs.Ytadhdimleabljaa
