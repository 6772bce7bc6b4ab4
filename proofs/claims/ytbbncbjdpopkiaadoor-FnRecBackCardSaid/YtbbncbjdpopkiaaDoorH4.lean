/- Heads of records are read again. -/
import Derived.Test.YtbbncbjdpopkiaaDoorGB
namespace Go.Proofs.YtbbncbjdpopkiaaDoor
open Go.RowKit
set_option linter.unusedVariables false
set_option linter.unusedSimpArgs false
theorem Sl.drop' {w : World} {g o n m : Nat} {xs : List Value} (h : Sl w (some ⟨g, o, none⟩) n xs) (hm : m ≤ n) : Sl w (some ⟨g, o + m, none⟩) (n - m) (xs.drop m) :=
  ⟨by rw [List.length_drop, h.1], fun h0 => by
    obtain ⟨g', o', e, hcell⟩ := h.2 (by omega)
    injection e with e
    injection e with e1 e2
    subst e1 e2
    refine ⟨g, o + m, rfl, fun j u hu => ?_⟩
    rw [List.getElem?_drop] at hu
    have := hcell _ u hu
    rw [← Nat.add_assoc] at this
    exact this⟩
theorem Sl.wrote {w w' : World} {g t g2 o n : Nat} {cs xs : List Value} (h : Sl w (some ⟨g2, o, none⟩) n xs) (hw : Wrote w g t cs w') (hne : g2 ≠ g) : Sl w' (some ⟨g2, o, none⟩) n xs :=
  ⟨h.1, fun hn => by
    obtain ⟨g', o', e, hc⟩ := h.2 hn
    injection e with e
    injection e with e1 e2
    subst e1 e2
    exact ⟨g2, o, rfl, fun j u hu => cell_wrote hw hne (hc j u hu)⟩⟩
theorem Sl.cellAt {w : World} {g o n j : Nat} {xs : List Value} {v : Value} (h : Sl w (some ⟨g, o, none⟩) n xs) (hj : xs[j]? = some v) : w.cell? ⟨g, o + j, none⟩ = some v := by
  have hl := (List.getElem?_eq_some_iff.1 hj).1
  obtain ⟨g', o', e, hc⟩ := h.2 (by have := h.1; omega)
  injection e with e
  injection e with e1 e2
  subst e1 e2
  exact hc j v hj
theorem headDecode_any (g t g2 o n c : Nat) (k d e m u : Int) (rest : List Int) (v0 v1 v2 v3 v4 : Value) (w : World) (h : Blk w g t [v0, v1, v2, v3, v4]) (hs : Sl w (some ⟨g2, o, none⟩) n (nums .u8 (headB k d e m u ++ rest))) (hne : g2 ≠ g)
    (hc : n ≤ c) (hn : n ≤ 1000000) (hr : Byt rest) (hk0 : 0 ≤ k) (hk : k ≤ 4294967295) (hd0 : 0 ≤ d) (hd : d ≤ 4294967295) (he0 : 0 ≤ e) (he : Hid (e ≤ 18446744073709551615)) :
    Calls Tryd.prog 69 #[.pointer (some ⟨g, 0, none⟩), .slice (some ⟨g2, o, none⟩) n c] w fun E w' =>
      E = .returned (.int .i64 (headB k d e m u).length) ∧ Wrote w g t [.int .u32 k, .int .u32 d, .int .u64 e, .int .u8 m, .int .u8 u] w' := by
  have K64 := u32_64 hk
  have D64 := u32_64 hd
  have hlen : n = (headB k d e m u).length + rest.length := by have := hs.1; rw [nums_length, List.length_append] at this; omega
  have hL := headB_len k d e m u hk hd
  obtain ⟨hL1, hL2⟩ := hL
  have hBk : Byt (vint 9 k) := vint_byt' k hk0 K64
  have hBd : Byt (vint 9 d) := vint_byt' d hd0 D64
  have hBe : Byt (vint 9 e) := vint_byt' e he0 he
  have B3 : Hid (Byt (vint 9 e ++ rest)) := hBe.append hr
  have B2 : Hid (Byt (vint 9 d ++ (vint 9 e ++ rest))) := hBd.append B3.out
  have B1 : Hid (Byt (vint 9 k ++ (vint 9 d ++ (vint 9 e ++ rest)))) := hBk.append B2.out
  have U1 : Hid (uvarL (vint 9 k ++ (vint 9 d ++ (vint 9 e ++ rest))) 0 0 = (k, ((vint 9 k).length : Int))) := uvar_back k _ hk0 K64.out
  have U2 : Hid (uvarL (vint 9 d ++ (vint 9 e ++ rest)) 0 0 = (d, ((vint 9 d).length : Int))) := uvar_back d _ hd0 D64.out
  have U3 : Hid (uvarL (vint 9 e ++ rest) 0 0 = (e, ((vint 9 e).length : Int))) := uvar_back e _ he0 he.out
  obtain ⟨lk1, lk5⟩ : 1 ≤ (vint 9 k).length ∧ (vint 9 k).length ≤ 5 := ⟨(vint_len 9 k).1, vint_len5 k hk 5⟩
  obtain ⟨ld1, ld5⟩ : 1 ≤ (vint 9 d).length ∧ (vint 9 d).length ≤ 5 := ⟨(vint_len 9 d).1, vint_len5 d hd 5⟩
  obtain ⟨le1, le5⟩ : 1 ≤ (vint 9 e).length ∧ (vint 9 e).length ≤ 10 := vint_len 9 e
  have hL3 : (headB k d e m u).length = 2 + (vint 9 k).length + (vint 9 d).length + (vint 9 e).length := by simp [headB]; omega
  obtain ⟨i1, hi1⟩ : ∃ i1, i1 = 2 + (vint 9 k).length := ⟨_, rfl⟩
  obtain ⟨i2, hi2⟩ : ∃ i2, i2 = i1 + (vint 9 d).length := ⟨_, rfl⟩
  have s1 : IntKind.i64.wrap (2 + ((vint 9 k).length : Int)) = (i1 : Int) := by rw [IntWalk.i64_in _ (by omega)]; omega
  have s2 : IntKind.i64.wrap ((i1 : Int) + ((vint 9 d).length : Int)) = (i2 : Int) := by rw [IntWalk.i64_in _ (by omega)]; omega
  have s3 : IntKind.i64.wrap ((i2 : Int) + ((vint 9 e).length : Int)) = ((headB k d e m u).length : Int) := by rw [IntWalk.i64_in _ (by omega)]; omega
  have x1 : IntKind.u32.wrap k = k := IntWalk.u32_in _ (by omega)
  have x2 : IntKind.u32.wrap d = d := IntWalk.u32_in _ (by omega)
  have b1 : i1 ≤ 7 := by omega
  have b2 : i2 ≤ 12 := by omega
  have c1 : ¬ c = 2 := by omega
  have c2 : ¬ c = i1 := by omega
  have c3 : ¬ c = i2 := by omega
  have c4 : i1 ≤ n := by omega
  have c5 : i2 ≤ n := by omega
  have c6 : (2 : Int) ≤ (n : Int) := by omega
  have c7 : (1 : Int) < (n : Int) := by omega
  have c8 : (0 : Int) < (n : Int) := by omega
  have HS1 : Hid (Sl w (some ⟨g2, o + 2, none⟩) (n - 2) (nums .u8 (vint 9 k ++ (vint 9 d ++ (vint 9 e ++ rest))))) := by
    have := hs.drop' (m := 2) (by omega)
    rw [← nums_drop] at this
    show Sl _ _ _ _
    simpa [headB] using this
  have HS2 : Hid (Sl w (some ⟨g2, o + i1, none⟩) (n - i1) (nums .u8 (vint 9 d ++ (vint 9 e ++ rest)))) := by
    have := HS1.out.drop' (m := (vint 9 k).length) (by omega)
    rw [← nums_drop, List.drop_left, show n - 2 - (vint 9 k).length = n - i1 by omega, show o + 2 + (vint 9 k).length = o + i1 by omega] at this
    exact this
  have HS3 : Hid (Sl w (some ⟨g2, o + i2, none⟩) (n - i2) (nums .u8 (vint 9 e ++ rest))) := by
    have := HS2.out.drop' (m := (vint 9 d).length) (by omega)
    rw [← nums_drop, List.drop_left, show n - i1 - (vint 9 d).length = n - i2 by omega, show o + i1 + (vint 9 d).length = o + i2 by omega] at this
    exact this
  have y0 : w.cell? ⟨g2, o, none⟩ = some (.int .u8 m) := hs.cellAt (j := 0) (by simp [headB, nums])
  have y1 : w.cell? ⟨g2, o + 1, none⟩ = some (.int .u8 u) := hs.cellAt (j := 1) (by simp [headB, nums])
  have z3 : w.cell? ⟨g, 3, none⟩ = some v3 := by rw [h.cell]; rfl
  have z4 : w.cell? ⟨g, 4, none⟩ = some v4 := by rw [h.cell]; rfl
  have f3 := h.frozen 3
  have f4 := h.frozen 4
  have hne2 : g ≠ g2 := fun e => hne e.symm
  have H : Hid (Blk w g t [v0, v1, v2, v3, v4]) := h
  have HN := Lib.hid (And.intro hlen (And.intro hL3 (And.intro hi1 hi2)))
  clear h hs hlen hBk hBd hBe hL3 hi1 hi2
  go_enter Tryd.func69, Tryd.ntmps69
  go_wp2_with fail
  go_region
  have hW1 : Wrote w g t [v0, v1, v2, .int .u8 m, .int .u8 u] ((w.setCell ⟨g, 3, none⟩ (.int .u8 m)).setCell ⟨g, 4, none⟩ (.int .u8 u)).drew := wrote_drew ((Wrote.sets H.out 3 (.int .u8 m)).trans (Wrote.sets (H.out.set_ 3 (.int .u8 m)) 4 (.int .u8 u)))
  generalize ((w.setCell ⟨g, 3, none⟩ (.int .u8 m)).setCell ⟨g, 4, none⟩ (.int .u8 u)).drew = W1 at *
  have HW1 := Lib.hid hW1
  have T1 := Lib.hid (HS1.out.wrote hW1 hne)
  have T2 := Lib.hid (HS2.out.wrote hW1 hne)
  have T3 := Lib.hid (HS3.out.wrote hW1 hne)
  have a0 : W1.cell? ⟨g, 0, none⟩ = some v0 := by rw [hW1.1.cell]; rfl
  have g0 := hW1.1.frozen 0
  clear hW1 y0 y1 z3 z4 f3 f4 HS1 HS2 HS3
  go_wp2_with fail
  refine (pubUvarint_any (some ⟨g2, o + 2, none⟩) (n - 2) (c - 2) _ W1 T1.out B1.out (by omega)).mono ?_
  rintro E w2 ⟨rfl, rfl⟩
  rw [U1.out]
  go_wp2_with fail
  have hW2 : Wrote w g t [.int .u32 k, v1, v2, .int .u8 m, .int .u8 u] (W1.setCell ⟨g, 0, none⟩ (.int .u32 k)) := HW1.out.trans (Wrote.sets HW1.out.1 0 (.int .u32 k))
  have T2' := Lib.hid (T2.out.wrote (Wrote.sets HW1.out.1 0 (.int .u32 k)) hne)
  have T3' := Lib.hid (T3.out.wrote (Wrote.sets HW1.out.1 0 (.int .u32 k)) hne)
  generalize W1.setCell ⟨g, 0, none⟩ (.int .u32 k) = W2 at *
  have HW2 := Lib.hid hW2
  have a1 : W2.cell? ⟨g, 1, none⟩ = some v1 := by rw [hW2.1.cell]; rfl
  have g1 := hW2.1.frozen 1
  clear hW2 T1 T2 T3 a0 g0
  refine (pubUvarint_any (some ⟨g2, o + i1, none⟩) (n - i1) (c - i1) _ W2 T2'.out B2.out (by omega)).mono ?_
  rintro E w3 ⟨rfl, rfl⟩
  rw [U2.out]
  go_wp2_with fail
  have hW3 : Wrote w g t [.int .u32 k, .int .u32 d, v2, .int .u8 m, .int .u8 u] (W2.setCell ⟨g, 1, none⟩ (.int .u32 d)) := HW2.out.trans (Wrote.sets HW2.out.1 1 (.int .u32 d))
  have T3 := Lib.hid (T3'.out.wrote (Wrote.sets HW2.out.1 1 (.int .u32 d)) hne)
  generalize W2.setCell ⟨g, 1, none⟩ (.int .u32 d) = W3 at *
  have HW3 := Lib.hid hW3
  have a2 : W3.cell? ⟨g, 2, none⟩ = some v2 := by rw [hW3.1.cell]; rfl
  have g2' := hW3.1.frozen 2
  clear hW3 T2' T3' a1 g1
  refine (pubUvarint_any (some ⟨g2, o + i2, none⟩) (n - i2) (c - i2) _ W3 T3.out B3.out (by omega)).mono ?_
  rintro E w4 ⟨rfl, rfl⟩
  rw [U3.out]
  go_wp2
  go_ret
  exact ⟨rfl, HW3.out.trans (Wrote.sets HW3.out.1 2 (.int .u64 e))⟩
end Go.Proofs.YtbbncbjdpopkiaaDoor
