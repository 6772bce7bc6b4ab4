/- Contracts: keys with versions are compared, taken apart. -/
import Derived.Test.YtadhdimleabljaaC6
namespace Go.Proofs.Ytadhdimleabljaa
open Go.RowKit
set_option linter.unusedVariables false
set_option linter.unusedSimpArgs false

def sgn (x y : Int) : Int := if x < y then -1 else if x = y then 0 else 1
theorem cmpL_same (x : Int) (a c : List Int) : cmpL (x :: a) (x :: c) = cmpL a c := by simp [cmpL]
theorem cmpL_other (x y : Int) (a c : List Int) (h : x ≠ y) : cmpL (x :: a) (y :: c) = if x < y then -1 else 1 := by simp [cmpL, h]
theorem cmpL_append (a b c d : List Int) (h : a.length = c.length) : cmpL (a ++ b) (c ++ d) = if cmpL a c = 0 then cmpL b d else cmpL a c := by
  induction a generalizing c with
  | nil => cases c with
    | nil => simp [cmpL]
    | cons x c => simp at h
  | cons x a ih =>
    cases c with
    | nil => simp at h
    | cons y c =>
      by_cases hxy : x = y
      · subst hxy
        rw [List.cons_append, List.cons_append, cmpL_same, cmpL_same]
        exact ih c (by simpa using h)
      · rw [List.cons_append, List.cons_append, cmpL_other _ _ _ _ hxy, cmpL_other _ _ _ _ hxy]
        by_cases hlt : x < y <;> simp [hlt]
theorem cmp16 (x y : Int) : cmpL (be16 x) (be16 y) = sgn x y := by
  simp only [be16, cmpL, sgn]
  repeat' split
  all_goals omega
theorem cmp32 (x y : Int) : cmpL (be32 x) (be32 y) = sgn x y := by
  rw [be32, be32, cmpL_append (be16 (x / 65536)) (be16 (x % 65536)) (be16 (y / 65536)) (be16 (y % 65536)) rfl, cmp16, cmp16]
  simp only [sgn]
  repeat' split
  all_goals omega
theorem cmp64 (x y : Int) : cmpL (be64 x) (be64 y) = sgn x y := by
  rw [be64, be64, cmpL_append (be32 (x / 4294967296)) (be32 (x % 4294967296)) (be32 (y / 4294967296)) (be32 (y % 4294967296)) rfl, cmp32, cmp32]
  simp only [sgn]
  repeat' split
  all_goals omega
theorem sgn_flip (v u : Int) : sgn (18446744073709551615 - v) (18446744073709551615 - u) = sgn u v := by
  simp only [sgn]
  repeat' split
  all_goals omega

theorem quiet_same {P : Program} {f : FuncId} {args : Array Value} {w : World} {n : Nat} {v : Value}
    (h : Calls P f args (w.drewN n) fun e w' => e = .returned v ∧ w.drewN n = w') : Calls P f args (w.drewN n) fun e w'' => e = .returned v ∧ ∃ m, w'' = w.drewN m :=
  h.mono fun _ _ ⟨he, hm⟩ => ⟨he, n, hm.symm⟩
theorem quiet_drew {P : Program} {f : FuncId} {args : Array Value} {w : World} {n : Nat} {v : Value}
    (h : Calls P f args (w.drewN n) fun e w' => e = .returned v ∧ Drew (w.drewN n) w') : Calls P f args (w.drewN n) fun e w'' => e = .returned v ∧ ∃ m, w'' = w.drewN m :=
  h.mono fun _ _ ⟨he, ⟨k, hm⟩⟩ => ⟨he, n + k, by rw [hm]; simp [World.drewN, Nat.add_assoc]⟩

/-- Two keys with versions compared: by the keys, then by what stands behind them. -/
def cmpKeys (p q : List Int) : Int :=
  if cmpL (p.take (p.length - 8)) (q.take (q.length - 8)) = 0 then cmpL (p.drop (p.length - 8)) (q.drop (q.length - 8)) else cmpL (p.take (p.length - 8)) (q.take (q.length - 8))
def orderL (l : List Int) (v : Int) (k : List Int) (u : Int) : Int := if cmpL l k = 0 then sgn u v else cmpL l k
theorem keyB_take (l : List Int) (v : Int) : (keyB l v).take ((keyB l v).length - 8) = l := by
  rw [keyB_len, keyB]; exact List.take_left' (by omega)
theorem keyB_drop (l : List Int) (v : Int) : (keyB l v).drop ((keyB l v).length - 8) = be64 (18446744073709551615 - v) := by
  rw [keyB_len, keyB]; exact List.drop_left' (by omega)
theorem cmpKeys_keyB (l k : List Int) (v u : Int) : cmpKeys (keyB l v) (keyB k u) = orderL l v k u := by
  rw [cmpKeys, keyB_take, keyB_take, keyB_drop, keyB_drop, cmp64, orderL, sgn_flip]

set_option maxRecDepth 100000 in
theorem compareKeys_any (A B : Option Addr) (n m c d : Nat) (p q : List Int) (w : World) (h : Sl w A n (nums .u8 p)) (h2 : Sl w B m (nums .u8 q)) (hp : Byt p) (hq : Byt q) (hn : 8 ≤ n) (hm : 8 ≤ m) (hc : n ≤ c) (hd : m ≤ d) (hn2 : n ≤ 1000000) (hm2 : m ≤ 1000000) :
    Calls Try.prog 97 #[.slice A n c, .slice B m d] w fun e w' => e = .returned (.int .i64 (cmpKeys p q)) ∧ Drew w w' := by
  have hlp : p.length = n := by have := h.1; rwa [nums_length] at this
  have hlq : q.length = m := by have := h2.1; rwa [nums_length] at this
  have T1 : Hid (Sl w A (n - 8) (nums .u8 (p.take (n - 8)))) := by rw [nums_take]; exact h.take (by omega)
  have T2 : Hid (Sl w B (m - 8) (nums .u8 (q.take (m - 8)))) := by rw [nums_take]; exact h2.take (by omega)
  have D1 : Hid (Sl w (if c = n - 8 then A else A.map fun x => x.add (n - 8)) (n - (n - 8)) (nums .u8 (p.drop (n - 8)))) := by rw [nums_drop]; exact h.drop (by omega) hc
  have D2 : Hid (Sl w (if d = m - 8 then B else B.map fun x => x.add (m - 8)) (m - (m - 8)) (nums .u8 (q.drop (m - 8)))) := by rw [nums_drop]; exact h2.drop (by omega) hd
  obtain ⟨g, o, rfl⟩ := h.addr (by omega)
  obtain ⟨g2, o2, rfl⟩ := h2.addr (by omega)
  rw [if_neg (by omega), Option.map_some, add_none] at D1 D2
  have HP : Hid (Byt p) := hp
  have HQ : Hid (Byt q) := hq
  have HC : Hid (cmpKeys p q = if cmpL (p.take (n - 8)) (q.take (m - 8)) = 0 then cmpL (p.drop (n - 8)) (q.drop (m - 8)) else cmpL (p.take (n - 8)) (q.take (m - 8))) := by rw [← hlp, ← hlq]; rfl
  clear h h2 hp hq hlp hlq
  go_enter Try.func97, Try.ntmps97
  go_wp2
  go_quiet ((go_at_call 141; exact quiet_same (bytesCompare_any _ _ _ _ _ _ _ _ _ T1.out T2.out (HP.out.take _) (HQ.out.take _))))
  generalize hx : cmpL (p.take (n - 8)) (q.take (m - 8)) = x at *
  by_cases h0 : x = 0
  · subst h0
    replace D1 : Hid (Sl (w.drewN nq) _ _ _) := D1.out.drewN nq
    replace D2 : Hid (Sl (w.drewN nq) _ _ _) := D2.out.drewN nq
    obtain ⟨w2, hw2⟩ : ∃ w2, w2 = w.drewN nq := ⟨_, rfl⟩
    rw [← hw2] at D1 D2 ⊢
    have HW := Lib.hid hw2
    clear hw2
    go_wp2
    go_quiet ((go_at_call 141; exact quiet_same (bytesCompare_any _ _ _ _ _ _ _ _ _ (D1.out.drewN _) (D2.out.drewN _) (HP.out.drop _) (HQ.out.drop _))))
    go_wp2
    go_ret
    exact ⟨by rw [HC.out, if_pos (by trivial)]; rfl, by rw [HW.out]; exact Drew.step ⟨_, rfl⟩ _⟩
  · have hne : (x != 0) = true := by simpa using h0
    have H0 := Lib.hid h0
    clear h0
    go_wp2
    go_ret
    exact ⟨by rw [HC.out, if_neg H0.out]; rfl, ⟨_, rfl⟩⟩

theorem sameKey_any (A B : Option Addr) (n m c d : Nat) (p q : List Int) (w : World) (h : Sl w A n (nums .u8 p)) (h2 : Sl w B m (nums .u8 q)) (hp : Byt p) (hq : Byt q) (hn : 8 ≤ n) (hm : 8 ≤ m) (hc : n ≤ c) (hd : m ≤ d) (hn2 : n ≤ 1000000) (hm2 : m ≤ 1000000) :
    Calls Try.prog 103 #[.slice A n c, .slice B m d] w fun e w' => e = .returned (.bool (decide (p.take (n - 8) = q.take (m - 8)))) ∧ w = w' := by
  have hlp : p.length = n := by have := h.1; rwa [nums_length] at this
  have hlq : q.length = m := by have := h2.1; rwa [nums_length] at this
  have T1 : Hid (Sl w A (n - 8) (nums .u8 (p.take (n - 8)))) := by rw [nums_take]; exact h.take (by omega)
  have T2 : Hid (Sl w B (m - 8) (nums .u8 (q.take (m - 8)))) := by rw [nums_take]; exact h2.take (by omega)
  have HP : Hid (Byt p) := hp
  have HQ : Hid (Byt q) := hq
  have HL : Hid (p.length = n ∧ q.length = m) := ⟨hlp, hlq⟩
  clear h h2 hp hq hlp hlq
  by_cases hnm : n = m
  · subst hnm
    go_enter Try.func103, Try.ntmps103
    go_wp2_with fail
    refine (parseKey_any A n c w hn hc hn2).mono ?_
    rintro e w1 ⟨rfl, rfl⟩
    go_wp2_with fail
    refine (parseKey_any B n d w hn hd hn2).mono ?_
    rintro e w1 ⟨rfl, rfl⟩
    go_wp2_with fail
    refine (bytesEqual_any _ _ _ _ _ _ _ _ w T1.out T2.out (HP.out.take _) (HQ.out.take _)).mono ?_
    rintro e w1 ⟨rfl, rfl⟩
    go_wp2
    go_ret
    exact ⟨rfl, rfl⟩
  · have hne : ((n : Int) != (m : Int)) = true := by simp; omega
    have HN := Lib.hid hnm
    clear hnm
    go_enter Try.func103, Try.ntmps103
    go_wp2
    go_ret
    refine ⟨?_, rfl⟩
    have : p.take (n - 8) ≠ q.take (m - 8) := by
      intro e
      have := congrArg List.length e
      simp [HL.out.1, HL.out.2] at this
      have := HN.out
      omega
    rw [decide_eq_false this]; rfl

theorem keyOf_any (A : Option Addr) (n c : Nat) (l : List Int) (ts : Int) (w : World) (h : Sl w A n (nums .u8 (keyB l ts))) (hn : n ≤ 1000000) :
    Calls Try.prog 59 #[.slice A n c] w (Made w 5 (nums .u8 l)) := by
  have hlen : l.length + 8 = n := by have := h.1; rw [nums_length, keyB_len] at this; exact this
  have Hl := Lib.hid hlen
  clear hlen
  have H : Hid (Sl w A n (nums .u8 (keyB l ts))) := h
  clear h
  go_enter Try.func59, Try.ntmps59
  go_wp2_with fail
  refine (own_any A n c _ w H.out (by omega)).mono ?_
  intro e w1 h1
  obtain ⟨A1, c1, rfl, hc1, hs1, hb1, ho1⟩ := h1.sv
  clear h1 ho1
  go_wp2_with fail
  refine (parseKey_any A1 _ c1 w1 (by rw [keyB_len]; omega) hc1 (by rw [keyB_len, Hl.out]; omega)).mono ?_
  rintro e w2 ⟨rfl, rfl⟩
  go_wp2_with fail
  have ht : Sl w1 A1 ((keyB l ts).length - 8) (nums .u8 l) := by
    have := hs1.out.take (m := (keyB l ts).length - 8) (by omega)
    rwa [← nums_take, keyB_take] at this
  refine (own_any A1 _ c1 l w1 ht (by rw [keyB_len]; have := Hl.out; omega)).mono ?_
  intro e w3 h3
  obtain ⟨A3, c3, rfl, hc3, hs3, hb3, ho3⟩ := h3.sv
  clear h3 ht
  go_wp2
  go_ret
  exact Made.mk' hb1.out hb3.out ho3.out

theorem versionOf_any (A : Option Addr) (n c : Nat) (l : List Int) (ts : Int) (w : World) (h : Sl w A n (nums .u8 (keyB l ts))) (hpos : 0 < l.length) (hn : n ≤ 1000000) (hv : 0 ≤ ts) (hv2 : Hid (ts ≤ 18446744073709551615)) :
    Calls Try.prog 60 #[.slice A n c] w fun e w' => e = .returned (.int .u64 ts) ∧ Below w.heap.size w w' := by
  have hlen : l.length + 8 = n := by have := h.1; rw [nums_length, keyB_len] at this; exact this
  have Hl := Lib.hid hlen
  clear hlen
  have H : Hid (Sl w A n (nums .u8 (keyB l ts))) := h
  clear h
  go_enter Try.func60, Try.ntmps60
  go_wp2_with fail
  refine (own_any A n c _ w H.out (by omega)).mono ?_
  intro e w1 h1
  obtain ⟨A1, c1, rfl, hc1, hs1, hb1, ho1⟩ := h1.sv
  clear h1 ho1
  go_wp2_with fail
  refine (parseTs_any A1 _ c1 l ts w1 hs1.out hc1 hpos (by rw [keyB_len, Hl.out]; omega) hv hv2).mono ?_
  rintro e w2 ⟨rfl, ⟨k, rfl⟩⟩
  go_wp2
  go_ret
  exact ⟨rfl, by (repeat first | with_reducible exact Below.refl _ _ | with_reducible apply bl_drewN | with_reducible apply bl_drew | with_reducible apply bl_alloc | (with_reducible refine bl_trans ?_ (Hid.out (by assumption))))⟩

theorem implCompare_any (A B : Option Addr) (n m c d : Nat) (l k : List Int) (v u : Int) (w : World) (h : Sl w A n (nums .u8 (keyB l v))) (h2 : Sl w B m (nums .u8 (keyB k u))) (hp : Byt (keyB l v)) (hq : Byt (keyB k u)) (hn2 : n ≤ 1000000) (hm2 : m ≤ 1000000) :
    Calls Try.prog 44 #[.slice A n c, .slice B m d] w fun e w' => e = .returned (.int .i64 (orderL l v k u)) ∧ Below w.heap.size w w' := by
  have hln : (keyB l v).length = n := by have := h.1; rwa [nums_length] at this
  have hlm : (keyB k u).length = m := by have := h2.1; rwa [nums_length] at this
  have HL : Hid ((keyB l v).length = n ∧ (keyB k u).length = m) := ⟨hln, hlm⟩
  have H : Hid (Sl w A n (nums .u8 (keyB l v))) := h
  have H2 : Hid (Sl w B m (nums .u8 (keyB k u))) := h2
  have HP : Hid (Byt (keyB l v)) := hp
  have HQ : Hid (Byt (keyB k u)) := hq
  clear h h2 hp hq hln hlm
  go_enter Try.func44, Try.ntmps44
  go_wp2_with fail
  refine (own_any A n c _ w H.out (by omega)).mono ?_
  intro e w1 h1
  obtain ⟨A1, c1, rfl, hc1, hs1, hb1, ho1⟩ := h1.sv
  clear h1 ho1
  go_wp2_with fail
  refine (own_any B m d _ w1 (H2.out.below hb1.out) (by omega)).mono ?_
  intro e w2 h2
  obtain ⟨A2, c2, rfl, hc2, hs2, hb2, ho2⟩ := h2.sv
  clear h2 ho2
  go_wp2_with fail
  refine (compareKeys_any A1 A2 _ _ c1 c2 _ _ w2 (hs1.out.below hb2.out) hs2.out HP.out HQ.out (by rw [keyB_len]; omega) (by rw [keyB_len]; omega) hc1 hc2 (by rw [HL.out.1]; omega) (by rw [HL.out.2]; omega)).mono ?_
  rintro e w3 ⟨rfl, ⟨j, rfl⟩⟩
  rw [cmpKeys_keyB]
  go_wp2
  go_ret
  exact ⟨rfl, by (repeat first | with_reducible exact Below.refl _ _ | with_reducible apply bl_drewN | with_reducible apply bl_drew | with_reducible apply bl_alloc | (with_reducible refine bl_trans ?_ (Hid.out (by assumption))))⟩

theorem implSame_any (A B : Option Addr) (n m c d : Nat) (l k : List Int) (v u : Int) (w : World) (h : Sl w A n (nums .u8 (keyB l v))) (h2 : Sl w B m (nums .u8 (keyB k u))) (hp : Byt (keyB l v)) (hq : Byt (keyB k u)) (hn2 : n ≤ 1000000) (hm2 : m ≤ 1000000) :
    Calls Try.prog 51 #[.slice A n c, .slice B m d] w fun e w' => e = .returned (.bool (decide (l = k))) ∧ Below w.heap.size w w' := by
  have hln : (keyB l v).length = n := by have := h.1; rwa [nums_length] at this
  have hlm : (keyB k u).length = m := by have := h2.1; rwa [nums_length] at this
  have HL : Hid ((keyB l v).length = n ∧ (keyB k u).length = m) := ⟨hln, hlm⟩
  have H : Hid (Sl w A n (nums .u8 (keyB l v))) := h
  have H2 : Hid (Sl w B m (nums .u8 (keyB k u))) := h2
  have HP : Hid (Byt (keyB l v)) := hp
  have HQ : Hid (Byt (keyB k u)) := hq
  clear h h2 hp hq hln hlm
  go_enter Try.func51, Try.ntmps51
  go_wp2_with fail
  refine (own_any A n c _ w H.out (by omega)).mono ?_
  intro e w1 h1
  obtain ⟨A1, c1, rfl, hc1, hs1, hb1, ho1⟩ := h1.sv
  clear h1 ho1
  go_wp2_with fail
  refine (own_any B m d _ w1 (H2.out.below hb1.out) (by omega)).mono ?_
  intro e w2 h2
  obtain ⟨A2, c2, rfl, hc2, hs2, hb2, ho2⟩ := h2.sv
  clear h2 ho2
  go_wp2_with fail
  refine (sameKey_any A1 A2 _ _ c1 c2 _ _ w2 (hs1.out.below hb2.out) hs2.out HP.out HQ.out (by rw [keyB_len]; omega) (by rw [keyB_len]; omega) hc1 hc2 (by rw [HL.out.1]; omega) (by rw [HL.out.2]; omega)).mono ?_
  rintro e w3 ⟨rfl, rfl⟩
  rw [keyB_take, keyB_take]
  go_wp2
  go_ret
  exact ⟨rfl, by (repeat first | with_reducible exact Below.refl _ _ | with_reducible apply bl_drewN | with_reducible apply bl_drew | with_reducible apply bl_alloc | (with_reducible refine bl_trans ?_ (Hid.out (by assumption))))⟩

theorem order_any (A B : Option Addr) (n m c d : Nat) (l k : List Int) (v u : Int) (w : World) (ha : Sl w A n (nums .u8 l)) (hb : Sl w B m (nums .u8 k)) (hn : n ≤ 1000000) (hm : m ≤ 1000000) :
    Calls Try.prog 45 #[.slice A n c, .int .u64 v, .slice B m d, .int .u64 u] w fun e w' => e = .returned (.int .i64 (orderL l v k u)) ∧ Drew w w' := by
  have H : Hid (Sl w A n (nums .u8 l)) := ha
  have H2 : Hid (Sl w B m (nums .u8 k)) := hb
  clear ha hb
  obtain ⟨x, hx⟩ : ∃ x, x = cmpL l k := ⟨_, rfl⟩
  have HX := Lib.hid hx
  have HO : Hid (orderL l v k u = if x = 0 then sgn u v else x) := by rw [hx]; rfl
  by_cases h0 : x = 0
  · have HO2 : Hid (orderL l v k u = sgn u v) := by rw [HO.out, if_pos h0]; rfl
    rcases Int.lt_trichotomy v u with h1 | h1 | h1
    · have hg : ¬ u < v := by omega
      go_enter Try.func45, Try.ntmps45
      go_wp2_with fail
      refine (compare_any A B n m c d l k w H.out H2.out (by omega) (by omega)).mono ?_
      rintro e w1 ⟨rfl, ⟨j, rfl⟩⟩
      rw [← hx, h0]
      clear hx h0
      go_wp2
      go_ret
      exact ⟨by rw [HO2.out, sgn, if_neg (by omega), if_neg (by omega)]; rfl, ⟨j, rfl⟩⟩
    · have hg : ¬ u < v := by omega
      have hg2 : ¬ v < u := by omega
      have H1 := Lib.hid h1
      clear h1
      go_enter Try.func45, Try.ntmps45
      go_wp2_with fail
      refine (compare_any A B n m c d l k w H.out H2.out (by omega) (by omega)).mono ?_
      rintro e w1 ⟨rfl, ⟨j, rfl⟩⟩
      rw [← hx, h0]
      clear hx h0
      go_wp2
      go_ret
      exact ⟨by rw [HO2.out, sgn, if_neg (by omega), if_pos (by have := H1.out; omega)]; rfl, ⟨j, rfl⟩⟩
    · go_enter Try.func45, Try.ntmps45
      go_wp2_with fail
      refine (compare_any A B n m c d l k w H.out H2.out (by omega) (by omega)).mono ?_
      rintro e w1 ⟨rfl, ⟨j, rfl⟩⟩
      rw [← hx, h0]
      clear hx h0
      go_wp2
      go_ret
      exact ⟨by rw [HO2.out, sgn, if_pos (by omega)]; rfl, ⟨j, rfl⟩⟩
  · have HO2 : Hid (orderL l v k u = x) := by rw [HO.out, if_neg h0]; rfl
    have hne : (x != 0) = true := by simpa using h0
    clear h0
    go_enter Try.func45, Try.ntmps45
    go_wp2_with fail
    refine (compare_any A B n m c d l k w H.out H2.out (by omega) (by omega)).mono ?_
    rintro e w1 ⟨rfl, ⟨j, rfl⟩⟩
    rw [← hx]
    clear hx
    go_wp2
    go_ret
    exact ⟨by rw [HO2.out]; rfl, ⟨j, rfl⟩⟩
theorem orderL_range (l k : List Int) (v u : Int) : orderL l v k u = -1 ∨ orderL l v k u = 0 ∨ orderL l v k u = 1 := by
  unfold orderL
  split
  · unfold sgn; repeat' split
    all_goals simp
  · exact cmpL_range l k
end Go.Proofs.Ytadhdimleabljaa
