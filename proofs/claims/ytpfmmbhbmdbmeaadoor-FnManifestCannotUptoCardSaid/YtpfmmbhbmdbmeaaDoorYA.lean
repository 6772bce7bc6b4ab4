/- impl.ApplyAll. -/
import Derived.Test.YtpfmmbhbmdbmeaaDoorY9
namespace Go.Proofs.YtpfmmbhbmdbmeaaDoor
open Go.Proofs.YtpfmmbhbmdbmeaaDoorW.PrintLast
open Go.RowKit
set_option linter.unusedVariables false
set_option linter.unusedSimpArgs false
theorem foot_split {gm bt x c : Nat} {A : Option Addr} (h : x ∈ foot gm bt A []) : x = gm ∨ x = bt ∨ (Value.slice A 0 c).ownBlock = some x := by
  unfold foot at h
  rcases List.mem_append.1 h with h | h
  · rcases List.mem_cons.1 h with rfl | h
    · exact .inl rfl
    · rcases List.mem_cons.1 h with rfl | h
      · exact .inr (.inl rfl)
      · cases h
  · cases A with
    | none => cases h
    | some ad =>
      rw [List.mem_singleton] at h
      subst h
      exact .inr (.inr rfl)
theorem own_form {w : World} {base e s n : Nat} {v : Value} {xs : List Value} (h : w.ownsRow base e s v n xs) : ∃ A c, v = .slice A n c := by
  rcases h.2 with ⟨rfl, rfl⟩ | ⟨g, cap, cur, rfl, _⟩
  · exact ⟨_, _, rfl⟩
  · exact ⟨_, _, rfl⟩
theorem frm_below {l : List Nat} {b : Nat} {w w' : World} (hf : Frm l w w') (hl : ∀ x ∈ l, b ≤ x) (hs : b ≤ w.heap.size) : Below b w w' := hf.below hs hl
theorem slc_frm {w w' : World} {A : Option Addr} {n g t : Nat} {l : List Chg} {cs : List Value} (h : Slc w A n l) (hf : Frm [g] w w') (hb : Blk w g t cs) (h5 : cs.length < 5) : Slc w' A n l :=
  ⟨h.1, fun hn => by
    obtain ⟨b, o, e, hc⟩ := h.2 hn
    refine ⟨b, o, e, fun j c hj k u hk => ?_⟩
    refine cell_frm (hc j c hj k u hk) hf ?_
    rw [List.mem_singleton]
    rintro rfl
    have h4 := hc j c hj 4 _ rfl
    have hb' : w.heap[b]? = some (.cells cs.toArray t) := hb
    unfold World.cell? at h4
    rw [hb'] at h4
    have h6 : cs[o + j * 5 + 4]? = some (.int .u32 c.comp) := by simpa using h4
    have := (List.getElem?_eq_some_iff.1 h6).1
    omega⟩
structure AllP (M : MF) (w : World) (E : Ending) (w' : World) : Prop where
  ex : ∃ A1 c1 A2 c2, E = .returned (.tuple #[.agg #[.slice A1 M.l.length c1, .int .i64 M.come, .int .i64 M.gone], .agg #[.slice A2 M.l.length c2, .int .i64 M.l.length, .int .i64 0], .bool true]) ∧ Slc w' A1 M.l.length M.l ∧ Slc w' A2 M.l.length M.l
  bel : Below w.heap.size w w'
set_option maxRecDepth 100000 in
set_option maxHeartbeats 4000000 in
theorem applyAll_any (A : Option Addr) (m c : Nat) (ls : List (List Chg)) (M : MF) (w : World) (h : Sets w A m ls) (hm : m ≤ 1000) (hN : ls.flatten.length ≤ 100000) (ha : allM ⟨[], 0, 0⟩ ls.flatten = some M) (hk : ∀ x ∈ ls.flatten, ChOk x) :
    Calls Tryd.prog 16 #[.slice A m c] w (AllP M w) := by
  have H := Lib.hid h
  have HN := Lib.hid hN
  have HA := Lib.hid ha
  have HK := Lib.hid hk
  have HG2 : Hid (Blk ((w.alloc (.cells #[.slice none 0 0, .int .i64 0, .int .i64 0] 27)).alloc (.cells #[.slice none 0 0, .int .i64 0, .int .i64 0] 27)) w.heap.size 27 [.slice none 0 0, .int .i64 0, .int .i64 0]) := (Blk.new w 27 [.slice none 0 0, .int .i64 0, .int .i64 0]).alloc _
  have HG3 : Hid (Blk ((w.alloc (.cells #[.slice none 0 0, .int .i64 0, .int .i64 0] 27)).alloc (.cells #[.slice none 0 0, .int .i64 0, .int .i64 0] 27)) (w.heap.size + 1) 27 [.slice none 0 0, .int .i64 0, .int .i64 0]) := by
    have h := Blk.new (w.alloc (.cells #[.slice none 0 0, .int .i64 0, .int .i64 0] 27)) 27 [.slice none 0 0, .int .i64 0, .int .i64 0]
    rw [World.size_alloc] at h
    exact h
  have HU : Hid (Below w.heap.size w ((w.alloc (.cells #[.slice none 0 0, .int .i64 0, .int .i64 0] 27)).alloc (.cells #[.slice none 0 0, .int .i64 0, .int .i64 0] 27))) := ((Below.refl _ _).alloc (Nat.le_refl _) _).alloc (by simp) _
  have HUW := HU
  clear h hN ha hk
  go_enter Tryd.func16, Tryd.ntmps16
  go_wp2_with fail
  generalize (w.alloc (.cells #[.slice none 0 0, .int .i64 0, .int .i64 0] 27)).alloc (.cells #[.slice none 0 0, .int .i64 0, .int .i64 0] 27) = w0 at *
  refine (newManifest_any w0).mono ?_
  rintro E w1 ⟨A1, c1, bt1, rfl, hm1, ho1, hb1, hbt1⟩
  have HM1 := Lib.hid hm1
  have HO1 := Lib.hid ho1
  have HBT1 : Hid (w0.heap.size ≤ bt1 ∧ bt1 < w1.heap.size) := ⟨hbt1, hm1.lt⟩
  have HOL1 : Hid (∀ x, (Value.slice A1 0 c1).ownBlock = some x → x < w1.heap.size) := fun x e => (ho1.lt x e).2
  have HU1 : Hid (Below w.heap.size w w1) := HU.out.trans (hb1.mono HU.out.size)
  have HF01 : Hid (Below w0.heap.size w0 w1) := hb1
  replace HG2 := Lib.hid (HG2.out.frm (Frm.of_below hb1) (by simp))
  replace HG3 := Lib.hid (HG3.out.frm (Frm.of_below hb1) (by simp))
  clear hm1 ho1 hb1 hbt1 HU
  go_wp2_with fail
  refine (newManifest_any w1).mono ?_
  rintro E w2 ⟨A2, c2, bt2, rfl, hm2, ho2, hb2, hbt2⟩
  have HM2 := Lib.hid hm2
  have HO2 := Lib.hid ho2
  have HBT2 : Hid (w1.heap.size ≤ bt2 ∧ bt2 < w2.heap.size) := ⟨hbt2, hm2.lt⟩
  have HOL2 : Hid (∀ x, (Value.slice A2 0 c2).ownBlock = some x → w1.heap.size ≤ x ∧ x < w2.heap.size) := fun x e => ho2.lt x e
  have HU2 : Hid (Below w.heap.size w w2) := HU1.out.trans (hb2.mono HU1.out.size)
  replace HM1 := Lib.hid (HM1.out.below hb2 HM1.out.lt)
  replace HO1 : Hid (w2.ownsRow w0.heap.size 115 1 (.slice A1 0 c1) 0 []) := own_frm2 HO1.out (Frm.of_below hb2) (fun x e hi => by cases hi)
  replace HG2 := Lib.hid (HG2.out.frm (Frm.of_below hb2) (by simp))
  replace HG3 := Lib.hid (HG3.out.frm (Frm.of_below hb2) (by simp))
  have HS12 : Hid (w1.heap.size ≤ w2.heap.size) := hb2.size
  clear hm2 ho2 hb2 hbt2 HU1
  go_wp2_with fail
  have HX5 : Hid (Blk ((w2.alloc (.cells #[.slice A1 0 c1, .map (some bt1), .int .i64 0, .int .i64 0] 54)).alloc (.cells #[.slice A2 0 c2, .map (some bt2), .int .i64 0, .int .i64 0] 54)) w2.heap.size 54 [.slice A1 0 c1, .map (some bt1), .int .i64 0, .int .i64 0]) := (Blk.new w2 54 [.slice A1 0 c1, .map (some bt1), .int .i64 0, .int .i64 0]).alloc _
  have HX6 : Hid (Blk ((w2.alloc (.cells #[.slice A1 0 c1, .map (some bt1), .int .i64 0, .int .i64 0] 54)).alloc (.cells #[.slice A2 0 c2, .map (some bt2), .int .i64 0, .int .i64 0] 54)) (w2.heap.size + 1) 54 [.slice A2 0 c2, .map (some bt2), .int .i64 0, .int .i64 0]) := by
    have h := Blk.new (w2.alloc (.cells #[.slice A1 0 c1, .map (some bt1), .int .i64 0, .int .i64 0] 54)) 54 [.slice A2 0 c2, .map (some bt2), .int .i64 0, .int .i64 0]
    rw [World.size_alloc] at h
    exact h
  have HM5 : Hid (MSt ((w2.alloc (.cells #[.slice A1 0 c1, .map (some bt1), .int .i64 0, .int .i64 0] 54)).alloc (.cells #[.slice A2 0 c2, .map (some bt2), .int .i64 0, .int .i64 0] 54)) w2.heap.size bt1 0 A1 c1 [] ⟨[], 0, 0⟩) := mst_new HX5.out ((HM1.out.alloc _).alloc _) ((HO1.out.alloc _).alloc _)
  have HM6 : Hid (MSt ((w2.alloc (.cells #[.slice A1 0 c1, .map (some bt1), .int .i64 0, .int .i64 0] 54)).alloc (.cells #[.slice A2 0 c2, .map (some bt2), .int .i64 0, .int .i64 0] 54)) (w2.heap.size + 1) bt2 0 A2 c2 [] ⟨[], 0, 0⟩) := mst_new HX6.out ((HM2.out.alloc _).alloc _) ((HO2.out.alloc _).alloc _)
  have HS0 : Hid (w.heap.size ≤ w0.heap.size ∧ w0.heap.size ≤ w1.heap.size ∧ w1.heap.size ≤ w2.heap.size) := ⟨HUW.out.size, HF01.out.size, HS12.out⟩
  replace HG2 := Lib.hid ((HG2.out.alloc (.cells #[.slice A1 0 c1, .map (some bt1), .int .i64 0, .int .i64 0] 54)).alloc (.cells #[.slice A2 0 c2, .map (some bt2), .int .i64 0, .int .i64 0] 54))
  replace HG3 := Lib.hid ((HG3.out.alloc (.cells #[.slice A1 0 c1, .map (some bt1), .int .i64 0, .int .i64 0] 54)).alloc (.cells #[.slice A2 0 c2, .map (some bt2), .int .i64 0, .int .i64 0] 54))
  have HU3 : Hid (Below w.heap.size w ((w2.alloc (.cells #[.slice A1 0 c1, .map (some bt1), .int .i64 0, .int .i64 0] 54)).alloc (.cells #[.slice A2 0 c2, .map (some bt2), .int .i64 0, .int .i64 0] 54))) := (HU2.out.alloc HU2.out.size _).alloc (by rw [World.size_alloc]; have := HU2.out.size; omega) _
  have HFO5 : Hid (∀ x ∈ foot w2.heap.size bt1 A1 [], w.heap.size ≤ x) := fun x hx => Nat.le_trans HS0.out.1 (foot_ge (by have := HS0.out; omega) HBT1.out.1 HO1.out x hx)
  have HFO6 : Hid (∀ x ∈ foot (w2.heap.size + 1) bt2 A2 [], w.heap.size ≤ x ∧ x ∉ foot w2.heap.size bt1 A1 []) := fun x hx => by
    have h1 := foot_ge (by have := HS0.out; omega) HBT2.out.1 HO2.out x hx
    refine ⟨by have := HS0.out; omega, fun h2 => ?_⟩
    have h3 := foot_split (c := c1) h2
    have h4 := foot_split (c := c2) hx
    have := HBT1.out
    have := HBT2.out
    have := HS0.out
    rcases h3 with h3 | h3 | h3
    · rcases h4 with h4 | h4 | h4
      · omega
      · omega
      · have := HOL2.out x h4; omega
    · omega
    · have := HOL1.out x h3; omega
  clear HX5 HX6 HM1 HM2 HO1 HO2 HBT1 HBT2 HOL1 HOL2 HU2 HF01 HUW
  generalize ((w2.alloc (.cells #[.slice A1 0 c1, .map (some bt1), .int .i64 0, .int .i64 0] 54)).alloc (.cells #[.slice A2 0 c2, .map (some bt2), .int .i64 0, .int .i64 0] 54)) = w3 at *
  generalize w2.heap.size = g5 at *
  generalize hg6 : g5 + 1 = g6 at *
  generalize hg2 : w.heap.size = g2 at *
  generalize hg3 : g2 + 1 = g3 at *
  rw [← hg2] at HFO5 HFO6 HU3
  have HAA : Hid (allM ⟨[], 0, 0⟩ (ls.drop 0).flatten = some M) := HA.out
  go_loopg [14] m (fun f v14 wr => ∃ (i n : Nat) (LA : Option Addr) (lc : Nat) (lm : List Nat) (Mi : MF), v14 = .int .i64 i ∧ i ≤ m ∧ Hid (i + f = m) ∧ Hid (n + 2 * (ls.drop i).flatten.length ≤ 200000) ∧ Hid (MSt wr g5 bt1 n LA lc lm Mi) ∧ Hid (allM Mi (ls.drop i).flatten = some M) ∧ Hid (0 ≤ Mi.come ∧ Mi.come + (ls.drop i).flatten.length ≤ 100000 ∧ 0 ≤ Mi.gone ∧ Mi.gone + (ls.drop i).flatten.length ≤ 100000)
    ∧ Hid (Below w.heap.size w wr) ∧ Hid (MSt wr g6 bt2 0 A2 c2 [] ⟨[], 0, 0⟩) ∧ Hid (∀ x ∈ foot g5 bt1 LA lm, w.heap.size ≤ x) ∧ Hid (∀ x ∈ foot g6 bt2 A2 [], w.heap.size ≤ x ∧ x ∉ foot g5 bt1 LA lm) ∧ Hid (Blk wr g2 27 [.slice none 0 0, .int .i64 0, .int .i64 0]) ∧ Hid (Blk wr g3 27 [.slice none 0 0, .int .i64 0, .int .i64 0]))
  case atStart => exact ⟨0, 0, A1, c1, [], ⟨[], 0, 0⟩, rfl, Nat.zero_le _, Nat.zero_add _, by have := HN.out; show 0 + 2 * ls.flatten.length ≤ _; omega, HM5.out, HAA.out, by have := HN.out; show (0 : Int) ≤ 0 ∧ (0 : Int) + ls.flatten.length ≤ 100000 ∧ (0 : Int) ≤ 0 ∧ (0 : Int) + ls.flatten.length ≤ 100000; omega, HU3.out, HM6.out, HFO5.out, HFO6.out, HG2.out, HG3.out⟩
  case round =>
    obtain ⟨i, n, LA, lc, lm, Mi, rfl, him, hf, hn, hM, hA, hC, hU, hM6, hF5, hF6, hG2, hG3⟩ := hrel
    by_cases hlt : i < m
    · obtain ⟨ga, oa, l, B, cB, hAe, hl, hcl, hsl⟩ := (H.out.below hU.out).2 i hlt
      subst hAe
      have HSL := Lib.hid hsl
      have hd : (ls.drop i).flatten = l ++ (ls.drop (i + 1)).flatten := by
        have hi := List.getElem?_eq_some_iff.1 hl
        rw [← List.getElem_cons_drop hi.1, hi.2, List.flatten_cons]
      have HLE : Hid ((ls.drop i).flatten.length = l.length + (ls.drop (i + 1)).flatten.length) := by show _ = _; rw [hd, List.length_append]
      have HKL : Hid (∀ x ∈ l, ChOk x) := fun x hx => HK.out x (List.mem_flatten.2 ⟨l, List.mem_of_getElem? hl, hx⟩)
      obtain ⟨Mn, hMn, hA2⟩ : ∃ Mn, allM Mi l = some Mn ∧ allM Mn (ls.drop (i + 1)).flatten = some M := by
        have h1 := hA.out
        rw [hd, allM_append] at h1
        cases hsx : allM Mi l with
        | none => rw [hsx] at h1; cases h1
        | some Mn => rw [hsx] at h1; exact ⟨Mn, rfl, h1⟩
      have HMN := Lib.hid hMn
      have HA2 := Lib.hid hA2
      obtain ⟨gkO, rfl⟩ : ∃ q, gk = q + 1 := ⟨gk - 1, by have := hf.out; omega⟩
      clear hl hd hMn hA2 hA hsl
      go_wp2_with fail
      refine (givenChanges_any B l.length cB l wr HSL.out (by have := hn.out; have := HLE.out; omega)).mono ?_
      rintro E wg ⟨vg, gs, rfl, hog, hpg, hbg⟩
      obtain ⟨Ag, cg, rfl⟩ := own_form hog
      have HOG := Lib.hid (Joins.ownsRow_le hog (Nat.zero_le _))
      have HPG := Lib.hid hpg
      have HBG := Lib.hid hbg
      clear hog hpg hbg
      go_wp2_with fail
      refine (apply_any g5 bt1 n lc l.length cg _ Ag LA lm gs Mi Mn l wg (hM.out.below HBG.out) HOG.out HPG.out rfl HMN.out HKL.out (by have := hn.out; have := HLE.out; omega) ⟨hC.out.1, by have := hC.out; have := HLE.out; omega⟩ ⟨hC.out.2.2.1, by have := hC.out; have := HLE.out; omega⟩).mono ?_
      rintro E w4 ⟨rfl, LA3, lc3, lm3, hM3, hF3, hft3⟩
      have hk4 := allM_mem l HMN.out
      have HU4 : Hid (Below w.heap.size w w4) := by
        have h1 : Below w.heap.size w wg := hU.out.trans (HBG.out.mono hU.out.size)
        exact h1.trans (frm_below hF3 hF5.out h1.size)
      have HM4 := Lib.hid hM3
      have HN4 : Hid (n + 2 * l.length + 2 * (ls.drop (i + 1)).flatten.length ≤ 200000) := by have := hn.out; have := HLE.out; show _ ≤ _; omega
      have HC4 : Hid (0 ≤ Mn.come ∧ Mn.come + (ls.drop (i + 1)).flatten.length ≤ 100000 ∧ 0 ≤ Mn.gone ∧ Mn.gone + (ls.drop (i + 1)).flatten.length ≤ 100000) := by have := hC.out; have := HLE.out; show _ ∧ _; omega
      have HZ4 : Hid (MSt w4 g6 bt2 0 A2 c2 [] ⟨[], 0, 0⟩) := (hM6.out.below HBG.out).frm hF3 (fun x hx => (hF6.out x hx).2)
      have HF54 : Hid (∀ x ∈ foot g5 bt1 LA3 lm3, w.heap.size ≤ x) := fun x hx => by
        rcases hft3 x hx with h | h
        · exact hF5.out x h
        · exact Nat.le_trans hU.out.size (Nat.le_trans HBG.out.size h)
      have HF64 : Hid (∀ x ∈ foot g6 bt2 A2 [], w.heap.size ≤ x ∧ x ∉ foot g5 bt1 LA3 lm3) := fun x hx => ⟨(hF6.out x hx).1, fun h2 => by
        rcases hft3 x h2 with h | h
        · exact (hF6.out x hx).2 h
        · have h5 := (hM6.out.below HBG.out).o.lt x hx
          omega⟩
      have HG24 : Hid (Blk w4 g2 27 [.slice none 0 0, .int .i64 0, .int .i64 0]) := by
        have h1 := hG2.out.frm (Frm.of_below HBG.out) (by simp)
        exact h1.frm hF3 ((hM.out.below HBG.out).o.foot_ne h1 (by decide) (by decide))
      have HG34 : Hid (Blk w4 g3 27 [.slice none 0 0, .int .i64 0, .int .i64 0]) := by
        have h1 := hG3.out.frm (Frm.of_below HBG.out) (by simp)
        exact h1.frm hF3 ((hM.out.below HBG.out).o.foot_ne h1 (by decide) (by decide))
      clear hM3 hF3 hft3 hk4 HBG HPG HOG HMN HKL HLE hn hM hC hU hM6 hF5 hF6 hG2 hG3 HSL
      go_wp2
      go_roundg gkO
      case measure => omega
      case rel => exact ⟨i + 1, _, LA3, lc3, lm3, Mn, by go_num, by omega, by have := hf.out; show _ = _; omega, HN4.out, HM4.out, HA2.out, HC4.out, HU4.out, HZ4.out, HF54.out, HF64.out, HG24.out, HG34.out⟩
    · have hie : i = m := by omega
      subst hie
      have HE : Hid (Mi = M) := by
        have h1 := hA.out
        rw [List.drop_eq_nil_of_le (by rw [H.out.1]; exact Nat.le_refl _)] at h1
        injection h1
      have hge : ¬ ((i : Int) < (i : Int)) := by omega
      have hmm := allM_mem ls.flatten HA.out
      have HGN : Hid (∀ x ∈ M.l, x.gone = false) := fun x hx => (hmm.1 x hx).elim (fun h => by cases h) (fun h => h.2)
      have HCK : Hid (∀ x ∈ M.l, ChOk x) := fun x hx => (hmm.1 x hx).elim (fun h => by cases h) (fun h => HK.out x h.1)
      have HLN : Hid (M.l.length ≤ 100000) := by have h1 : M.l.length ≤ 0 + ls.flatten.length := hmm.2.1; have := HN.out; show _ ≤ _; omega
      have HCM : Hid (n ≤ 200000) := by have := hn.out; show _ ≤ _; omega
      have HSR : Hid (SortedC M.l) := allM_sorted (m := ⟨[], 0, 0⟩) List.Pairwise.nil HA.out
      have HM := hM
      rw [HE.out] at HM
      clear hA hmm hM hC HE
      go_wp2_with fail
      refine (changes_any g5 bt1 n lc LA lm M wr HM.out HGN.out (fun x hx => (HCK.out x hx).id) (by have := HCM.out; omega)).mono ?_
      rintro E wc ⟨Ac, cc, gs, ord, rfl, hoc, hpc, hbc, hmc, hdc⟩
      have hnew := allM_anew HSR.out HGN.out hmc hdc
      have HOC := Lib.hid hoc
      have HPC := Lib.hid hpc
      have HBC := Lib.hid hbc
      have HKC : Hid (∀ x ∈ ord, ChOk x) := fun x hx => HCK.out x ((hmc x).1 hx)
      have HNEW := Lib.hid hnew.1
      have HOL : Hid (ord.length ≤ 100000) := by have := hnew.2; have := HLN.out; show _ ≤ _; omega
      replace HM := Lib.hid (HM.out.below hbc)
      replace hM6 := Lib.hid (hM6.out.below hbc)
      have HUC : Hid (Below w.heap.size w wc) := hU.out.trans (hbc.mono hU.out.size)
      replace hG2 := Lib.hid (hG2.out.frm (Frm.of_below hbc) (by simp))
      replace hG3 := Lib.hid (hG3.out.frm (Frm.of_below hbc) (by simp))
      clear hoc hpc hbc hmc hdc hnew hU
      go_wp2_with fail
      refine (apply_any g6 bt2 0 c2 ord.length cc _ Ac A2 [] gs ⟨[], 0, 0⟩ ⟨M.l, M.l.length, 0⟩ ord wc hM6.out HOC.out HPC.out rfl HNEW.out HKC.out (by have := HOL.out; omega) ⟨Int.le_refl _, by have := HOL.out; show (0 : Int) + ord.length ≤ _; omega⟩ ⟨Int.le_refl _, by have := HOL.out; show (0 : Int) + ord.length ≤ _; omega⟩).mono ?_
      rintro E w4 ⟨rfl, LA4, lc4, lm4, hM4, hF4, hft4⟩
      have HM4 := Lib.hid hM4
      have HM5 : Hid (MSt w4 g5 bt1 n LA lc lm M) := HM.out.frm hF4 (fun x hx hx6 => (hF6.out x hx6).2 hx)
      have HU4 : Hid (Below w.heap.size w w4) := HUC.out.trans (frm_below hF4 (fun x hx => (hF6.out x hx).1) HUC.out.size)
      have HG24 := Lib.hid (hG2.out.frm hF4 (hM6.out.o.foot_ne hG2.out (by decide) (by decide)))
      have HG34 := Lib.hid (hG3.out.frm hF4 (hM6.out.o.foot_ne hG3.out (by decide) (by decide)))
      have HNO : Hid (0 + 2 * ord.length ≤ 1000000) := by have := HOL.out; show _ ≤ _; omega
      clear hM4 hF4 hft4 HM hM6 HUC hG2 hG3 HOC HPC HBC HKC HNEW HOL hF5 hF6 hn
      go_wp2_with fail
      refine start_ (n := 8) (S := fun w' => w'.cell? ⟨g5, 0, none⟩ = some (.slice LA lm.length lc) ∧ w'.cell? ⟨g5, 1, none⟩ = some (.map (some bt1)) ∧ w'.cell? ⟨g5, 2, none⟩ = some (.int .i64 M.come) ∧ w'.cell? ⟨g5, 3, none⟩ = some (.int .i64 M.gone) ∧ w'.cell? ⟨g6, 0, none⟩ = some (.slice LA4 lm4.length lc4) ∧ w'.cell? ⟨g6, 1, none⟩ = some (.map (some bt2)) ∧ w'.cell? ⟨g6, 2, none⟩ = some (.int .i64 M.l.length) ∧ w'.cell? ⟨g6, 3, none⟩ = some (.int .i64 0)) (ds := [5, 6]) #[ff,ff,ff,ff,ff,ff,ff,ff] (by kernel_rfl) rfl rfl (⟨HM5.out.o.man.at_ rfl, HM5.out.o.man.at_ rfl, HM5.out.o.man.at_ rfl, HM5.out.o.man.at_ rfl, HM4.out.o.man.at_ rfl, HM4.out.o.man.at_ rfl, HM4.out.o.man.at_ rfl, HM4.out.o.man.at_ rfl⟩) (fun hHeld => ?_)
      replace HM5 := Lib.hid (HM5.out.frm (Frm.refl [] w4).drew (fun _ _ hi => by cases hi))
      replace HM4 := Lib.hid (HM4.out.frm (Frm.refl [] w4).drew (fun _ _ hi => by cases hi))
      replace HU4 := Lib.hid HU4.out.drew
      replace HG24 := Lib.hid (HG24.out.frm (Frm.refl [] w4).drew (by simp))
      replace HG34 := Lib.hid (HG34.out.frm (Frm.refl [] w4).drew (by simp))
      generalize w4.drew = wd at *
      refine take_ (i := 0) (N := some 28) (v := ?_) (a' := ?_) #[tt,ff,ff,ff,ff,ff,ff,ff] rfl rfl (by kernel_rfl) (fun _ _ _ h => h) (Or.inl ⟨by rfl, ?_⟩) hHeld ?_ ?_; rotate_left; (rintro w' ⟨a0, a1, a2, a3, b0, b1, b2, b3⟩; go_simp; with_reducible rfl); rotate_left; (simp only [Act.put, List.setIfInBounds_toArray, List.set_cons_zero, List.set_cons_succ, i64_w, i32_w]; rfl)
      refine take_ (i := 2) (N := some 30) (v := ?_) (a' := ?_) #[tt,ff,tt,ff,ff,ff,ff,ff] rfl rfl (by kernel_rfl) (fun _ _ _ h => h) (Or.inl ⟨by rfl, ?_⟩) hHeld ?_ ?_; rotate_left; (rintro w' ⟨a0, a1, a2, a3, b0, b1, b2, b3⟩; go_simp; with_reducible rfl); rotate_left; (simp only [Act.put, List.setIfInBounds_toArray, List.set_cons_zero, List.set_cons_succ, i64_w, i32_w]; rfl)
      refine pure_ (i := 4) (N := some 32) (v := ?_) (a' := ?_) #[tt,ff,tt,ff,tt,ff,ff,ff] rfl rfl (by kernel_rfl) (fun _ _ _ h => h) (Or.inl ⟨by rfl, ?_⟩) ?_ ?_; rotate_left; (intro w'; go_simp; with_reducible rfl); rotate_left; (simp only [Act.put, List.setIfInBounds_toArray, List.set_cons_zero, List.set_cons_succ, i64_w, i32_w]; rfl)
      refine one_ (i := 1) (N := some 29) #[tt,tt,tt,ff,tt,ff,ff,ff] rfl rfl (by kernel_rfl) (by decide) (fun K hK => ?_); refine goes_ Tryd.func22 (by kernel_rfl) rfl #[.agg #[.slice LA lm.length lc, .map (some bt1), .int .i64 M.come, .int .i64 M.gone]] (by rfl) rfl rfl (by (try simp only [List.map_toArray, List.map_cons, List.map_nil]); first | done | rfl) ?_
      refine (manifestOf_any bt1 n lm.length lc LA M.come M.gone M.l wd HM5.out.o.tab HM5.out.srt (fun x hx => ⟨(HM5.out.lvl x hx).1, (HM5.out.lvl x hx).2.2⟩) HGN.out (fun x hx => (HCK.out x hx).id) (by have := HCM.out; omega)).mono ?_
      rintro E wa ⟨⟨Ax, cx, rfl, hsx⟩, hbx⟩
      refine ⟨_, rfl, ?_⟩
      refine hK.out _ _ (⟨cell_belM hHeld.1 hbx, cell_belM hHeld.2.1 hbx, cell_belM hHeld.2.2.1 hbx, cell_belM hHeld.2.2.2.1 hbx, cell_belM hHeld.2.2.2.2.1 hbx, cell_belM hHeld.2.2.2.2.2.1 hbx, cell_belM hHeld.2.2.2.2.2.2.1 hbx, cell_belM hHeld.2.2.2.2.2.2.2 hbx⟩) (fun hHeld => ?_); clear hK K; refine norm_ (a' := ?_) ?_ ?_; rotate_left; (show Act.put _ (some 29) _ = _; simp only [Act.put, List.setIfInBounds_toArray, List.set_cons_zero, List.set_cons_succ, i64_w, i32_w]; rfl)
      have HSX := Lib.hid hsx
      replace HM4 := Lib.hid (HM4.out.below hbx)
      replace HU4 : Hid (Below w.heap.size w wa) := HU4.out.trans (hbx.mono HU4.out.size)
      replace HG24 := Lib.hid (HG24.out.frm (Frm.of_below hbx) (by simp))
      replace HG34 := Lib.hid (HG34.out.frm (Frm.of_below hbx) (by simp))
      clear hsx hbx HM5
      refine one_ (i := 3) (N := some 31) #[tt,tt,tt,tt,tt,ff,ff,ff] rfl rfl (by kernel_rfl) (by decide) (fun K hK => ?_); refine goes_ Tryd.func22 (by kernel_rfl) rfl #[.agg #[.slice LA4 lm4.length lc4, .map (some bt2), .int .i64 M.l.length, .int .i64 0]] (by rfl) rfl rfl (by (try simp only [List.map_toArray, List.map_cons, List.map_nil]); first | done | rfl) ?_
      refine (manifestOf_any bt2 (0 + 2 * ord.length) lm4.length lc4 LA4 M.l.length 0 M.l wa HM4.out.o.tab HM4.out.srt (fun x hx => ⟨(HM4.out.lvl x hx).1, (HM4.out.lvl x hx).2.2⟩) HGN.out (fun x hx => (HCK.out x hx).id) HNO.out).mono ?_
      rintro E wb ⟨⟨Ay, cy, rfl, hsy⟩, hby⟩
      refine ⟨_, rfl, ?_⟩
      refine hK.out _ _ (⟨cell_belM hHeld.1 hby, cell_belM hHeld.2.1 hby, cell_belM hHeld.2.2.1 hby, cell_belM hHeld.2.2.2.1 hby, cell_belM hHeld.2.2.2.2.1 hby, cell_belM hHeld.2.2.2.2.2.1 hby, cell_belM hHeld.2.2.2.2.2.2.1 hby, cell_belM hHeld.2.2.2.2.2.2.2 hby⟩) (fun hHeld => ?_); clear hK K; refine norm_ (a' := ?_) ?_ ?_; rotate_left; (show Act.put _ (some 31) _ = _; simp only [Act.put, List.setIfInBounds_toArray, List.set_cons_zero, List.set_cons_succ, i64_w, i32_w]; rfl)
      have HSY := Lib.hid hsy
      replace HSX := Lib.hid (HSX.out.below hby)
      replace HU4 : Hid (Below w.heap.size w wb) := HU4.out.trans (hby.mono HU4.out.size)
      replace HG24 := Lib.hid (HG24.out.frm (Frm.of_below hby) (by simp))
      replace HG34 := Lib.hid (HG34.out.frm (Frm.of_below hby) (by simp))
      clear hsy hby HM4 hHeld
      have q0 := HG24.out.at_ (i := 0) rfl
      have q1 := HG24.out.at_ (i := 1) rfl
      have q2 := HG24.out.at_ (i := 2) rfl
      have f0 := HG24.out.frozen 0
      have f1 := HG24.out.frozen 1
      have f2 := HG24.out.frozen 2
      refine last_ (i := 5) (N := none) #[tt,tt,tt,tt,tt,tt,ff,ff] rfl rfl (by kernel_rfl) (by decide) (fun K hK => ?_)
      refine skip_ (w1 := ((wb.setCell ⟨g2, 0, none⟩ (.slice Ax M.l.length cx)).setCell ⟨g2, 1, none⟩ (.int .i64 M.come)).setCell ⟨g2, 2, none⟩ (.int .i64 M.gone)) (by rfl) rfl ?_ ?_
      · simp [go_sem, q0, q1, q2, f0, f1, f2]
      refine hK.out _ _ ?_; clear hK K
      clear q0 q1 q2 f0 f1 f2
      have hfr2 : Frm [g2] wb (((wb.setCell ⟨g2, 0, none⟩ (.slice Ax M.l.length cx)).setCell ⟨g2, 1, none⟩ (.int .i64 M.come)).setCell ⟨g2, 2, none⟩ (.int .i64 M.gone)) := (((Frm.refl [g2] wb).andSet _ _ (.inl (by simp))).andSet _ _ (.inl (by simp))).andSet _ _ (.inl (by simp))
      have HG2x : Hid (Blk (((wb.setCell ⟨g2, 0, none⟩ (.slice Ax M.l.length cx)).setCell ⟨g2, 1, none⟩ (.int .i64 M.come)).setCell ⟨g2, 2, none⟩ (.int .i64 M.gone)) g2 27 [.slice Ax M.l.length cx, .int .i64 M.come, .int .i64 M.gone]) := ((HG24.out.set_ 0 _).set_ 1 _).set_ 2 _
      replace HG34 := Lib.hid (HG34.out.frm hfr2 (by rw [List.mem_singleton]; omega))
      replace HU4 : Hid (Below w.heap.size w (((wb.setCell ⟨g2, 0, none⟩ (.slice Ax M.l.length cx)).setCell ⟨g2, 1, none⟩ (.int .i64 M.come)).setCell ⟨g2, 2, none⟩ (.int .i64 M.gone))) := HU4.out.trans (frm_below hfr2 (fun x hx => by rw [List.mem_singleton] at hx; omega) HU4.out.size)
      replace HSX := Lib.hid (slc_frm HSX.out hfr2 HG24.out (by decide))
      replace HSY := Lib.hid (slc_frm HSY.out hfr2 HG24.out (by decide))
      clear hfr2 HG24
      generalize ((wb.setCell ⟨g2, 0, none⟩ (.slice Ax M.l.length cx)).setCell ⟨g2, 1, none⟩ (.int .i64 M.come)).setCell ⟨g2, 2, none⟩ (.int .i64 M.gone) = we at *
      have q0 := HG34.out.at_ (i := 0) rfl
      have q1 := HG34.out.at_ (i := 1) rfl
      have q2 := HG34.out.at_ (i := 2) rfl
      have f0 := HG34.out.frozen 0
      have f1 := HG34.out.frozen 1
      have f2 := HG34.out.frozen 2
      refine last_ (i := 6) (N := none) #[tt,tt,tt,tt,tt,tt,tt,ff] rfl rfl (by kernel_rfl) (by decide) (fun K hK => ?_)
      refine skip_ (w1 := ((we.setCell ⟨g3, 0, none⟩ (.slice Ay M.l.length cy)).setCell ⟨g3, 1, none⟩ (.int .i64 M.l.length)).setCell ⟨g3, 2, none⟩ (.int .i64 0)) (by rfl) rfl ?_ ?_
      · simp [go_sem, q0, q1, q2, f0, f1, f2]
      refine hK.out _ _ ?_; clear hK K
      clear q0 q1 q2 f0 f1 f2
      have hfr3 : Frm [g3] we (((we.setCell ⟨g3, 0, none⟩ (.slice Ay M.l.length cy)).setCell ⟨g3, 1, none⟩ (.int .i64 M.l.length)).setCell ⟨g3, 2, none⟩ (.int .i64 0)) := (((Frm.refl [g3] we).andSet _ _ (.inl (by simp))).andSet _ _ (.inl (by simp))).andSet _ _ (.inl (by simp))
      have HG3x : Hid (Blk (((we.setCell ⟨g3, 0, none⟩ (.slice Ay M.l.length cy)).setCell ⟨g3, 1, none⟩ (.int .i64 M.l.length)).setCell ⟨g3, 2, none⟩ (.int .i64 0)) g3 27 [.slice Ay M.l.length cy, .int .i64 M.l.length, .int .i64 0]) := ((HG34.out.set_ 0 _).set_ 1 _).set_ 2 _
      replace HG2x := Lib.hid (HG2x.out.frm hfr3 (by rw [List.mem_singleton]; omega))
      replace HU4 : Hid (Below w.heap.size w (((we.setCell ⟨g3, 0, none⟩ (.slice Ay M.l.length cy)).setCell ⟨g3, 1, none⟩ (.int .i64 M.l.length)).setCell ⟨g3, 2, none⟩ (.int .i64 0))) := HU4.out.trans (frm_below hfr3 (fun x hx => by rw [List.mem_singleton] at hx; omega) HU4.out.size)
      replace HSX := Lib.hid (slc_frm HSX.out hfr3 HG34.out (by decide))
      replace HSY := Lib.hid (slc_frm HSY.out hfr3 HG34.out (by decide))
      clear hfr3 HG34
      generalize ((we.setCell ⟨g3, 0, none⟩ (.slice Ay M.l.length cy)).setCell ⟨g3, 1, none⟩ (.int .i64 M.l.length)).setCell ⟨g3, 2, none⟩ (.int .i64 0) = wz at *
      refine pure_ (i := 7) (N := some 4) (v := ?_) (a' := ?_) #[tt,tt,tt,tt,tt,tt,tt,tt] rfl rfl (by kernel_rfl) (fun _ _ _ h => h) (Or.inl ⟨by rfl, ?_⟩) ?_ ?_; rotate_left; (intro w'; go_simp; with_reducible rfl); rotate_left; (simp only [Act.put, List.setIfInBounds_toArray, List.set_cons_zero, List.set_cons_succ, i64_w, i32_w]; rfl)
      refine done_ (by kernel_rfl) ?_
      have q0 := HG2x.out.at_ (i := 0) rfl
      have q1 := HG2x.out.at_ (i := 1) rfl
      have q2 := HG2x.out.at_ (i := 2) rfl
      have r0 := HG3x.out.at_ (i := 0) rfl
      have r1 := HG3x.out.at_ (i := 1) rfl
      have r2 := HG3x.out.at_ (i := 2) rfl
      go_wp2
      refine bodyPost_ret (v := .tuple #[.agg #[.slice Ax M.l.length cx, .int .i64 M.come, .int .i64 M.gone], .agg #[.slice Ay M.l.length cy, .int .i64 M.l.length, .int .i64 0], .bool true]) (by simp [results, Tryd.results16, go_sem, q0, q1, q2, r0, r1, r2]) rfl ?_
      exact ⟨⟨Ax, cx, Ay, cy, rfl, HSX.out, HSY.out⟩, HU4.out⟩
end Go.Proofs.YtpfmmbhbmdbmeaaDoor
