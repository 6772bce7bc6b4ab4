/- impl.ApplyAll of changes that cannot be made. -/
import Derived.Test.YtpfmmbhbmdbmeaaDoorYA
import Derived.Test.YtpfmmbhbmdbmeaaDoorZI
namespace Go.Proofs.YtpfmmbhbmdbmeaaDoor
open Go.RowKit
set_option linter.unusedVariables false
set_option linter.unusedSimpArgs false
set_option maxRecDepth 100000 in
theorem apply_hit (gm bt n lc m c b0 : Nat) (A LA : Option Addr) (lm gs : List Nat) (M : MF) (l : List Chg) (w : World) (h : MSt w gm bt n LA lc lm M) (ho : w.ownsRow 0 73 1 (.slice A m c) m (ptrV gs)) (hp : Ptrs w b0 gs l) (hl : l.length = m)
    (ha : twice M l = true) (hk : ∀ x ∈ l, ChOk x) (hn : n + 2 * m ≤ 900000) (hcm : 0 ≤ M.come ∧ M.come + m ≤ 900000) (hgn : 0 ≤ M.gone ∧ M.gone + m ≤ 900000) :
    Calls Tryd.prog 26 #[.pointer (some ⟨gm, 0, none⟩), .slice A m c] w (fun E w' => (∃ te pe, E = .returned (.iface te pe)) ∧ Frm (foot gm bt LA lm) w w') := by
  have H := Lib.hid (h.frm (Frm.alloc w (.cells #[.slice A m c] 63)) (fun i _ hi => by cases hi))
  have HO := Lib.hid (ho.alloc (.cells #[.slice A m c] 63))
  have HP : Hid (Ptrs (w.alloc (.cells #[.slice A m c] 63)) b0 gs l) := ⟨hp.1, fun j g x hj hx => ⟨(hp.2 j g x hj hx).1, (hp.2 j g x hj hx).2.alloc _⟩⟩
  have HB : Hid (Blk (w.alloc (.cells #[.slice A m c] 63)) w.heap.size 63 [.slice A m c]) := Blk.new w _ _
  have HL := Lib.hid hl
  have HA := Lib.hid ha
  have HK := Lib.hid hk
  clear h ho hp hl ha hk
  go_enter Tryd.func26, Tryd.ntmps26
  go_wp2_with fail
  refine (applySetHit gm w.heap.size bt n lc m c b0 A LA lm gs M l _ H.out HB.out HO.out HP.out HL.out HA.out HK.out hn hcm hgn).mono ?_
  rintro E w2 ⟨⟨te, pe, rfl⟩, hF3⟩
  have HR : Hid (Frm (foot gm bt LA lm) w w2) := ((Frm.refl (foot gm bt LA lm) w).andAlloc _).trans hF3 (fun i hi => .inl hi)
  clear hF3
  go_wp2
  go_ret
  exact ⟨⟨_, _, rfl⟩, HR.out⟩
set_option maxRecDepth 100000 in
set_option maxHeartbeats 4000000 in
theorem applyAll_hit (A : Option Addr) (m c : Nat) (ls : List (List Chg)) (w : World) (h : Sets w A m ls) (hm : m ≤ 1000) (hN : ls.flatten.length ≤ 100000) (ha : twice ⟨[], 0, 0⟩ ls.flatten = true) (hk : ∀ x ∈ ls.flatten, ChOk x) :
    Calls Tryd.prog 16 #[.slice A m c] w (fun E w' => E = .returned (.tuple #[.agg #[.slice none 0 0, .int .i64 0, .int .i64 0], .agg #[.slice none 0 0, .int .i64 0, .int .i64 0], .bool false]) ∧ Below w.heap.size w w') := by
  have H := Lib.hid h
  have HN := Lib.hid hN
  have HA := Lib.hid ha
  have HK := Lib.hid hk
  have HG2 : Hid (Blk ((w.alloc (.cells #[.slice none 0 0, .int .i64 0, .int .i64 0] 27)).alloc (.cells #[.slice none 0 0, .int .i64 0, .int .i64 0] 27)) w.heap.size 27 [.slice none 0 0, .int .i64 0, .int .i64 0]) := (Blk.new w 27 [.slice none 0 0, .int .i64 0, .int .i64 0]).alloc _
  have HG3 : Hid (Blk ((w.alloc (.cells #[.slice none 0 0, .int .i64 0, .int .i64 0] 27)).alloc (.cells #[.slice none 0 0, .int .i64 0, .int .i64 0] 27)) (w.heap.size + 1) 27 [.slice none 0 0, .int .i64 0, .int .i64 0]) := by
    have h := Blk.new (w.alloc (.cells #[.slice none 0 0, .int .i64 0, .int .i64 0] 27)) 27 [.slice none 0 0, .int .i64 0, .int .i64 0]
    rw [World.size_alloc] at h
    exact h
  have HU : Hid (Below w.heap.size w ((w.alloc (.cells #[.slice none 0 0, .int .i64 0, .int .i64 0] 27)).alloc (.cells #[.slice none 0 0, .int .i64 0, .int .i64 0] 27))) := ((Below.refl _ _).alloc (Nat.le_refl _) _).alloc (by simp) _
  have HUW := HU
  clear h hN ha hk
  go_enter Tryd.func16, Tryd.ntmps16
  go_wp2_with fail
  generalize (w.alloc (.cells #[.slice none 0 0, .int .i64 0, .int .i64 0] 27)).alloc (.cells #[.slice none 0 0, .int .i64 0, .int .i64 0] 27) = w0 at *
  refine (newManifest_any w0).mono ?_
  rintro E w1 ⟨A1, c1, bt1, rfl, hm1, ho1, hb1, hbt1⟩
  have HM1 := Lib.hid hm1
  have HO1 := Lib.hid ho1
  have HBT1 : Hid (w0.heap.size ≤ bt1 ∧ bt1 < w1.heap.size) := ⟨hbt1, hm1.lt⟩
  have HOL1 : Hid (∀ x, (Value.slice A1 0 c1).ownBlock = some x → x < w1.heap.size) := fun x e => (ho1.lt x e).2
  have HU1 : Hid (Below w.heap.size w w1) := HU.out.trans (hb1.mono HU.out.size)
  have HF01 : Hid (Below w0.heap.size w0 w1) := hb1
  replace HG2 := Lib.hid (HG2.out.frm (Frm.of_below hb1) (by simp))
  replace HG3 := Lib.hid (HG3.out.frm (Frm.of_below hb1) (by simp))
  clear hm1 ho1 hb1 hbt1 HU
  go_wp2_with fail
  refine (newManifest_any w1).mono ?_
  rintro E w2 ⟨A2, c2, bt2, rfl, hm2, ho2, hb2, hbt2⟩
  have HM2 := Lib.hid hm2
  have HO2 := Lib.hid ho2
  have HBT2 : Hid (w1.heap.size ≤ bt2 ∧ bt2 < w2.heap.size) := ⟨hbt2, hm2.lt⟩
  have HOL2 : Hid (∀ x, (Value.slice A2 0 c2).ownBlock = some x → w1.heap.size ≤ x ∧ x < w2.heap.size) := fun x e => ho2.lt x e
  have HU2 : Hid (Below w.heap.size w w2) := HU1.out.trans (hb2.mono HU1.out.size)
  replace HM1 := Lib.hid (HM1.out.below hb2 HM1.out.lt)
  replace HO1 : Hid (w2.ownsRow w0.heap.size 115 1 (.slice A1 0 c1) 0 []) := own_frm2 HO1.out (Frm.of_below hb2) (fun x e hi => by cases hi)
  replace HG2 := Lib.hid (HG2.out.frm (Frm.of_below hb2) (by simp))
  replace HG3 := Lib.hid (HG3.out.frm (Frm.of_below hb2) (by simp))
  have HS12 : Hid (w1.heap.size ≤ w2.heap.size) := hb2.size
  clear hm2 ho2 hb2 hbt2 HU1
  go_wp2_with fail
  have HX5 : Hid (Blk ((w2.alloc (.cells #[.slice A1 0 c1, .map (some bt1), .int .i64 0, .int .i64 0] 54)).alloc (.cells #[.slice A2 0 c2, .map (some bt2), .int .i64 0, .int .i64 0] 54)) w2.heap.size 54 [.slice A1 0 c1, .map (some bt1), .int .i64 0, .int .i64 0]) := (Blk.new w2 54 [.slice A1 0 c1, .map (some bt1), .int .i64 0, .int .i64 0]).alloc _
  have HX6 : Hid (Blk ((w2.alloc (.cells #[.slice A1 0 c1, .map (some bt1), .int .i64 0, .int .i64 0] 54)).alloc (.cells #[.slice A2 0 c2, .map (some bt2), .int .i64 0, .int .i64 0] 54)) (w2.heap.size + 1) 54 [.slice A2 0 c2, .map (some bt2), .int .i64 0, .int .i64 0]) := by
    have h := Blk.new (w2.alloc (.cells #[.slice A1 0 c1, .map (some bt1), .int .i64 0, .int .i64 0] 54)) 54 [.slice A2 0 c2, .map (some bt2), .int .i64 0, .int .i64 0]
    rw [World.size_alloc] at h
    exact h
  have HM5 : Hid (MSt ((w2.alloc (.cells #[.slice A1 0 c1, .map (some bt1), .int .i64 0, .int .i64 0] 54)).alloc (.cells #[.slice A2 0 c2, .map (some bt2), .int .i64 0, .int .i64 0] 54)) w2.heap.size bt1 0 A1 c1 [] ⟨[], 0, 0⟩) := mst_new HX5.out ((HM1.out.alloc _).alloc _) ((HO1.out.alloc _).alloc _)
  have HM6 : Hid (MSt ((w2.alloc (.cells #[.slice A1 0 c1, .map (some bt1), .int .i64 0, .int .i64 0] 54)).alloc (.cells #[.slice A2 0 c2, .map (some bt2), .int .i64 0, .int .i64 0] 54)) (w2.heap.size + 1) bt2 0 A2 c2 [] ⟨[], 0, 0⟩) := mst_new HX6.out ((HM2.out.alloc _).alloc _) ((HO2.out.alloc _).alloc _)
  have HS0 : Hid (w.heap.size ≤ w0.heap.size ∧ w0.heap.size ≤ w1.heap.size ∧ w1.heap.size ≤ w2.heap.size) := ⟨HUW.out.size, HF01.out.size, HS12.out⟩
  replace HG2 := Lib.hid ((HG2.out.alloc (.cells #[.slice A1 0 c1, .map (some bt1), .int .i64 0, .int .i64 0] 54)).alloc (.cells #[.slice A2 0 c2, .map (some bt2), .int .i64 0, .int .i64 0] 54))
  replace HG3 := Lib.hid ((HG3.out.alloc (.cells #[.slice A1 0 c1, .map (some bt1), .int .i64 0, .int .i64 0] 54)).alloc (.cells #[.slice A2 0 c2, .map (some bt2), .int .i64 0, .int .i64 0] 54))
  have HU3 : Hid (Below w.heap.size w ((w2.alloc (.cells #[.slice A1 0 c1, .map (some bt1), .int .i64 0, .int .i64 0] 54)).alloc (.cells #[.slice A2 0 c2, .map (some bt2), .int .i64 0, .int .i64 0] 54))) := (HU2.out.alloc HU2.out.size _).alloc (by rw [World.size_alloc]; have := HU2.out.size; omega) _
  have HFO5 : Hid (∀ x ∈ foot w2.heap.size bt1 A1 [], w.heap.size ≤ x) := fun x hx => Nat.le_trans HS0.out.1 (foot_ge (by have := HS0.out; omega) HBT1.out.1 HO1.out x hx)
  have HFO6 : Hid (∀ x ∈ foot (w2.heap.size + 1) bt2 A2 [], w.heap.size ≤ x ∧ x ∉ foot w2.heap.size bt1 A1 []) := fun x hx => by
    have h1 := foot_ge (by have := HS0.out; omega) HBT2.out.1 HO2.out x hx
    refine ⟨by have := HS0.out; omega, fun h2 => ?_⟩
    have h3 := foot_split (c := c1) h2
    have h4 := foot_split (c := c2) hx
    have := HBT1.out
    have := HBT2.out
    have := HS0.out
    rcases h3 with h3 | h3 | h3
    · rcases h4 with h4 | h4 | h4
      · omega
      · omega
      · have := HOL2.out x h4; omega
    · omega
    · have := HOL1.out x h3; omega
  clear HX5 HX6 HM1 HM2 HO1 HO2 HBT1 HBT2 HOL1 HOL2 HU2 HF01 HUW
  generalize ((w2.alloc (.cells #[.slice A1 0 c1, .map (some bt1), .int .i64 0, .int .i64 0] 54)).alloc (.cells #[.slice A2 0 c2, .map (some bt2), .int .i64 0, .int .i64 0] 54)) = w3 at *
  generalize w2.heap.size = g5 at *
  generalize hg6 : g5 + 1 = g6 at *
  generalize hg2 : w.heap.size = g2 at *
  generalize hg3 : g2 + 1 = g3 at *
  rw [← hg2] at HFO5 HFO6 HU3
  have HAA : Hid (twice ⟨[], 0, 0⟩ (ls.drop 0).flatten = true) := HA.out
  have HG23 : Hid (w.heap.size = g2 ∧ g2 + 1 = g3) := ⟨hg2, hg3⟩
  clear hg3
  go_loopg [14] m (fun f v14 wr => ∃ (i n : Nat) (LA : Option Addr) (lc : Nat) (lm : List Nat) (Mi : MF), v14 = .int .i64 i ∧ i ≤ m ∧ Hid (i + f = m) ∧ Hid (n + 2 * (ls.drop i).flatten.length ≤ 200000) ∧ Hid (MSt wr g5 bt1 n LA lc lm Mi) ∧ Hid (twice Mi (ls.drop i).flatten = true) ∧ Hid (0 ≤ Mi.come ∧ Mi.come + (ls.drop i).flatten.length ≤ 100000 ∧ 0 ≤ Mi.gone ∧ Mi.gone + (ls.drop i).flatten.length ≤ 100000)
    ∧ Hid (Below w.heap.size w wr) ∧ Hid (MSt wr g6 bt2 0 A2 c2 [] ⟨[], 0, 0⟩) ∧ Hid (∀ x ∈ foot g5 bt1 LA lm, w.heap.size ≤ x) ∧ Hid (∀ x ∈ foot g6 bt2 A2 [], w.heap.size ≤ x ∧ x ∉ foot g5 bt1 LA lm) ∧ Hid (Blk wr g2 27 [.slice none 0 0, .int .i64 0, .int .i64 0]) ∧ Hid (Blk wr g3 27 [.slice none 0 0, .int .i64 0, .int .i64 0]))
  case atStart => exact ⟨0, 0, A1, c1, [], ⟨[], 0, 0⟩, rfl, Nat.zero_le _, Nat.zero_add _, by have := HN.out; show 0 + 2 * ls.flatten.length ≤ _; omega, HM5.out, HAA.out, by have := HN.out; show (0 : Int) ≤ 0 ∧ (0 : Int) + ls.flatten.length ≤ 100000 ∧ (0 : Int) ≤ 0 ∧ (0 : Int) + ls.flatten.length ≤ 100000; omega, HU3.out, HM6.out, HFO5.out, HFO6.out, HG2.out, HG3.out⟩
  case round =>
    obtain ⟨i, n, LA, lc, lm, Mi, rfl, him, hf, hn, hM, hA, hC, hU, hM6, hF5, hF6, hG2, hG3⟩ := hrel
    by_cases hlt : i < m
    · obtain ⟨ga, oa, l, B, cB, hAe, hl, hcl, hsl⟩ := (H.out.below hU.out).2 i hlt
      subst hAe
      have HSL := Lib.hid hsl
      have hd : (ls.drop i).flatten = l ++ (ls.drop (i + 1)).flatten := by
        have hi := List.getElem?_eq_some_iff.1 hl
        rw [← List.getElem_cons_drop hi.1, hi.2, List.flatten_cons]
      have HLE : Hid ((ls.drop i).flatten.length = l.length + (ls.drop (i + 1)).flatten.length) := by show _ = _; rw [hd, List.length_append]
      have HKL : Hid (∀ x ∈ l, ChOk x) := fun x hx => HK.out x (List.mem_flatten.2 ⟨l, List.mem_of_getElem? hl, hx⟩)
      have hA1 := hA.out
      rw [hd, twice_append] at hA1
      cases hMn : allM Mi l with
      | none =>
        rw [hMn] at hA1
        have HTW : Hid (twice Mi l = true) := hA1
        clear hl hd hA hsl hA1 hMn
        go_wp2_with fail
        refine (givenChanges_any B l.length cB l wr HSL.out (by have := hn.out; have := HLE.out; omega)).mono ?_
        rintro E wg ⟨vg, gs, rfl, hog, hpg, hbg⟩
        obtain ⟨Ag, cg, rfl⟩ := own_form hog
        have HOG := Lib.hid (Joins.ownsRow_le hog (Nat.zero_le _))
        have HPG := Lib.hid hpg
        have HBG := Lib.hid hbg
        clear hog hpg hbg
        go_wp2_with fail
        refine (apply_hit g5 bt1 n lc l.length cg _ Ag LA lm gs Mi l wg (hM.out.below HBG.out) HOG.out HPG.out rfl HTW.out HKL.out (by have := hn.out; have := HLE.out; omega) ⟨hC.out.1, by have := hC.out; have := HLE.out; omega⟩ ⟨hC.out.2.2.1, by have := hC.out; have := HLE.out; omega⟩).mono ?_
        rintro E w4 ⟨⟨te, pe, rfl⟩, hF3⟩
        have HU4 : Hid (Below w.heap.size w w4) := by
          have h1 : Below w.heap.size w wg := hU.out.trans (HBG.out.mono hU.out.size)
          exact h1.trans (frm_below hF3 hF5.out h1.size)
        have HG24 : Hid (Blk w4 g2 27 [.slice none 0 0, .int .i64 0, .int .i64 0]) := by
          have h1 := hG2.out.frm (Frm.of_below HBG.out) (by simp)
          exact h1.frm hF3 ((hM.out.below HBG.out).o.foot_ne h1 (by decide) (by decide))
        have HG34 : Hid (Blk w4 g3 27 [.slice none 0 0, .int .i64 0, .int .i64 0]) := by
          have h1 := hG3.out.frm (Frm.of_below HBG.out) (by simp)
          exact h1.frm hF3 ((hM.out.below HBG.out).o.foot_ne h1 (by decide) (by decide))
        have hne : ¬ g2 = g3 := by have := HG23.out; omega
        have hne2 : ¬ g3 = g2 := fun e => hne e.symm
        have q0 := HG24.out.at_ (i := 0) rfl
        have q1 := HG24.out.at_ (i := 1) rfl
        have q2 := HG24.out.at_ (i := 2) rfl
        have p0 := HG34.out.at_ (i := 0) rfl
        have p1 := HG34.out.at_ (i := 1) rfl
        have p2 := HG34.out.at_ (i := 2) rfl
        have z0 := HG24.out.frozen 0
        have z1 := HG24.out.frozen 1
        have z2 := HG24.out.frozen 2
        have y0 := HG34.out.frozen 0
        have y1 := HG34.out.frozen 1
        have y2 := HG34.out.frozen 2
        have h2w : w.heap.size ≤ g2 := by have := HG23.out; omega
        have h3w : w.heap.size ≤ g3 := by have := HG23.out; omega
        have HZ : Hid (Below w.heap.size w ((((((w4.setCell ⟨g2, 0, none⟩ (.slice none 0 0)).setCell ⟨g2, 1, none⟩ (.int .i64 0)).setCell ⟨g2, 2, none⟩ (.int .i64 0)).setCell ⟨g3, 0, none⟩ (.slice none 0 0)).setCell ⟨g3, 1, none⟩ (.int .i64 0)).setCell ⟨g3, 2, none⟩ (.int .i64 0))) := (((((HU4.out.setCell h2w _).setCell h2w _).setCell h2w _).setCell h3w _).setCell h3w _).setCell h3w _
        clear hF3 HU4 HG24 HG34 HBG HPG HOG HKL HLE hn hM hC hU hM6 hF5 hF6 hG2 hG3 HSL
        go_wp2
        refine bodyPost_ret (v := .tuple #[.agg #[.slice none 0 0, .int .i64 0, .int .i64 0], .agg #[.slice none 0 0, .int .i64 0, .int .i64 0], .bool false]) (by simp [results, Tryd.results16, go_sem, q0, q1, q2, p0, p1, p2, z0, z1, z2, y0, y1, y2, hne, hne2]) rfl ?_
        exact ⟨rfl, HZ.out⟩
      | some Mn =>
      rw [hMn] at hA1
      have hA2 : twice Mn (ls.drop (i + 1)).flatten = true := hA1
      have HMN := Lib.hid hMn
      have HA2 := Lib.hid hA2
      obtain ⟨gkO, rfl⟩ : ∃ q, gk = q + 1 := ⟨gk - 1, by have := hf.out; omega⟩
      clear hl hd hMn hA2 hA hsl
      go_wp2_with fail
      refine (givenChanges_any B l.length cB l wr HSL.out (by have := hn.out; have := HLE.out; omega)).mono ?_
      rintro E wg ⟨vg, gs, rfl, hog, hpg, hbg⟩
      obtain ⟨Ag, cg, rfl⟩ := own_form hog
      have HOG := Lib.hid (Joins.ownsRow_le hog (Nat.zero_le _))
      have HPG := Lib.hid hpg
      have HBG := Lib.hid hbg
      clear hog hpg hbg
      go_wp2_with fail
      refine (apply_any g5 bt1 n lc l.length cg _ Ag LA lm gs Mi Mn l wg (hM.out.below HBG.out) HOG.out HPG.out rfl HMN.out HKL.out (by have := hn.out; have := HLE.out; omega) ⟨hC.out.1, by have := hC.out; have := HLE.out; omega⟩ ⟨hC.out.2.2.1, by have := hC.out; have := HLE.out; omega⟩).mono ?_
      rintro E w4 ⟨rfl, LA3, lc3, lm3, hM3, hF3, hft3⟩
      have hk4 := allM_mem l HMN.out
      have HU4 : Hid (Below w.heap.size w w4) := by
        have h1 : Below w.heap.size w wg := hU.out.trans (HBG.out.mono hU.out.size)
        exact h1.trans (frm_below hF3 hF5.out h1.size)
      have HM4 := Lib.hid hM3
      have HN4 : Hid (n + 2 * l.length + 2 * (ls.drop (i + 1)).flatten.length ≤ 200000) := by have := hn.out; have := HLE.out; show _ ≤ _; omega
      have HC4 : Hid (0 ≤ Mn.come ∧ Mn.come + (ls.drop (i + 1)).flatten.length ≤ 100000 ∧ 0 ≤ Mn.gone ∧ Mn.gone + (ls.drop (i + 1)).flatten.length ≤ 100000) := by have := hC.out; have := HLE.out; show _ ∧ _; omega
      have HZ4 : Hid (MSt w4 g6 bt2 0 A2 c2 [] ⟨[], 0, 0⟩) := (hM6.out.below HBG.out).frm hF3 (fun x hx => (hF6.out x hx).2)
      have HF54 : Hid (∀ x ∈ foot g5 bt1 LA3 lm3, w.heap.size ≤ x) := fun x hx => by
        rcases hft3 x hx with h | h
        · exact hF5.out x h
        · exact Nat.le_trans hU.out.size (Nat.le_trans HBG.out.size h)
      have HF64 : Hid (∀ x ∈ foot g6 bt2 A2 [], w.heap.size ≤ x ∧ x ∉ foot g5 bt1 LA3 lm3) := fun x hx => ⟨(hF6.out x hx).1, fun h2 => by
        rcases hft3 x h2 with h | h
        · exact (hF6.out x hx).2 h
        · have h5 := (hM6.out.below HBG.out).o.lt x hx
          omega⟩
      have HG24 : Hid (Blk w4 g2 27 [.slice none 0 0, .int .i64 0, .int .i64 0]) := by
        have h1 := hG2.out.frm (Frm.of_below HBG.out) (by simp)
        exact h1.frm hF3 ((hM.out.below HBG.out).o.foot_ne h1 (by decide) (by decide))
      have HG34 : Hid (Blk w4 g3 27 [.slice none 0 0, .int .i64 0, .int .i64 0]) := by
        have h1 := hG3.out.frm (Frm.of_below HBG.out) (by simp)
        exact h1.frm hF3 ((hM.out.below HBG.out).o.foot_ne h1 (by decide) (by decide))
      clear hM3 hF3 hft3 hk4 HBG HPG HOG HMN HKL HLE hn hM hC hU hM6 hF5 hF6 hG2 hG3 HSL
      go_wp2
      go_roundg gkO
      case measure => omega
      case rel => exact ⟨i + 1, _, LA3, lc3, lm3, Mn, by go_num, by omega, by have := hf.out; show _ = _; omega, HN4.out, HM4.out, HA2.out, HC4.out, HU4.out, HZ4.out, HF54.out, HF64.out, HG24.out, HG34.out⟩
    · exfalso
      have h1 := hA.out
      rw [List.drop_eq_nil_of_le (by rw [H.out.1]; omega)] at h1
      cases h1
end Go.Proofs.YtpfmmbhbmdbmeaaDoor
