/- Changes that are made together. -/
import Derived.Test.YtpfmmbhbmdbmeaaDoorY3
namespace Go.Proofs.YtpfmmbhbmdbmeaaDoor
open Go.RowKit
set_option linter.unusedVariables false
set_option linter.unusedSimpArgs false
theorem MSo.foot_ne {w : World} {gm bt n lc g t : Nat} {LA : Option Addr} {lm : List Nat} {F : Int → Option Value} {come gone : Int} {cs : List Value} (h : MSo w gm bt n LA lc lm F come gone) (hb : Blk w g t cs) (h1 : t ≠ 54) (h2 : t ≠ 115) : g ∉ foot gm bt LA lm := fun hi => by
  unfold foot at hi
  rcases List.mem_append.1 hi with hi | hi
  · rcases List.mem_cons.1 hi with rfl | hi
    · exact blk_ne hb h.man h1 rfl
    · rcases List.mem_cons.1 hi with rfl | hi
      · exact h.tab.ne_blk hb rfl
      · obtain ⟨f, hf⟩ := h.sets g hi
        exact hf.ne_blk hb rfl
  · cases hL : LA with
    | none => rw [hL] at hi; cases hi
    | some ad =>
      rw [hL, List.mem_singleton] at hi
      have := own_ne h.lev hb h2
      rw [hL] at this
      exact this (by rw [hi]; rfl)
theorem MSo.foot_own {w : World} {gm bt n lc base e s k : Nat} {LA : Option Addr} {lm : List Nat} {F : Int → Option Value} {come gone : Int} {v : Value} {xs : List Value} (h : MSo w gm bt n LA lc lm F come gone) (ho : w.ownsRow base e s v k xs) (h1 : e ≠ 54) (h2 : e ≠ 115) : ∀ g, v.ownBlock = some g → g ∉ foot gm bt LA lm := fun g hg => by
  rcases ho.2 with ⟨rfl, _⟩ | ⟨b, cap, cur, rfl, _, hh, _⟩
  · cases hg
  · simp only [Value.ownBlock, Option.some.injEq] at hg
    subst hg
    exact h.foot_ne (cs := cur.toList) (show w.heap[b]? = _ by simpa using hh) h1 h2
theorem stepM_come {m m' : MF} {c : Chg} (h : stepM m c = some m') : m'.come ≤ m.come + 1 ∧ m.come ≤ m'.come ∧ m'.gone ≤ m.gone + 1 ∧ m.gone ≤ m'.gone := by
  unfold stepM at h
  split at h
  · injection h with h
    subst h
    cases c.gone
    · exact ⟨Int.le_refl _, by show _ ≤ m.come + 1; omega, by show m.gone ≤ _; omega, Int.le_refl _⟩
    · exact ⟨by show m.come ≤ _; omega, Int.le_refl _, Int.le_refl _, by show _ ≤ m.gone + 1; omega⟩
  · cases h
structure ChOk (c : Chg) : Prop where
  l0 : 0 ≤ c.level
  l6 : c.level ≤ 6
  id : (Lit.int .u64 c.id).wf = true
/-- One change, whichever. -/
theorem applyOne (gm gc bt n lc : Nat) (LA : Option Addr) (lm : List Nat) (M M' : MF) (c : Chg) (w : World) (h : MSt w gm bt n LA lc lm M) (hc : Blk w gc 76 c.row) (hs : stepM M c = some M') (hk : ChOk c) (hn : n ≤ 1000000) (hcm : 0 ≤ M.come ∧ M.come ≤ 1000000) (hgn : 0 ≤ M.gone ∧ M.gone ≤ 1000000) :
    Calls Tryd.prog 45 #[.pointer (some ⟨gm, 0, none⟩), .pointer (some ⟨gc, 0, none⟩)] w (AppP gm bt (n + 2) LA lm M' w) := by
  unfold stepM at hs
  split at hs
  · rename_i hh
    injection hs with hs
    subst hs
    cases hg : c.gone with
    | false =>
      rw [hg] at hh
      exact applyCreate gm gc bt n lc LA lm M c w h hc hg hh hk.l0 hk.l6 hk.id hn hcm
    | true =>
      rw [hg] at hh
      exact applyDelete gm gc bt n lc LA lm M c w h hc hg hh hk.id hn hgn
  · cases hs
def AppsP (gm bt n : Nat) (LA : Option Addr) (lm : List Nat) (M : MF) (w : World) (E : Ending) (w' : World) : Prop := E = .returned .nilIface ∧ ∃ LA2 lc2 lm2, MSt w' gm bt n LA2 lc2 lm2 M ∧ Frm (foot gm bt LA lm) w w' ∧ ∀ i ∈ foot gm bt LA2 lm2, i ∈ foot gm bt LA lm ∨ w.heap.size ≤ i
set_option maxRecDepth 100000 in
set_option maxHeartbeats 4000000 in
theorem applySet (gm gs0 bt n lc m c b0 : Nat) (A LA : Option Addr) (lm gs : List Nat) (M M' : MF) (l : List Chg) (w : World) (h : MSt w gm bt n LA lc lm M) (hs : Blk w gs0 63 [.slice A m c]) (ho : w.ownsRow 0 73 1 (.slice A m c) m (ptrV gs)) (hp : Ptrs w b0 gs l) (hl : l.length = m)
    (ha : allM M l = some M') (hk : ∀ x ∈ l, ChOk x) (hn : n + 2 * m ≤ 900000) (hcm : 0 ≤ M.come ∧ M.come + m ≤ 900000) (hgn : 0 ≤ M.gone ∧ M.gone + m ≤ 900000) :
    Calls Tryd.prog 34 #[.pointer (some ⟨gm, 0, none⟩), .pointer (some ⟨gs0, 0, none⟩)] w (AppsP gm bt (n + 2 * m) LA lm M' w) := by
  have H := Lib.hid h
  have HS := Lib.hid hs
  have HO := Lib.hid ho
  have HP := Lib.hid hp
  have HL := Lib.hid hl
  have HA := Lib.hid ha
  have HK := Lib.hid hk
  have HCM := Lib.hid (And.intro hcm hgn)
  have s0 : w.cell? ⟨gs0, 0, none⟩ = some (.slice A m c) := hs.at_ rfl
  have HNS := Lib.hid (h.o.foot_ne hs (by decide) (by decide))
  have HNO := Lib.hid (h.o.foot_own ho (by decide) (by decide))
  have HNP : Hid (∀ (j g : Nat) (x : Chg), gs[j]? = some g → l[j]? = some x → g ∉ foot gm bt LA lm) := fun j g x hj hx => h.o.foot_ne (hp.2 j g x hj hx).2 (by decide) (by decide)
  clear h hs ho hp hl ha hk hcm hgn
  go_enter Tryd.func34, Tryd.ntmps34
  go_wp2
  go_loopg [13] m (fun f v13 wr => ∃ (i : Nat) (LA2 : Option Addr) (lc2 : Nat) (lm2 : List Nat) (Mi : MF), v13 = .int .i64 i ∧ i ≤ m ∧ Hid (i + f = m) ∧ Hid (MSt wr gm bt (n + 2 * i) LA2 lc2 lm2 Mi) ∧ Hid (allM Mi (l.drop i) = some M') ∧ Hid (0 ≤ Mi.come ∧ Mi.come ≤ M.come + i ∧ 0 ≤ Mi.gone ∧ Mi.gone ≤ M.gone + i) ∧ Hid (Frm (foot gm bt LA lm) w wr) ∧ Hid (∀ x ∈ foot gm bt LA2 lm2, x ∈ foot gm bt LA lm ∨ w.heap.size ≤ x))
  case atStart => exact ⟨0, LA, lc, lm, M, rfl, Nat.zero_le _, by simp [Hid], H.out, HA.out, ⟨HCM.out.1.1, by omega, HCM.out.2.1, by omega⟩, Frm.refl _ _, fun x hx => .inl hx⟩
  case round =>
    obtain ⟨i, LA2, lc2, lm2, Mi, rfl, him, hf, hM, hA, hC, hF, hft⟩ := hrel
    by_cases hlt : i < m
    · obtain ⟨x, hx⟩ : ∃ x, l[i]? = some x := ⟨_, List.getElem?_eq_getElem (by have := HL.out; omega)⟩
      obtain ⟨g, hg⟩ : ∃ g, gs[i]? = some g := ⟨_, List.getElem?_eq_getElem (by have := HP.out.1; have := HL.out; omega)⟩
      have hgb := (HP.out.2 i g x hg hx).2.frm hF.out (HNP.out i g x hg hx)
      have hor := own_frm2 HO.out hF.out HNO.out
      obtain ⟨ga, cur, hAe, _, _, _, _, _⟩ := own_blk hor (by omega)
      subst hAe
      have ca : wr.cell? ⟨ga, i, none⟩ = some (.pointer (some ⟨g, 0, none⟩)) := by
        rw [hor.cellAt i (by omega), ptrV, List.getElem?_map, hg]
        rfl
      have hd : l.drop i = x :: l.drop (i + 1) := by
        have hi := List.getElem?_eq_some_iff.1 hx
        rw [← List.getElem_cons_drop hi.1, hi.2]
      obtain ⟨Mn, hMn⟩ : ∃ Mn, stepM Mi x = some Mn := by
        have h1 := hA.out
        rw [hd] at h1
        change (stepM Mi x).bind (fun m' => allM m' (l.drop (i + 1))) = some M' at h1
        cases hsx : stepM Mi x with
        | none => rw [hsx] at h1; cases h1
        | some Mn => exact ⟨Mn, rfl⟩
      have HAN : Hid (allM Mn (l.drop (i + 1)) = some M') := by
        have h1 := hA.out
        rw [hd] at h1
        change (stepM Mi x).bind (fun m' => allM m' (l.drop (i + 1))) = some M' at h1
        rw [hMn] at h1
        exact h1
      have HMN := Lib.hid hMn
      have HX := Lib.hid (HK.out x (List.mem_of_getElem? hx))
      have HGB := Lib.hid hgb
      obtain ⟨gkO, rfl⟩ : ∃ q, gk = q + 1 := ⟨gk - 1, by have := hf.out; omega⟩
      clear hx hg hgb hor hd hMn hA
      go_wp2_with fail
      refine (applyOne gm g bt (n + 2 * i) lc2 LA2 lm2 Mi Mn x wr hM.out HGB.out HMN.out HX.out (by omega) ⟨hC.out.1, by have := hC.out.2.1; have := HCM.out; omega⟩ ⟨hC.out.2.2.1, by have := hC.out.2.2.2; have := HCM.out; omega⟩).mono ?_
      rintro E w2 ⟨rfl, LA3, lc3, lm3, hM3, hF3, hft3⟩
      have h4 := stepM_come HMN.out
      have HC3 : Hid (0 ≤ Mn.come ∧ Mn.come ≤ M.come + (i + 1 : Nat) ∧ 0 ≤ Mn.gone ∧ Mn.gone ≤ M.gone + (i + 1 : Nat)) := by have := hC.out; show _ ∧ _; omega
      have HM3 := Lib.hid hM3
      have HF3 : Hid (Frm (foot gm bt LA lm) w w2) := hF.out.trans hF3 hft.out
      have HFT3 : Hid (∀ x ∈ foot gm bt LA3 lm3, x ∈ foot gm bt LA lm ∨ w.heap.size ≤ x) := fun y hy => by
        rcases hft3 y hy with h5 | h5
        · exact hft.out y h5
        · exact .inr (Nat.le_trans hF.out.size h5)
      clear hM3 hF3 hft3 h4 hM hF hft hC HMN HGB
      go_wp2
      go_roundg gkO
      case measure => omega
      case rel => exact ⟨i + 1, LA3, lc3, lm3, Mn, by go_num, by omega, by have := hf.out; show _ = _; omega, HM3.out, HAN.out, HC3.out, HF3.out, HFT3.out⟩
    · have hie : i = m := by omega
      subst hie
      have HE : Hid (Mi = M') := by
        have h1 := hA.out
        rw [List.drop_eq_nil_of_le (by rw [HL.out]; exact Nat.le_refl _)] at h1
        injection h1
      have hge : ¬ ((i : Int) < (i : Int)) := by omega
      clear hA
      go_wp2
      go_ret
      exact ⟨rfl, LA2, lc2, lm2, by rw [← HE.out]; exact hM.out, hF.out, hft.out⟩
set_option maxRecDepth 100000 in
theorem apply_any (gm bt n lc m c b0 : Nat) (A LA : Option Addr) (lm gs : List Nat) (M M' : MF) (l : List Chg) (w : World) (h : MSt w gm bt n LA lc lm M) (ho : w.ownsRow 0 73 1 (.slice A m c) m (ptrV gs)) (hp : Ptrs w b0 gs l) (hl : l.length = m)
    (ha : allM M l = some M') (hk : ∀ x ∈ l, ChOk x) (hn : n + 2 * m ≤ 900000) (hcm : 0 ≤ M.come ∧ M.come + m ≤ 900000) (hgn : 0 ≤ M.gone ∧ M.gone + m ≤ 900000) :
    Calls Tryd.prog 26 #[.pointer (some ⟨gm, 0, none⟩), .slice A m c] w (AppsP gm bt (n + 2 * m) LA lm M' w) := by
  have H := Lib.hid (h.frm (Frm.alloc w (.cells #[.slice A m c] 63)) (fun i _ hi => by cases hi))
  have HO := Lib.hid (ho.alloc (.cells #[.slice A m c] 63))
  have HP : Hid (Ptrs (w.alloc (.cells #[.slice A m c] 63)) b0 gs l) := ⟨hp.1, fun j g x hj hx => ⟨(hp.2 j g x hj hx).1, (hp.2 j g x hj hx).2.alloc _⟩⟩
  have HB : Hid (Blk (w.alloc (.cells #[.slice A m c] 63)) w.heap.size 63 [.slice A m c]) := Blk.new w _ _
  have HL := Lib.hid hl
  have HA := Lib.hid ha
  have HK := Lib.hid hk
  clear h ho hp hl ha hk
  go_enter Tryd.func26, Tryd.ntmps26
  go_wp2_with fail
  refine (applySet gm w.heap.size bt n lc m c b0 A LA lm gs M M' l _ H.out HB.out HO.out HP.out HL.out HA.out HK.out hn hcm hgn).mono ?_
  rintro E w2 ⟨rfl, LA3, lc3, lm3, hM3, hF3, hft3⟩
  have HR : Hid (AppsP gm bt (n + 2 * m) LA lm M' w (.returned .nilIface) w2) := ⟨rfl, LA3, lc3, lm3, hM3, ((Frm.refl (foot gm bt LA lm) w).andAlloc _).trans hF3 (fun i hi => .inl hi), fun i hi => (hft3 i hi).imp id (fun h5 => by rw [World.size_alloc] at h5; omega)⟩
  clear hM3 hF3 hft3
  go_wp2
  go_ret
  exact HR.out
end Go.Proofs.YtpfmmbhbmdbmeaaDoor
