/- Changes that cannot be made. -/
import Derived.Test.YtpfmmbhbmdbmeaaDoorZF
namespace Go.Proofs.YtpfmmbhbmdbmeaaDoor
open Go.RowKit
set_option linter.unusedVariables false
set_option linter.unusedSimpArgs false
/-- Whether the first change that cannot be made is one by which a table comes. -/
def twice : MF → List Chg → Bool
  | _, [] => false
  | m, c :: r => match stepM m c with
    | some m' => twice m' r
    | none => !c.gone
theorem twice_append : ∀ (a b : List Chg) (m : MF), twice m (a ++ b) = match allM m a with
    | some m' => twice m' b
    | none => twice m a := by
  intro a
  induction a with
  | nil => intro b m; rfl
  | cons c r ih =>
    intro b m
    show (match stepM m c with | some m' => twice m' (r ++ b) | none => !c.gone) = match (stepM m c).bind (fun m' => allM m' r) with | some m' => twice m' b | none => (match stepM m c with | some m' => twice m' r | none => !c.gone)
    cases hs : stepM m c with
    | none => rfl
    | some m' => simp only [Option.bind_some]; exact ih b m'
theorem twice_split : ∀ (ls : List (List Chg)) (m : MF), twice m ls.flatten = true → ∃ k x mk, ls[k]? = some x ∧ allM m (ls.take k).flatten = some mk ∧ twice mk x = true := by
  intro ls
  induction ls with
  | nil => intro m h; cases h
  | cons a r ih =>
    intro m h
    rw [List.flatten_cons, twice_append] at h
    cases hs : allM m a with
    | none => rw [hs] at h; exact ⟨0, a, m, rfl, rfl, h⟩
    | some m' =>
      rw [hs] at h
      obtain ⟨k, x, mk, h1, h2, h3⟩ := ih m' h
      refine ⟨k + 1, x, mk, by simpa using h1, ?_, h3⟩
      rw [List.take_succ_cons, List.flatten_cons, allM_append, hs]
      exact h2
theorem stepM_no {m : MF} {c : Chg} (h : stepM m c = none) (hg : c.gone = false) : hitC m.l c.id = true := by
  unfold stepM at h
  split at h
  · cases h
  · rename_i hh
    rw [hg] at hh
    cases hx : hitC m.l c.id with
    | true => rfl
    | false => rw [hx] at hh; exact absurd rfl hh
set_option maxRecDepth 100000 in
set_option maxHeartbeats 4000000 in
theorem applyHit (gm gc bt n lc : Nat) (LA : Option Addr) (lm : List Nat) (M : MF) (c : Chg) (w : World) (h : MSt w gm bt n LA lc lm M) (hc : Blk w gc 76 c.row) (hg : c.gone = false) (hh : hitC M.l c.id = true) (hid : (Lit.int .u64 c.id).wf = true) :
    Calls Tryd.prog 45 #[.pointer (some ⟨gm, 0, none⟩), .pointer (some ⟨gc, 0, none⟩)] w (fun E w' => (∃ te pe, E = .returned (.iface te pe)) ∧ Frm [] w w') := by
  obtain ⟨d, hd, hdx⟩ := (hit_iff h.srt c.id).1 hh
  have htb : tabF M.l c.id = some (tmV d) := by rw [← hdx]; exact tabF_some h.srt hd
  have m1 : w.cell? ⟨gm, 1, none⟩ = some (.map (some bt)) := h.o.man.at_ rfl
  have c0 : w.cell? ⟨gc, 0, none⟩ = some (.int .u64 c.id) := hc.at_ rfl
  have c1 : w.cell? ⟨gc, 1, none⟩ = some (.int .i32 0) := by have := hc.at_ (i := 1) rfl; rwa [Chg.op, hg] at this
  have m1b : (w.alloc (.cells #[.int .u8 0, .int .u64 0, .int .u32 0] 79)).cell? ⟨gm, 1, none⟩ = some (.map (some bt)) := (h.o.man.alloc _).at_ rfl
  have c0b : (w.alloc (.cells #[.int .u8 0, .int .u64 0, .int .u32 0] 79)).cell? ⟨gc, 0, none⟩ = some (.int .u64 c.id) := (hc.alloc _).at_ rfl
  have hlk : (Instr.lookup 52 (.map (some bt)) (.int .u64 c.id) true).run Tryd.prog w.drew = .ok (.tuple #[.agg #[.int .u8 d.level, .int .u64 d.keyId, .int .u32 d.comp], .bool true]) w.drew := by
    have h1 := (h.o.tab.drew).look_ok u64int Tryd.underlying52 (tm61 _) c.id hid
    rw [htb] at h1
    exact h1
  have hlk2 : (Instr.lookup 52 (.map (some bt)) (.int .u64 c.id) true).run Tryd.prog (w.alloc (.cells #[.int .u8 0, .int .u64 0, .int .u32 0] 79)).drew = .ok (.tuple #[.agg #[.int .u8 d.level, .int .u64 d.keyId, .int .u32 d.comp], .bool true]) (w.alloc (.cells #[.int .u8 0, .int .u64 0, .int .u32 0] 79)).drew := by
    have h1 := (((h.o.tab.alloc (.cells #[.int .u8 0, .int .u64 0, .int .u32 0] 79))).drew).look_ok u64int Tryd.underlying52 (tm61 _) c.id hid
    rw [htb] at h1
    exact h1
  have HH := Lib.hid hh
  clear h hc hg hh htb hd hdx
  go_enter Tryd.func45, Tryd.ntmps45
  go_upto_region 4 with fail
  go_cut [5, 6] (fun v5 v6 wx => v5 = .pointer (some ⟨w.heap.size, 0, none⟩) ∧ v6 = .bool true ∧ (w.alloc (.cells #[.int .u8 d.level, .int .u64 d.keyId, .int .u32 d.comp] 79)).drew = wx)
  case first =>
    go_region
    all_goals (go_wp2_with fail; go_meet; exact ⟨rfl, rfl, rfl⟩)
  case rest =>
  obtain ⟨rfl, rfl, hcw⟩ := hcut
  subst hcw
  have hF1 : Hid (Frm [] w (w.alloc (.cells #[.int .u8 d.level, .int .u64 d.keyId, .int .u32 d.comp] 79)).drew) := (Frm.alloc w _).drew
  clear m1 c0 c1 m1b c0b hlk hlk2
  go_wp2_with fail
  generalize (w.alloc (.cells #[.int .u8 d.level, .int .u64 d.keyId, .int .u32 d.comp] 79)).drew = w1 at *
  refine (errNew_any _ w1).mono ?_
  rintro E w2 ⟨⟨a, rfl⟩, hb⟩
  have HF2 : Hid (Frm [] w w2) := hF1.out.andBelow hb
  clear hb hF1
  go_wp2
  go_ret
  exact ⟨⟨_, _, rfl⟩, HF2.out⟩
set_option maxRecDepth 100000 in
set_option maxHeartbeats 4000000 in
theorem applySetHit (gm gs0 bt n lc m c b0 : Nat) (A LA : Option Addr) (lm gs : List Nat) (M : MF) (l : List Chg) (w : World) (h : MSt w gm bt n LA lc lm M) (hs : Blk w gs0 63 [.slice A m c]) (ho : w.ownsRow 0 73 1 (.slice A m c) m (ptrV gs)) (hp : Ptrs w b0 gs l) (hl : l.length = m)
    (ha : twice M l = true) (hk : ∀ x ∈ l, ChOk x) (hn : n + 2 * m ≤ 900000) (hcm : 0 ≤ M.come ∧ M.come + m ≤ 900000) (hgn : 0 ≤ M.gone ∧ M.gone + m ≤ 900000) :
    Calls Tryd.prog 34 #[.pointer (some ⟨gm, 0, none⟩), .pointer (some ⟨gs0, 0, none⟩)] w (fun E w' => (∃ te pe, E = .returned (.iface te pe)) ∧ Frm (foot gm bt LA lm) w w') := by
  have H := Lib.hid h
  have HS := Lib.hid hs
  have HO := Lib.hid ho
  have HP := Lib.hid hp
  have HL := Lib.hid hl
  have HA := Lib.hid ha
  have HK := Lib.hid hk
  have HCM := Lib.hid (And.intro hcm hgn)
  have s0 : w.cell? ⟨gs0, 0, none⟩ = some (.slice A m c) := hs.at_ rfl
  have HNS := Lib.hid (h.o.foot_ne hs (by decide) (by decide))
  have HNO := Lib.hid (h.o.foot_own ho (by decide) (by decide))
  have HNP : Hid (∀ (j g : Nat) (x : Chg), gs[j]? = some g → l[j]? = some x → g ∉ foot gm bt LA lm) := fun j g x hj hx => h.o.foot_ne (hp.2 j g x hj hx).2 (by decide) (by decide)
  clear h hs ho hp hl ha hk hcm hgn
  go_enter Tryd.func34, Tryd.ntmps34
  go_wp2
  go_loopg [13] m (fun f v13 wr => ∃ (i : Nat) (LA2 : Option Addr) (lc2 : Nat) (lm2 : List Nat) (Mi : MF), v13 = .int .i64 i ∧ i ≤ m ∧ Hid (i + f = m) ∧ Hid (MSt wr gm bt (n + 2 * i) LA2 lc2 lm2 Mi) ∧ Hid (twice Mi (l.drop i) = true) ∧ Hid (0 ≤ Mi.come ∧ Mi.come ≤ M.come + i ∧ 0 ≤ Mi.gone ∧ Mi.gone ≤ M.gone + i) ∧ Hid (Frm (foot gm bt LA lm) w wr) ∧ Hid (∀ x ∈ foot gm bt LA2 lm2, x ∈ foot gm bt LA lm ∨ w.heap.size ≤ x))
  case atStart => exact ⟨0, LA, lc, lm, M, rfl, Nat.zero_le _, by simp [Hid], H.out, HA.out, ⟨HCM.out.1.1, by omega, HCM.out.2.1, by omega⟩, Frm.refl _ _, fun x hx => .inl hx⟩
  case round =>
    obtain ⟨i, LA2, lc2, lm2, Mi, rfl, him, hf, hM, hA, hC, hF, hft⟩ := hrel
    by_cases hlt : i < m
    · obtain ⟨x, hx⟩ : ∃ x, l[i]? = some x := ⟨_, List.getElem?_eq_getElem (by have := HL.out; omega)⟩
      obtain ⟨g, hg⟩ : ∃ g, gs[i]? = some g := ⟨_, List.getElem?_eq_getElem (by have := HP.out.1; have := HL.out; omega)⟩
      have hgb := (HP.out.2 i g x hg hx).2.frm hF.out (HNP.out i g x hg hx)
      have hor := own_frm2 HO.out hF.out HNO.out
      obtain ⟨ga, cur, hAe, _, _, _, _, _⟩ := own_blk hor (by omega)
      subst hAe
      have ca : wr.cell? ⟨ga, i, none⟩ = some (.pointer (some ⟨g, 0, none⟩)) := by
        rw [hor.cellAt i (by omega), ptrV, List.getElem?_map, hg]
        rfl
      have hd : l.drop i = x :: l.drop (i + 1) := by
        have hi := List.getElem?_eq_some_iff.1 hx
        rw [← List.getElem_cons_drop hi.1, hi.2]
      have HX := Lib.hid (HK.out x (List.mem_of_getElem? hx))
      have HGB := Lib.hid hgb
      have hA1 := hA.out
      rw [hd] at hA1
      change (match stepM Mi x with | some m' => twice m' (l.drop (i + 1)) | none => !x.gone) = true at hA1
      obtain ⟨gkO, rfl⟩ : ∃ q, gk = q + 1 := ⟨gk - 1, by have := hf.out; omega⟩
      clear hx hg hgb hor hd hA
      cases hMn : stepM Mi x with
      | some Mn =>
        rw [hMn] at hA1
        have HAN : Hid (twice Mn (l.drop (i + 1)) = true) := hA1
        have HMN := Lib.hid hMn
        clear hA1 hMn
        go_wp2_with fail
        refine (applyOne gm g bt (n + 2 * i) lc2 LA2 lm2 Mi Mn x wr hM.out HGB.out HMN.out HX.out (by omega) ⟨hC.out.1, by have := hC.out.2.1; have := HCM.out; omega⟩ ⟨hC.out.2.2.1, by have := hC.out.2.2.2; have := HCM.out; omega⟩).mono ?_
        rintro E w2 ⟨rfl, LA3, lc3, lm3, hM3, hF3, hft3⟩
        have h4 := stepM_come HMN.out
        have HC3 : Hid (0 ≤ Mn.come ∧ Mn.come ≤ M.come + (i + 1 : Nat) ∧ 0 ≤ Mn.gone ∧ Mn.gone ≤ M.gone + (i + 1 : Nat)) := by have := hC.out; show _ ∧ _; omega
        have HM3 := Lib.hid hM3
        have HF3 : Hid (Frm (foot gm bt LA lm) w w2) := hF.out.trans hF3 hft.out
        have HFT3 : Hid (∀ x ∈ foot gm bt LA3 lm3, x ∈ foot gm bt LA lm ∨ w.heap.size ≤ x) := fun y hy => by
          rcases hft3 y hy with h5 | h5
          · exact hft.out y h5
          · exact .inr (Nat.le_trans hF.out.size h5)
        clear hM3 hF3 hft3 h4 hM hF hft hC HMN HGB
        go_wp2
        go_roundg gkO
        case measure => omega
        case rel => exact ⟨i + 1, LA3, lc3, lm3, Mn, by go_num, by omega, by have := hf.out; show _ = _; omega, HM3.out, HAN.out, HC3.out, HF3.out, HFT3.out⟩
      | none =>
        rw [hMn] at hA1
        have hxg : x.gone = false := by cases hq : x.gone with | false => rfl | true => rw [hq] at hA1; cases hA1
        have HXG := Lib.hid hxg
        have HHT := Lib.hid (stepM_no hMn hxg)
        clear hA1 hMn hxg
        go_wp2_with fail
        refine (applyHit gm g bt (n + 2 * i) lc2 LA2 lm2 Mi x wr hM.out HGB.out HXG.out HHT.out HX.out.id).mono ?_
        rintro E w2 ⟨⟨te, pe, rfl⟩, hf2⟩
        have HF2 : Hid (Frm (foot gm bt LA lm) w w2) := hF.out.trans hf2 (fun i hi => by cases hi)
        clear hf2
        go_wp2
        go_ret
        exact ⟨⟨_, _, rfl⟩, HF2.out⟩
    · exfalso
      have h1 := hA.out
      rw [List.drop_eq_nil_of_le (by rw [HL.out]; omega)] at h1
      cases h1
end Go.Proofs.YtpfmmbhbmdbmeaaDoor
