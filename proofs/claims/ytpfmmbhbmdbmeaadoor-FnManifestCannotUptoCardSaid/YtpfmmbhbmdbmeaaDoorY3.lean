/- A table goes from a manifest. -/
import Derived.Test.YtpfmmbhbmdbmeaaDoorY2
namespace Go.Proofs.YtpfmmbhbmdbmeaaDoor
open Go.RowKit
set_option linter.unusedVariables false
set_option linter.unusedSimpArgs false
set_option maxRecDepth 100000 in
set_option maxHeartbeats 4000000 in
theorem applyDelete (gm gc bt n lc : Nat) (LA : Option Addr) (lm : List Nat) (M : MF) (c : Chg) (w : World) (h : MSt w gm bt n LA lc lm M) (hc : Blk w gc 76 c.row) (hg : c.gone = true) (hh : hitC M.l c.id = true) (hid : (Lit.int .u64 c.id).wf = true) (hn : n ≤ 1000000) (hgn : 0 ≤ M.gone ∧ M.gone ≤ 1000000) :
    Calls Tryd.prog 45 #[.pointer (some ⟨gm, 0, none⟩), .pointer (some ⟨gc, 0, none⟩)] w (AppP gm bt (n + 2) LA lm ⟨delC M.l c.id, M.come, M.gone + 1⟩ w) := by
  obtain ⟨d, hd, hdx⟩ := (hit_iff h.srt c.id).1 hh
  have htb : tabF M.l c.id = some (tmV d) := by rw [← hdx]; exact tabF_some h.srt hd
  obtain ⟨l1, l2, l3⟩ := h.lvl d hd
  have hlmb := h.lmb
  have H := Lib.hid h
  have HC := Lib.hid hc
  have m1 : w.cell? ⟨gm, 1, none⟩ = some (.map (some bt)) := h.o.man.at_ rfl
  have c0 : w.cell? ⟨gc, 0, none⟩ = some (.int .u64 c.id) := hc.at_ rfl
  have c1 : w.cell? ⟨gc, 1, none⟩ = some (.int .i32 1) := by have := hc.at_ (i := 1) rfl; rwa [Chg.op, hg] at this
  have m1b : (w.alloc (.cells #[.int .u8 0, .int .u64 0, .int .u32 0] 79)).cell? ⟨gm, 1, none⟩ = some (.map (some bt)) := (h.o.man.alloc _).at_ rfl
  have c0b : (w.alloc (.cells #[.int .u8 0, .int .u64 0, .int .u32 0] 79)).cell? ⟨gc, 0, none⟩ = some (.int .u64 c.id) := (hc.alloc _).at_ rfl
  have hlk : (Instr.lookup 52 (.map (some bt)) (.int .u64 c.id) true).run Tryd.prog w.drew = .ok (.tuple #[.agg #[.int .u8 d.level, .int .u64 d.keyId, .int .u32 d.comp], .bool true]) w.drew := by
    have h1 := (h.o.tab.drew).look_ok u64int Tryd.underlying52 (tm61 _) c.id hid
    rw [htb] at h1
    exact h1
  have hlk2 : (Instr.lookup 52 (.map (some bt)) (.int .u64 c.id) true).run Tryd.prog (w.alloc (.cells #[.int .u8 0, .int .u64 0, .int .u32 0] 79)).drew = .ok (.tuple #[.agg #[.int .u8 d.level, .int .u64 d.keyId, .int .u32 d.comp], .bool true]) (w.alloc (.cells #[.int .u8 0, .int .u64 0, .int .u32 0] 79)).drew := by
    have h1 := (((h.o.tab.alloc (.cells #[.int .u8 0, .int .u64 0, .int .u32 0] 79))).drew).look_ok u64int Tryd.underlying52 (tm61 _) c.id hid
    rw [htb] at h1
    exact h1
  have HG := Lib.hid (And.intro hg (And.intro hh (And.intro h.lvl h.srt)))
  have HD := Lib.hid (And.intro hd hdx)
  clear h hc hg hh htb hd hdx
  go_enter Tryd.func45, Tryd.ntmps45
  go_upto_region 13 with fail
  go_cut [7, 8] (fun v7 v8 wx => v7 = .pointer (some ⟨w.heap.size, 0, none⟩) ∧ v8 = .bool true ∧ (w.alloc (.cells #[.int .u8 d.level, .int .u64 d.keyId, .int .u32 d.comp] 79)).drew = wx)
  case first =>
    go_region
    all_goals (go_wp2_with fail; go_meet; exact ⟨rfl, rfl, rfl⟩)
  case rest =>
  obtain ⟨rfl, rfl, hcw⟩ := hcut
  subst hcw
  have H1 := Lib.hid ((H.out.o.alloc (.cells #[.int .u8 d.level, .int .u64 d.keyId, .int .u32 d.comp] 79)).drew)
  have HC1 : Hid (Blk (w.alloc (.cells #[.int .u8 d.level, .int .u64 d.keyId, .int .u32 d.comp] 79)).drew gc 76 c.row) := HC.out.alloc _
  have HZ1 : Hid (Blk (w.alloc (.cells #[.int .u8 d.level, .int .u64 d.keyId, .int .u32 d.comp] 79)).drew w.heap.size 79 [.int .u8 d.level, .int .u64 d.keyId, .int .u32 d.comp]) := Blk.new w _ _
  have hF1 : Hid (Frm [] w (w.alloc (.cells #[.int .u8 d.level, .int .u64 d.keyId, .int .u32 d.comp] 79)).drew) := (Frm.alloc w _).drew
  go_wp2
  clear m1 c0 c1 m1b c0b hlk hlk2 HC
  generalize (w.alloc (.cells #[.int .u8 d.level, .int .u64 d.keyId, .int .u32 d.comp] 79)).drew = w1 at *
  generalize w.heap.size = g7 at *
  obtain ⟨lv, hlv⟩ : ∃ k : Nat, d.level = (k : Int) := Int.eq_ofNat_of_zero_le l1
  have hltn : lv < lm.length := by omega
  have hlt : (lv : Int) < (lm.length : Int) := by omega
  have hlv0 : (0 : Int) ≤ (lv : Int) := by omega
  have m0 : w1.cell? ⟨gm, 0, none⟩ = some (.slice LA lm.length lc) := H1.out.man.at_ rfl
  have t0 : w1.cell? ⟨g7, 0, none⟩ = some (.int .u8 (lv : Int)) := by have := HZ1.out.at_ (i := 0) rfl; rwa [hlv] at this
  have c0 : w1.cell? ⟨gc, 0, none⟩ = some (.int .u64 c.id) := HC1.out.at_ rfl
  obtain ⟨bl, hbl⟩ : ∃ b, lm[lv]? = some b := ⟨_, List.getElem?_eq_getElem hltn⟩
  obtain ⟨fs, hfs⟩ := H1.out.sets bl (List.mem_of_getElem? hbl)
  obtain ⟨gv, cur, hLA, _, _, _, _, _⟩ := own_blk H1.out.lev (by omega)
  subst hLA
  have cl2 : w1.cell? ⟨gv, lv, none⟩ = some (.map (some bl)) := by
    rw [H1.out.lev.cellAt lv (by omega), levV, List.getElem?_map, hbl]
    rfl
  have HFSD := Lib.hid hfs.drew
  have HFS := Lib.hid hfs
  have HBL := Lib.hid (List.mem_of_getElem? hbl)
  clear hfs hbl hlv l1 l2 l3
  go_still_tail 13, (by kernel_rfl)
  change wpList _ _ _ _ _ w1.drew
  refine wpList_delete_at rfl (.tmp 139) (.tmp 143) 113 rfl HFSD.out u64int Tryd.underlying113 c.id rfl rfl hid ?_
  intro w5 hS5 hG5
  have HM5 := Lib.hid (H1.out.drew.turnSet HBL.out hS5 hG5 (Nat.le_refl n))
  have HF5 : Hid (Frm (foot gm bt (some ⟨gv, 0, none⟩) lm) w w5) := (hF1.out.mono (l2 := foot gm bt (some ⟨gv, 0, none⟩) lm) (fun i hi => by cases hi)).drew.trans (Frm.of_grown hG5) (fun i hi => .inl (by rw [List.mem_singleton] at hi; subst hi; have := HBL.out; simp [foot, this]))
  have HC5 : Hid (Blk w5 gc 76 c.row) := (hG5.block gc HC1.out.lt (fun e => by injection e with e; exact HFS.out.ne_blk HC1.out e.symm)).trans HC1.out
  clear hS5 hG5 HFSD HFS H1 HC1 HZ1 hF1 m0 t0 c0 cl2
  have m1 : w5.cell? ⟨gm, 1, none⟩ = some (.map (some bt)) := HM5.out.man.at_ rfl
  have c0 : w5.cell? ⟨gc, 0, none⟩ = some (.int .u64 c.id) := HC5.out.at_ rfl
  have HTD := Lib.hid HM5.out.drew.tab
  go_wp2
  go_still_tail 8, (by kernel_rfl)
  change wpList _ _ _ _ _ w5.drew
  refine wpList_delete_at rfl (.tmp 147) (.tmp 151) 52 rfl HTD.out u64int Tryd.underlying52 c.id rfl rfl hid ?_
  intro w6 hT6 hG6
  have HM6 := Lib.hid (HM5.out.drew.turn (hT6.mono (Nat.le_add_right n 2)) hG6 (Nat.le_add_right n 2))
  have HF6 : Hid (Frm (foot gm bt (some ⟨gv, 0, none⟩) lm) w w6) := HF5.out.drew.trans (Frm.of_grown hG6) (fun i hi => .inl (by rw [List.mem_singleton] at hi; subst hi; simp [foot]))
  clear hT6 hG6 HTD HM5 HC5 HF5 m1 c0
  have m3 : w6.cell? ⟨gm, 3, none⟩ = some (.int .i64 M.gone) := HM6.out.man.at_ rfl
  have z3 := HM6.out.man.frozen 3
  have HM7 := Lib.hid (HM6.out.set3 (M.gone + 1))
  have HF7 : Hid (Frm (foot gm bt (some ⟨gv, 0, none⟩) lm) w (w6.setCell ⟨gm, 3, none⟩ (.int .i64 (M.gone + 1)))) := HF6.out.andSet _ _ (.inl (by simp [foot]))
  have HTF : Hid (updM (tabF M.l) c.id none = tabF (delC M.l c.id)) := by show _ = _; funext x; exact tabF_del HG.out.2.2.2 HG.out.2.1 x
  go_wp2
  go_ret
  refine ⟨rfl, _, _, lm, ⟨by rw [← HTF.out]; exact HM7.out, fun e he => ?_, delC_sorted HG.out.2.2.2 _, hlmb⟩, HF7.out, fun i hi => .inl hi⟩
  exact HG.out.2.2.1 e ((mem_delC HG.out.2.2.2 HG.out.2.1).1 he).1
end Go.Proofs.YtpfmmbhbmdbmeaaDoor
