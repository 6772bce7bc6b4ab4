/- A log, replayed. -/
import Derived.Test.YtpfmmbhbmdbmeaaGreatDoorHM
import Derived.BigRegion
namespace Go.Proofs.YtpfmmbhbmdbmeaaGreatDoor
open Go.RowKit
set_option linter.unusedVariables false
set_option linter.unusedSimpArgs false
/-- What a replay hands back. -/
def RepL (fid : Int) (gs0 : List LK) (w : World) (E : Ending) (w' : World) : Prop :=
  ∃ vL vQ outs ops, E = .returned (.tuple #[vL, vQ, .int .u32 (runE 20 20 gs0 : Nat), .bool true]) ∧ Below w.heap.size w w' ∧ w'.ownsRow w.heap.size 51 5 vL outs.length (flatRR outs) ∧ w'.ownsRow w.heap.size 75 3 vQ ops.length (flatSp ops) ∧ (∀ r ∈ outs, r.In w') ∧ outs.map RR.lr = (runO 20 [] gs0).map (·.1) ∧ ops = (runO 20 [] gs0).map (sp3 fid)
theorem ItF.same {w0 w w' : World} {gl gp : Nat} {vL vQ : Value} {outs : List RR} {ops : List Sp3} (f : ItF w0 gl gp vL vQ outs ops w) (hb : Below w0.heap.size w0 w') (hs : ∀ g, g ≠ gl → g ≠ gp → w'.heap[g]? = w.heap[g]?) (h2 : w.heap.size ≤ w'.heap.size) (hl : Blk w' gl 49 [vL]) (hp : Blk w' gp 70 [vQ]) : ItF w0 gl gp vL vQ outs ops w' := by
  have key : ∀ g, w'.heap[g]? = w.heap[g]? := fun g => by
    by_cases h : g = gl
    · rw [h]; exact hl.trans f.bl.symm
    by_cases h' : g = gp
    · rw [h']; exact hp.trans f.bp.symm
    exact hs g h h'
  have hS : SameB [] w w' := fun k _ _ => key k
  have ho : ∀ {b e s n : Nat} {v : Value} {xs : List Value}, w.ownsRow b e s v n xs → w'.ownsRow b e s v n xs := fun h => by
    obtain ⟨h1, h2⟩ := h
    refine ⟨h1, ?_⟩
    rcases h2 with h2 | ⟨g, cap, cur, e1, hg, hh, r⟩
    · exact .inl h2
    · exact .inr ⟨g, cap, cur, e1, hg, (key g).trans hh, r⟩
  exact ⟨hb, hl, hp, ho f.ol, ho f.oq, fun r hr => ⟨(f.ins r hr).key.same hS (fun _ _ _ _ h => by cases h), (f.ins r hr).dat.same hS (fun _ _ _ _ h => by cases h), (f.ins r hr).hk, (f.ins r hr).hd⟩⟩
set_option maxRecDepth 100000 in
set_option maxHeartbeats 4000000 in
theorem logReplay_any (n c : Nat) (A : Option Addr) (l : List Int) (fid : Int) (gs0 : List LK) (ae au at2 : Addr) (w : World)
    (hsl : Sl w A n (nums .u8 l)) (hbyt : Byt l) (hc : n ≤ c) (hn : n ≤ 900000) (h20 : 20 ≤ n) (hlin : Lin (l.drop 20) gs0) (hwb : WB 0 gs0) (hZ : ErrZ w ae au at2) :
    Calls Tryz.prog 32 #[.slice A n c, .int .u32 fid] w (RepL fid gs0 w) := by
  have HSL := Lib.hid hsl
  have HBY := Lib.hid hbyt
  have HLI := Lib.hid hlin
  have HWB := Lib.hid hwb
  have HZ := Lib.hid hZ
  clear hsl hbyt hlin hwb hZ
  go_enter Tryz.func32, Tryz.ntmps32
  go_upto_region 2 with fail
  have HBL : Hid (Blk (((w.alloc (.cells #[.slice none 0 0] 49)).alloc (.cells #[.slice none 0 0] 70)).alloc (.cells #[.slice A n c, .string { data := #[] }, .int .u32 fid, .int .u32 n] 86)) w.heap.size 49 [.slice none 0 0]) := ((Blk.new w 49 [.slice none 0 0]).alloc _).alloc _
  have HBP : Hid (Blk (((w.alloc (.cells #[.slice none 0 0] 49)).alloc (.cells #[.slice none 0 0] 70)).alloc (.cells #[.slice A n c, .string { data := #[] }, .int .u32 fid, .int .u32 n] 86)) (w.heap.size + 1) 70 [.slice none 0 0]) := by
    have h := (Blk.new (w.alloc (.cells #[.slice none 0 0] 49)) 70 [.slice none 0 0]).alloc (.cells #[.slice A n c, .string { data := #[] }, .int .u32 fid, .int .u32 n] 86)
    rw [World.size_alloc] at h
    exact h
  have HLF : Hid (Blk (((w.alloc (.cells #[.slice none 0 0] 49)).alloc (.cells #[.slice none 0 0] 70)).alloc (.cells #[.slice A n c, .string { data := #[] }, .int .u32 fid, .int .u32 n] 86)) (w.heap.size + 1 + 1) 86 [.slice A n c, .string { data := #[] }, .int .u32 fid, .int .u32 n]) := by
    have h := Blk.new ((w.alloc (.cells #[.slice none 0 0] 49)).alloc (.cells #[.slice none 0 0] 70)) 86 [.slice A n c, .string { data := #[] }, .int .u32 fid, .int .u32 n]
    rw [World.size_alloc, World.size_alloc] at h
    exact h
  have HB : Hid (Below w.heap.size w (((w.alloc (.cells #[.slice none 0 0] 49)).alloc (.cells #[.slice none 0 0] 70)).alloc (.cells #[.slice A n c, .string { data := #[] }, .int .u32 fid, .int .u32 n] 86))) := (((Frm.alloc w _).andAlloc _).andAlloc _).below (Nat.le_refl _) (fun i hi => by cases hi)
  generalize ((w.alloc (.cells #[.slice none 0 0] 49)).alloc (.cells #[.slice none 0 0] 70)).alloc (.cells #[.slice A n c, .string { data := #[] }, .int .u32 fid, .int .u32 n] 86) = w3 at *
  go_wp2_with fail
  refine Calls.mono (iterate_any (w.heap.size + 1 + 1) w.heap.size (w.heap.size + 1) n c A l fid _ _ gs0 ae au at2 w w3 HLF.out HBL.out HBP.out HSL.out HBY.out hc hn h20 HLI.out HWB.out HZ.out HB.out ⟨Nat.le_refl _, Nat.le_succ _⟩) ?_
  rintro E w4 ⟨rfl, vL, vQ, outs, ops, hF, ho, hq⟩
  obtain ⟨A1, c1, e1, _, _, _⟩ := own_slT hF.ol
  obtain ⟨A2, c2, e2, _, _, _⟩ := own_slT hF.oq
  subst e1 e2
  have HF := Lib.hid hF
  have HO := Lib.hid ho
  have HQ := Lib.hid hq
  clear hF ho hq HBL HBP HLF HB HSL HBY HLI HWB HZ
  go_upto_region 3 with fail
  have l0 := HF.out.bl.at_ (i := 0) rfl
  have p0 := HF.out.bp.at_ (i := 0) rfl
  have lf := HF.out.bl.frozen 0
  have pf := HF.out.bp.frozen 0
  have BLd := Lib.hid HF.out.bl.drew
  have BPd := Lib.hid HF.out.bp.drew
  have l0d := BLd.out.at_ (i := 0) rfl
  have p0d := BPd.out.at_ (i := 0) rfl
  have lfd := BLd.out.frozen 0
  have pfd := BPd.out.frozen 0
  have BL1 := Lib.hid (BLd.out.far (p := ⟨w.heap.size + 1, 0, none⟩) (Nat.ne_of_lt (Nat.lt_succ_self _)) (.slice A2 ops.length c2))
  have BP1 := Lib.hid (BPd.out.far (p := ⟨w.heap.size, 0, none⟩) (Nat.ne_of_gt (Nat.lt_succ_self _)) (.slice A1 outs.length c1))
  have l01 := BL1.out.at_ (i := 0) rfl
  have p01 := BP1.out.at_ (i := 0) rfl
  have lf1 := BL1.out.frozen 0
  have pf1 := BP1.out.frozen 0
  go_region
  have BL2 := Lib.hid (((HF.out.bl.set_ 0 (.slice A1 outs.length c1)).far (p := ⟨w.heap.size + 1, 0, none⟩) (Nat.ne_of_lt (Nat.lt_succ_self _)) (.slice A2 ops.length c2)).drew)
  have BP2 := Lib.hid (((HF.out.bp.far (p := ⟨w.heap.size, 0, none⟩) (Nat.ne_of_gt (Nat.lt_succ_self _)) (.slice A1 outs.length c1)).set_ 0 (.slice A2 ops.length c2)).drew)
  have hfr : Frm [w.heap.size, w.heap.size + 1] w4 ((w4.setCell ⟨w.heap.size, 0, none⟩ (.slice A1 outs.length c1)).setCell ⟨w.heap.size + 1, 0, none⟩ (.slice A2 ops.length c2)).drew := ((((Frm.refl _ w4).andSet ⟨w.heap.size, 0, none⟩ _ (.inl (by simp))).andSet ⟨w.heap.size + 1, 0, none⟩ _ (.inl (by simp)))).drew
  have HF2 := Lib.hid (HF.out.same (HF.out.sm.trans (hfr.below HF.out.sm.size (fun i hi => by simp only [List.mem_cons, List.not_mem_nil, or_false] at hi; omega))) (fun g h1 h2 => by
    rcases Nat.lt_or_ge g w4.heap.size with h | h
    · exact hfr.block g h (by simp only [List.mem_cons, List.not_mem_nil, or_false]; omega)
    · have e1 : w4.heap.size = ((w4.setCell ⟨w.heap.size, 0, none⟩ (.slice A1 outs.length c1)).setCell ⟨w.heap.size + 1, 0, none⟩ (.slice A2 ops.length c2)).drew.heap.size := by simp [World.setCell, World.drew]
      rw [Array.getElem?_eq_none h, Array.getElem?_eq_none (by rw [← e1]; exact h)]) hfr.size BL2.out BP2.out)
  clear l0 p0 lf pf l0d p0d lfd pfd l01 p01 lf1 pf1 BLd BPd BL1 BP1 hfr HF
  generalize ((w4.setCell ⟨w.heap.size, 0, none⟩ (.slice A1 outs.length c1)).setCell ⟨w.heap.size + 1, 0, none⟩ (.slice A2 ops.length c2)).drew = w5 at *
  have l0 := BL2.out.at_ (i := 0) rfl
  have p0 := BP2.out.at_ (i := 0) rfl
  go_wp2
  refine bodyPost_ret (v := .tuple #[.slice A1 outs.length c1, .slice A2 ops.length c2, .int .u32 (runE 20 20 gs0 : Nat), .bool true]) (by simp [results, Tryz.results32, go_sem, l0, p0]) rfl ?_
  exact ⟨_, _, outs, ops, rfl, HF2.out.sm, HF2.out.ol, HF2.out.oq, HF2.out.ins, HO.out, HQ.out⟩
end Go.Proofs.YtpfmmbhbmdbmeaaGreatDoor
