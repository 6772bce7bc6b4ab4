/- The changes that make a manifest anew. -/
import Derived.Test.YtpfmmbhbmdbmeaaDoorY4
import Derived.OwnWalk
namespace Go.Proofs.YtpfmmbhbmdbmeaaDoor
open Go.RowKit
set_option linter.unusedVariables false
set_option linter.unusedSimpArgs false
theorem newCreate_any (c : Chg) (w : World) (hg : c.gone = false) (h0 : 0 ≤ c.level) (h1 : c.level ≤ 255) :
    Calls Tryd.prog 46 #[.int .u64 c.id, .int .i64 c.level, .int .u64 c.keyId, .int .u32 c.comp] w fun E w' => E = .returned (.pointer (some ⟨w.heap.size, 0, none⟩)) ∧ w' = w.alloc (.cells c.row.toArray 76) := by
  have hr : Hid (c.row = [.int .u64 c.id, .int .i32 0, .int .u32 c.level, .int .u64 c.keyId, .int .i32 0, .int .u32 c.comp]) := by show _ = _; unfold Chg.row Chg.op; rw [hg]; rfl
  clear hg
  go_enter Tryd.func46, Tryd.ntmps46
  go_wp2
  go_ret
  refine ⟨rfl, ?_⟩
  rw [hr.out]
def AsP (l : List Chg) (w : World) (E : Ending) (w' : World) : Prop := ∃ A c gs ord, E = .returned (.slice A ord.length c) ∧ w'.ownsRow 0 73 1 (.slice A ord.length c) ord.length (ptrV gs) ∧ Ptrs w' w.heap.size gs ord ∧ Below w.heap.size w w' ∧ (∀ x, x ∈ ord ↔ x ∈ l) ∧ ord.Pairwise (fun a b => a.id ≠ b.id)
set_option maxRecDepth 100000 in
set_option maxHeartbeats 4000000 in
theorem asChanges_any (gm bt n lc : Nat) (LA : Option Addr) (lm : List Nat) (M : MF) (w : World) (h : MSt w gm bt n LA lc lm M) (hg : ∀ c ∈ M.l, c.gone = false) (hid : ∀ c ∈ M.l, (Lit.int .u64 c.id).wf = true) (hn : n ≤ 1000000) :
    Calls Tryd.prog 35 #[.pointer (some ⟨gm, 0, none⟩)] w (AsP M.l w) := by
  obtain ⟨j, hj, hlen⟩ := h.o.tab.len Tryd.underlying52
  have H := Lib.hid h
  have HG := Lib.hid (And.intro hg hid)
  have m1 : w.cell? ⟨gm, 1, none⟩ = some (.map (some bt)) := h.o.man.at_ rfl
  obtain ⟨iM, hiM, hzM1, hzM2, hzM3⟩ := info_parts infoMC
  have HI := Lib.hid (And.intro hiM (And.intro hzM1 (And.intro hzM2 hzM3)))
  clear h hg hid hiM hzM1 hzM2 hzM3
  go_enter Tryd.func35, Tryd.ntmps35
  go_wp2_with (first | (at_make; refine wpList_make_own _ rfl (.const (.int .i64 0)) (.tmp 10) 49 rfl w.heap.size 73 iM (.pointer none) 1 Tryd.underlying49 HI.out.1 HI.out.2.1 HI.out.2.2.1 .i64 .i64 _ j rfl rfl rfl (by rw [HI.out.2.2.2]; omega) (by simp only [maxLen]; omega) (Nat.le_refl _) ?_; intro w1 hown1 hg1; have HO1 := Lib.hid hown1; have HB1 : Hid (Below w.heap.size w w1) := (Below.refl _ _).grown hg1 (Nat.le_refl _) (fun k e => by cases e); have H1 := Lib.hid (H.out.below HB1.out); have m1 : w1.cell? ⟨gm, 1, none⟩ = some (.map (some bt)) := H1.out.o.man.at_ rfl; have HT1 := Lib.hid H1.out.o.tab; clear hown1 hg1 hlen) | (at_range; refine wpList_range_at rfl (.tmp 15) 52 rfl HT1.out u64int Tryd.underlying52 rfl ?_; intro w2 cnt hrg0 hcn0 hg0 hs0))
  go_frame
  have hU2 : Hid (Below w.heap.size w w2) := HB1.out.grown hg0 HB1.out.size (fun k e => by cases e)
  have HO2 : Hid (w2.ownsRow w.heap.size 73 1 (.slice (some ⟨w.heap.size, 0, none⟩) 0 j) 0 []) := HO1.out.kept hg0 (.inr (by simp [Value.ownBlock]))
  have HR2 := Lib.hid hrg0
  have HTL := Lib.hid (And.intro H.out.srt H.out.lvl)
  have HRS : Hid (w.heap.size < w1.heap.size) := (HO1.out.lt w.heap.size rfl).2
  clear hrg0 hg0 hs0 HO1 HB1 H1 HT1 m1 H
  generalize hgr : w1.heap.size = gr at *
  have HGR := Lib.hid hgr
  clear hgr
  go_loopg [3] cnt (fun f v3 wr => ∃ (left : Int → Bool) (A3 : Option Addr) (c3 : Nat) (gs : List Nat) (ord : List Chg), v3 = .slice A3 ord.length c3 ∧ ord.length + f ≤ n ∧ Hid (RanAt Tryd.prog wr 42 .u64 bt gr n (tabF M.l) left f) ∧ Hid (wr.ownsRow w.heap.size 73 1 (.slice A3 ord.length c3) ord.length (ptrV gs)) ∧ Hid (Ptrs wr w.heap.size gs ord) ∧ Hid (Below w.heap.size w wr)
    ∧ Hid ((∀ x ∈ ord, x ∈ M.l ∧ left x.id = false) ∧ (∀ x ∈ M.l, left x.id = true ∨ x ∈ ord) ∧ ord.Pairwise fun a b => a.id ≠ b.id))
  case atStart =>
    refine ⟨_, some ⟨w.heap.size, 0, none⟩, j, [], [], rfl, by simpa using hcn0, HR2.out, HO2.out, Ptrs.nil _ _, hU2.out, ⟨fun x hx => (by cases hx), fun x hx => .inl ?_, List.Pairwise.nil⟩⟩
    show (tabF M.l x.id).isSome = true
    rw [tabF_some HTL.out.1 hx]
    rfl
  case round =>
    obtain ⟨left, A3, c3, gs, ord, rfl, hon, hR, hO, hP, hB, hI⟩ := hrel
    go_wp2_with (at_next; refine wpList_next_at rfl (.tmp 16) rfl hR.out u64int rfl ?_ ?_)
    · intro hl0
      have HFIN : Hid (∀ x, x ∈ ord ↔ x ∈ M.l) := fun x => ⟨fun hx => (hI.out.1 x hx).1, fun hx => by
        rcases hI.out.2.1 x hx with h1 | h1
        · rw [hl0 x.id (HG.out.2 x hx)] at h1
          cases h1
        · exact h1⟩
      clear hl0
      go_wp2
      go_ret
      exact ⟨A3, c3, gs, ord, rfl, own_weaken' hO.out (Nat.zero_le _), hP.out, hB.out, HFIN.out, hI.out.2.2⟩
    · intro x v w3 cnt3 hwx hlx hmx hR3 hlt3 hg3 hs3 hen
      obtain ⟨c, hcl, rfl, hv⟩ : ∃ c ∈ M.l, c.id = x ∧ v = tmV c := by
        rcases tabF_cases HTL.out.1 x with ⟨c, hc, hx, h1⟩ | ⟨_, h1⟩
        · rw [h1] at hmx
          injection hmx with hmx
          exact ⟨c, hc, hx, hmx.symm⟩
        · rw [h1] at hmx
          cases hmx
      replace hv : v = .agg #[.int .u8 c.level, .int .u64 c.keyId, .int .u32 c.comp] := hv
      subst hv
      have HCL := Lib.hid (And.intro hcl (And.intro (HG.out.1 c hcl) (HTL.out.2 c hcl)))
      have hB3 : Hid (Below w.heap.size w w3) := hB.out.grown hg3 hB.out.size (fun k e => by injection e with e; have := HRS.out; omega)
      have HLX := Lib.hid hlx
      have HR3 := Lib.hid hR3
      have HO3 := Lib.hid (hO.out.kept hg3 (.inr (hR.out.ne_own hO.out)))
      have HP3 : Hid (∀ (k g : Nat) (x : Chg), gs[k]? = some g → ord[k]? = some x → w.heap.size ≤ g ∧ Blk w3 g 76 x.row) := fun k g x hg hx => by
        obtain ⟨h1, h2⟩ := hP.out.2 k g x hg hx
        exact ⟨h1, h2.frm (Frm.of_grown hg3) (by rw [List.mem_singleton]; exact hR.out.ne_blk h2)⟩
      have HPL : Hid (gs.length = ord.length) := hP.out.1
      clear hcl hlx hmx hwx hR3 hg3 hs3 hR hO hP hB
      have l0 : 0 ≤ c.level := HCL.out.2.2.1
      have l2 : c.level ≤ 255 := HCL.out.2.2.2.2
      go_wp2_with fail
      refine (newCreate_any c (w3.alloc (.cells #[.int .u8 c.level, .int .u64 c.keyId, .int .u32 c.comp] 79)) HCL.out.2.1 l0 l2).mono ?_
      rintro E w4 ⟨rfl, hw4⟩
      have HB4 : Hid (Below w.heap.size w w4) := by show Below _ _ _; rw [hw4]; exact (hB3.out.alloc hB3.out.size _).alloc (by rw [World.size_alloc]; have := hB3.out.size; omega) _
      have HO4 : Hid (w4.ownsRow w.heap.size 73 1 (.slice A3 ord.length c3) ord.length (ptrV gs)) := by show World.ownsRow _ _ _ _ _ _ _; rw [hw4]; exact (HO3.out.alloc _).alloc _
      have HR4 : Hid (RanAt Tryd.prog w4 42 .u64 bt gr n (tabF M.l) (fun y => left y && !decide (y = c.id)) cnt3) := by show RanAt _ _ _ _ _ _ _ _ _ _; rw [hw4]; exact (HR3.out.alloc _).alloc _
      obtain ⟨gN, hgN⟩ : ∃ x, x = (w3.alloc (.cells #[.int .u8 c.level, .int .u64 c.keyId, .int .u32 c.comp] 79)).heap.size := ⟨_, rfl⟩
      have HN4 : Hid (w.heap.size ≤ gN ∧ Blk w4 gN 76 c.row) := by
        refine ⟨by rw [hgN, World.size_alloc]; have := hB3.out.size; omega, ?_⟩
        rw [hgN, hw4]
        exact Blk.new _ _ _
      have HP4 : Hid (∀ (k g : Nat) (x : Chg), gs[k]? = some g → ord[k]? = some x → w.heap.size ≤ g ∧ Blk w4 g 76 x.row) := fun k g x hg hx => by
        obtain ⟨h1, h2⟩ := HP3.out k g x hg hx
        refine ⟨h1, ?_⟩
        rw [hw4]
        exact (h2.alloc _).alloc _
      rw [← hgN]
      clear hw4 hgN HO3 HP3 HR3 hB3 hen
      have HS4 := Lib.hid (sl_one' w4 (.pointer (some ⟨gN, 0, none⟩)) 73)
      go_wp2_with (at_builtin; refine wpList_append_sl _ rfl (.tmp 22) (.tmp 32) 49 rfl w.heap.size 73 (.pointer none) 8 Tryd.underlying49 infoMC rfl (.slice A3 ord.length c3) ord.length (ptrV gs) rfl (HO4.out.alloc _) _ 1 1 [.pointer (some ⟨gN, 0, none⟩)] rfl HS4.out (by simp [Value.oneCell']) (by omega) (by omega) ?cb ?_; (case cb => rw [World.size_alloc]; have := HB4.out.size; omega); intro v33 w5 ho5 hg5 hat5; obtain ⟨A5, c5, hv5, hc5, hs5⟩ := own_sl ho5; subst hv5; have HO5 := Lib.hid ho5; have HG5 := Lib.hid hg5; clear ho5 hg5 hat5 hs5)
      have HOA := Lib.hid (HO4.out.alloc (.cells #[.pointer (some ⟨gN, 0, none⟩)] 73))
      have HBK : Hid (∀ g cs, Blk w4 g 76 cs → Blk w5 g 76 cs) := fun g cs hb => (HG5.out.block g (hb.alloc _).lt (own_ne HOA.out (hb.alloc _) (by decide))).trans (hb.alloc _)
      have HR5 : Hid (RanAt Tryd.prog w5 42 .u64 bt gr n (tabF M.l) (fun y => left y && !decide (y = c.id)) cnt3) := (HR4.out.alloc _).kept HG5.out ((HR4.out.alloc _).map.ne_own HOA.out) (fun e => (HR4.out.alloc _).ne_own HOA.out e.symm)
      go_roundg cnt3
      case measure => omega
      case rel =>
        refine ⟨_, A5, c5, gs ++ [gN], ord ++ [c], ?_, by rw [List.length_append, List.length_singleton]; omega, HR5.out, ?_, ?_, ?_, ?_⟩
        · rw [List.length_append]; rfl
        · show World.ownsRow _ _ _ _ _ _ _
          rw [ptrV_snoc, List.length_append]
          exact HO5.out
        · exact Ptrs.snoc ⟨HPL.out, HP4.out⟩ (fun k cs hb => HBK.out k cs hb) HN4.out.1 (HBK.out _ _ HN4.out.2)
        · exact (HB4.out.alloc HB4.out.size _).grown HG5.out (by rw [World.size_alloc]; have := HB4.out.size; omega) (fun k e => (HOA.out.lt k e).1)
        · refine ⟨fun x hx => ?_, fun x hx => ?_, ?_⟩
          · rcases List.mem_append.1 hx with h | h
            · obtain ⟨h1, h2⟩ := hI.out.1 x h
              exact ⟨h1, by rw [h2]; rfl⟩
            · rw [List.mem_singleton] at h
              subst h
              exact ⟨HCL.out.1, by simp⟩
          · rcases hI.out.2.1 x hx with h | h
            · by_cases e : x.id = c.id
              · right
                have h1 := tabF_some HTL.out.1 hx
                have : x = c := by
                  obtain ⟨i, hi⟩ := List.mem_iff_getElem?.1 hx
                  obtain ⟨k, hk⟩ := List.mem_iff_getElem?.1 HCL.out.1
                  rcases Nat.lt_trichotomy i k with h3 | h3 | h3
                  · have := HTL.out.1.get h3 hi hk; omega
                  · subst h3; rw [hi] at hk; injection hk
                  · have := HTL.out.1.get h3 hk hi; omega
                rw [this]
                simp
              · left
                rw [h, decide_eq_false e]
                rfl
            · exact .inr (List.mem_append_left _ h)
          · rw [List.pairwise_append]
            refine ⟨hI.out.2.2, List.pairwise_singleton _ _, fun a ha b hb => ?_⟩
            rw [List.mem_singleton] at hb
            subst hb
            intro e
            have h1 := (hI.out.1 a ha).2
            rw [e, HLX.out] at h1
            cases h1
theorem changes_any (gm bt n lc : Nat) (LA : Option Addr) (lm : List Nat) (M : MF) (w : World) (h : MSt w gm bt n LA lc lm M) (hg : ∀ c ∈ M.l, c.gone = false) (hid : ∀ c ∈ M.l, (Lit.int .u64 c.id).wf = true) (hn : n ≤ 1000000) :
    Calls Tryd.prog 27 #[.pointer (some ⟨gm, 0, none⟩)] w (AsP M.l w) := by
  have H := Lib.hid h
  have HG := Lib.hid hg
  have HD := Lib.hid hid
  clear h hg hid
  go_enter Tryd.func27, Tryd.ntmps27
  go_wp2_with fail
  refine (asChanges_any gm bt n lc LA lm M w H.out HG.out HD.out hn).mono ?_
  rintro E w2 ⟨A, c, gs, ord, rfl, h1, h2, h3, h4, h5⟩
  have HR : Hid (AsP M.l w (.returned (.slice A ord.length c)) w2) := ⟨A, c, gs, ord, rfl, h1, h2, h3, h4, h5⟩
  clear h1 h2 h3 h4 h5
  go_wp2
  go_ret
  exact HR.out
end Go.Proofs.YtpfmmbhbmdbmeaaDoor
