/- impl.manifestOf: the tables of a manifest in order. -/
import Derived.Test.YtpfmmbhbmdbmeaaDoorY7
namespace Go.Proofs.YtpfmmbhbmdbmeaaDoor
open Go.Proofs.YtpfmmbhbmdbmeaaDoorW.PrintLast
open Go.RowKit
set_option linter.unusedVariables false
set_option linter.unusedSimpArgs false
theorem len_ins (l : List Chg) (c : Chg) {p : Nat} (h : p ≤ l.length) : p + (1 + (l.length - p)) = (insC l c).length := by rw [insC_len]; omega
theorem len_rest (l : List Chg) (c : Chg) {f f2 n : Nat} (h : l.length + f ≤ n) (h2 : f2 + 1 ≤ f) : (insC l c).length + f2 ≤ n := by rw [insC_len]; omega
theorem cell_row {w w1 : World} {p : Addr} {v : Value} {r : Option Nat} (h : w.cell? p = some v) (hg : w.grownBy w1 r) (hr : some p.block ≠ r) : w1.cell? p = some v := by
  have hlt := World.block_lt_of_cell? w _ h
  have hb := hg.block _ hlt hr
  unfold World.cell? at h ⊢
  rw [hb]
  exact h
theorem grown_set (w : World) (g i : Nat) (v : Value) : w.grownBy (w.setCell ⟨g, i, none⟩ v) (some g) := ⟨rfl, rfl, rfl, by simp [World.setCell], fun k _ hk => Below.heap_setCell w _ v k (fun e => hk (e ▸ rfl))⟩
theorem cell_belM {w w' : World} {p : Addr} {v : Value} (h : w.cell? p = some v) (hb : Below w.heap.size w w') : w'.cell? p = some v := by
  rw [hb.cell (World.block_lt_of_cell? w _ h)]
  exact h
theorem own_drop_sl {w : World} {base g c n p : Nat} {l : List Chg} (h : w.ownsRow base 45 5 (.slice (some ⟨g, 0, none⟩) n c) n (cellsL l)) (hp : p ≤ n) (hl : l.length = n) : Sl w (some ⟨g, p * 5, none⟩) ((n - p) * 5) ((cellsL l).drop (p * 5)) := by
  refine ⟨by rw [List.length_drop, cellsL_len, hl]; omega, fun _ => ⟨g, p * 5, rfl, fun j u hu => ?_⟩⟩
  rw [List.getElem?_drop] at hu
  have hj := (List.getElem?_eq_some_iff.1 hu).1
  rw [cellsL_len, hl] at hj
  rw [h.cellAt (p * 5 + j) hj]
  exact hu
theorem drop_nil_sl {w : World} {A : Option Addr} {n p : Nat} {l : List Chg} (hp : n ≤ p) (hl : l.length = n) : Sl w A ((n - p) * 5) ((cellsL l).drop (p * 5)) := by
  have e : n - p = 0 := by omega
  refine ⟨by rw [List.length_drop, cellsL_len, hl]; omega, fun h => by rw [e] at h; omega⟩
structure ManP (l : List Chg) (come gone : Int) (w : World) (E : Ending) (w' : World) : Prop where
  ex : ∃ A c, E = .returned (.agg #[.slice A l.length c, .int .i64 come, .int .i64 gone]) ∧ Slc w' A l.length l
  bel : Below w.heap.size w w'
set_option maxRecDepth 100000 in
set_option maxHeartbeats 4000000 in
theorem manifestOf_any (bt n ln lc : Nat) (LA : Option Addr) (come gone : Int) (l : List Chg) (w : World) (hT : MapAt Tryd.prog w 42 .u64 bt n (tabF l)) (hs : SortedC l) (hlv : ∀ c ∈ l, 0 ≤ c.level ∧ c.level ≤ 255) (hgn : ∀ c ∈ l, c.gone = false) (hid : ∀ c ∈ l, (Lit.int .u64 c.id).wf = true) (hn : n ≤ 1000000) :
    Calls Tryd.prog 22 #[.agg #[.slice LA ln lc, .map (some bt), .int .i64 come, .int .i64 gone]] w (ManP l come gone w) := by
  have HT := Lib.hid (((hT.alloc (.cells #[.slice LA ln lc, .map (some bt), .int .i64 come, .int .i64 gone] 54)).alloc (.cells #[.slice none 0 0, .int .i64 0, .int .i64 0] 27)).alloc (.cells #[.slice none 0 0, .int .i64 come, .int .i64 gone] 27))
  have HS := Lib.hid hs
  have HQ := Lib.hid (And.intro hlv (And.intro hgn hid))
  have HW3 : Hid (Below w.heap.size w (((w.alloc (.cells #[.slice LA ln lc, .map (some bt), .int .i64 come, .int .i64 gone] 54)).alloc (.cells #[.slice none 0 0, .int .i64 0, .int .i64 0] 27)).alloc (.cells #[.slice none 0 0, .int .i64 come, .int .i64 gone] 27))) := ((((Below.refl _ _).alloc (Nat.le_refl _) _).alloc (by simp) _).alloc (by rw [World.size_alloc, World.size_alloc]; omega) _)
  have HG2 : Hid (Blk (((w.alloc (.cells #[.slice LA ln lc, .map (some bt), .int .i64 come, .int .i64 gone] 54)).alloc (.cells #[.slice none 0 0, .int .i64 0, .int .i64 0] 27)).alloc (.cells #[.slice none 0 0, .int .i64 come, .int .i64 gone] 27)) (w.heap.size + 1) 27 [.slice none 0 0, .int .i64 0, .int .i64 0]) := by
    have h := (Blk.new (w.alloc (.cells #[.slice LA ln lc, .map (some bt), .int .i64 come, .int .i64 gone] 54)) 27 [.slice none 0 0, .int .i64 0, .int .i64 0]).alloc (.cells #[.slice none 0 0, .int .i64 come, .int .i64 gone] 27)
    rw [World.size_alloc] at h
    exact h
  have HG3 : Hid (Blk (((w.alloc (.cells #[.slice LA ln lc, .map (some bt), .int .i64 come, .int .i64 gone] 54)).alloc (.cells #[.slice none 0 0, .int .i64 0, .int .i64 0] 27)).alloc (.cells #[.slice none 0 0, .int .i64 come, .int .i64 gone] 27)) (w.heap.size + 1 + 1) 27 [.slice none 0 0, .int .i64 come, .int .i64 gone]) := by
    have h := Blk.new ((w.alloc (.cells #[.slice LA ln lc, .map (some bt), .int .i64 come, .int .i64 gone] 54)).alloc (.cells #[.slice none 0 0, .int .i64 0, .int .i64 0] 27)) 27 [.slice none 0 0, .int .i64 come, .int .i64 gone]
    rw [World.size_alloc, World.size_alloc] at h
    exact h
  clear hT hs hlv hgn hid
  go_enter Tryd.func22, Tryd.ntmps22
  go_wp2_with (at_range; refine wpList_range_at rfl (.tmp 14) 52 rfl HT.out u64int Tryd.underlying52 rfl ?_; intro w2 cnt hrg0 hcn0 hg0 hs0)
  go_frame
  generalize ((w.alloc (.cells #[.slice LA ln lc, .map (some bt), .int .i64 come, .int .i64 gone] 54)).alloc (.cells #[.slice none 0 0, .int .i64 0, .int .i64 0] 27)).alloc (.cells #[.slice none 0 0, .int .i64 come, .int .i64 gone] 27) = w1 at *
  have HB2s : Hid (Blk w2 (w.heap.size + 1) 27 [.slice none 0 0, .int .i64 0, .int .i64 0]) := (hg0.block _ HG2.out.lt (by simp)).trans HG2.out
  have HB3s : Hid (Blk w2 (w.heap.size + 1 + 1) 27 [.slice none 0 0, .int .i64 come, .int .i64 gone]) := (hg0.block _ HG3.out.lt (by simp)).trans HG3.out
  have HU2 : Hid (Below w.heap.size w w2) := HW3.out.grown hg0 HW3.out.size (fun k e => by cases e)
  have HR2 := Lib.hid hrg0
  have HG23 : Hid (w.heap.size + 1 ≠ w.heap.size + 1 + 1) := by show _ ≠ _; omega
  have HG3L : Hid (w.heap.size ≤ w.heap.size + 1 + 1) := by show _ ≤ _; omega
  have HG2L : Hid (w.heap.size ≤ w.heap.size + 1) := by show _ ≤ _; omega
  have HGRL : Hid (w.heap.size ≤ w1.heap.size) := HW3.out.size
  clear hrg0 hg0 hs0 HT HG2 HG3 HW3
  generalize hgr : w1.heap.size = gr at *
  generalize hg2e : w.heap.size + 1 = g2 at *
  generalize hg3e : g2 + 1 = g3 at *
  clear hgr hg2e hg3e
  go_loopg [] cnt (fun f wr => ∃ (left : Int → Bool) (A : Option Addr) (cA : Nat) (l2 : List Chg), l2.length + f ≤ n ∧ Hid (RanAt Tryd.prog wr 42 .u64 bt gr n (tabF l) left f) ∧ Hid (wr.ownsRow w.heap.size 45 5 (.slice A l2.length cA) l2.length (cellsL l2)) ∧ Hid (Blk wr g3 27 [.slice A l2.length cA, .int .i64 come, .int .i64 gone]) ∧ Hid (Blk wr g2 27 [.slice none 0 0, .int .i64 0, .int .i64 0]) ∧ Hid (Below w.heap.size w wr)
    ∧ Hid (SortedC l2 ∧ (∀ x ∈ l2, x ∈ l ∧ left x.id = false) ∧ (∀ x ∈ l, left x.id = true ∨ x ∈ l2)))
  case atStart =>
    refine ⟨_, none, 0, [], by simpa using hcn0, HR2.out, World.ownsRow_nil _ _ _ _, HB3s.out, HB2s.out, HU2.out, ⟨List.Pairwise.nil, fun x hx => (by cases hx), fun x hx => .inl ?_⟩⟩
    show (tabF l x.id).isSome = true
    rw [tabF_some HS.out hx]
    rfl
  case round =>
    obtain ⟨left, A, cA, l2, hon, hR, hO, hB3, hB2, hU, hI⟩ := hrel
    go_wp2_with (at_next; refine wpList_next_at rfl (.tmp 15) rfl hR.out u64int rfl ?_ ?_)
    · intro hl0
      have HFIN : Hid (l2 = l) := sorted_ext _ _ hI.out.1 HS.out (fun x => ⟨fun hx => (hI.out.2.1 x hx).1, fun hx => by
        rcases hI.out.2.2 x hx with h1 | h1
        · rw [hl0 x.id (HQ.out.2.2 x hx)] at h1
          cases h1
        · exact h1⟩)
      have q0 := hB3.out.at_ (i := 0) rfl
      have q1 := hB3.out.at_ (i := 1) rfl
      have q2 := hB3.out.at_ (i := 2) rfl
      have r0 := hB2.out.at_ (i := 0) rfl
      have r1 := hB2.out.at_ (i := 1) rfl
      have r2 := hB2.out.at_ (i := 2) rfl
      have z0 := hB2.out.frozen 0
      have z1 := hB2.out.frozen 1
      have z2 := hB2.out.frozen 2
      clear hl0
      go_wp2
      have hfs : Frm [g2] wr (((wr.setCell ⟨g2, 0, none⟩ (.slice A l2.length cA)).setCell ⟨g2, 1, none⟩ (.int .i64 come)).setCell ⟨g2, 2, none⟩ (.int .i64 gone)) := (((Frm.refl [g2] wr).andSet _ _ (.inl (by simp))).andSet _ _ (.inl (by simp))).andSet _ _ (.inl (by simp))
      have HO9 := Lib.hid (own_frm2 hO.out hfs (fun x e => by rw [List.mem_singleton]; intro e2; subst e2; exact own_ne hO.out hB2.out (by decide) e.symm))
      have HB9 : Hid (Below w.heap.size w (((wr.setCell ⟨g2, 0, none⟩ (.slice A l2.length cA)).setCell ⟨g2, 1, none⟩ (.int .i64 come)).setCell ⟨g2, 2, none⟩ (.int .i64 gone))) := ((hU.out.setCell HG2L.out _).setCell HG2L.out _).setCell HG2L.out _
      clear hfs
      refine bodyPost_ret (v := .agg #[.slice A l2.length cA, .int .i64 come, .int .i64 gone]) (by simp [results, Tryd.results22, go_sem, r0, r1, r2, z0, z1, z2]) rfl ?_
      obtain ⟨A9, c9, hv9, hsl⟩ := own_slc HO9.out rfl
      injection hv9 with e1 e2 e3
      subst e1 e3
      refine ⟨⟨A, cA, ?_, ?_⟩, HB9.out⟩
      · rw [← HFIN.out]
      · rw [← HFIN.out]
        exact hsl
    · intro x v w3 cnt3 hwx hlx hmx hR3 hlt3 hg3 hs3 hen
      obtain ⟨c, hcl, rfl, hv⟩ : ∃ c ∈ l, c.id = x ∧ v = tmV c := by
        rcases tabF_cases HS.out x with ⟨c, hc, hx, h1⟩ | ⟨_, h1⟩
        · rw [h1] at hmx
          injection hmx with hmx
          exact ⟨c, hc, hx, hmx.symm⟩
        · rw [h1] at hmx
          cases hmx
      replace hv : v = .agg #[.int .u8 c.level, .int .u64 c.keyId, .int .u32 c.comp] := hv
      subst hv
      have l0 : 0 ≤ c.level := (HQ.out.1 c hcl).1
      have l255 : c.level ≤ 255 := (HQ.out.1 c hcl).2
      have HCG : Hid (c.gone = false) := HQ.out.2.1 c hcl
      have HHT : Hid (hitC l2 c.id = false) := by
        show _ = _
        cases hh : hitC l2 c.id with
        | false => rfl
        | true =>
          obtain ⟨a, ha, hax⟩ := (hit_iff hI.out.1 c.id).1 hh
          have := (hI.out.2.1 a ha).2
          rw [hax, hlx] at this
          cases this
      have HIN : Hid (SortedC (insC l2 c) ∧ (∀ x ∈ insC l2 c, x ∈ l ∧ (left x.id && !decide (x.id = c.id)) = false) ∧ (∀ x ∈ l, (left x.id && !decide (x.id = c.id)) = true ∨ x ∈ insC l2 c)) := by
        refine ⟨insC_sorted hI.out.1 HHT.out, fun x hx => ?_, fun x hx => ?_⟩
        · rcases mem_insC.1 hx with rfl | h
          · exact ⟨hcl, by simp⟩
          · obtain ⟨h1, h2⟩ := hI.out.2.1 x h
            exact ⟨h1, by rw [h2]; rfl⟩
        · rcases hI.out.2.2 x hx with h | h
          · by_cases e : x.id = c.id
            · right
              have : x = c := by
                obtain ⟨i, hi⟩ := List.mem_iff_getElem?.1 hx
                obtain ⟨k, hk⟩ := List.mem_iff_getElem?.1 hcl
                rcases Nat.lt_trichotomy i k with h3 | h3 | h3
                · have := HS.out.get h3 hi hk; omega
                · subst h3; rw [hi] at hk; injection hk
                · have := HS.out.get h3 hk hi; omega
              rw [this]
              exact mem_insC.2 (.inl rfl)
            · left
              rw [h, decide_eq_false e]
              rfl
          · exact .inr (mem_insC.2 (.inr h))
      have HO3 := Lib.hid (hO.out.kept hg3 (.inr (hR.out.ne_own hO.out)))
      have HB33 : Hid (Blk w3 g3 27 [.slice A l2.length cA, .int .i64 come, .int .i64 gone]) := hB3.out.frm (Frm.of_grown hg3) (by rw [List.mem_singleton]; exact hR.out.ne_blk hB3.out)
      have HB32 : Hid (Blk w3 g2 27 [.slice none 0 0, .int .i64 0, .int .i64 0]) := hB2.out.frm (Frm.of_grown hg3) (by rw [List.mem_singleton]; exact hR.out.ne_blk hB2.out)
      have HU3 : Hid (Below w.heap.size w w3) := hU.out.grown hg3 hU.out.size (fun k e => by injection e with e; have := HGRL.out; omega)
      have HR3 := Lib.hid hR3
      clear hcl hlx hmx hwx hR3 hg3 hs3 hR hO hB3 hB2 hU
      have HR6 := Lib.hid ((HR3.out.alloc (.cells #[.int .u8 c.level, .int .u64 c.keyId, .int .u32 c.comp] 79)).alloc (.cells #[.int .u64 c.id, .bool false, .int .u32 c.level, .int .u64 c.keyId, .int .u32 c.comp] 45))
      have HO6 := Lib.hid ((HO3.out.alloc (.cells #[.int .u8 c.level, .int .u64 c.keyId, .int .u32 c.comp] 79)).alloc (.cells #[.int .u64 c.id, .bool false, .int .u32 c.level, .int .u64 c.keyId, .int .u32 c.comp] 45))
      have HB3 := Lib.hid ((HB33.out.alloc (.cells #[.int .u8 c.level, .int .u64 c.keyId, .int .u32 c.comp] 79)).alloc (.cells #[.int .u64 c.id, .bool false, .int .u32 c.level, .int .u64 c.keyId, .int .u32 c.comp] 45))
      have HB2 := Lib.hid ((HB32.out.alloc (.cells #[.int .u8 c.level, .int .u64 c.keyId, .int .u32 c.comp] 79)).alloc (.cells #[.int .u64 c.id, .bool false, .int .u32 c.level, .int .u64 c.keyId, .int .u32 c.comp] 45))
      have HU6 : Hid (Below w.heap.size w ((w3.alloc (.cells #[.int .u8 c.level, .int .u64 c.keyId, .int .u32 c.comp] 79)).alloc (.cells #[.int .u64 c.id, .bool false, .int .u32 c.level, .int .u64 c.keyId, .int .u32 c.comp] 45))) := (HU3.out.alloc HU3.out.size _).alloc (by rw [World.size_alloc]; have := HU3.out.size; omega) _
      have HB6 : Hid (Blk ((w3.alloc (.cells #[.int .u8 c.level, .int .u64 c.keyId, .int .u32 c.comp] 79)).alloc (.cells #[.int .u64 c.id, .bool false, .int .u32 c.level, .int .u64 c.keyId, .int .u32 c.comp] 45)) (w3.heap.size + 1) 45 [.int .u64 c.id, .bool false, .int .u32 c.level, .int .u64 c.keyId, .int .u32 c.comp]) := by
        have h := Blk.new (w3.alloc (.cells #[.int .u8 c.level, .int .u64 c.keyId, .int .u32 c.comp] 79)) 45 [.int .u64 c.id, .bool false, .int .u32 c.level, .int .u64 c.keyId, .int .u32 c.comp]
        rw [World.size_alloc] at h
        exact h
      have HOL : Hid (∀ x, (Value.slice A l2.length cA).ownBlock = some x → x < w3.heap.size + 1) := fun x e => by have := (HO3.out.lt x e).2; omega
      clear HR3 HO3 HB33 HB32 HU3
      go_upto_block 2 with fail
      generalize (w3.alloc (.cells #[.int .u8 c.level, .int .u64 c.keyId, .int .u32 c.comp] 79)).alloc (.cells #[.int .u64 c.id, .bool false, .int .u32 c.level, .int .u64 c.keyId, .int .u32 c.comp] 45) = wf at *
      have HG6W : Hid (w3.heap.size < w3.heap.size + 1) := Nat.lt_succ_self _
      generalize w3.heap.size + 1 = g6 at *
      obtain ⟨A', c', hv', hcap, hsl, hAd⟩ := own_chg HO6.out
      injection hv' with e1 e2 e3
      subst e1 e3
      have HSL := Lib.hid hsl
      have HAD := Lib.hid hAd
      clear hsl hAd e2 hen
      have hlcap : (l2.length : Int) ≤ (cA : Int) := by omega
      go_cut [7] (fun v7 wx => ∃ p : Nat, v7 = .int .i64 p ∧ Hid (p = posC l2 c.id) ∧ p ≤ l2.length ∧ wf = wx)
      case first =>
        have b3 : wf.cell? ⟨g3, 0, none⟩ = some (.slice A l2.length cA) := HB3.out.at_ rfl
        go_wp2
        go_loopg [7] l2.length (fun f v7 wz => ∃ i : Nat, v7 = .int .i64 i ∧ i ≤ l2.length ∧ Hid (i ≤ posC l2 c.id) ∧ Hid (i + f = l2.length) ∧ wf = wz)
        case atStart => exact ⟨0, rfl, Nat.zero_le _, Nat.zero_le _, by simp [Hid], rfl⟩
        case round =>
          obtain ⟨i, rfl, hil, hip, hif, hwz⟩ := hrel
          subst hwz
          by_cases hlt : i < l2.length
          · obtain ⟨gA, hA⟩ : ∃ gA, A = some ⟨gA, 0, none⟩ := by
              rcases HAD.out with ⟨_, h0, _⟩ | ⟨gA, h0, _⟩
              · omega
              · exact ⟨gA, h0⟩
            subst hA
            obtain ⟨y, hy⟩ : ∃ y, l2[i]? = some y := ⟨_, List.getElem?_eq_getElem hlt⟩
            have cy : wf.cell? ⟨gA, i * 5, none⟩ = some (.int .u64 y.id) := by
              rw [HO6.out.cellAt (i * 5) (by omega)]
              have := cellsL_at l2 i 0 y hy (by omega)
              rw [Nat.add_zero] at this
              rw [this]
              rfl
            have hil2 : (i : Int) < (l2.length : Int) := by omega
            have HY := Lib.hid hy
            clear hy
            by_cases hlt2 : y.id < c.id
            · obtain ⟨gkO, rfl⟩ : ∃ x, gk = x + 1 := ⟨gk - 1, by have := hif.out; omega⟩
              have HIP : Hid (i + 1 ≤ posC l2 c.id) := by
                rcases Nat.lt_or_eq_of_le hip.out with h | h
                · exact h
                · exfalso
                  have := posC_at l2 c.id y (by rw [← h]; exact HY.out)
                  omega
              go_wp2
              go_roundg gkO
              case measure => omega
              case rel => exact ⟨i + 1, by go_num, by omega, HIP.out, by have := hif.out; show _ = _; omega, rfl⟩
            · have HPE : Hid (i = posC l2 c.id) := by
                rcases Nat.lt_or_eq_of_le hip.out with h | h
                · exfalso
                  have := posC_lt l2 c.id i y h HY.out
                  omega
                · exact h
              have hge2 : c.id ≤ y.id := by omega
              go_wp2_with fail
              go_meet
              exact ⟨i, rfl, HPE.out, hil, rfl⟩
          · have HPE : Hid (i = posC l2 c.id) := by
              have := posC_le l2 c.id
              have := hip.out
              show _ = _
              omega
            have hge : ¬ ((i : Int) < (l2.length : Int)) := by omega
            go_wp2_with fail
            go_meet
            exact ⟨i, rfl, HPE.out, hil, rfl⟩
      case rest =>
        obtain ⟨p, rfl, HPP, hpl, hwf⟩ := hcut
        subst hwf
        have hpi : (p : Int) ≤ (l2.length : Int) := by omega
        have hpc : (p : Int) ≤ (cA : Int) := by omega
        have hp0 : (0 : Int) ≤ (p : Int) := by omega
        rcases HAD.out with ⟨hA, h0, hc0⟩ | ⟨gA, hA, hgA1, hgA2⟩
        · subst hA
          subst hc0
          obtain rfl : l2 = [] := List.eq_nil_of_length_eq_zero h0
          obtain rfl : p = 0 := by have : ([] : List Chg).length = 0 := rfl; omega
          have HDR : ∀ wx : World, wx.ownsRow w.heap.size 45 5 (.slice none 0 0) 0 (cellsL ([] : List Chg)) → Sl wx none ((0 - 0) * 5) ((cellsL ([] : List Chg)).drop (0 * 5)) := fun wx _ => Sl.nil _ _
          have HGA6 : ∀ p' c'', some g6 ≠ (Value.slice none p' c'').ownBlock := fun p' c'' e => by cases e
          go_wp2
          refine start_ (n := 14) (S := fun w' => w'.cell? ⟨g3, 0, none⟩ = some (.slice none 0 0) ∧ w'.cell? ⟨g6, 0, none⟩ = some (.int .u64 c.id) ∧ w'.cell? ⟨g6, 1, none⟩ = some (.bool false) ∧ w'.cell? ⟨g6, 2, none⟩ = some (.int .u32 c.level) ∧ w'.cell? ⟨g6, 3, none⟩ = some (.int .u64 c.keyId) ∧ w'.cell? ⟨g6, 4, none⟩ = some (.int .u32 c.comp)) (ds := [13]) #[ff,ff,ff,ff,ff,ff,ff,ff,ff,ff,ff,ff,ff,ff] (by kernel_rfl) rfl rfl (⟨HB3.out.at_ rfl, HB6.out.at_ rfl, HB6.out.at_ rfl, HB6.out.at_ rfl, HB6.out.at_ rfl, HB6.out.at_ rfl⟩) (fun hHeld => ?_)
          have HOd : Hid (wf.drew.ownsRow w.heap.size 45 5 (.slice none 0 0) 0 (cellsL ([] : List Chg))) := HO6.out
          have HBd : Hid (Below w.heap.size w wf.drew) := HU6.out.drew
          have HG3d : Hid (Blk wf.drew g3 27 [.slice none 0 0, .int .i64 come, .int .i64 gone]) := HB3.out
          have HG2d : Hid (Blk wf.drew g2 27 [.slice none 0 0, .int .i64 0, .int .i64 0]) := HB2.out
          have HRd : Hid (RanAt Tryd.prog wf.drew 42 .u64 bt gr n (tabF l) (fun y => left y && !decide (y = c.id)) cnt3) := HR6.out
          have HG6d : Hid (g6 < wf.drew.heap.size) := HB6.out.lt
          have HOdL : Hid (∀ x, (Value.slice none 0 0).ownBlock = some x → x < wf.drew.heap.size) := fun x e => (HO6.out.lt x e).2
          clear HO6 HU6 HB3 HB2 HR6 HB6
          generalize wf.drew = wd at *
          refine pure_ (i := 0) (N := some 47) (v := ?_) (a' := ?_) #[tt,ff,ff,ff,ff,ff,ff,ff,ff,ff,ff,ff,ff,ff] rfl rfl (by kernel_rfl) (fun _ _ _ h => h) (Or.inl ⟨by rfl, ?_⟩) ?_ ?_; rotate_left; (intro w'; go_simp; with_reducible rfl); rotate_left; (simp only [Act.put, List.setIfInBounds_toArray, List.set_cons_zero, List.set_cons_succ, i64_w, i32_w]; rfl)
          refine take_ (i := 1) (N := some 48) (v := ?_) (a' := ?_) #[tt,tt,ff,ff,ff,ff,ff,ff,ff,ff,ff,ff,ff,ff] rfl rfl (by kernel_rfl) (fun _ _ _ h => h) (Or.inl ⟨by rfl, ?_⟩) hHeld ?_ ?_; rotate_left; (rintro w' ⟨h0, h1, h2, h3, h4, h5⟩; go_simp; with_reducible rfl); rotate_left; (simp only [Act.put, List.setIfInBounds_toArray, List.set_cons_zero, List.set_cons_succ, i64_w, i32_w]; rfl)
          refine pure_ (i := 2) (N := some 49) (v := ?_) (a' := ?_) #[tt,tt,tt,ff,ff,ff,ff,ff,ff,ff,ff,ff,ff,ff] rfl rfl (by kernel_rfl) (fun _ _ _ h => h) (Or.inl ⟨by rfl, ?_⟩) ?_ ?_; rotate_left; (intro w'; go_simp; with_reducible rfl); rotate_left; (simp only [Act.put, List.setIfInBounds_toArray, List.set_cons_zero, List.set_cons_succ, i64_w, i32_w]; rfl)
          refine pure_ (i := 3) (N := some 50) (v := ?_) (a' := ?_) #[tt,tt,tt,tt,ff,ff,ff,ff,ff,ff,ff,ff,ff,ff] rfl rfl (by kernel_rfl) (fun _ _ _ h => h) (Or.inl ⟨by rfl, ?_⟩) ?_ ?_; rotate_left; (intro w'; go_simp; with_reducible rfl); rotate_left; (simp only [Act.put, List.setIfInBounds_toArray, List.set_cons_zero, List.set_cons_succ, i64_w, i32_w]; rfl)
          refine take_ (i := 4) (N := some 51) (v := ?_) (a' := ?_) #[tt,tt,tt,tt,tt,ff,ff,ff,ff,ff,ff,ff,ff,ff] rfl rfl (by kernel_rfl) (fun _ _ _ h => h) (Or.inl ⟨by rfl, ?_⟩) hHeld ?_ ?_; rotate_left; (rintro w' ⟨h0, h1, h2, h3, h4, h5⟩; go_simp; with_reducible rfl); rotate_left; (simp only [Act.put, List.setIfInBounds_toArray, List.set_cons_zero, List.set_cons_succ, i64_w, i32_w]; rfl)
          refine pure_ (i := 6) (N := some 53) (v := ?_) (a' := ?_) #[tt,tt,tt,tt,tt,ff,tt,ff,ff,ff,ff,ff,ff,ff] rfl rfl (by kernel_rfl) (fun _ _ _ h => h) (Or.inl ⟨by rfl, ?_⟩) ?_ ?_; rotate_left; (intro w'; go_simp; with_reducible rfl); rotate_left; (simp only [Act.put, List.setIfInBounds_toArray, List.set_cons_zero, List.set_cons_succ, i64_w, i32_w]; rfl)
          refine take_ (i := 7) (N := some 54) (v := ?_) (a' := ?_) #[tt,tt,tt,tt,tt,ff,tt,tt,ff,ff,ff,ff,ff,ff] rfl rfl (by kernel_rfl) (fun _ _ _ h => h) (Or.inl ⟨by rfl, ?_⟩) hHeld ?_ ?_; rotate_left; (rintro w' ⟨h0, h1, h2, h3, h4, h5⟩; go_simp; with_reducible rfl); rotate_left; (simp only [Act.put, List.setIfInBounds_toArray, List.set_cons_zero, List.set_cons_succ, i64_w, i32_w]; rfl)
          refine pure_ (i := 8) (N := some 55) (v := ?_) (a' := ?_) #[tt,tt,tt,tt,tt,ff,tt,tt,tt,ff,ff,ff,ff,ff] rfl rfl (by kernel_rfl) (fun _ _ _ h => h) (Or.inl ⟨by rfl, ?_⟩) ?_ ?_; rotate_left; (intro w'; go_simp; with_reducible rfl); rotate_left; (simp only [Act.put, List.setIfInBounds_toArray, List.set_cons_zero, List.set_cons_succ, i64_w, i32_w]; rfl)
          refine pure_ (i := 9) (N := some 56) (v := ?_) (a' := ?_) #[tt,tt,tt,tt,tt,ff,tt,tt,tt,tt,ff,ff,ff,ff] rfl rfl (by kernel_rfl) (fun _ _ _ h => h) (Or.inl ⟨by rfl, ?_⟩) ?_ ?_; rotate_left; (intro w'; go_simp; with_reducible rfl); rotate_left; (simp only [Act.put, List.setIfInBounds_toArray, List.set_cons_zero, List.set_cons_succ, i64_w, i32_w]; rfl)
          refine one_ (i := 5) (N := some 52) #[tt,tt,tt,tt,tt,tt,tt,tt,tt,tt,ff,ff,ff,ff] rfl rfl (by kernel_rfl) (by decide) (fun K hK => ?_)
          refine value_ (v := .slice (some ⟨wd.heap.size, 0, none⟩) 1 1) (w1 := wd.alloc (.cells #[.int .u64 c.id, .bool false, .int .u32 c.level, .int .u64 c.keyId, .int .u32 c.comp] 45)) (by rfl) rfl ?_ ?_
          · go_simp
            try rfl
          have HOl : Hid ((wd.alloc (.cells #[.int .u64 c.id, .bool false, .int .u32 c.level, .int .u64 c.keyId, .int .u32 c.comp] 45)).ownsRow w.heap.size 45 5 (.slice (some ⟨wd.heap.size, 0, none⟩) 1 1) 1 [.int .u64 c.id, .bool false, .int .u32 c.level, .int .u64 c.keyId, .int .u32 c.comp]) := World.ownsRow_lit wd #[.int .u64 c.id, .bool false, .int .u32 c.level, .int .u64 c.keyId, .int .u32 c.comp] 1 HBd.out.size (by simp [maxLen]) rfl
          replace HOd := Lib.hid (HOd.out.alloc (.cells #[.int .u64 c.id, .bool false, .int .u32 c.level, .int .u64 c.keyId, .int .u32 c.comp] 45))
          have HNE : Hid (∀ x, (Value.slice none 0 0).ownBlock = some x → x ≠ wd.heap.size) := fun x e => by have := (HOd.out.lt x e).2; intro e2; have h7 := HOdL.out x e; omega
          have hb4 : Below wd.heap.size wd (wd.alloc (.cells #[.int .u64 c.id, .bool false, .int .u32 c.level, .int .u64 c.keyId, .int .u32 c.comp] 45)) := (Below.refl _ _).alloc (Nat.le_refl _) _
          refine hK.out _ _ (⟨cell_belM hHeld.1 hb4, cell_belM hHeld.2.1 hb4, cell_belM hHeld.2.2.1 hb4, cell_belM hHeld.2.2.2.1 hb4, cell_belM hHeld.2.2.2.2.1 hb4, cell_belM hHeld.2.2.2.2.2 hb4⟩) (fun hHeld => ?_); clear hK K; refine norm_ (a' := ?_) ?_ ?_; rotate_left; (show Act.put _ (some 52) _ = _; simp only [Act.put, List.setIfInBounds_toArray, List.set_cons_zero, List.set_cons_succ, i64_w, i32_w]; rfl)
          replace HBd : Hid (Below w.heap.size w (wd.alloc (.cells #[.int .u64 c.id, .bool false, .int .u32 c.level, .int .u64 c.keyId, .int .u32 c.comp] 45))) := HBd.out.alloc HBd.out.size _
          replace HG3d := Lib.hid (HG3d.out.alloc (.cells #[.int .u64 c.id, .bool false, .int .u32 c.level, .int .u64 c.keyId, .int .u32 c.comp] 45))
          replace HG2d := Lib.hid (HG2d.out.alloc (.cells #[.int .u64 c.id, .bool false, .int .u32 c.level, .int .u64 c.keyId, .int .u32 c.comp] 45))
          replace HRd := Lib.hid (HRd.out.alloc (.cells #[.int .u64 c.id, .bool false, .int .u32 c.level, .int .u64 c.keyId, .int .u32 c.comp] 45))
          clear hb4
          generalize wd.alloc (.cells #[.int .u64 c.id, .bool false, .int .u32 c.level, .int .u64 c.keyId, .int .u32 c.comp] 45) = w4 at *
          generalize wd.heap.size = gb at *
          have hdr : Sl w4 none ((0 - 0) * 5) ((cellsL ([] : List Chg)).drop (0 * 5)) := HDR w4 HOd.out
          refine one_ (i := 10) (N := some 57) #[tt,tt,tt,tt,tt,tt,tt,tt,tt,tt,tt,ff,ff,ff] rfl rfl (by kernel_rfl) (by decide) (fun K hK => ?_)
          refine step_append_chg rfl (.tmp 52) (.tmp 56) rfl w.heap.size (.slice (some ⟨gb, 0, none⟩) 1 1) 1 [.int .u64 c.id, .bool false, .int .u32 c.level, .int .u64 c.keyId, .int .u32 c.comp] rfl HOl.out none (0 - 0) 0 ((cellsL ([] : List Chg)).drop (0 * 5)) rfl hdr (fun u hu => cellsL_one ([] : List Chg) u (List.mem_of_mem_drop hu)) (by omega) HBd.out.size ?_
          intro v57 w5 ho57 hg57 hat57
          obtain ⟨A7, c7, hv57, hc7, hs7, _⟩ := own_chg ho57
          subst hv57
          have hne57 : ∀ x cs t, Blk w4 x t cs → t ≠ 45 → Blk w5 x t cs := fun x cs t hb ht => (hg57.block x hb.lt (own_ne HOl.out hb ht)).trans hb
          have HO7 : Hid (w5.ownsRow w.heap.size 45 5 (.slice none 0 0) 0 (cellsL ([] : List Chg))) := HOd.out.kept hg57 (.inr (fun e => HNE.out gb e rfl))
          replace HG3d := Lib.hid (hne57 _ _ _ HG3d.out (by decide))
          replace HG2d := Lib.hid (hne57 _ _ _ HG2d.out (by decide))
          replace HRd := Lib.hid (HRd.out.kept hg57 (HRd.out.map.ne_own HOl.out) (fun e => HRd.out.ne_own HOl.out e.symm))
          replace HBd : Hid (Below w.heap.size w w5) := HBd.out.grown hg57 HBd.out.size (fun k e => (HOl.out.lt k e).1)
          have hgb6 : some g6 ≠ (Value.slice (some ⟨gb, 0, none⟩) 1 1).ownBlock := fun e => by simp only [Value.ownBlock, Option.some.injEq] at e; have := HG6d.out; omega
          have hg3w : w5.cell? ⟨g3, 0, none⟩ = some (.slice none 0 0) := HG3d.out.at_ rfl
          refine hK.out _ _ (⟨hg3w, cell_row hHeld.2.1 hg57 hgb6, cell_row hHeld.2.2.1 hg57 hgb6, cell_row hHeld.2.2.2.1 hg57 hgb6, cell_row hHeld.2.2.2.2.1 hg57 hgb6, cell_row hHeld.2.2.2.2.2 hg57 hgb6⟩) (fun hHeld => ?_); clear hK K; refine norm_ (a' := ?_) ?_ ?_; rotate_left; (show Act.put _ (some 57) _ = _; simp only [Act.put, List.setIfInBounds_toArray, List.set_cons_zero, List.set_cons_succ, i64_w, i32_w]; rfl)
          have HS7 := Lib.hid hs7
          clear hs7 ho57 hg57 hat57 hne57 hdr hg3w hgb6 HOl HOd HNE
          have HOT := Lib.hid (own_take HO7.out hpl (by decide : 0 < 5))
          refine one_ (i := 11) (N := some 58) #[tt,tt,tt,tt,tt,tt,tt,tt,tt,tt,tt,tt,ff,ff] rfl rfl (by kernel_rfl) (by decide) (fun K hK => ?_)
          refine step_append_chg rfl (.tmp 50) (.tmp 57) rfl w.heap.size (.slice none 0 0) 0 ((cellsL ([] : List Chg)).take (0 * 5)) rfl HOT.out A7 (1 + (0 - 0)) c7 ([.int .u64 c.id, .bool false, .int .u32 c.level, .int .u64 c.keyId, .int .u32 c.comp] ++ (cellsL ([] : List Chg)).drop (0 * 5)) rfl HS7.out ?_ (by omega) HBd.out.size ?_
          · intro u hu
            rcases List.mem_append.1 hu with h | h
            · exact chg_one c u (by unfold Chg.cells; rw [HCG.out]; exact h)
            · exact cellsL_one ([] : List Chg) u (List.mem_of_mem_drop h)
          intro v58 w6 ho58 hg58 hat58
          obtain ⟨A8, c8, hv58, hc8, _, _⟩ := own_chg ho58
          subst hv58
          have hne58 : ∀ x cs t, Blk w5 x t cs → t ≠ 45 → Blk w6 x t cs := fun x cs t hb ht => (hg58.block x hb.lt (own_ne HOT.out hb ht)).trans hb
          have HO8 := Lib.hid ho58
          replace HG3d := Lib.hid (hne58 _ _ _ HG3d.out (by decide))
          replace HG2d := Lib.hid (hne58 _ _ _ HG2d.out (by decide))
          replace HRd := Lib.hid (HRd.out.kept hg58 (HRd.out.map.ne_own HOT.out) (fun e => HRd.out.ne_own HOT.out e.symm))
          replace HBd : Hid (Below w.heap.size w w6) := HBd.out.grown hg58 HBd.out.size (fun k e => (HOT.out.lt k e).1)
          have hg3w : w6.cell? ⟨g3, 0, none⟩ = some (.slice none 0 0) := HG3d.out.at_ rfl
          have hgA6 : some g6 ≠ (Value.slice none 0 0).ownBlock := HGA6 0 0
          refine hK.out _ _ (⟨hg3w, cell_row hHeld.2.1 hg58 hgA6, cell_row hHeld.2.2.1 hg58 hgA6, cell_row hHeld.2.2.2.1 hg58 hgA6, cell_row hHeld.2.2.2.2.1 hg58 hgA6, cell_row hHeld.2.2.2.2.2 hg58 hgA6⟩) (fun hHeld => ?_); clear hK K; refine norm_ (a' := ?_) ?_ ?_; rotate_left; (show Act.put _ (some 58) _ = _; simp only [Act.put, List.setIfInBounds_toArray, List.set_cons_zero, List.set_cons_succ, i64_w, i32_w]; rfl)
          clear ho58 hg58 hat58 hne58 hg3w hgA6 HOT HO7 HS7
          refine pure_ (i := 12) (N := some 59) (v := ?_) (a' := ?_) #[tt,tt,tt,tt,tt,tt,tt,tt,tt,tt,tt,tt,tt,ff] rfl rfl (by kernel_rfl) (fun _ _ _ h => h) (Or.inl ⟨by rfl, ?_⟩) ?_ ?_; rotate_left; (intro w'; go_simp; with_reducible rfl); rotate_left; (simp only [Act.put, List.setIfInBounds_toArray, List.set_cons_zero, List.set_cons_succ, i64_w, i32_w]; rfl)
          have q0 := HG3d.out.at_ (i := 0) rfl
          have f0 := HG3d.out.frozen 0
          refine last_ (i := 13) (N := none) #[tt,tt,tt,tt,tt,tt,tt,tt,tt,tt,tt,tt,tt,tt] rfl rfl (by kernel_rfl) (by decide) (fun K hK => ?_)
          refine skip_ (w1 := w6.setCell ⟨g3, 0, none⟩ (.slice A8 (0 + (1 + (0 - 0))) c8)) (by rfl) rfl ?_ ?_
          · simp [go_sem, q0, f0]
          refine hK.out _ _ ?_; clear hK K
          refine done_ (by kernel_rfl) ?_
          have hfs : Frm [g3] w6 (w6.setCell ⟨g3, 0, none⟩ (.slice A8 (0 + (1 + (0 - 0))) c8)) := Frm.set w6 ⟨g3, 0, none⟩ _
          have hlen : 0 + (1 + (0 - 0)) = (insC ([] : List Chg) c).length := len_ins ([] : List Chg) c hpl
          have hcel : (cellsL ([] : List Chg)).take (0 * 5) ++ ([.int .u64 c.id, .bool false, .int .u32 c.level, .int .u64 c.keyId, .int .u32 c.comp] ++ (cellsL ([] : List Chg)).drop (0 * 5)) = cellsL (insC ([] : List Chg) c) := by rw [insC_cells, ← HPP.out]; unfold Chg.cells; rw [HCG.out]
          rw [hcel] at HO8
          rw [hlen] at HO8 hfs ⊢
          have HLN := Lib.hid (insC_len ([] : List Chg) c)
          have HO9 := Lib.hid (own_frm2 HO8.out hfs (fun x e => by rw [List.mem_singleton]; intro e2; subst e2; exact own_ne HO8.out HG3d.out (by decide) e.symm))
          have HR9 : Hid (RanAt Tryd.prog (w6.setCell ⟨g3, 0, none⟩ (.slice A8 (insC ([] : List Chg) c).length c8)) 42 .u64 bt gr n (tabF l) (fun y => left y && !decide (y = c.id)) cnt3) := HRd.out.kept (grown_set w6 g3 0 _) (fun e => by injection e with e; exact HRd.out.map.ne_blk HG3d.out e) (fun e => by injection e with e; exact HRd.out.ne_blk HG3d.out e.symm)
          have HG39 := Lib.hid (HG3d.out.set_ 0 (.slice A8 (insC ([] : List Chg) c).length c8))
          have HG29 := Lib.hid (HG2d.out.frm hfs (by rw [List.mem_singleton]; exact fun e => HG23.out e))
          have HB9 : Hid (Below w.heap.size w (w6.setCell ⟨g3, 0, none⟩ (.slice A8 (insC ([] : List Chg) c).length c8))) := HBd.out.setCell HG3L.out _
          clear hfs hlen hcel q0 f0 HO8 HRd HG3d HG2d HBd hHeld
          go_wp2
          go_roundg cnt3
          case measure => omega
          case rel => exact ⟨_, A8, c8, insC ([] : List Chg) c, len_rest ([] : List Chg) c hon (by omega), HR9.out, HO9.out, HG39.out, HG29.out, HB9.out, HIN.out⟩
        · subst hA
          have HGA6 : ∀ p' c'', some g6 ≠ (Value.slice (some ⟨gA, 0, none⟩) p' c'').ownBlock := fun p' c'' e => by
            simp only [Value.ownBlock, Option.some.injEq] at e
            have := HOL.out gA rfl
            omega
          by_cases hcc : cA = p
          · subst hcc
            have HDR : ∀ wx : World, wx.ownsRow w.heap.size 45 5 (.slice (some ⟨gA, 0, none⟩) l2.length cA) l2.length (cellsL l2) → Sl wx (some ⟨gA, 0, none⟩) (0 * 5) ((cellsL l2).drop (cA * 5)) := fun wx _ => by have h := drop_nil_sl (w := wx) (A := some ⟨gA, 0, none⟩) (p := cA) (by omega) (rfl : l2.length = _); have e : l2.length - cA = 0 := (by omega); rwa [e] at h
            go_wp2
            refine start_ (n := 14) (S := fun w' => w'.cell? ⟨g3, 0, none⟩ = some (.slice (some ⟨gA, 0, none⟩) l2.length cA) ∧ w'.cell? ⟨g6, 0, none⟩ = some (.int .u64 c.id) ∧ w'.cell? ⟨g6, 1, none⟩ = some (.bool false) ∧ w'.cell? ⟨g6, 2, none⟩ = some (.int .u32 c.level) ∧ w'.cell? ⟨g6, 3, none⟩ = some (.int .u64 c.keyId) ∧ w'.cell? ⟨g6, 4, none⟩ = some (.int .u32 c.comp)) (ds := [13]) #[ff,ff,ff,ff,ff,ff,ff,ff,ff,ff,ff,ff,ff,ff] (by kernel_rfl) rfl rfl (⟨HB3.out.at_ rfl, HB6.out.at_ rfl, HB6.out.at_ rfl, HB6.out.at_ rfl, HB6.out.at_ rfl, HB6.out.at_ rfl⟩) (fun hHeld => ?_)
            have HOd : Hid (wf.drew.ownsRow w.heap.size 45 5 (.slice (some ⟨gA, 0, none⟩) l2.length cA) l2.length (cellsL l2)) := HO6.out
            have HBd : Hid (Below w.heap.size w wf.drew) := HU6.out.drew
            have HG3d : Hid (Blk wf.drew g3 27 [.slice (some ⟨gA, 0, none⟩) l2.length cA, .int .i64 come, .int .i64 gone]) := HB3.out
            have HG2d : Hid (Blk wf.drew g2 27 [.slice none 0 0, .int .i64 0, .int .i64 0]) := HB2.out
            have HRd : Hid (RanAt Tryd.prog wf.drew 42 .u64 bt gr n (tabF l) (fun y => left y && !decide (y = c.id)) cnt3) := HR6.out
            have HG6d : Hid (g6 < wf.drew.heap.size) := HB6.out.lt
            have HOdL : Hid (∀ x, (Value.slice (some ⟨gA, 0, none⟩) l2.length cA).ownBlock = some x → x < wf.drew.heap.size) := fun x e => (HO6.out.lt x e).2
            clear HO6 HU6 HB3 HB2 HR6 HB6
            generalize wf.drew = wd at *
            refine pure_ (i := 0) (N := some 47) (v := ?_) (a' := ?_) #[tt,ff,ff,ff,ff,ff,ff,ff,ff,ff,ff,ff,ff,ff] rfl rfl (by kernel_rfl) (fun _ _ _ h => h) (Or.inl ⟨by rfl, ?_⟩) ?_ ?_; rotate_left; (intro w'; go_simp; with_reducible rfl); rotate_left; (simp only [Act.put, List.setIfInBounds_toArray, List.set_cons_zero, List.set_cons_succ, i64_w, i32_w]; rfl)
            refine take_ (i := 1) (N := some 48) (v := ?_) (a' := ?_) #[tt,tt,ff,ff,ff,ff,ff,ff,ff,ff,ff,ff,ff,ff] rfl rfl (by kernel_rfl) (fun _ _ _ h => h) (Or.inl ⟨by rfl, ?_⟩) hHeld ?_ ?_; rotate_left; (rintro w' ⟨h0, h1, h2, h3, h4, h5⟩; go_simp; with_reducible rfl); rotate_left; (simp only [Act.put, List.setIfInBounds_toArray, List.set_cons_zero, List.set_cons_succ, i64_w, i32_w]; rfl)
            refine pure_ (i := 2) (N := some 49) (v := ?_) (a' := ?_) #[tt,tt,tt,ff,ff,ff,ff,ff,ff,ff,ff,ff,ff,ff] rfl rfl (by kernel_rfl) (fun _ _ _ h => h) (Or.inl ⟨by rfl, ?_⟩) ?_ ?_; rotate_left; (intro w'; go_simp; with_reducible rfl); rotate_left; (simp only [Act.put, List.setIfInBounds_toArray, List.set_cons_zero, List.set_cons_succ, i64_w, i32_w]; rfl)
            refine pure_ (i := 3) (N := some 50) (v := ?_) (a' := ?_) #[tt,tt,tt,tt,ff,ff,ff,ff,ff,ff,ff,ff,ff,ff] rfl rfl (by kernel_rfl) (fun _ _ _ h => h) (Or.inl ⟨by rfl, ?_⟩) ?_ ?_; rotate_left; (intro w'; go_simp; with_reducible rfl); rotate_left; (simp only [Act.put, List.setIfInBounds_toArray, List.set_cons_zero, List.set_cons_succ, i64_w, i32_w]; rfl)
            refine take_ (i := 4) (N := some 51) (v := ?_) (a' := ?_) #[tt,tt,tt,tt,tt,ff,ff,ff,ff,ff,ff,ff,ff,ff] rfl rfl (by kernel_rfl) (fun _ _ _ h => h) (Or.inl ⟨by rfl, ?_⟩) hHeld ?_ ?_; rotate_left; (rintro w' ⟨h0, h1, h2, h3, h4, h5⟩; go_simp; with_reducible rfl); rotate_left; (simp only [Act.put, List.setIfInBounds_toArray, List.set_cons_zero, List.set_cons_succ, i64_w, i32_w]; rfl)
            refine pure_ (i := 6) (N := some 53) (v := ?_) (a' := ?_) #[tt,tt,tt,tt,tt,ff,tt,ff,ff,ff,ff,ff,ff,ff] rfl rfl (by kernel_rfl) (fun _ _ _ h => h) (Or.inl ⟨by rfl, ?_⟩) ?_ ?_; rotate_left; (intro w'; go_simp; with_reducible rfl); rotate_left; (simp only [Act.put, List.setIfInBounds_toArray, List.set_cons_zero, List.set_cons_succ, i64_w, i32_w]; rfl)
            refine take_ (i := 7) (N := some 54) (v := ?_) (a' := ?_) #[tt,tt,tt,tt,tt,ff,tt,tt,ff,ff,ff,ff,ff,ff] rfl rfl (by kernel_rfl) (fun _ _ _ h => h) (Or.inl ⟨by rfl, ?_⟩) hHeld ?_ ?_; rotate_left; (rintro w' ⟨h0, h1, h2, h3, h4, h5⟩; go_simp; with_reducible rfl); rotate_left; (simp only [Act.put, List.setIfInBounds_toArray, List.set_cons_zero, List.set_cons_succ, i64_w, i32_w]; rfl)
            refine pure_ (i := 8) (N := some 55) (v := ?_) (a' := ?_) #[tt,tt,tt,tt,tt,ff,tt,tt,tt,ff,ff,ff,ff,ff] rfl rfl (by kernel_rfl) (fun _ _ _ h => h) (Or.inl ⟨by rfl, ?_⟩) ?_ ?_; rotate_left; (intro w'; go_simp; with_reducible rfl); rotate_left; (simp only [Act.put, List.setIfInBounds_toArray, List.set_cons_zero, List.set_cons_succ, i64_w, i32_w]; rfl)
            refine pure_ (i := 9) (N := some 56) (v := ?_) (a' := ?_) #[tt,tt,tt,tt,tt,ff,tt,tt,tt,tt,ff,ff,ff,ff] rfl rfl (by kernel_rfl) (fun _ _ _ h => h) (Or.inl ⟨by rfl, ?_⟩) ?_ ?_; rotate_left; (intro w'; go_simp; with_reducible rfl); rotate_left; (simp only [Act.put, List.setIfInBounds_toArray, List.set_cons_zero, List.set_cons_succ, i64_w, i32_w]; rfl)
            refine one_ (i := 5) (N := some 52) #[tt,tt,tt,tt,tt,tt,tt,tt,tt,tt,ff,ff,ff,ff] rfl rfl (by kernel_rfl) (by decide) (fun K hK => ?_)
            refine value_ (v := .slice (some ⟨wd.heap.size, 0, none⟩) 1 1) (w1 := wd.alloc (.cells #[.int .u64 c.id, .bool false, .int .u32 c.level, .int .u64 c.keyId, .int .u32 c.comp] 45)) (by rfl) rfl ?_ ?_
            · go_simp
              try rfl
            have HOl : Hid ((wd.alloc (.cells #[.int .u64 c.id, .bool false, .int .u32 c.level, .int .u64 c.keyId, .int .u32 c.comp] 45)).ownsRow w.heap.size 45 5 (.slice (some ⟨wd.heap.size, 0, none⟩) 1 1) 1 [.int .u64 c.id, .bool false, .int .u32 c.level, .int .u64 c.keyId, .int .u32 c.comp]) := World.ownsRow_lit wd #[.int .u64 c.id, .bool false, .int .u32 c.level, .int .u64 c.keyId, .int .u32 c.comp] 1 HBd.out.size (by simp [maxLen]) rfl
            replace HOd := Lib.hid (HOd.out.alloc (.cells #[.int .u64 c.id, .bool false, .int .u32 c.level, .int .u64 c.keyId, .int .u32 c.comp] 45))
            have HNE : Hid (∀ x, (Value.slice (some ⟨gA, 0, none⟩) l2.length cA).ownBlock = some x → x ≠ wd.heap.size) := fun x e => by have := (HOd.out.lt x e).2; intro e2; have h7 := HOdL.out x e; omega
            have hb4 : Below wd.heap.size wd (wd.alloc (.cells #[.int .u64 c.id, .bool false, .int .u32 c.level, .int .u64 c.keyId, .int .u32 c.comp] 45)) := (Below.refl _ _).alloc (Nat.le_refl _) _
            refine hK.out _ _ (⟨cell_belM hHeld.1 hb4, cell_belM hHeld.2.1 hb4, cell_belM hHeld.2.2.1 hb4, cell_belM hHeld.2.2.2.1 hb4, cell_belM hHeld.2.2.2.2.1 hb4, cell_belM hHeld.2.2.2.2.2 hb4⟩) (fun hHeld => ?_); clear hK K; refine norm_ (a' := ?_) ?_ ?_; rotate_left; (show Act.put _ (some 52) _ = _; simp only [Act.put, List.setIfInBounds_toArray, List.set_cons_zero, List.set_cons_succ, i64_w, i32_w]; rfl)
            replace HBd : Hid (Below w.heap.size w (wd.alloc (.cells #[.int .u64 c.id, .bool false, .int .u32 c.level, .int .u64 c.keyId, .int .u32 c.comp] 45))) := HBd.out.alloc HBd.out.size _
            replace HG3d := Lib.hid (HG3d.out.alloc (.cells #[.int .u64 c.id, .bool false, .int .u32 c.level, .int .u64 c.keyId, .int .u32 c.comp] 45))
            replace HG2d := Lib.hid (HG2d.out.alloc (.cells #[.int .u64 c.id, .bool false, .int .u32 c.level, .int .u64 c.keyId, .int .u32 c.comp] 45))
            replace HRd := Lib.hid (HRd.out.alloc (.cells #[.int .u64 c.id, .bool false, .int .u32 c.level, .int .u64 c.keyId, .int .u32 c.comp] 45))
            clear hb4
            generalize wd.alloc (.cells #[.int .u64 c.id, .bool false, .int .u32 c.level, .int .u64 c.keyId, .int .u32 c.comp] 45) = w4 at *
            generalize wd.heap.size = gb at *
            have hdr : Sl w4 (some ⟨gA, 0, none⟩) (0 * 5) ((cellsL l2).drop (cA * 5)) := HDR w4 HOd.out
            refine one_ (i := 10) (N := some 57) #[tt,tt,tt,tt,tt,tt,tt,tt,tt,tt,tt,ff,ff,ff] rfl rfl (by kernel_rfl) (by decide) (fun K hK => ?_)
            refine step_append_chg rfl (.tmp 52) (.tmp 56) rfl w.heap.size (.slice (some ⟨gb, 0, none⟩) 1 1) 1 [.int .u64 c.id, .bool false, .int .u32 c.level, .int .u64 c.keyId, .int .u32 c.comp] rfl HOl.out (some ⟨gA, 0, none⟩) 0 0 ((cellsL l2).drop (cA * 5)) rfl hdr (fun u hu => cellsL_one l2 u (List.mem_of_mem_drop hu)) (by omega) HBd.out.size ?_
            intro v57 w5 ho57 hg57 hat57
            obtain ⟨A7, c7, hv57, hc7, hs7, _⟩ := own_chg ho57
            subst hv57
            have hne57 : ∀ x cs t, Blk w4 x t cs → t ≠ 45 → Blk w5 x t cs := fun x cs t hb ht => (hg57.block x hb.lt (own_ne HOl.out hb ht)).trans hb
            have HO7 : Hid (w5.ownsRow w.heap.size 45 5 (.slice (some ⟨gA, 0, none⟩) l2.length cA) l2.length (cellsL l2)) := HOd.out.kept hg57 (.inr (fun e => HNE.out gb e rfl))
            replace HG3d := Lib.hid (hne57 _ _ _ HG3d.out (by decide))
            replace HG2d := Lib.hid (hne57 _ _ _ HG2d.out (by decide))
            replace HRd := Lib.hid (HRd.out.kept hg57 (HRd.out.map.ne_own HOl.out) (fun e => HRd.out.ne_own HOl.out e.symm))
            replace HBd : Hid (Below w.heap.size w w5) := HBd.out.grown hg57 HBd.out.size (fun k e => (HOl.out.lt k e).1)
            have hgb6 : some g6 ≠ (Value.slice (some ⟨gb, 0, none⟩) 1 1).ownBlock := fun e => by simp only [Value.ownBlock, Option.some.injEq] at e; have := HG6d.out; omega
            have hg3w : w5.cell? ⟨g3, 0, none⟩ = some (.slice (some ⟨gA, 0, none⟩) l2.length cA) := HG3d.out.at_ rfl
            refine hK.out _ _ (⟨hg3w, cell_row hHeld.2.1 hg57 hgb6, cell_row hHeld.2.2.1 hg57 hgb6, cell_row hHeld.2.2.2.1 hg57 hgb6, cell_row hHeld.2.2.2.2.1 hg57 hgb6, cell_row hHeld.2.2.2.2.2 hg57 hgb6⟩) (fun hHeld => ?_); clear hK K; refine norm_ (a' := ?_) ?_ ?_; rotate_left; (show Act.put _ (some 57) _ = _; simp only [Act.put, List.setIfInBounds_toArray, List.set_cons_zero, List.set_cons_succ, i64_w, i32_w]; rfl)
            have HS7 := Lib.hid hs7
            clear hs7 ho57 hg57 hat57 hne57 hdr hg3w hgb6 HOl HOd HNE
            have HOT := Lib.hid (own_take HO7.out hpl (by decide : 0 < 5))
            refine one_ (i := 11) (N := some 58) #[tt,tt,tt,tt,tt,tt,tt,tt,tt,tt,tt,tt,ff,ff] rfl rfl (by kernel_rfl) (by decide) (fun K hK => ?_)
            refine step_append_chg rfl (.tmp 50) (.tmp 57) rfl w.heap.size (.slice (some ⟨gA, 0, none⟩) cA cA) cA ((cellsL l2).take (cA * 5)) rfl HOT.out A7 (1 + 0) c7 ([.int .u64 c.id, .bool false, .int .u32 c.level, .int .u64 c.keyId, .int .u32 c.comp] ++ (cellsL l2).drop (cA * 5)) rfl HS7.out ?_ (by omega) HBd.out.size ?_
            · intro u hu
              rcases List.mem_append.1 hu with h | h
              · exact chg_one c u (by unfold Chg.cells; rw [HCG.out]; exact h)
              · exact cellsL_one l2 u (List.mem_of_mem_drop h)
            intro v58 w6 ho58 hg58 hat58
            obtain ⟨A8, c8, hv58, hc8, _, _⟩ := own_chg ho58
            subst hv58
            have hne58 : ∀ x cs t, Blk w5 x t cs → t ≠ 45 → Blk w6 x t cs := fun x cs t hb ht => (hg58.block x hb.lt (own_ne HOT.out hb ht)).trans hb
            have HO8 := Lib.hid ho58
            replace HG3d := Lib.hid (hne58 _ _ _ HG3d.out (by decide))
            replace HG2d := Lib.hid (hne58 _ _ _ HG2d.out (by decide))
            replace HRd := Lib.hid (HRd.out.kept hg58 (HRd.out.map.ne_own HOT.out) (fun e => HRd.out.ne_own HOT.out e.symm))
            replace HBd : Hid (Below w.heap.size w w6) := HBd.out.grown hg58 HBd.out.size (fun k e => (HOT.out.lt k e).1)
            have hg3w : w6.cell? ⟨g3, 0, none⟩ = some (.slice (some ⟨gA, 0, none⟩) l2.length cA) := HG3d.out.at_ rfl
            have hgA6 : some g6 ≠ (Value.slice (some ⟨gA, 0, none⟩) cA cA).ownBlock := HGA6 cA cA
            refine hK.out _ _ (⟨hg3w, cell_row hHeld.2.1 hg58 hgA6, cell_row hHeld.2.2.1 hg58 hgA6, cell_row hHeld.2.2.2.1 hg58 hgA6, cell_row hHeld.2.2.2.2.1 hg58 hgA6, cell_row hHeld.2.2.2.2.2 hg58 hgA6⟩) (fun hHeld => ?_); clear hK K; refine norm_ (a' := ?_) ?_ ?_; rotate_left; (show Act.put _ (some 58) _ = _; simp only [Act.put, List.setIfInBounds_toArray, List.set_cons_zero, List.set_cons_succ, i64_w, i32_w]; rfl)
            clear ho58 hg58 hat58 hne58 hg3w hgA6 HOT HO7 HS7
            refine pure_ (i := 12) (N := some 59) (v := ?_) (a' := ?_) #[tt,tt,tt,tt,tt,tt,tt,tt,tt,tt,tt,tt,tt,ff] rfl rfl (by kernel_rfl) (fun _ _ _ h => h) (Or.inl ⟨by rfl, ?_⟩) ?_ ?_; rotate_left; (intro w'; go_simp; with_reducible rfl); rotate_left; (simp only [Act.put, List.setIfInBounds_toArray, List.set_cons_zero, List.set_cons_succ, i64_w, i32_w]; rfl)
            have q0 := HG3d.out.at_ (i := 0) rfl
            have f0 := HG3d.out.frozen 0
            refine last_ (i := 13) (N := none) #[tt,tt,tt,tt,tt,tt,tt,tt,tt,tt,tt,tt,tt,tt] rfl rfl (by kernel_rfl) (by decide) (fun K hK => ?_)
            refine skip_ (w1 := w6.setCell ⟨g3, 0, none⟩ (.slice A8 (cA + (1 + 0)) c8)) (by rfl) rfl ?_ ?_
            · simp [go_sem, q0, f0]
            refine hK.out _ _ ?_; clear hK K
            refine done_ (by kernel_rfl) ?_
            have hfs : Frm [g3] w6 (w6.setCell ⟨g3, 0, none⟩ (.slice A8 (cA + (1 + 0)) c8)) := Frm.set w6 ⟨g3, 0, none⟩ _
            have hlen : cA + (1 + 0) = (insC l2 c).length := by have h := len_ins l2 c hpl; have e : l2.length - cA = 0 := (by omega); rwa [e] at h
            have hcel : (cellsL l2).take (cA * 5) ++ ([.int .u64 c.id, .bool false, .int .u32 c.level, .int .u64 c.keyId, .int .u32 c.comp] ++ (cellsL l2).drop (cA * 5)) = cellsL (insC l2 c) := by rw [insC_cells, ← HPP.out]; unfold Chg.cells; rw [HCG.out]
            rw [hcel] at HO8
            rw [hlen] at HO8 hfs ⊢
            have HLN := Lib.hid (insC_len l2 c)
            have HO9 := Lib.hid (own_frm2 HO8.out hfs (fun x e => by rw [List.mem_singleton]; intro e2; subst e2; exact own_ne HO8.out HG3d.out (by decide) e.symm))
            have HR9 : Hid (RanAt Tryd.prog (w6.setCell ⟨g3, 0, none⟩ (.slice A8 (insC l2 c).length c8)) 42 .u64 bt gr n (tabF l) (fun y => left y && !decide (y = c.id)) cnt3) := HRd.out.kept (grown_set w6 g3 0 _) (fun e => by injection e with e; exact HRd.out.map.ne_blk HG3d.out e) (fun e => by injection e with e; exact HRd.out.ne_blk HG3d.out e.symm)
            have HG39 := Lib.hid (HG3d.out.set_ 0 (.slice A8 (insC l2 c).length c8))
            have HG29 := Lib.hid (HG2d.out.frm hfs (by rw [List.mem_singleton]; exact fun e => HG23.out e))
            have HB9 : Hid (Below w.heap.size w (w6.setCell ⟨g3, 0, none⟩ (.slice A8 (insC l2 c).length c8))) := HBd.out.setCell HG3L.out _
            clear hfs hlen hcel q0 f0 HO8 HRd HG3d HG2d HBd hHeld
            go_wp2
            go_roundg cnt3
            case measure => omega
            case rel => exact ⟨_, A8, c8, insC l2 c, len_rest l2 c hon (by omega), HR9.out, HO9.out, HG39.out, HG29.out, HB9.out, HIN.out⟩
          · have hcc2 : ¬ (cA : Int) = (p : Int) := by omega
            have HDR : ∀ wx : World, wx.ownsRow w.heap.size 45 5 (.slice (some ⟨gA, 0, none⟩) l2.length cA) l2.length (cellsL l2) → Sl wx (some ⟨gA, p * 5, none⟩) ((l2.length - p) * 5) ((cellsL l2).drop (p * 5)) := fun wx h => own_drop_sl h hpl rfl
            go_wp2
            refine start_ (n := 14) (S := fun w' => w'.cell? ⟨g3, 0, none⟩ = some (.slice (some ⟨gA, 0, none⟩) l2.length cA) ∧ w'.cell? ⟨g6, 0, none⟩ = some (.int .u64 c.id) ∧ w'.cell? ⟨g6, 1, none⟩ = some (.bool false) ∧ w'.cell? ⟨g6, 2, none⟩ = some (.int .u32 c.level) ∧ w'.cell? ⟨g6, 3, none⟩ = some (.int .u64 c.keyId) ∧ w'.cell? ⟨g6, 4, none⟩ = some (.int .u32 c.comp)) (ds := [13]) #[ff,ff,ff,ff,ff,ff,ff,ff,ff,ff,ff,ff,ff,ff] (by kernel_rfl) rfl rfl (⟨HB3.out.at_ rfl, HB6.out.at_ rfl, HB6.out.at_ rfl, HB6.out.at_ rfl, HB6.out.at_ rfl, HB6.out.at_ rfl⟩) (fun hHeld => ?_)
            have HOd : Hid (wf.drew.ownsRow w.heap.size 45 5 (.slice (some ⟨gA, 0, none⟩) l2.length cA) l2.length (cellsL l2)) := HO6.out
            have HBd : Hid (Below w.heap.size w wf.drew) := HU6.out.drew
            have HG3d : Hid (Blk wf.drew g3 27 [.slice (some ⟨gA, 0, none⟩) l2.length cA, .int .i64 come, .int .i64 gone]) := HB3.out
            have HG2d : Hid (Blk wf.drew g2 27 [.slice none 0 0, .int .i64 0, .int .i64 0]) := HB2.out
            have HRd : Hid (RanAt Tryd.prog wf.drew 42 .u64 bt gr n (tabF l) (fun y => left y && !decide (y = c.id)) cnt3) := HR6.out
            have HG6d : Hid (g6 < wf.drew.heap.size) := HB6.out.lt
            have HOdL : Hid (∀ x, (Value.slice (some ⟨gA, 0, none⟩) l2.length cA).ownBlock = some x → x < wf.drew.heap.size) := fun x e => (HO6.out.lt x e).2
            clear HO6 HU6 HB3 HB2 HR6 HB6
            generalize wf.drew = wd at *
            refine pure_ (i := 0) (N := some 47) (v := ?_) (a' := ?_) #[tt,ff,ff,ff,ff,ff,ff,ff,ff,ff,ff,ff,ff,ff] rfl rfl (by kernel_rfl) (fun _ _ _ h => h) (Or.inl ⟨by rfl, ?_⟩) ?_ ?_; rotate_left; (intro w'; go_simp; with_reducible rfl); rotate_left; (simp only [Act.put, List.setIfInBounds_toArray, List.set_cons_zero, List.set_cons_succ, i64_w, i32_w]; rfl)
            refine take_ (i := 1) (N := some 48) (v := ?_) (a' := ?_) #[tt,tt,ff,ff,ff,ff,ff,ff,ff,ff,ff,ff,ff,ff] rfl rfl (by kernel_rfl) (fun _ _ _ h => h) (Or.inl ⟨by rfl, ?_⟩) hHeld ?_ ?_; rotate_left; (rintro w' ⟨h0, h1, h2, h3, h4, h5⟩; go_simp; with_reducible rfl); rotate_left; (simp only [Act.put, List.setIfInBounds_toArray, List.set_cons_zero, List.set_cons_succ, i64_w, i32_w]; rfl)
            refine pure_ (i := 2) (N := some 49) (v := ?_) (a' := ?_) #[tt,tt,tt,ff,ff,ff,ff,ff,ff,ff,ff,ff,ff,ff] rfl rfl (by kernel_rfl) (fun _ _ _ h => h) (Or.inl ⟨by rfl, ?_⟩) ?_ ?_; rotate_left; (intro w'; go_simp; with_reducible rfl); rotate_left; (simp only [Act.put, List.setIfInBounds_toArray, List.set_cons_zero, List.set_cons_succ, i64_w, i32_w]; rfl)
            refine pure_ (i := 3) (N := some 50) (v := ?_) (a' := ?_) #[tt,tt,tt,tt,ff,ff,ff,ff,ff,ff,ff,ff,ff,ff] rfl rfl (by kernel_rfl) (fun _ _ _ h => h) (Or.inl ⟨by rfl, ?_⟩) ?_ ?_; rotate_left; (intro w'; go_simp; with_reducible rfl); rotate_left; (simp only [Act.put, List.setIfInBounds_toArray, List.set_cons_zero, List.set_cons_succ, i64_w, i32_w]; rfl)
            refine take_ (i := 4) (N := some 51) (v := ?_) (a' := ?_) #[tt,tt,tt,tt,tt,ff,ff,ff,ff,ff,ff,ff,ff,ff] rfl rfl (by kernel_rfl) (fun _ _ _ h => h) (Or.inl ⟨by rfl, ?_⟩) hHeld ?_ ?_; rotate_left; (rintro w' ⟨h0, h1, h2, h3, h4, h5⟩; go_simp; with_reducible rfl); rotate_left; (simp only [Act.put, List.setIfInBounds_toArray, List.set_cons_zero, List.set_cons_succ, i64_w, i32_w]; rfl)
            refine pure_ (i := 6) (N := some 53) (v := ?_) (a' := ?_) #[tt,tt,tt,tt,tt,ff,tt,ff,ff,ff,ff,ff,ff,ff] rfl rfl (by kernel_rfl) (fun _ _ _ h => h) (Or.inl ⟨by rfl, ?_⟩) ?_ ?_; rotate_left; (intro w'; go_simp; with_reducible rfl); rotate_left; (simp only [Act.put, List.setIfInBounds_toArray, List.set_cons_zero, List.set_cons_succ, i64_w, i32_w]; rfl)
            refine take_ (i := 7) (N := some 54) (v := ?_) (a' := ?_) #[tt,tt,tt,tt,tt,ff,tt,tt,ff,ff,ff,ff,ff,ff] rfl rfl (by kernel_rfl) (fun _ _ _ h => h) (Or.inl ⟨by rfl, ?_⟩) hHeld ?_ ?_; rotate_left; (rintro w' ⟨h0, h1, h2, h3, h4, h5⟩; go_simp; with_reducible rfl); rotate_left; (simp only [Act.put, List.setIfInBounds_toArray, List.set_cons_zero, List.set_cons_succ, i64_w, i32_w]; rfl)
            refine pure_ (i := 8) (N := some 55) (v := ?_) (a' := ?_) #[tt,tt,tt,tt,tt,ff,tt,tt,tt,ff,ff,ff,ff,ff] rfl rfl (by kernel_rfl) (fun _ _ _ h => h) (Or.inl ⟨by rfl, ?_⟩) ?_ ?_; rotate_left; (intro w'; go_simp; with_reducible rfl); rotate_left; (simp only [Act.put, List.setIfInBounds_toArray, List.set_cons_zero, List.set_cons_succ, i64_w, i32_w]; rfl)
            refine pure_ (i := 9) (N := some 56) (v := ?_) (a' := ?_) #[tt,tt,tt,tt,tt,ff,tt,tt,tt,tt,ff,ff,ff,ff] rfl rfl (by kernel_rfl) (fun _ _ _ h => h) (Or.inl ⟨by rfl, ?_⟩) ?_ ?_; rotate_left; (intro w'; go_simp; with_reducible rfl); rotate_left; (simp only [Act.put, List.setIfInBounds_toArray, List.set_cons_zero, List.set_cons_succ, i64_w, i32_w]; rfl)
            refine one_ (i := 5) (N := some 52) #[tt,tt,tt,tt,tt,tt,tt,tt,tt,tt,ff,ff,ff,ff] rfl rfl (by kernel_rfl) (by decide) (fun K hK => ?_)
            refine value_ (v := .slice (some ⟨wd.heap.size, 0, none⟩) 1 1) (w1 := wd.alloc (.cells #[.int .u64 c.id, .bool false, .int .u32 c.level, .int .u64 c.keyId, .int .u32 c.comp] 45)) (by rfl) rfl ?_ ?_
            · go_simp
              try rfl
            have HOl : Hid ((wd.alloc (.cells #[.int .u64 c.id, .bool false, .int .u32 c.level, .int .u64 c.keyId, .int .u32 c.comp] 45)).ownsRow w.heap.size 45 5 (.slice (some ⟨wd.heap.size, 0, none⟩) 1 1) 1 [.int .u64 c.id, .bool false, .int .u32 c.level, .int .u64 c.keyId, .int .u32 c.comp]) := World.ownsRow_lit wd #[.int .u64 c.id, .bool false, .int .u32 c.level, .int .u64 c.keyId, .int .u32 c.comp] 1 HBd.out.size (by simp [maxLen]) rfl
            replace HOd := Lib.hid (HOd.out.alloc (.cells #[.int .u64 c.id, .bool false, .int .u32 c.level, .int .u64 c.keyId, .int .u32 c.comp] 45))
            have HNE : Hid (∀ x, (Value.slice (some ⟨gA, 0, none⟩) l2.length cA).ownBlock = some x → x ≠ wd.heap.size) := fun x e => by have := (HOd.out.lt x e).2; intro e2; have h7 := HOdL.out x e; omega
            have hb4 : Below wd.heap.size wd (wd.alloc (.cells #[.int .u64 c.id, .bool false, .int .u32 c.level, .int .u64 c.keyId, .int .u32 c.comp] 45)) := (Below.refl _ _).alloc (Nat.le_refl _) _
            refine hK.out _ _ (⟨cell_belM hHeld.1 hb4, cell_belM hHeld.2.1 hb4, cell_belM hHeld.2.2.1 hb4, cell_belM hHeld.2.2.2.1 hb4, cell_belM hHeld.2.2.2.2.1 hb4, cell_belM hHeld.2.2.2.2.2 hb4⟩) (fun hHeld => ?_); clear hK K; refine norm_ (a' := ?_) ?_ ?_; rotate_left; (show Act.put _ (some 52) _ = _; simp only [Act.put, List.setIfInBounds_toArray, List.set_cons_zero, List.set_cons_succ, i64_w, i32_w]; rfl)
            replace HBd : Hid (Below w.heap.size w (wd.alloc (.cells #[.int .u64 c.id, .bool false, .int .u32 c.level, .int .u64 c.keyId, .int .u32 c.comp] 45))) := HBd.out.alloc HBd.out.size _
            replace HG3d := Lib.hid (HG3d.out.alloc (.cells #[.int .u64 c.id, .bool false, .int .u32 c.level, .int .u64 c.keyId, .int .u32 c.comp] 45))
            replace HG2d := Lib.hid (HG2d.out.alloc (.cells #[.int .u64 c.id, .bool false, .int .u32 c.level, .int .u64 c.keyId, .int .u32 c.comp] 45))
            replace HRd := Lib.hid (HRd.out.alloc (.cells #[.int .u64 c.id, .bool false, .int .u32 c.level, .int .u64 c.keyId, .int .u32 c.comp] 45))
            clear hb4
            generalize wd.alloc (.cells #[.int .u64 c.id, .bool false, .int .u32 c.level, .int .u64 c.keyId, .int .u32 c.comp] 45) = w4 at *
            generalize wd.heap.size = gb at *
            have hdr : Sl w4 (some ⟨gA, p * 5, none⟩) ((l2.length - p) * 5) ((cellsL l2).drop (p * 5)) := HDR w4 HOd.out
            refine one_ (i := 10) (N := some 57) #[tt,tt,tt,tt,tt,tt,tt,tt,tt,tt,tt,ff,ff,ff] rfl rfl (by kernel_rfl) (by decide) (fun K hK => ?_)
            refine step_append_chg rfl (.tmp 52) (.tmp 56) rfl w.heap.size (.slice (some ⟨gb, 0, none⟩) 1 1) 1 [.int .u64 c.id, .bool false, .int .u32 c.level, .int .u64 c.keyId, .int .u32 c.comp] rfl HOl.out (some ⟨gA, p * 5, none⟩) (l2.length - p) (cA - p) ((cellsL l2).drop (p * 5)) rfl hdr (fun u hu => cellsL_one l2 u (List.mem_of_mem_drop hu)) (by omega) HBd.out.size ?_
            intro v57 w5 ho57 hg57 hat57
            obtain ⟨A7, c7, hv57, hc7, hs7, _⟩ := own_chg ho57
            subst hv57
            have hne57 : ∀ x cs t, Blk w4 x t cs → t ≠ 45 → Blk w5 x t cs := fun x cs t hb ht => (hg57.block x hb.lt (own_ne HOl.out hb ht)).trans hb
            have HO7 : Hid (w5.ownsRow w.heap.size 45 5 (.slice (some ⟨gA, 0, none⟩) l2.length cA) l2.length (cellsL l2)) := HOd.out.kept hg57 (.inr (fun e => HNE.out gb e rfl))
            replace HG3d := Lib.hid (hne57 _ _ _ HG3d.out (by decide))
            replace HG2d := Lib.hid (hne57 _ _ _ HG2d.out (by decide))
            replace HRd := Lib.hid (HRd.out.kept hg57 (HRd.out.map.ne_own HOl.out) (fun e => HRd.out.ne_own HOl.out e.symm))
            replace HBd : Hid (Below w.heap.size w w5) := HBd.out.grown hg57 HBd.out.size (fun k e => (HOl.out.lt k e).1)
            have hgb6 : some g6 ≠ (Value.slice (some ⟨gb, 0, none⟩) 1 1).ownBlock := fun e => by simp only [Value.ownBlock, Option.some.injEq] at e; have := HG6d.out; omega
            have hg3w : w5.cell? ⟨g3, 0, none⟩ = some (.slice (some ⟨gA, 0, none⟩) l2.length cA) := HG3d.out.at_ rfl
            refine hK.out _ _ (⟨hg3w, cell_row hHeld.2.1 hg57 hgb6, cell_row hHeld.2.2.1 hg57 hgb6, cell_row hHeld.2.2.2.1 hg57 hgb6, cell_row hHeld.2.2.2.2.1 hg57 hgb6, cell_row hHeld.2.2.2.2.2 hg57 hgb6⟩) (fun hHeld => ?_); clear hK K; refine norm_ (a' := ?_) ?_ ?_; rotate_left; (show Act.put _ (some 57) _ = _; simp only [Act.put, List.setIfInBounds_toArray, List.set_cons_zero, List.set_cons_succ, i64_w, i32_w]; rfl)
            have HS7 := Lib.hid hs7
            clear hs7 ho57 hg57 hat57 hne57 hdr hg3w hgb6 HOl HOd HNE
            have HOT := Lib.hid (own_take HO7.out hpl (by decide : 0 < 5))
            refine one_ (i := 11) (N := some 58) #[tt,tt,tt,tt,tt,tt,tt,tt,tt,tt,tt,tt,ff,ff] rfl rfl (by kernel_rfl) (by decide) (fun K hK => ?_)
            refine step_append_chg rfl (.tmp 50) (.tmp 57) rfl w.heap.size (.slice (some ⟨gA, 0, none⟩) p cA) p ((cellsL l2).take (p * 5)) rfl HOT.out A7 (1 + (l2.length - p)) c7 ([.int .u64 c.id, .bool false, .int .u32 c.level, .int .u64 c.keyId, .int .u32 c.comp] ++ (cellsL l2).drop (p * 5)) rfl HS7.out ?_ (by omega) HBd.out.size ?_
            · intro u hu
              rcases List.mem_append.1 hu with h | h
              · exact chg_one c u (by unfold Chg.cells; rw [HCG.out]; exact h)
              · exact cellsL_one l2 u (List.mem_of_mem_drop h)
            intro v58 w6 ho58 hg58 hat58
            obtain ⟨A8, c8, hv58, hc8, _, _⟩ := own_chg ho58
            subst hv58
            have hne58 : ∀ x cs t, Blk w5 x t cs → t ≠ 45 → Blk w6 x t cs := fun x cs t hb ht => (hg58.block x hb.lt (own_ne HOT.out hb ht)).trans hb
            have HO8 := Lib.hid ho58
            replace HG3d := Lib.hid (hne58 _ _ _ HG3d.out (by decide))
            replace HG2d := Lib.hid (hne58 _ _ _ HG2d.out (by decide))
            replace HRd := Lib.hid (HRd.out.kept hg58 (HRd.out.map.ne_own HOT.out) (fun e => HRd.out.ne_own HOT.out e.symm))
            replace HBd : Hid (Below w.heap.size w w6) := HBd.out.grown hg58 HBd.out.size (fun k e => (HOT.out.lt k e).1)
            have hg3w : w6.cell? ⟨g3, 0, none⟩ = some (.slice (some ⟨gA, 0, none⟩) l2.length cA) := HG3d.out.at_ rfl
            have hgA6 : some g6 ≠ (Value.slice (some ⟨gA, 0, none⟩) p cA).ownBlock := HGA6 p cA
            refine hK.out _ _ (⟨hg3w, cell_row hHeld.2.1 hg58 hgA6, cell_row hHeld.2.2.1 hg58 hgA6, cell_row hHeld.2.2.2.1 hg58 hgA6, cell_row hHeld.2.2.2.2.1 hg58 hgA6, cell_row hHeld.2.2.2.2.2 hg58 hgA6⟩) (fun hHeld => ?_); clear hK K; refine norm_ (a' := ?_) ?_ ?_; rotate_left; (show Act.put _ (some 58) _ = _; simp only [Act.put, List.setIfInBounds_toArray, List.set_cons_zero, List.set_cons_succ, i64_w, i32_w]; rfl)
            clear ho58 hg58 hat58 hne58 hg3w hgA6 HOT HO7 HS7
            refine pure_ (i := 12) (N := some 59) (v := ?_) (a' := ?_) #[tt,tt,tt,tt,tt,tt,tt,tt,tt,tt,tt,tt,tt,ff] rfl rfl (by kernel_rfl) (fun _ _ _ h => h) (Or.inl ⟨by rfl, ?_⟩) ?_ ?_; rotate_left; (intro w'; go_simp; with_reducible rfl); rotate_left; (simp only [Act.put, List.setIfInBounds_toArray, List.set_cons_zero, List.set_cons_succ, i64_w, i32_w]; rfl)
            have q0 := HG3d.out.at_ (i := 0) rfl
            have f0 := HG3d.out.frozen 0
            refine last_ (i := 13) (N := none) #[tt,tt,tt,tt,tt,tt,tt,tt,tt,tt,tt,tt,tt,tt] rfl rfl (by kernel_rfl) (by decide) (fun K hK => ?_)
            refine skip_ (w1 := w6.setCell ⟨g3, 0, none⟩ (.slice A8 (p + (1 + (l2.length - p))) c8)) (by rfl) rfl ?_ ?_
            · simp [go_sem, q0, f0]
            refine hK.out _ _ ?_; clear hK K
            refine done_ (by kernel_rfl) ?_
            have hfs : Frm [g3] w6 (w6.setCell ⟨g3, 0, none⟩ (.slice A8 (p + (1 + (l2.length - p))) c8)) := Frm.set w6 ⟨g3, 0, none⟩ _
            have hlen : p + (1 + (l2.length - p)) = (insC l2 c).length := len_ins l2 c hpl
            have hcel : (cellsL l2).take (p * 5) ++ ([.int .u64 c.id, .bool false, .int .u32 c.level, .int .u64 c.keyId, .int .u32 c.comp] ++ (cellsL l2).drop (p * 5)) = cellsL (insC l2 c) := by rw [insC_cells, ← HPP.out]; unfold Chg.cells; rw [HCG.out]
            rw [hcel] at HO8
            rw [hlen] at HO8 hfs ⊢
            have HLN := Lib.hid (insC_len l2 c)
            have HO9 := Lib.hid (own_frm2 HO8.out hfs (fun x e => by rw [List.mem_singleton]; intro e2; subst e2; exact own_ne HO8.out HG3d.out (by decide) e.symm))
            have HR9 : Hid (RanAt Tryd.prog (w6.setCell ⟨g3, 0, none⟩ (.slice A8 (insC l2 c).length c8)) 42 .u64 bt gr n (tabF l) (fun y => left y && !decide (y = c.id)) cnt3) := HRd.out.kept (grown_set w6 g3 0 _) (fun e => by injection e with e; exact HRd.out.map.ne_blk HG3d.out e) (fun e => by injection e with e; exact HRd.out.ne_blk HG3d.out e.symm)
            have HG39 := Lib.hid (HG3d.out.set_ 0 (.slice A8 (insC l2 c).length c8))
            have HG29 := Lib.hid (HG2d.out.frm hfs (by rw [List.mem_singleton]; exact fun e => HG23.out e))
            have HB9 : Hid (Below w.heap.size w (w6.setCell ⟨g3, 0, none⟩ (.slice A8 (insC l2 c).length c8))) := HBd.out.setCell HG3L.out _
            clear hfs hlen hcel q0 f0 HO8 HRd HG3d HG2d HBd hHeld
            go_wp2
            go_roundg cnt3
            case measure => omega
            case rel => exact ⟨_, A8, c8, insC l2 c, len_rest l2 c hon (by omega), HR9.out, HO9.out, HG39.out, HG29.out, HB9.out, HIN.out⟩
end Go.Proofs.YtpfmmbhbmdbmeaaDoor
