/- spec.Applied. -/
import Derived.Test.YtpfmmbhbmdbmeaaDoorY9
import Derived.Test.YtpfmmbhbmdbmeaaDoorYA
import Derived.BigQuiet
namespace Go.Proofs.YtpfmmbhbmdbmeaaDoor
open Go.Proofs.YtpfmmbhbmdbmeaaDoorW.PrintLast
open Go.RowKit
set_option linter.unusedVariables false
set_option linter.unusedSimpArgs false
/-- A list of tables in memory, with its counts. -/
structure TbS (w0 w : World) (g4 c2 : Nat) (A2 : Option Addr) (M : MF) : Prop where
  own : w.ownsRow w0.heap.size 45 5 (.slice A2 M.l.length c2) M.l.length (cellsL M.l)
  man : Blk w g4 27 [.slice A2 M.l.length c2, .int .i64 M.come, .int .i64 M.gone]
  bel : Below w0.heap.size w0 w
theorem stepM_del {m : MF} {c : Chg} (hg : c.gone = true) (hn : hitC m.l c.id = true) : stepM m c = some ⟨delC m.l c.id, m.come, m.gone + 1⟩ := by
  unfold stepM
  rw [if_pos (by rw [hg, hn]), hg]
  rfl
theorem hit_lt {l : List Chg} {x : Int} {p : Nat} (hh : hitC l x = true) (hp : p = posC l x) : p < l.length := by
  unfold hitC at hh
  rw [← hp] at hh
  cases h : l[p]? with
  | none => rw [h] at hh; cases hh
  | some a => exact (List.getElem?_eq_some_iff.1 h).1
theorem delC_len2 {l : List Chg} {x : Int} (h : posC l x < l.length) : (delC l x).length + 1 = l.length := by
  unfold delC
  rw [List.length_append, List.length_take, List.length_drop]
  omega
theorem bnd_ins {M : MF} {R : List Chg} {N : Nat} (y : Chg) (h : M.l.length + R.length + 1 ≤ N ∧ 0 ≤ M.come ∧ M.come + R.length + 1 ≤ N ∧ 0 ≤ M.gone ∧ M.gone + R.length + 1 ≤ N) :
    (insC M.l y).length + R.length ≤ N ∧ 0 ≤ M.come + 1 ∧ M.come + 1 + R.length ≤ N ∧ 0 ≤ M.gone ∧ M.gone + R.length ≤ N := by
  rw [insC_len]; omega
theorem bnd_del {M : MF} {R : List Chg} {N : Nat} (x : Int) (h : M.l.length + R.length + 1 ≤ N ∧ 0 ≤ M.come ∧ M.come + R.length + 1 ≤ N ∧ 0 ≤ M.gone ∧ M.gone + R.length + 1 ≤ N) :
    (delC M.l x).length + R.length ≤ N ∧ 0 ≤ M.come ∧ M.come + R.length ≤ N ∧ 0 ≤ M.gone + 1 ∧ M.gone + 1 + R.length ≤ N := by
  have := delC_len M.l x
  omega
theorem fresh_own {w : World} {o : Obj} {v v0 : Value} {g : Nat} (hat : v.ownBlock = (Value.slice (some ⟨w.heap.size, 0, none⟩) 0 0).ownBlock ∨ v.ownBlock = some (w.alloc o).heap.size) (hg : g < w.heap.size) (hv : ∀ x, v0.ownBlock = some x → x < w.heap.size) :
    some g ≠ v.ownBlock ∧ ∀ x, v.ownBlock = some x → v0.ownBlock ≠ some x := by
  have h1 : ∀ x, v.ownBlock = some x → w.heap.size ≤ x := fun x e => by
    rcases hat with h | h
    · rw [h] at e; simp only [Value.ownBlock, Option.some.injEq] at e; omega
    · rw [h] at e; injection e with e; rw [World.size_alloc] at e; omega
  exact ⟨fun e => by have := h1 g e.symm; omega, fun x e e2 => by have := h1 x e; have := hv x e2; omega⟩
theorem own_apart {w w' : World} {base e s n : Nat} {v v7 : Value} {xs : List Value} (h : w.ownsRow base e s v n xs) (hg : w.grownBy w' v7.ownBlock) (hn : ∀ x, v7.ownBlock = some x → v.ownBlock ≠ some x) : w'.ownsRow base e s v n xs := by
  cases hv : v7.ownBlock with
  | none =>
    rw [hv] at hg
    exact own_frm2 h (Frm.of_none hg) (fun x _ hx => by cases hx)
  | some x =>
    rw [hv] at hg
    exact own_frm2 h (Frm.of_grown hg) (fun y hy hx => by rw [List.mem_singleton] at hx; subst hx; exact hn _ hv hy)
theorem del_tail {w w6 : World} {g4 g2 c9 n9 p : Nat} {A9 : Option Addr} {s : Value} {M : MF} {y : Chg} (ho : w6.ownsRow w.heap.size 45 5 (.slice A9 n9 c9) n9 ((cellsL M.l).take (p * 5) ++ (cellsL M.l).drop ((p + 1) * 5)))
    (hm : Blk w6 g4 27 [s, .int .i64 M.come, .int .i64 M.gone]) (hg : Blk w6 g2 27 [.slice none 0 0, .int .i64 0, .int .i64 0]) (hu : Below w.heap.size w w6) (hp : p = posC M.l y.id) (hl : p < M.l.length) (hn : n9 + 1 = M.l.length) (h4 : w.heap.size ≤ g4) (h24 : g2 ≠ g4) :
    TbS w ((w6.setCell ⟨g4, 0, none⟩ (.slice A9 n9 c9)).setCell ⟨g4, 2, none⟩ (.int .i64 (M.gone + 1))) g4 c9 A9 ⟨delC M.l y.id, M.come, M.gone + 1⟩ ∧ Blk ((w6.setCell ⟨g4, 0, none⟩ (.slice A9 n9 c9)).setCell ⟨g4, 2, none⟩ (.int .i64 (M.gone + 1))) g2 27 [.slice none 0 0, .int .i64 0, .int .i64 0] := by
  have hfr : Frm [g4] w6 ((w6.setCell ⟨g4, 0, none⟩ (.slice A9 n9 c9)).setCell ⟨g4, 2, none⟩ (.int .i64 (M.gone + 1))) := ((Frm.refl [g4] w6).andSet _ _ (.inl (by simp))).andSet _ _ (.inl (by simp))
  have he : n9 = (delC M.l y.id).length := by have := delC_len2 (l := M.l) (x := y.id) (by omega); omega
  rw [hp, ← delC_cells M.l y.id (by omega)] at ho
  subst he
  refine ⟨⟨own_frm2 ho hfr (fun x e hx => by rw [List.mem_singleton] at hx; subst hx; exact own_ne ho hm (by decide) e.symm), (hm.set_ 0 _).set_ 2 _, hu.trans (frm_below hfr (fun x hx => by rw [List.mem_singleton] at hx; omega) hu.size)⟩, hg.frm hfr (by rw [List.mem_singleton]; exact h24)⟩
theorem ins_tail {w w6 : World} {g4 g2 c9 n9 p : Nat} {A9 : Option Addr} {s : Value} {M : MF} {y : Chg} (ho : w6.ownsRow w.heap.size 45 5 (.slice A9 n9 c9) n9 ((cellsL M.l).take (p * 5) ++ [.int .u64 y.id, .bool false, .int .u32 y.level, .int .u64 y.keyId, .int .u32 y.comp] ++ (cellsL M.l).drop (p * 5)))
    (hm : Blk w6 g4 27 [s, .int .i64 M.come, .int .i64 M.gone]) (hg : Blk w6 g2 27 [.slice none 0 0, .int .i64 0, .int .i64 0]) (hu : Below w.heap.size w w6) (hp : p = posC M.l y.id) (hgn : y.gone = false) (he : n9 = (insC M.l y).length) (h4 : w.heap.size ≤ g4) (h24 : g2 ≠ g4) :
    TbS w ((w6.setCell ⟨g4, 0, none⟩ (.slice A9 n9 c9)).setCell ⟨g4, 1, none⟩ (.int .i64 (M.come + 1))) g4 c9 A9 ⟨insC M.l y, M.come + 1, M.gone⟩ ∧ Blk ((w6.setCell ⟨g4, 0, none⟩ (.slice A9 n9 c9)).setCell ⟨g4, 1, none⟩ (.int .i64 (M.come + 1))) g2 27 [.slice none 0 0, .int .i64 0, .int .i64 0] := by
  have hfr : Frm [g4] w6 ((w6.setCell ⟨g4, 0, none⟩ (.slice A9 n9 c9)).setCell ⟨g4, 1, none⟩ (.int .i64 (M.come + 1))) := ((Frm.refl [g4] w6).andSet _ _ (.inl (by simp))).andSet _ _ (.inl (by simp))
  have hc : y.cells = [.int .u64 y.id, .bool false, .int .u32 y.level, .int .u64 y.keyId, .int .u32 y.comp] := by unfold Chg.cells; rw [hgn]
  rw [List.append_assoc, ← hc, hp, ← insC_cells M.l y] at ho
  subst he
  refine ⟨⟨own_frm2 ho hfr (fun x e hx => by rw [List.mem_singleton] at hx; subst hx; exact own_ne ho hm (by decide) e.symm), (hm.set_ 0 _).set_ 1 _, hu.trans (frm_below hfr (fun x hx => by rw [List.mem_singleton] at hx; omega) hu.size)⟩, hg.frm hfr (by rw [List.mem_singleton]; exact h24)⟩
structure AppdP (o : Option MF) (w : World) (E : Ending) (w' : World) : Prop where
  bel : Below w.heap.size w w'
  yes : ∀ M, o = some M → ∃ A1 c1, E = .returned (.tuple #[.agg #[.slice A1 M.l.length c1, .int .i64 M.come, .int .i64 M.gone], .bool true]) ∧ Slc w' A1 M.l.length M.l
  no : o = none → E = .returned (.tuple #[.agg #[.slice none 0 0, .int .i64 0, .int .i64 0], .bool false])
set_option maxRecDepth 100000 in
set_option maxHeartbeats 4000000 in
theorem applied_any (A : Option Addr) (m c : Nat) (ls : List (List Chg)) (w : World) (h : Sets w A m ls) (hm : m ≤ 100000000) (hN : ls.flatten.length ≤ 100000000) :
    Calls Tryd.prog 9 #[.slice A m c] w (AppdP (allM ⟨[], 0, 0⟩ ls.flatten) w) := by
  have H := Lib.hid h
  have HN := Lib.hid hN
  have HG2 : Hid (Blk ((w.alloc (.cells #[.slice none 0 0, .int .i64 0, .int .i64 0] 27)).alloc (.cells #[.slice none 0 0, .int .i64 0, .int .i64 0] 27)) w.heap.size 27 [.slice none 0 0, .int .i64 0, .int .i64 0]) := (Blk.new w 27 [.slice none 0 0, .int .i64 0, .int .i64 0]).alloc _
  have HG4 : Hid (Blk ((w.alloc (.cells #[.slice none 0 0, .int .i64 0, .int .i64 0] 27)).alloc (.cells #[.slice none 0 0, .int .i64 0, .int .i64 0] 27)) (w.heap.size + 1) 27 [.slice none 0 0, .int .i64 0, .int .i64 0]) := by
    have h := Blk.new (w.alloc (.cells #[.slice none 0 0, .int .i64 0, .int .i64 0] 27)) 27 [.slice none 0 0, .int .i64 0, .int .i64 0]
    rw [World.size_alloc] at h
    exact h
  have HU : Hid (Below w.heap.size w ((w.alloc (.cells #[.slice none 0 0, .int .i64 0, .int .i64 0] 27)).alloc (.cells #[.slice none 0 0, .int .i64 0, .int .i64 0] 27))) := ((Below.refl _ _).alloc (Nat.le_refl _) _).alloc (by simp) _
  clear h hN
  go_enter Tryd.func9, Tryd.ntmps9
  go_wp2_with fail
  generalize (w.alloc (.cells #[.slice none 0 0, .int .i64 0, .int .i64 0] 27)).alloc (.cells #[.slice none 0 0, .int .i64 0, .int .i64 0] 27) = w0 at *
  generalize hg2 : w.heap.size = g2 at *
  generalize hg4 : g2 + 1 = g4 at *
  rw [← hg2] at HU
  have HTB : Hid (TbS w w0 g4 0 none ⟨[], 0, 0⟩) := ⟨World.ownsRow_nil _ _ _ _, HG4.out, HU.out⟩
  clear HG4 HU
  go_loopg [15] m (fun f v15 wr => ∃ (i c2 : Nat) (A2 : Option Addr) (Mi : MF), v15 = .int .i64 i ∧ i ≤ m ∧ Hid (i + f = m) ∧ Hid (TbS w wr g4 c2 A2 Mi) ∧ Hid (allM Mi (ls.drop i).flatten = allM ⟨[], 0, 0⟩ ls.flatten) ∧ Hid (Mi.l.length + (ls.drop i).flatten.length ≤ 100000000 ∧ 0 ≤ Mi.come ∧ Mi.come + (ls.drop i).flatten.length ≤ 100000000 ∧ 0 ≤ Mi.gone ∧ Mi.gone + (ls.drop i).flatten.length ≤ 100000000) ∧ Hid (Blk wr g2 27 [.slice none 0 0, .int .i64 0, .int .i64 0]))
  case atStart => exact ⟨0, 0, none, ⟨[], 0, 0⟩, rfl, Nat.zero_le _, Nat.zero_add _, HTB.out, rfl, by have := HN.out; show 0 + ls.flatten.length ≤ 100000000 ∧ (0 : Int) ≤ 0 ∧ (0 : Int) + ls.flatten.length ≤ 100000000 ∧ (0 : Int) ≤ 0 ∧ (0 : Int) + ls.flatten.length ≤ 100000000; omega, HG2.out⟩
  case round =>
    obtain ⟨i, c2, A2, Mi, rfl, him, hf, hT, hA, hC, hG2⟩ := hrel
    by_cases hlt : i < m
    · obtain ⟨ga, oa, l, B, cB, hAe, hl, hcl0, hsl⟩ := H.out.2 i hlt
      subst hAe
      have hcl : wr.cell? ⟨ga, oa + i, none⟩ = some (.slice B l.length cB) := by rw [hT.out.bel.cell (World.block_lt_of_cell? w _ hcl0)]; exact hcl0
      have hd : (ls.drop i).flatten = l ++ (ls.drop (i + 1)).flatten := by
        have hi := List.getElem?_eq_some_iff.1 hl
        rw [← List.getElem_cons_drop hi.1, hi.2, List.flatten_cons]
      have HSL := Lib.hid hsl
      rw [hd] at hA hC
      have HC0 : Hid (Mi.l.length + (l.drop 0 ++ (ls.drop (i + 1)).flatten).length ≤ 100000000 ∧ 0 ≤ Mi.come ∧ Mi.come + (l.drop 0 ++ (ls.drop (i + 1)).flatten).length ≤ 100000000 ∧ 0 ≤ Mi.gone ∧ Mi.gone + (l.drop 0 ++ (ls.drop (i + 1)).flatten).length ≤ 100000000) := hC.out
      have HA0 : Hid (allM Mi (l.drop 0 ++ (ls.drop (i + 1)).flatten) = allM ⟨[], 0, 0⟩ ls.flatten) := hA.out
      generalize hrst : (ls.drop (i + 1)).flatten = rst at *
      have HRST := Lib.hid hrst
      have HLL : Hid (l.length ≤ 100000000) := by
        have h1 := HC0.out.1
        rw [List.drop_zero, List.length_append] at h1
        show _ ≤ _
        omega
      obtain ⟨gkO, rfl⟩ : ∃ x, gk = x + 1 := ⟨gk - 1, by have := hf.out; omega⟩
      clear hl hd hcl0 hsl hA hC hrst
      go_wp2_with fail
      go_loopg [21] l.length (fun f v21 wz => ∃ (j c3 : Nat) (A3 : Option Addr) (Mj : MF), v21 = .int .i64 j ∧ j ≤ l.length ∧ Hid (j + f = l.length) ∧ Hid (TbS w wz g4 c3 A3 Mj) ∧ Hid (allM Mj (l.drop j ++ rst) = allM ⟨[], 0, 0⟩ ls.flatten) ∧ Hid (Mj.l.length + (l.drop j ++ rst).length ≤ 100000000 ∧ 0 ≤ Mj.come ∧ Mj.come + (l.drop j ++ rst).length ≤ 100000000 ∧ 0 ≤ Mj.gone ∧ Mj.gone + (l.drop j ++ rst).length ≤ 100000000) ∧ Hid (Blk wz g2 27 [.slice none 0 0, .int .i64 0, .int .i64 0]))
      case atStart => exact ⟨0, c2, A2, Mi, rfl, Nat.zero_le _, Nat.zero_add _, hT.out, HA0.out, HC0.out, hG2.out⟩
      case round =>
        clear HA0 HC0 hT hG2
        obtain ⟨j, c3, A3, Mj, rfl, hjl, hjf, hT, hA, hC, hG2⟩ := hrel
        by_cases hlj : j < l.length
        · have hd : l.drop j ++ rst = l[j] :: (l.drop (j + 1) ++ rst) := by rw [← List.getElem_cons_drop hlj]; rfl
          obtain ⟨gB, oB, y, hBe, hy, d0, d1, d2, d3, d4⟩ := (HSL.out.below hT.out.bel).num hlj
          subst hBe
          obtain rfl : l[j] = y := by have h1 := List.getElem?_eq_getElem hlj; rw [hy.out] at h1; injection h1 with h1; exact h1.symm
          rw [hd] at hA hC
          generalize l[j] = y at *
          have HAJ : Hid ((stepM Mj y).bind (fun m' => allM m' (l.drop (j + 1) ++ rst)) = allM ⟨[], 0, 0⟩ ls.flatten) := hA.out
          have HCJ : Hid (Mj.l.length + (l.drop (j + 1) ++ rst).length + 1 ≤ 100000000 ∧ 0 ≤ Mj.come ∧ Mj.come + (l.drop (j + 1) ++ rst).length + 1 ≤ 100000000 ∧ 0 ≤ Mj.gone ∧ Mj.gone + (l.drop (j + 1) ++ rst).length + 1 ≤ 100000000) := by
            have h1 := hC.out
            rw [List.length_cons] at h1
            show _ ∧ _
            push_cast at h1
            omega
          obtain ⟨gkI, rfl⟩ : ∃ x, gk = x + 1 := ⟨gk - 1, by have := hjf.out; omega⟩
          have HOf : Hid ((wr.alloc (.cells #[.int .u64 y.id, .bool y.gone, .int .u32 y.level, .int .u64 y.keyId, .int .u32 y.comp] 45)).ownsRow w.heap.size 45 5 (.slice A3 Mj.l.length c3) Mj.l.length (cellsL Mj.l)) := hT.out.own.alloc _
          have HMf : Hid (Blk (wr.alloc (.cells #[.int .u64 y.id, .bool y.gone, .int .u32 y.level, .int .u64 y.keyId, .int .u32 y.comp] 45)) g4 27 [.slice A3 Mj.l.length c3, .int .i64 Mj.come, .int .i64 Mj.gone]) := hT.out.man.alloc _
          have HUf : Hid (Below w.heap.size w (wr.alloc (.cells #[.int .u64 y.id, .bool y.gone, .int .u32 y.level, .int .u64 y.keyId, .int .u32 y.comp] 45))) := hT.out.bel.alloc hT.out.bel.size _
          have HGf : Hid (Blk (wr.alloc (.cells #[.int .u64 y.id, .bool y.gone, .int .u32 y.level, .int .u64 y.keyId, .int .u32 y.comp] 45)) g2 27 [.slice none 0 0, .int .i64 0, .int .i64 0]) := hG2.out.alloc _
          have HYf : Hid (Blk (wr.alloc (.cells #[.int .u64 y.id, .bool y.gone, .int .u32 y.level, .int .u64 y.keyId, .int .u32 y.comp] 45)) wr.heap.size 45 [.int .u64 y.id, .bool y.gone, .int .u32 y.level, .int .u64 y.keyId, .int .u32 y.comp]) := Blk.new wr _ _
          have HOL : Hid (∀ x, (Value.slice A3 Mj.l.length c3).ownBlock = some x → x < wr.heap.size) := fun x e => (hT.out.own.lt x e).2
          have HJF := hjf
          clear hd hy hA hC hT hG2 hjf
          go_upto_block 4 with fail
          generalize wr.alloc (.cells #[.int .u64 y.id, .bool y.gone, .int .u32 y.level, .int .u64 y.keyId, .int .u32 y.comp] 45) = wf at *
          generalize wr.heap.size = g8 at *
          obtain ⟨A', c', hv', hcap, hsl, hAd⟩ := own_chg HOf.out
          injection hv' with e1 e2 e3
          subst e1 e3
          have HAD := Lib.hid hAd
          clear hsl hAd e2 d0 d1 d2 d3 d4
          have hlcap : (Mj.l.length : Int) ≤ (c3 : Int) := by omega
          have hlb : Mj.l.length ≤ 100000000 := by have := HCJ.out; omega
          go_cut [9] (fun v9 wx => ∃ p nq : Nat, v9 = .int .i64 p ∧ Hid (p = posC Mj.l y.id) ∧ p ≤ Mj.l.length ∧ wx = wf.drewN nq)
          case first =>
            go_wp2
            go_loopg [9] Mj.l.length (fun f v9 wz => ∃ k nq : Nat, v9 = .int .i64 k ∧ k ≤ Mj.l.length ∧ Hid (k ≤ posC Mj.l y.id) ∧ Hid (k + f = Mj.l.length) ∧ wz = wf.drewN nq)
            case atStart => exact ⟨0, 0, rfl, Nat.zero_le _, Nat.zero_le _, Nat.zero_add _, rfl⟩
            case round =>
              obtain ⟨k, nk, rfl, hkl, hkp, hkf, rfl⟩ := hrel
              have b4 : wf.cell? ⟨g4, 0, none⟩ = some (.slice A3 Mj.l.length c3) := HMf.out.at_ rfl
              have b8 : wf.cell? ⟨g8, 0, none⟩ = some (.int .u64 y.id) := HYf.out.at_ rfl
              by_cases hlt : k < Mj.l.length
              · obtain ⟨gA, hA⟩ : ∃ gA, A3 = some ⟨gA, 0, none⟩ := by
                  rcases HAD.out with ⟨_, h0, _⟩ | ⟨gA, h0, _⟩
                  · omega
                  · exact ⟨gA, h0⟩
                subst hA
                obtain ⟨z, hz⟩ : ∃ z, Mj.l[k]? = some z := ⟨_, List.getElem?_eq_getElem hlt⟩
                have cz : wf.cell? ⟨gA, k * 5, none⟩ = some (.int .u64 z.id) := by
                  have h1 := HOf.out.cellAt (k * 5) (by omega)
                  have := cellsL_at Mj.l k 0 z hz (by omega)
                  rw [Nat.add_zero] at this
                  rw [this] at h1
                  exact h1
                have hil2 : (k : Int) < (Mj.l.length : Int) := by omega
                have HZ := Lib.hid hz
                clear hz
                by_cases hlt2 : z.id < y.id
                · obtain ⟨gkO, rfl⟩ : ∃ x, gk = x + 1 := ⟨gk - 1, by have := hkf.out; omega⟩
                  have HIP : Hid (k + 1 ≤ posC Mj.l y.id) := by
                    rcases Nat.lt_or_eq_of_le hkp.out with h | h
                    · exact h
                    · exfalso
                      have := posC_at Mj.l y.id z (by rw [← h]; exact HZ.out)
                      omega
                  have hdc : decide (z.id < y.id) = true := decide_eq_true hlt2
                  go_wp2_with fail
                  go_quiet (fail)
                  go_wp2
                  go_roundg gkO
                  case measure => omega
                  case rel => exact ⟨k + 1, nk + nq, by go_num, by omega, HIP.out, by have := hkf.out; show _ = _; omega, rfl⟩
                · have HPE : Hid (k = posC Mj.l y.id) := by
                    rcases Nat.lt_or_eq_of_le hkp.out with h | h
                    · exfalso
                      have := posC_lt Mj.l y.id k z h HZ.out
                      omega
                    · exact h
                  have hdc : decide (z.id < y.id) = false := decide_eq_false hlt2
                  go_wp2_with fail
                  go_quiet (fail)
                  go_wp2_with fail
                  go_meet
                  exact ⟨k, nk + nq, rfl, HPE.out, hkl, World.drewN_drewN _ _ _⟩
              · have HPE : Hid (k = posC Mj.l y.id) := by
                  have := posC_le Mj.l y.id
                  have := hkp.out
                  show _ = _
                  omega
                have hge : ¬ ((k : Int) < (Mj.l.length : Int)) := by omega
                go_wp2_with fail
                go_quiet (fail)
                go_wp2_with fail
                go_meet
                exact ⟨k, nk + nq, rfl, HPE.out, hkl, World.drewN_drewN _ _ _⟩
          case rest =>
            obtain ⟨p, nq0, rfl, HPP, hpl, hwf⟩ := hcut
            subst hwf
            go_upto_region 11 with fail
            go_cut [10] (fun v10 wx => ∃ nq : Nat, v10 = .bool (hitC Mj.l y.id) ∧ wx = wf.drewN nq)
            case first =>
              have b4 : wf.cell? ⟨g4, 0, none⟩ = some (.slice A3 Mj.l.length c3) := HMf.out.at_ rfl
              have b8 : wf.cell? ⟨g8, 0, none⟩ = some (.int .u64 y.id) := HYf.out.at_ rfl
              by_cases hlt : p < Mj.l.length
              · obtain ⟨gA, hA⟩ : ∃ gA, A3 = some ⟨gA, 0, none⟩ := by
                  rcases HAD.out with ⟨_, h0, _⟩ | ⟨gA, h0, _⟩
                  · omega
                  · exact ⟨gA, h0⟩
                subst hA
                obtain ⟨z, hz⟩ : ∃ z, Mj.l[p]? = some z := ⟨_, List.getElem?_eq_getElem hlt⟩
                have cz : wf.cell? ⟨gA, p * 5, none⟩ = some (.int .u64 z.id) := by
                  have h1 := HOf.out.cellAt (p * 5) (by omega)
                  have := cellsL_at Mj.l p 0 z hz (by omega)
                  rw [Nat.add_zero] at this
                  rw [this] at h1
                  exact h1
                have hil2 : (p : Int) < (Mj.l.length : Int) := by omega
                have HH : Hid (hitC Mj.l y.id = decide (z.id = y.id)) := by
                  show _ = _
                  unfold hitC
                  rw [← HPP.out, hz]
                clear hz
                by_cases heq : z.id = y.id
                · have hdc : decide (z.id = y.id) = true := decide_eq_true heq
                  rw [hdc] at HH
                  go_wp2_with fail
                  go_quiet (fail)
                  go_wp2_with fail
                  go_meet
                  exact ⟨nq0 + nq, by rw [HH.out], World.drewN_drewN _ _ _⟩
                · have hdc : decide (z.id = y.id) = false := decide_eq_false heq
                  have hdb : (z.id == y.id) = false := beq_eq_false_iff_ne.mpr heq
                  rw [hdc] at HH
                  go_wp2_with fail
                  go_quiet (fail)
                  go_wp2_with fail
                  go_meet
                  exact ⟨nq0 + nq, by rw [HH.out], World.drewN_drewN _ _ _⟩
              · have HH : Hid (hitC Mj.l y.id = false) := by
                  show _ = _
                  unfold hitC
                  rw [← HPP.out, List.getElem?_eq_none (by omega)]
                have hge : ¬ ((p : Int) < (Mj.l.length : Int)) := by omega
                go_wp2_with fail
                go_quiet (fail)
                go_wp2_with fail
                go_meet
                exact ⟨nq0 + nq, by rw [HH.out], World.drewN_drewN _ _ _⟩
            case rest =>
              obtain ⟨nq1, rfl, hwf⟩ := hcut
              subst hwf
              have hll : l.length ≤ 100000000 := HLL.out
              have HOg : Hid ((wf.drewN nq1).ownsRow w.heap.size 45 5 (.slice A3 Mj.l.length c3) Mj.l.length (cellsL Mj.l)) := HOf.out
              have HMg : Hid (Blk (wf.drewN nq1) g4 27 [.slice A3 Mj.l.length c3, .int .i64 Mj.come, .int .i64 Mj.gone]) := HMf.out
              have HUg : Hid (Below w.heap.size w (wf.drewN nq1)) := HUf.out.trans (frm_below ((Frm.refl [] wf).drewN nq1) (fun x hx => by cases hx) HUf.out.size)
              have HGg : Hid (Blk (wf.drewN nq1) g2 27 [.slice none 0 0, .int .i64 0, .int .i64 0]) := HGf.out
              have HYg : Hid (Blk (wf.drewN nq1) g8 45 [.int .u64 y.id, .bool y.gone, .int .u32 y.level, .int .u64 y.keyId, .int .u32 y.comp]) := HYf.out
              clear HOf HMf HUf HGf HYf
              generalize wf.drewN nq1 = wg at *
              have hpi : (p : Int) ≤ (Mj.l.length : Int) := by omega
              have hpc : (p : Int) ≤ (c3 : Int) := by omega
              have hp0 : (0 : Int) ≤ (p : Int) := by omega
              have hcb : 0 ≤ Mj.come ∧ Mj.come ≤ 100000000 ∧ 0 ≤ Mj.gone ∧ Mj.gone ≤ 100000000 := by have := HCJ.out; omega
              have hc0 := hcb.1
              have hc1 := hcb.2.1
              have hn0 := hcb.2.2.1
              have hn1 := hcb.2.2.2
              clear hcb
              cases hh : hitC Mj.l y.id with
              | false =>
                cases hgn : y.gone with
                | true =>
                  rw [hgn] at HYg
                  have HST : Hid (allM ⟨[], 0, 0⟩ ls.flatten = none) := by
                    show _ = _
                    rw [← HAJ.out]
                    unfold stepM
                    rw [hh, hgn, if_neg (by decide)]
                    rfl
                  have r0 := HGg.out.at_ (i := 0) rfl
                  have r1 := HGg.out.at_ (i := 1) rfl
                  have r2 := HGg.out.at_ (i := 2) rfl
                  have z0 := HGg.out.frozen 0
                  have z1 := HGg.out.frozen 1
                  have z2 := HGg.out.frozen 2
                  have b8 : wg.cell? ⟨g8, 1, none⟩ = some (.bool true) := HYg.out.at_ rfl
                  have HZ : Hid (Below w.heap.size w (((wg.setCell ⟨g2, 0, none⟩ (.slice none 0 0)).setCell ⟨g2, 1, none⟩ (.int .i64 0)).setCell ⟨g2, 2, none⟩ (.int .i64 0))) := ((HUg.out.setCell (Nat.le_of_eq hg2) _).setCell (Nat.le_of_eq hg2) _).setCell (Nat.le_of_eq hg2) _
                  go_wp2
                  refine bodyPost_ret (v := .tuple #[.agg #[.slice none 0 0, .int .i64 0, .int .i64 0], .bool false]) (by simp [results, Tryd.results9, go_sem, r0, r1, r2, z0, z1, z2]) rfl ?_
                  exact ⟨HZ.out, fun M hM => (by rw [HST.out] at hM; cases hM), fun _ => rfl⟩
                | false =>
                  rw [hgn] at HYg
                  have HSN : Hid (stepM Mj y = some ⟨insC Mj.l y, Mj.come + 1, Mj.gone⟩) := stepM_ins hgn hh
                  have HAN : Hid (allM ⟨insC Mj.l y, Mj.come + 1, Mj.gone⟩ (l.drop (j + 1) ++ rst) = allM ⟨[], 0, 0⟩ ls.flatten) := by have h1 := HAJ.out; rw [HSN.out] at h1; exact h1
                  have HCN := Lib.hid (bnd_ins y HCJ.out)
                  clear HAJ HCJ HSN
                  rcases HAD.out with ⟨hA, h0, hcz⟩ | ⟨gA, hA, hgA1, hgA2⟩
                  · subst hA
                    subst hcz
                    obtain rfl : p = 0 := by omega
                    rw [h0] at HOg HMg
                    have HN9 : Hid (0 + 1 + 0 = (insC Mj.l y).length) := by show _ = _; rw [insC_len]; omega
                    have HDR : ∀ wx : World, wx.ownsRow w.heap.size 45 5 (.slice none 0 0) 0 (cellsL Mj.l) → Sl wx none (0 * 5) ((cellsL Mj.l).drop (0 * 5)) := fun wx _ => by have h := drop_nil_sl (w := wx) (A := none) (p := 0) (by omega) (rfl : Mj.l.length = _); have e : Mj.l.length - 0 = 0 := (by omega); rwa [e] at h
                    have HOh : Hid ((wg.alloc (.cells #[] 45)).ownsRow w.heap.size 45 5 (.slice none 0 0) 0 (cellsL Mj.l)) := HOg.out.alloc _
                    have HMh : Hid (Blk (wg.alloc (.cells #[] 45)) g4 27 [.slice none 0 0, .int .i64 Mj.come, .int .i64 Mj.gone]) := HMg.out.alloc _
                    have HUh : Hid (Below w.heap.size w (wg.alloc (.cells #[] 45))) := HUg.out.alloc HUg.out.size _
                    have HGh : Hid (Blk (wg.alloc (.cells #[] 45)) g2 27 [.slice none 0 0, .int .i64 0, .int .i64 0]) := HGg.out.alloc _
                    have HYh := Lib.hid (HYg.out.alloc (.cells #[] 45))
                    have HEh := Lib.hid (World.ownsRow_made (base := w.heap.size) (e := 45) (size := 5) wg #[] 0 HUg.out.size (by simp [maxLen]) rfl)
                    have htk : Sl (wg.alloc (.cells #[] 45)) none (0 * 5) ((cellsL Mj.l).take (0 * 5)) := by
                      obtain ⟨_, _, hv7, _, hs7, _⟩ := own_chg (own_take HOh.out (Nat.le_refl 0) (by decide : 0 < 5))
                      injection hv7 with e1 _ _
                      subst e1
                      exact hs7
                    have b8 : wg.cell? ⟨g8, 1, none⟩ = some (.bool false) := HYg.out.at_ rfl
                    have b4 : (wg.alloc (.cells #[] 45)).cell? ⟨g4, 0, none⟩ = some (.slice none 0 0) := HMh.out.at_ rfl
                    have hb4 : wg.cell? ⟨g4, 0, none⟩ = some (.slice none 0 0) := HMg.out.at_ rfl
                    have HGE : Hid (∀ x, (Value.slice none 0 0).ownBlock = some x → x < wg.heap.size) := fun x e => (HOg.out.lt x e).2
                    have HG8 : Hid (g8 < wg.heap.size) := HYg.out.lt
                    clear HOg HMg HUg HGg HYg
                    go_wp2_with (at_builtin; refine wpList_append_chg rfl (.tmp 64) (.tmp 68) rfl w.heap.size (.slice (some ⟨wg.heap.size, 0, none⟩) 0 0) 0 [] rfl HEh.out none 0 0 ((cellsL Mj.l).take (0 * 5)) rfl htk (fun u hu => cellsL_one Mj.l u (List.mem_of_mem_take hu)) (by omega) HUh.out.size ?_; intro v69 w5 ho69 hg69 hat69; rw [Nat.zero_add, List.nil_append] at ho69; obtain ⟨A7, c7, hv69, hc7, hs7, hA7⟩ := own_chg ho69; subst hv69; have HO7 := Lib.hid ho69; have HG7 := Lib.hid hg69; have HS7 := Lib.hid hs7; have HNE7 : Hid (∀ x cs t, Blk (wg.alloc (.cells #[] 45)) x t cs → t ≠ 45 → Blk w5 x t cs) := fun x cs t hb ht => (HG7.out.block x hb.lt (own_ne HEh.out hb ht)).trans hb; have HM5 := Lib.hid (HNE7.out _ _ _ HMh.out (by decide)); have HG5 := Lib.hid (HNE7.out _ _ _ HGh.out (by decide)); have HU5 : Hid (Below w.heap.size w w5) := HUh.out.grown HG7.out HUh.out.size (fun k e => (HEh.out.lt k e).1); have HY5 : Hid (Blk w5 g8 45 _) := (HG7.out.block _ HYh.out.lt (fun e => by simp only [Value.ownBlock, Option.some.injEq] at e; have := HG8.out; omega)).trans HYh.out; have HO5 : Hid (w5.ownsRow w.heap.size 45 5 (.slice none 0 0) 0 (cellsL Mj.l)) := HOh.out.kept HG7.out (.inr (fun e => absurd (HGE.out _ e) (Nat.lt_irrefl _))); have HAT7 : Hid (some g8 ≠ (Value.slice A7 0 c7).ownBlock ∧ ∀ x, (Value.slice A7 0 c7).ownBlock = some x → (Value.slice none 0 0).ownBlock ≠ some x) := fresh_own hat69 HG8.out HGE.out; have c8 : w5.cell? ⟨g8, 1, none⟩ = some (.bool false) := HY5.out.at_ rfl; have c4 : w5.cell? ⟨g4, 0, none⟩ = some (.slice none 0 0) := HM5.out.at_ rfl; clear ho69 hg69 hat69 hs7 hA7 htk HOh HMh HUh HGh HYh HEh HNE7 b8 b4 hb4)
                    refine start_ (n := 11) (S := fun w' => w'.cell? ⟨g4, 0, none⟩ = some (.slice none 0 0) ∧ w'.cell? ⟨g8, 0, none⟩ = some (.int .u64 y.id) ∧ w'.cell? ⟨g8, 1, none⟩ = some (.bool false) ∧ w'.cell? ⟨g8, 2, none⟩ = some (.int .u32 y.level) ∧ w'.cell? ⟨g8, 3, none⟩ = some (.int .u64 y.keyId) ∧ w'.cell? ⟨g8, 4, none⟩ = some (.int .u32 y.comp)) (ds := [10]) #[ff,ff,ff,ff,ff,ff,ff,ff,ff,ff,ff] (by kernel_rfl) rfl rfl (⟨HM5.out.at_ rfl, HY5.out.at_ rfl, HY5.out.at_ rfl, HY5.out.at_ rfl, HY5.out.at_ rfl, HY5.out.at_ rfl⟩) (fun hHeld => ?_)
                    have HOd : Hid (w5.drew.ownsRow w.heap.size 45 5 (.slice none 0 0) 0 (cellsL Mj.l)) := HO5.out
                    have HO7d : Hid (w5.drew.ownsRow w.heap.size 45 5 (.slice A7 0 c7) 0 ((cellsL Mj.l).take (0 * 5))) := HO7.out
                    have HBd : Hid (Below w.heap.size w w5.drew) := HU5.out.drew
                    have HM5d : Hid (Blk w5.drew g4 27 [.slice none 0 0, .int .i64 Mj.come, .int .i64 Mj.gone]) := HM5.out
                    have HG5d : Hid (Blk w5.drew g2 27 [.slice none 0 0, .int .i64 0, .int .i64 0]) := HG5.out
                    have HNE7 : Hid (some g8 ≠ (Value.slice A7 0 c7).ownBlock ∧ ∀ x, (Value.slice A7 0 c7).ownBlock = some x → (Value.slice none 0 0).ownBlock ≠ some x) := HAT7
                    have HYLd : Hid (g8 < w5.drew.heap.size) := HY5.out.lt
                    have HOLd : Hid (∀ x, (Value.slice none 0 0).ownBlock = some x → x < w5.drew.heap.size) := fun x e => (HO5.out.lt x e).2
                    clear HO5 HO7 HU5 HM5 HG5 HY5 HG7 HS7 c8 c4 HAT7
                    generalize w5.drew = wd at *
                    refine pure_ (i := 0) (N := some 84) (v := ?_) (a' := ?_) #[tt,ff,ff,ff,ff,ff,ff,ff,ff,ff,ff] rfl rfl (by kernel_rfl) (fun _ _ _ h => h) (Or.inl ⟨by rfl, ?_⟩) ?_ ?_; rotate_left; (intro w'; go_simp; with_reducible rfl); rotate_left; (simp only [Act.put, List.setIfInBounds_toArray, List.set_cons_zero, List.set_cons_succ, i64_w, i32_w]; rfl)
                    refine take_ (i := 1) (N := some 85) (v := ?_) (a' := ?_) #[tt,tt,ff,ff,ff,ff,ff,ff,ff,ff,ff] rfl rfl (by kernel_rfl) (fun _ _ _ h => h) (Or.inl ⟨by rfl, ?_⟩) hHeld ?_ ?_; rotate_left; (rintro w' ⟨h0, h1, h2, h3, h4, h5⟩; go_simp; with_reducible rfl); rotate_left; (simp only [Act.put, List.setIfInBounds_toArray, List.set_cons_zero, List.set_cons_succ, i64_w, i32_w]; rfl)
                    refine pure_ (i := 4) (N := some 88) (v := ?_) (a' := ?_) #[tt,tt,ff,ff,tt,ff,ff,ff,ff,ff,ff] rfl rfl (by kernel_rfl) (fun _ _ _ h => h) (Or.inl ⟨by rfl, ?_⟩) ?_ ?_; rotate_left; (intro w'; go_simp; with_reducible rfl); rotate_left; (simp only [Act.put, List.setIfInBounds_toArray, List.set_cons_zero, List.set_cons_succ, i64_w, i32_w]; rfl)
                    refine take_ (i := 5) (N := some 89) (v := ?_) (a' := ?_) #[tt,tt,ff,ff,tt,tt,ff,ff,ff,ff,ff] rfl rfl (by kernel_rfl) (fun _ _ _ h => h) (Or.inl ⟨by rfl, ?_⟩) hHeld ?_ ?_; rotate_left; (rintro w' ⟨h0, h1, h2, h3, h4, h5⟩; go_simp; with_reducible rfl); rotate_left; (simp only [Act.put, List.setIfInBounds_toArray, List.set_cons_zero, List.set_cons_succ, i64_w, i32_w]; rfl)
                    refine pure_ (i := 6) (N := some 90) (v := ?_) (a' := ?_) #[tt,tt,ff,ff,tt,tt,tt,ff,ff,ff,ff] rfl rfl (by kernel_rfl) (fun _ _ _ h => h) (Or.inl ⟨by rfl, ?_⟩) ?_ ?_; rotate_left; (intro w'; go_simp; with_reducible rfl); rotate_left; (simp only [Act.put, List.setIfInBounds_toArray, List.set_cons_zero, List.set_cons_succ, i64_w, i32_w]; rfl)
                    refine pure_ (i := 7) (N := some 91) (v := ?_) (a' := ?_) #[tt,tt,ff,ff,tt,tt,tt,tt,ff,ff,ff] rfl rfl (by kernel_rfl) (fun _ _ _ h => h) (Or.inl ⟨by rfl, ?_⟩) ?_ ?_; rotate_left; (intro w'; go_simp; with_reducible rfl); rotate_left; (simp only [Act.put, List.setIfInBounds_toArray, List.set_cons_zero, List.set_cons_succ, i64_w, i32_w]; rfl)
                    refine one_ (i := 2) (N := some 86) #[tt,tt,tt,ff,tt,tt,tt,tt,ff,ff,ff] rfl rfl (by kernel_rfl) (by decide) (fun K hK => ?_)
                    refine value_ (v := .slice (some ⟨wd.heap.size, 0, none⟩) 1 1) (w1 := wd.alloc (.cells #[.int .u64 y.id, .bool false, .int .u32 y.level, .int .u64 y.keyId, .int .u32 y.comp] 45)) (by rfl) rfl ?_ ?_
                    · go_simp
                      try rfl
                    have HOl : Hid (Sl (wd.alloc (.cells #[.int .u64 y.id, .bool false, .int .u32 y.level, .int .u64 y.keyId, .int .u32 y.comp] 45)) (some ⟨wd.heap.size, 0, none⟩) (1 * 5) [.int .u64 y.id, .bool false, .int .u32 y.level, .int .u64 y.keyId, .int .u32 y.comp]) := (Blk.new wd 45 [.int .u64 y.id, .bool false, .int .u32 y.level, .int .u64 y.keyId, .int .u32 y.comp]).sl (off := 0) (n := 5) (by show 0 + 5 ≤ 5; omega)
                    replace HOd := Lib.hid (HOd.out.alloc (.cells #[.int .u64 y.id, .bool false, .int .u32 y.level, .int .u64 y.keyId, .int .u32 y.comp] 45))
                    replace HO7d := Lib.hid (HO7d.out.alloc (.cells #[.int .u64 y.id, .bool false, .int .u32 y.level, .int .u64 y.keyId, .int .u32 y.comp] 45))
                    have hb4 : Below wd.heap.size wd (wd.alloc (.cells #[.int .u64 y.id, .bool false, .int .u32 y.level, .int .u64 y.keyId, .int .u32 y.comp] 45)) := (Below.refl _ _).alloc (Nat.le_refl _) _
                    refine hK.out _ _ (⟨cell_belM hHeld.1 hb4, cell_belM hHeld.2.1 hb4, cell_belM hHeld.2.2.1 hb4, cell_belM hHeld.2.2.2.1 hb4, cell_belM hHeld.2.2.2.2.1 hb4, cell_belM hHeld.2.2.2.2.2 hb4⟩) (fun hHeld => ?_); clear hK K; refine norm_ (a' := ?_) ?_ ?_; rotate_left; (show Act.put _ (some 86) _ = _; simp only [Act.put, List.setIfInBounds_toArray, List.set_cons_zero, List.set_cons_succ, i64_w, i32_w]; rfl)
                    replace HBd : Hid (Below w.heap.size w (wd.alloc (.cells #[.int .u64 y.id, .bool false, .int .u32 y.level, .int .u64 y.keyId, .int .u32 y.comp] 45))) := HBd.out.alloc HBd.out.size _
                    replace HM5d := Lib.hid (HM5d.out.alloc (.cells #[.int .u64 y.id, .bool false, .int .u32 y.level, .int .u64 y.keyId, .int .u32 y.comp] 45))
                    replace HG5d := Lib.hid (HG5d.out.alloc (.cells #[.int .u64 y.id, .bool false, .int .u32 y.level, .int .u64 y.keyId, .int .u32 y.comp] 45))
                    clear hb4
                    have HGBW : Hid (wd.heap.size ≤ (wd.alloc (.cells #[.int .u64 y.id, .bool false, .int .u32 y.level, .int .u64 y.keyId, .int .u32 y.comp] 45)).heap.size) := by show _ ≤ _; rw [World.size_alloc]; omega
                    generalize wd.alloc (.cells #[.int .u64 y.id, .bool false, .int .u32 y.level, .int .u64 y.keyId, .int .u32 y.comp] 45) = w4 at *
                    generalize wd.heap.size = gb at *
                    refine one_ (i := 3) (N := some 87) #[tt,tt,tt,tt,tt,tt,tt,tt,ff,ff,ff] rfl rfl (by kernel_rfl) (by decide) (fun K hK => ?_)
                    refine step_append_chg rfl (.tmp 84) (.tmp 86) rfl w.heap.size (.slice A7 0 c7) 0 ((cellsL Mj.l).take (0 * 5)) rfl HO7d.out (some ⟨gb, 0, none⟩) 1 1 [.int .u64 y.id, .bool false, .int .u32 y.level, .int .u64 y.keyId, .int .u32 y.comp] rfl HOl.out (fun u hu => chg_one y u (by unfold Chg.cells; rw [hgn]; exact hu)) (by omega) HBd.out.size ?_
                    intro v87 w6 ho87 hg87 hat87
                    obtain ⟨A8, c8, hv87, hc8, _, _⟩ := own_chg ho87
                    subst hv87
                    have HO8 := Lib.hid ho87
                    have hne : ∀ x cs t, Blk w4 x t cs → t ≠ 45 → Blk w6 x t cs := fun x cs t hb ht => (hg87.block x hb.lt (own_ne HO7d.out hb ht)).trans hb
                    replace HOd : Hid (w6.ownsRow w.heap.size 45 5 (.slice none 0 0) 0 (cellsL Mj.l)) := own_apart HOd.out hg87 HNE7.out.2
                    replace HM5d := Lib.hid (hne _ _ _ HM5d.out (by decide))
                    replace HG5d := Lib.hid (hne _ _ _ HG5d.out (by decide))
                    replace HBd : Hid (Below w.heap.size w w6) := HBd.out.grown hg87 HBd.out.size (fun k e => (HO7d.out.lt k e).1)
                    have hg4w : w6.cell? ⟨g4, 0, none⟩ = some (.slice none 0 0) := HM5d.out.at_ rfl
                    have hng8 := HNE7.out.1
                    refine hK.out _ _ (⟨hg4w, cell_row hHeld.2.1 hg87 hng8, cell_row hHeld.2.2.1 hg87 hng8, cell_row hHeld.2.2.2.1 hg87 hng8, cell_row hHeld.2.2.2.2.1 hg87 hng8, cell_row hHeld.2.2.2.2.2 hg87 hng8⟩) (fun hHeld => ?_); clear hK K; refine norm_ (a' := ?_) ?_ ?_; rotate_left; (show Act.put _ (some 87) _ = _; simp only [Act.put, List.setIfInBounds_toArray, List.set_cons_zero, List.set_cons_succ, i64_w, i32_w]; rfl)
                    have HNE8 : Hid (some g8 ≠ (Value.slice A8 (0 + 1) c8).ownBlock) := fun e => by
                      rcases hat87 with h | h
                      · rw [h] at e; exact hng8 e
                      · rw [h] at e; injection e with e; have := HYLd.out; have := HGBW.out; omega
                    clear ho87 hg87 hat87 hne hg4w hng8 HO7d HOl
                    have hdr : Sl w6 none (0 * 5) ((cellsL Mj.l).drop (0 * 5)) := HDR w6 HOd.out
                    refine one_ (i := 8) (N := some 92) #[tt,tt,tt,tt,tt,tt,tt,tt,tt,ff,ff] rfl rfl (by kernel_rfl) (by decide) (fun K hK => ?_)
                    refine step_append_chg rfl (.tmp 87) (.tmp 91) rfl w.heap.size (.slice A8 (0 + 1) c8) (0 + 1) ((cellsL Mj.l).take (0 * 5) ++ [.int .u64 y.id, .bool false, .int .u32 y.level, .int .u64 y.keyId, .int .u32 y.comp]) rfl HO8.out none 0 0 ((cellsL Mj.l).drop (0 * 5)) rfl hdr (fun u hu => cellsL_one Mj.l u (List.mem_of_mem_drop hu)) (by omega) HBd.out.size ?_
                    intro v92 w7 ho92 hg92 hat92
                    obtain ⟨A9, c9, hv92, hc9, _, _⟩ := own_chg ho92
                    subst hv92
                    have HO9 := Lib.hid ho92
                    have hne : ∀ x cs t, Blk w6 x t cs → t ≠ 45 → Blk w7 x t cs := fun x cs t hb ht => (hg92.block x hb.lt (own_ne HO8.out hb ht)).trans hb
                    replace HM5d := Lib.hid (hne _ _ _ HM5d.out (by decide))
                    replace HG5d := Lib.hid (hne _ _ _ HG5d.out (by decide))
                    replace HBd : Hid (Below w.heap.size w w7) := HBd.out.grown hg92 HBd.out.size (fun k e => (HO8.out.lt k e).1)
                    have hg4w : w7.cell? ⟨g4, 0, none⟩ = some (.slice none 0 0) := HM5d.out.at_ rfl
                    have hng8 := HNE8.out
                    refine hK.out _ _ (⟨hg4w, cell_row hHeld.2.1 hg92 hng8, cell_row hHeld.2.2.1 hg92 hng8, cell_row hHeld.2.2.2.1 hg92 hng8, cell_row hHeld.2.2.2.2.1 hg92 hng8, cell_row hHeld.2.2.2.2.2 hg92 hng8⟩) (fun hHeld => ?_); clear hK K; refine norm_ (a' := ?_) ?_ ?_; rotate_left; (show Act.put _ (some 92) _ = _; simp only [Act.put, List.setIfInBounds_toArray, List.set_cons_zero, List.set_cons_succ, i64_w, i32_w]; rfl)
                    clear ho92 hg92 hat92 hne hg4w hng8 HO8 hdr HOd
                    refine pure_ (i := 9) (N := some 93) (v := ?_) (a' := ?_) #[tt,tt,tt,tt,tt,tt,tt,tt,tt,tt,ff] rfl rfl (by kernel_rfl) (fun _ _ _ h => h) (Or.inl ⟨by rfl, ?_⟩) ?_ ?_; rotate_left; (intro w'; go_simp; with_reducible rfl); rotate_left; (simp only [Act.put, List.setIfInBounds_toArray, List.set_cons_zero, List.set_cons_succ, i64_w, i32_w]; rfl)
                    have q0 := HM5d.out.at_ (i := 0) rfl
                    have f0 := HM5d.out.frozen 0
                    refine last_ (i := 10) (N := none) #[tt,tt,tt,tt,tt,tt,tt,tt,tt,tt,tt] rfl rfl (by kernel_rfl) (by decide) (fun K hK => ?_)
                    refine skip_ (w1 := w7.setCell ⟨g4, 0, none⟩ (.slice A9 (0 + 1 + 0) c9)) (by rfl) rfl ?_ ?_
                    · simp [go_sem, q0, f0]
                    refine hK.out _ _ ?_; clear hK K
                    refine done_ (by kernel_rfl) ?_
                    have q1 := HM5d.out.at_ (i := 1) rfl
                    have f1 := HM5d.out.frozen 1
                    go_wp2
                    have HW9 := Lib.hid (ins_tail HO9.out HM5d.out HG5d.out HBd.out HPP.out hgn HN9.out (by omega) (by omega))
                    clear HO9 HM5d HG5d HBd q0 q1 f0 f1
                    go_roundg gkI
                    case measure => omega
                    case rel => exact ⟨j + 1, c9, A9, ⟨insC Mj.l y, Mj.come + 1, Mj.gone⟩, by go_num, by omega, by have := HJF.out; show _ = _; omega, HW9.out.1, HAN.out, HCN.out, HW9.out.2⟩
                  · subst hA
                    by_cases hcc : c3 = p
                    · subst hcc
                      have HN9 : Hid (c3 + 1 + 0 = (insC Mj.l y).length) := by show _ = _; rw [insC_len]; omega
                      have HDR : ∀ wx : World, wx.ownsRow w.heap.size 45 5 (.slice (some ⟨gA, 0, none⟩) Mj.l.length c3) Mj.l.length (cellsL Mj.l) → Sl wx (some ⟨gA, 0, none⟩) (0 * 5) ((cellsL Mj.l).drop (c3 * 5)) := fun wx _ => by have h := drop_nil_sl (w := wx) (A := some ⟨gA, 0, none⟩) (p := c3) (by omega) (rfl : Mj.l.length = _); have e : Mj.l.length - c3 = 0 := (by omega); rwa [e] at h
                      have HOh : Hid ((wg.alloc (.cells #[] 45)).ownsRow w.heap.size 45 5 (.slice (some ⟨gA, 0, none⟩) Mj.l.length c3) Mj.l.length (cellsL Mj.l)) := HOg.out.alloc _
                      have HMh : Hid (Blk (wg.alloc (.cells #[] 45)) g4 27 [.slice (some ⟨gA, 0, none⟩) Mj.l.length c3, .int .i64 Mj.come, .int .i64 Mj.gone]) := HMg.out.alloc _
                      have HUh : Hid (Below w.heap.size w (wg.alloc (.cells #[] 45))) := HUg.out.alloc HUg.out.size _
                      have HGh : Hid (Blk (wg.alloc (.cells #[] 45)) g2 27 [.slice none 0 0, .int .i64 0, .int .i64 0]) := HGg.out.alloc _
                      have HYh := Lib.hid (HYg.out.alloc (.cells #[] 45))
                      have HEh := Lib.hid (World.ownsRow_made (base := w.heap.size) (e := 45) (size := 5) wg #[] 0 HUg.out.size (by simp [maxLen]) rfl)
                      have htk : Sl (wg.alloc (.cells #[] 45)) (some ⟨gA, 0, none⟩) (c3 * 5) ((cellsL Mj.l).take (c3 * 5)) := by
                        obtain ⟨_, _, hv7, _, hs7, _⟩ := own_chg (own_take HOh.out hpl (by decide : 0 < 5))
                        injection hv7 with e1 _ _
                        subst e1
                        exact hs7
                      have b8 : wg.cell? ⟨g8, 1, none⟩ = some (.bool false) := HYg.out.at_ rfl
                      have b4 : (wg.alloc (.cells #[] 45)).cell? ⟨g4, 0, none⟩ = some (.slice (some ⟨gA, 0, none⟩) Mj.l.length c3) := HMh.out.at_ rfl
                      have hb4 : wg.cell? ⟨g4, 0, none⟩ = some (.slice (some ⟨gA, 0, none⟩) Mj.l.length c3) := HMg.out.at_ rfl
                      have HGE : Hid (∀ x, (Value.slice (some ⟨gA, 0, none⟩) Mj.l.length c3).ownBlock = some x → x < wg.heap.size) := fun x e => (HOg.out.lt x e).2
                      have HG8 : Hid (g8 < wg.heap.size) := HYg.out.lt
                      clear HOg HMg HUg HGg HYg
                      go_wp2_with (at_builtin; refine wpList_append_chg rfl (.tmp 64) (.tmp 68) rfl w.heap.size (.slice (some ⟨wg.heap.size, 0, none⟩) 0 0) 0 [] rfl HEh.out (some ⟨gA, 0, none⟩) c3 c3 ((cellsL Mj.l).take (c3 * 5)) rfl htk (fun u hu => cellsL_one Mj.l u (List.mem_of_mem_take hu)) (by omega) HUh.out.size ?_; intro v69 w5 ho69 hg69 hat69; rw [Nat.zero_add, List.nil_append] at ho69; obtain ⟨A7, c7, hv69, hc7, hs7, hA7⟩ := own_chg ho69; subst hv69; have HO7 := Lib.hid ho69; have HG7 := Lib.hid hg69; have HS7 := Lib.hid hs7; have HNE7 : Hid (∀ x cs t, Blk (wg.alloc (.cells #[] 45)) x t cs → t ≠ 45 → Blk w5 x t cs) := fun x cs t hb ht => (HG7.out.block x hb.lt (own_ne HEh.out hb ht)).trans hb; have HM5 := Lib.hid (HNE7.out _ _ _ HMh.out (by decide)); have HG5 := Lib.hid (HNE7.out _ _ _ HGh.out (by decide)); have HU5 : Hid (Below w.heap.size w w5) := HUh.out.grown HG7.out HUh.out.size (fun k e => (HEh.out.lt k e).1); have HY5 : Hid (Blk w5 g8 45 _) := (HG7.out.block _ HYh.out.lt (fun e => by simp only [Value.ownBlock, Option.some.injEq] at e; have := HG8.out; omega)).trans HYh.out; have HO5 : Hid (w5.ownsRow w.heap.size 45 5 (.slice (some ⟨gA, 0, none⟩) Mj.l.length c3) Mj.l.length (cellsL Mj.l)) := HOh.out.kept HG7.out (.inr (fun e => absurd (HGE.out _ e) (Nat.lt_irrefl _))); have HAT7 : Hid (some g8 ≠ (Value.slice A7 c3 c7).ownBlock ∧ ∀ x, (Value.slice A7 c3 c7).ownBlock = some x → (Value.slice (some ⟨gA, 0, none⟩) Mj.l.length c3).ownBlock ≠ some x) := fresh_own hat69 HG8.out HGE.out; have c8 : w5.cell? ⟨g8, 1, none⟩ = some (.bool false) := HY5.out.at_ rfl; have c4 : w5.cell? ⟨g4, 0, none⟩ = some (.slice (some ⟨gA, 0, none⟩) Mj.l.length c3) := HM5.out.at_ rfl; clear ho69 hg69 hat69 hs7 hA7 htk HOh HMh HUh HGh HYh HEh HNE7 b8 b4 hb4)
                      refine start_ (n := 11) (S := fun w' => w'.cell? ⟨g4, 0, none⟩ = some (.slice (some ⟨gA, 0, none⟩) Mj.l.length c3) ∧ w'.cell? ⟨g8, 0, none⟩ = some (.int .u64 y.id) ∧ w'.cell? ⟨g8, 1, none⟩ = some (.bool false) ∧ w'.cell? ⟨g8, 2, none⟩ = some (.int .u32 y.level) ∧ w'.cell? ⟨g8, 3, none⟩ = some (.int .u64 y.keyId) ∧ w'.cell? ⟨g8, 4, none⟩ = some (.int .u32 y.comp)) (ds := [10]) #[ff,ff,ff,ff,ff,ff,ff,ff,ff,ff,ff] (by kernel_rfl) rfl rfl (⟨HM5.out.at_ rfl, HY5.out.at_ rfl, HY5.out.at_ rfl, HY5.out.at_ rfl, HY5.out.at_ rfl, HY5.out.at_ rfl⟩) (fun hHeld => ?_)
                      have HOd : Hid (w5.drew.ownsRow w.heap.size 45 5 (.slice (some ⟨gA, 0, none⟩) Mj.l.length c3) Mj.l.length (cellsL Mj.l)) := HO5.out
                      have HO7d : Hid (w5.drew.ownsRow w.heap.size 45 5 (.slice A7 c3 c7) c3 ((cellsL Mj.l).take (c3 * 5))) := HO7.out
                      have HBd : Hid (Below w.heap.size w w5.drew) := HU5.out.drew
                      have HM5d : Hid (Blk w5.drew g4 27 [.slice (some ⟨gA, 0, none⟩) Mj.l.length c3, .int .i64 Mj.come, .int .i64 Mj.gone]) := HM5.out
                      have HG5d : Hid (Blk w5.drew g2 27 [.slice none 0 0, .int .i64 0, .int .i64 0]) := HG5.out
                      have HNE7 : Hid (some g8 ≠ (Value.slice A7 c3 c7).ownBlock ∧ ∀ x, (Value.slice A7 c3 c7).ownBlock = some x → (Value.slice (some ⟨gA, 0, none⟩) Mj.l.length c3).ownBlock ≠ some x) := HAT7
                      have HYLd : Hid (g8 < w5.drew.heap.size) := HY5.out.lt
                      have HOLd : Hid (∀ x, (Value.slice (some ⟨gA, 0, none⟩) Mj.l.length c3).ownBlock = some x → x < w5.drew.heap.size) := fun x e => (HO5.out.lt x e).2
                      clear HO5 HO7 HU5 HM5 HG5 HY5 HG7 HS7 c8 c4 HAT7
                      generalize w5.drew = wd at *
                      refine pure_ (i := 0) (N := some 84) (v := ?_) (a' := ?_) #[tt,ff,ff,ff,ff,ff,ff,ff,ff,ff,ff] rfl rfl (by kernel_rfl) (fun _ _ _ h => h) (Or.inl ⟨by rfl, ?_⟩) ?_ ?_; rotate_left; (intro w'; go_simp; with_reducible rfl); rotate_left; (simp only [Act.put, List.setIfInBounds_toArray, List.set_cons_zero, List.set_cons_succ, i64_w, i32_w]; rfl)
                      refine take_ (i := 1) (N := some 85) (v := ?_) (a' := ?_) #[tt,tt,ff,ff,ff,ff,ff,ff,ff,ff,ff] rfl rfl (by kernel_rfl) (fun _ _ _ h => h) (Or.inl ⟨by rfl, ?_⟩) hHeld ?_ ?_; rotate_left; (rintro w' ⟨h0, h1, h2, h3, h4, h5⟩; go_simp; with_reducible rfl); rotate_left; (simp only [Act.put, List.setIfInBounds_toArray, List.set_cons_zero, List.set_cons_succ, i64_w, i32_w]; rfl)
                      refine pure_ (i := 4) (N := some 88) (v := ?_) (a' := ?_) #[tt,tt,ff,ff,tt,ff,ff,ff,ff,ff,ff] rfl rfl (by kernel_rfl) (fun _ _ _ h => h) (Or.inl ⟨by rfl, ?_⟩) ?_ ?_; rotate_left; (intro w'; go_simp; with_reducible rfl); rotate_left; (simp only [Act.put, List.setIfInBounds_toArray, List.set_cons_zero, List.set_cons_succ, i64_w, i32_w]; rfl)
                      refine take_ (i := 5) (N := some 89) (v := ?_) (a' := ?_) #[tt,tt,ff,ff,tt,tt,ff,ff,ff,ff,ff] rfl rfl (by kernel_rfl) (fun _ _ _ h => h) (Or.inl ⟨by rfl, ?_⟩) hHeld ?_ ?_; rotate_left; (rintro w' ⟨h0, h1, h2, h3, h4, h5⟩; go_simp; with_reducible rfl); rotate_left; (simp only [Act.put, List.setIfInBounds_toArray, List.set_cons_zero, List.set_cons_succ, i64_w, i32_w]; rfl)
                      refine pure_ (i := 6) (N := some 90) (v := ?_) (a' := ?_) #[tt,tt,ff,ff,tt,tt,tt,ff,ff,ff,ff] rfl rfl (by kernel_rfl) (fun _ _ _ h => h) (Or.inl ⟨by rfl, ?_⟩) ?_ ?_; rotate_left; (intro w'; go_simp; with_reducible rfl); rotate_left; (simp only [Act.put, List.setIfInBounds_toArray, List.set_cons_zero, List.set_cons_succ, i64_w, i32_w]; rfl)
                      refine pure_ (i := 7) (N := some 91) (v := ?_) (a' := ?_) #[tt,tt,ff,ff,tt,tt,tt,tt,ff,ff,ff] rfl rfl (by kernel_rfl) (fun _ _ _ h => h) (Or.inl ⟨by rfl, ?_⟩) ?_ ?_; rotate_left; (intro w'; go_simp; with_reducible rfl); rotate_left; (simp only [Act.put, List.setIfInBounds_toArray, List.set_cons_zero, List.set_cons_succ, i64_w, i32_w]; rfl)
                      refine one_ (i := 2) (N := some 86) #[tt,tt,tt,ff,tt,tt,tt,tt,ff,ff,ff] rfl rfl (by kernel_rfl) (by decide) (fun K hK => ?_)
                      refine value_ (v := .slice (some ⟨wd.heap.size, 0, none⟩) 1 1) (w1 := wd.alloc (.cells #[.int .u64 y.id, .bool false, .int .u32 y.level, .int .u64 y.keyId, .int .u32 y.comp] 45)) (by rfl) rfl ?_ ?_
                      · go_simp
                        try rfl
                      have HOl : Hid (Sl (wd.alloc (.cells #[.int .u64 y.id, .bool false, .int .u32 y.level, .int .u64 y.keyId, .int .u32 y.comp] 45)) (some ⟨wd.heap.size, 0, none⟩) (1 * 5) [.int .u64 y.id, .bool false, .int .u32 y.level, .int .u64 y.keyId, .int .u32 y.comp]) := (Blk.new wd 45 [.int .u64 y.id, .bool false, .int .u32 y.level, .int .u64 y.keyId, .int .u32 y.comp]).sl (off := 0) (n := 5) (by show 0 + 5 ≤ 5; omega)
                      replace HOd := Lib.hid (HOd.out.alloc (.cells #[.int .u64 y.id, .bool false, .int .u32 y.level, .int .u64 y.keyId, .int .u32 y.comp] 45))
                      replace HO7d := Lib.hid (HO7d.out.alloc (.cells #[.int .u64 y.id, .bool false, .int .u32 y.level, .int .u64 y.keyId, .int .u32 y.comp] 45))
                      have hb4 : Below wd.heap.size wd (wd.alloc (.cells #[.int .u64 y.id, .bool false, .int .u32 y.level, .int .u64 y.keyId, .int .u32 y.comp] 45)) := (Below.refl _ _).alloc (Nat.le_refl _) _
                      refine hK.out _ _ (⟨cell_belM hHeld.1 hb4, cell_belM hHeld.2.1 hb4, cell_belM hHeld.2.2.1 hb4, cell_belM hHeld.2.2.2.1 hb4, cell_belM hHeld.2.2.2.2.1 hb4, cell_belM hHeld.2.2.2.2.2 hb4⟩) (fun hHeld => ?_); clear hK K; refine norm_ (a' := ?_) ?_ ?_; rotate_left; (show Act.put _ (some 86) _ = _; simp only [Act.put, List.setIfInBounds_toArray, List.set_cons_zero, List.set_cons_succ, i64_w, i32_w]; rfl)
                      replace HBd : Hid (Below w.heap.size w (wd.alloc (.cells #[.int .u64 y.id, .bool false, .int .u32 y.level, .int .u64 y.keyId, .int .u32 y.comp] 45))) := HBd.out.alloc HBd.out.size _
                      replace HM5d := Lib.hid (HM5d.out.alloc (.cells #[.int .u64 y.id, .bool false, .int .u32 y.level, .int .u64 y.keyId, .int .u32 y.comp] 45))
                      replace HG5d := Lib.hid (HG5d.out.alloc (.cells #[.int .u64 y.id, .bool false, .int .u32 y.level, .int .u64 y.keyId, .int .u32 y.comp] 45))
                      clear hb4
                      have HGBW : Hid (wd.heap.size ≤ (wd.alloc (.cells #[.int .u64 y.id, .bool false, .int .u32 y.level, .int .u64 y.keyId, .int .u32 y.comp] 45)).heap.size) := by show _ ≤ _; rw [World.size_alloc]; omega
                      generalize wd.alloc (.cells #[.int .u64 y.id, .bool false, .int .u32 y.level, .int .u64 y.keyId, .int .u32 y.comp] 45) = w4 at *
                      generalize wd.heap.size = gb at *
                      refine one_ (i := 3) (N := some 87) #[tt,tt,tt,tt,tt,tt,tt,tt,ff,ff,ff] rfl rfl (by kernel_rfl) (by decide) (fun K hK => ?_)
                      refine step_append_chg rfl (.tmp 84) (.tmp 86) rfl w.heap.size (.slice A7 c3 c7) c3 ((cellsL Mj.l).take (c3 * 5)) rfl HO7d.out (some ⟨gb, 0, none⟩) 1 1 [.int .u64 y.id, .bool false, .int .u32 y.level, .int .u64 y.keyId, .int .u32 y.comp] rfl HOl.out (fun u hu => chg_one y u (by unfold Chg.cells; rw [hgn]; exact hu)) (by omega) HBd.out.size ?_
                      intro v87 w6 ho87 hg87 hat87
                      obtain ⟨A8, c8, hv87, hc8, _, _⟩ := own_chg ho87
                      subst hv87
                      have HO8 := Lib.hid ho87
                      have hne : ∀ x cs t, Blk w4 x t cs → t ≠ 45 → Blk w6 x t cs := fun x cs t hb ht => (hg87.block x hb.lt (own_ne HO7d.out hb ht)).trans hb
                      replace HOd : Hid (w6.ownsRow w.heap.size 45 5 (.slice (some ⟨gA, 0, none⟩) Mj.l.length c3) Mj.l.length (cellsL Mj.l)) := own_apart HOd.out hg87 HNE7.out.2
                      replace HM5d := Lib.hid (hne _ _ _ HM5d.out (by decide))
                      replace HG5d := Lib.hid (hne _ _ _ HG5d.out (by decide))
                      replace HBd : Hid (Below w.heap.size w w6) := HBd.out.grown hg87 HBd.out.size (fun k e => (HO7d.out.lt k e).1)
                      have hg4w : w6.cell? ⟨g4, 0, none⟩ = some (.slice (some ⟨gA, 0, none⟩) Mj.l.length c3) := HM5d.out.at_ rfl
                      have hng8 := HNE7.out.1
                      refine hK.out _ _ (⟨hg4w, cell_row hHeld.2.1 hg87 hng8, cell_row hHeld.2.2.1 hg87 hng8, cell_row hHeld.2.2.2.1 hg87 hng8, cell_row hHeld.2.2.2.2.1 hg87 hng8, cell_row hHeld.2.2.2.2.2 hg87 hng8⟩) (fun hHeld => ?_); clear hK K; refine norm_ (a' := ?_) ?_ ?_; rotate_left; (show Act.put _ (some 87) _ = _; simp only [Act.put, List.setIfInBounds_toArray, List.set_cons_zero, List.set_cons_succ, i64_w, i32_w]; rfl)
                      have HNE8 : Hid (some g8 ≠ (Value.slice A8 (c3 + 1) c8).ownBlock) := fun e => by
                        rcases hat87 with h | h
                        · rw [h] at e; exact hng8 e
                        · rw [h] at e; injection e with e; have := HYLd.out; have := HGBW.out; omega
                      clear ho87 hg87 hat87 hne hg4w hng8 HO7d HOl
                      have hdr : Sl w6 (some ⟨gA, 0, none⟩) (0 * 5) ((cellsL Mj.l).drop (c3 * 5)) := HDR w6 HOd.out
                      refine one_ (i := 8) (N := some 92) #[tt,tt,tt,tt,tt,tt,tt,tt,tt,ff,ff] rfl rfl (by kernel_rfl) (by decide) (fun K hK => ?_)
                      refine step_append_chg rfl (.tmp 87) (.tmp 91) rfl w.heap.size (.slice A8 (c3 + 1) c8) (c3 + 1) ((cellsL Mj.l).take (c3 * 5) ++ [.int .u64 y.id, .bool false, .int .u32 y.level, .int .u64 y.keyId, .int .u32 y.comp]) rfl HO8.out (some ⟨gA, 0, none⟩) 0 0 ((cellsL Mj.l).drop (c3 * 5)) rfl hdr (fun u hu => cellsL_one Mj.l u (List.mem_of_mem_drop hu)) (by omega) HBd.out.size ?_
                      intro v92 w7 ho92 hg92 hat92
                      obtain ⟨A9, c9, hv92, hc9, _, _⟩ := own_chg ho92
                      subst hv92
                      have HO9 := Lib.hid ho92
                      have hne : ∀ x cs t, Blk w6 x t cs → t ≠ 45 → Blk w7 x t cs := fun x cs t hb ht => (hg92.block x hb.lt (own_ne HO8.out hb ht)).trans hb
                      replace HM5d := Lib.hid (hne _ _ _ HM5d.out (by decide))
                      replace HG5d := Lib.hid (hne _ _ _ HG5d.out (by decide))
                      replace HBd : Hid (Below w.heap.size w w7) := HBd.out.grown hg92 HBd.out.size (fun k e => (HO8.out.lt k e).1)
                      have hg4w : w7.cell? ⟨g4, 0, none⟩ = some (.slice (some ⟨gA, 0, none⟩) Mj.l.length c3) := HM5d.out.at_ rfl
                      have hng8 := HNE8.out
                      refine hK.out _ _ (⟨hg4w, cell_row hHeld.2.1 hg92 hng8, cell_row hHeld.2.2.1 hg92 hng8, cell_row hHeld.2.2.2.1 hg92 hng8, cell_row hHeld.2.2.2.2.1 hg92 hng8, cell_row hHeld.2.2.2.2.2 hg92 hng8⟩) (fun hHeld => ?_); clear hK K; refine norm_ (a' := ?_) ?_ ?_; rotate_left; (show Act.put _ (some 92) _ = _; simp only [Act.put, List.setIfInBounds_toArray, List.set_cons_zero, List.set_cons_succ, i64_w, i32_w]; rfl)
                      clear ho92 hg92 hat92 hne hg4w hng8 HO8 hdr HOd
                      refine pure_ (i := 9) (N := some 93) (v := ?_) (a' := ?_) #[tt,tt,tt,tt,tt,tt,tt,tt,tt,tt,ff] rfl rfl (by kernel_rfl) (fun _ _ _ h => h) (Or.inl ⟨by rfl, ?_⟩) ?_ ?_; rotate_left; (intro w'; go_simp; with_reducible rfl); rotate_left; (simp only [Act.put, List.setIfInBounds_toArray, List.set_cons_zero, List.set_cons_succ, i64_w, i32_w]; rfl)
                      have q0 := HM5d.out.at_ (i := 0) rfl
                      have f0 := HM5d.out.frozen 0
                      refine last_ (i := 10) (N := none) #[tt,tt,tt,tt,tt,tt,tt,tt,tt,tt,tt] rfl rfl (by kernel_rfl) (by decide) (fun K hK => ?_)
                      refine skip_ (w1 := w7.setCell ⟨g4, 0, none⟩ (.slice A9 (c3 + 1 + 0) c9)) (by rfl) rfl ?_ ?_
                      · simp [go_sem, q0, f0]
                      refine hK.out _ _ ?_; clear hK K
                      refine done_ (by kernel_rfl) ?_
                      have q1 := HM5d.out.at_ (i := 1) rfl
                      have f1 := HM5d.out.frozen 1
                      go_wp2
                      have HW9 := Lib.hid (ins_tail HO9.out HM5d.out HG5d.out HBd.out HPP.out hgn HN9.out (by omega) (by omega))
                      clear HO9 HM5d HG5d HBd q0 q1 f0 f1
                      go_roundg gkI
                      case measure => omega
                      case rel => exact ⟨j + 1, c9, A9, ⟨insC Mj.l y, Mj.come + 1, Mj.gone⟩, by go_num, by omega, by have := HJF.out; show _ = _; omega, HW9.out.1, HAN.out, HCN.out, HW9.out.2⟩
                    · have hcc2 : ¬ (c3 : Int) = (p : Int) := by omega
                      have HNP : Hid (p + 1 + (Mj.l.length - p) = (insC Mj.l y).length) := by show _ = _; rw [insC_len]; omega
                      have HDR : ∀ wx : World, wx.ownsRow w.heap.size 45 5 (.slice (some ⟨gA, 0, none⟩) Mj.l.length c3) Mj.l.length (cellsL Mj.l) → Sl wx (some ⟨gA, p * 5, none⟩) ((Mj.l.length - p) * 5) ((cellsL Mj.l).drop (p * 5)) := fun wx h => own_drop_sl h hpl rfl
                      have HOh : Hid ((wg.alloc (.cells #[] 45)).ownsRow w.heap.size 45 5 (.slice (some ⟨gA, 0, none⟩) Mj.l.length c3) Mj.l.length (cellsL Mj.l)) := HOg.out.alloc _
                      have HMh : Hid (Blk (wg.alloc (.cells #[] 45)) g4 27 [.slice (some ⟨gA, 0, none⟩) Mj.l.length c3, .int .i64 Mj.come, .int .i64 Mj.gone]) := HMg.out.alloc _
                      have HUh : Hid (Below w.heap.size w (wg.alloc (.cells #[] 45))) := HUg.out.alloc HUg.out.size _
                      have HGh : Hid (Blk (wg.alloc (.cells #[] 45)) g2 27 [.slice none 0 0, .int .i64 0, .int .i64 0]) := HGg.out.alloc _
                      have HYh := Lib.hid (HYg.out.alloc (.cells #[] 45))
                      have HEh := Lib.hid (World.ownsRow_made (base := w.heap.size) (e := 45) (size := 5) wg #[] 0 HUg.out.size (by simp [maxLen]) rfl)
                      have htk : Sl (wg.alloc (.cells #[] 45)) (some ⟨gA, 0, none⟩) (p * 5) ((cellsL Mj.l).take (p * 5)) := by
                        obtain ⟨_, _, hv7, _, hs7, _⟩ := own_chg (own_take HOh.out hpl (by decide : 0 < 5))
                        injection hv7 with e1 _ _
                        subst e1
                        exact hs7
                      have b8 : wg.cell? ⟨g8, 1, none⟩ = some (.bool false) := HYg.out.at_ rfl
                      have b4 : (wg.alloc (.cells #[] 45)).cell? ⟨g4, 0, none⟩ = some (.slice (some ⟨gA, 0, none⟩) Mj.l.length c3) := HMh.out.at_ rfl
                      have hb4 : wg.cell? ⟨g4, 0, none⟩ = some (.slice (some ⟨gA, 0, none⟩) Mj.l.length c3) := HMg.out.at_ rfl
                      have HGE : Hid (∀ x, (Value.slice (some ⟨gA, 0, none⟩) Mj.l.length c3).ownBlock = some x → x < wg.heap.size) := fun x e => (HOg.out.lt x e).2
                      have HG8 : Hid (g8 < wg.heap.size) := HYg.out.lt
                      clear HOg HMg HUg HGg HYg
                      go_wp2_with (at_builtin; refine wpList_append_chg rfl (.tmp 64) (.tmp 68) rfl w.heap.size (.slice (some ⟨wg.heap.size, 0, none⟩) 0 0) 0 [] rfl HEh.out (some ⟨gA, 0, none⟩) p c3 ((cellsL Mj.l).take (p * 5)) rfl htk (fun u hu => cellsL_one Mj.l u (List.mem_of_mem_take hu)) (by omega) HUh.out.size ?_; intro v69 w5 ho69 hg69 hat69; rw [Nat.zero_add, List.nil_append] at ho69; obtain ⟨A7, c7, hv69, hc7, hs7, hA7⟩ := own_chg ho69; subst hv69; have HO7 := Lib.hid ho69; have HG7 := Lib.hid hg69; have HS7 := Lib.hid hs7; have HNE7 : Hid (∀ x cs t, Blk (wg.alloc (.cells #[] 45)) x t cs → t ≠ 45 → Blk w5 x t cs) := fun x cs t hb ht => (HG7.out.block x hb.lt (own_ne HEh.out hb ht)).trans hb; have HM5 := Lib.hid (HNE7.out _ _ _ HMh.out (by decide)); have HG5 := Lib.hid (HNE7.out _ _ _ HGh.out (by decide)); have HU5 : Hid (Below w.heap.size w w5) := HUh.out.grown HG7.out HUh.out.size (fun k e => (HEh.out.lt k e).1); have HY5 : Hid (Blk w5 g8 45 _) := (HG7.out.block _ HYh.out.lt (fun e => by simp only [Value.ownBlock, Option.some.injEq] at e; have := HG8.out; omega)).trans HYh.out; have HO5 : Hid (w5.ownsRow w.heap.size 45 5 (.slice (some ⟨gA, 0, none⟩) Mj.l.length c3) Mj.l.length (cellsL Mj.l)) := HOh.out.kept HG7.out (.inr (fun e => absurd (HGE.out _ e) (Nat.lt_irrefl _))); have HAT7 : Hid (some g8 ≠ (Value.slice A7 p c7).ownBlock ∧ ∀ x, (Value.slice A7 p c7).ownBlock = some x → (Value.slice (some ⟨gA, 0, none⟩) Mj.l.length c3).ownBlock ≠ some x) := fresh_own hat69 HG8.out HGE.out; have c8 : w5.cell? ⟨g8, 1, none⟩ = some (.bool false) := HY5.out.at_ rfl; have c4 : w5.cell? ⟨g4, 0, none⟩ = some (.slice (some ⟨gA, 0, none⟩) Mj.l.length c3) := HM5.out.at_ rfl; clear ho69 hg69 hat69 hs7 hA7 htk HOh HMh HUh HGh HYh HEh HNE7 b8 b4 hb4)
                      refine start_ (n := 11) (S := fun w' => w'.cell? ⟨g4, 0, none⟩ = some (.slice (some ⟨gA, 0, none⟩) Mj.l.length c3) ∧ w'.cell? ⟨g8, 0, none⟩ = some (.int .u64 y.id) ∧ w'.cell? ⟨g8, 1, none⟩ = some (.bool false) ∧ w'.cell? ⟨g8, 2, none⟩ = some (.int .u32 y.level) ∧ w'.cell? ⟨g8, 3, none⟩ = some (.int .u64 y.keyId) ∧ w'.cell? ⟨g8, 4, none⟩ = some (.int .u32 y.comp)) (ds := [10]) #[ff,ff,ff,ff,ff,ff,ff,ff,ff,ff,ff] (by kernel_rfl) rfl rfl (⟨HM5.out.at_ rfl, HY5.out.at_ rfl, HY5.out.at_ rfl, HY5.out.at_ rfl, HY5.out.at_ rfl, HY5.out.at_ rfl⟩) (fun hHeld => ?_)
                      have HOd : Hid (w5.drew.ownsRow w.heap.size 45 5 (.slice (some ⟨gA, 0, none⟩) Mj.l.length c3) Mj.l.length (cellsL Mj.l)) := HO5.out
                      have HO7d : Hid (w5.drew.ownsRow w.heap.size 45 5 (.slice A7 p c7) p ((cellsL Mj.l).take (p * 5))) := HO7.out
                      have HBd : Hid (Below w.heap.size w w5.drew) := HU5.out.drew
                      have HM5d : Hid (Blk w5.drew g4 27 [.slice (some ⟨gA, 0, none⟩) Mj.l.length c3, .int .i64 Mj.come, .int .i64 Mj.gone]) := HM5.out
                      have HG5d : Hid (Blk w5.drew g2 27 [.slice none 0 0, .int .i64 0, .int .i64 0]) := HG5.out
                      have HNE7 : Hid (some g8 ≠ (Value.slice A7 p c7).ownBlock ∧ ∀ x, (Value.slice A7 p c7).ownBlock = some x → (Value.slice (some ⟨gA, 0, none⟩) Mj.l.length c3).ownBlock ≠ some x) := HAT7
                      have HYLd : Hid (g8 < w5.drew.heap.size) := HY5.out.lt
                      have HOLd : Hid (∀ x, (Value.slice (some ⟨gA, 0, none⟩) Mj.l.length c3).ownBlock = some x → x < w5.drew.heap.size) := fun x e => (HO5.out.lt x e).2
                      clear HO5 HO7 HU5 HM5 HG5 HY5 HG7 HS7 c8 c4 HAT7
                      generalize w5.drew = wd at *
                      refine pure_ (i := 0) (N := some 84) (v := ?_) (a' := ?_) #[tt,ff,ff,ff,ff,ff,ff,ff,ff,ff,ff] rfl rfl (by kernel_rfl) (fun _ _ _ h => h) (Or.inl ⟨by rfl, ?_⟩) ?_ ?_; rotate_left; (intro w'; go_simp; with_reducible rfl); rotate_left; (simp only [Act.put, List.setIfInBounds_toArray, List.set_cons_zero, List.set_cons_succ, i64_w, i32_w]; rfl)
                      refine take_ (i := 1) (N := some 85) (v := ?_) (a' := ?_) #[tt,tt,ff,ff,ff,ff,ff,ff,ff,ff,ff] rfl rfl (by kernel_rfl) (fun _ _ _ h => h) (Or.inl ⟨by rfl, ?_⟩) hHeld ?_ ?_; rotate_left; (rintro w' ⟨h0, h1, h2, h3, h4, h5⟩; go_simp; with_reducible rfl); rotate_left; (simp only [Act.put, List.setIfInBounds_toArray, List.set_cons_zero, List.set_cons_succ, i64_w, i32_w]; rfl)
                      refine pure_ (i := 4) (N := some 88) (v := ?_) (a' := ?_) #[tt,tt,ff,ff,tt,ff,ff,ff,ff,ff,ff] rfl rfl (by kernel_rfl) (fun _ _ _ h => h) (Or.inl ⟨by rfl, ?_⟩) ?_ ?_; rotate_left; (intro w'; go_simp; with_reducible rfl); rotate_left; (simp only [Act.put, List.setIfInBounds_toArray, List.set_cons_zero, List.set_cons_succ, i64_w, i32_w]; rfl)
                      refine take_ (i := 5) (N := some 89) (v := ?_) (a' := ?_) #[tt,tt,ff,ff,tt,tt,ff,ff,ff,ff,ff] rfl rfl (by kernel_rfl) (fun _ _ _ h => h) (Or.inl ⟨by rfl, ?_⟩) hHeld ?_ ?_; rotate_left; (rintro w' ⟨h0, h1, h2, h3, h4, h5⟩; go_simp; with_reducible rfl); rotate_left; (simp only [Act.put, List.setIfInBounds_toArray, List.set_cons_zero, List.set_cons_succ, i64_w, i32_w]; rfl)
                      refine pure_ (i := 6) (N := some 90) (v := ?_) (a' := ?_) #[tt,tt,ff,ff,tt,tt,tt,ff,ff,ff,ff] rfl rfl (by kernel_rfl) (fun _ _ _ h => h) (Or.inl ⟨by rfl, ?_⟩) ?_ ?_; rotate_left; (intro w'; go_simp; with_reducible rfl); rotate_left; (simp only [Act.put, List.setIfInBounds_toArray, List.set_cons_zero, List.set_cons_succ, i64_w, i32_w]; rfl)
                      refine pure_ (i := 7) (N := some 91) (v := ?_) (a' := ?_) #[tt,tt,ff,ff,tt,tt,tt,tt,ff,ff,ff] rfl rfl (by kernel_rfl) (fun _ _ _ h => h) (Or.inl ⟨by rfl, ?_⟩) ?_ ?_; rotate_left; (intro w'; go_simp; with_reducible rfl); rotate_left; (simp only [Act.put, List.setIfInBounds_toArray, List.set_cons_zero, List.set_cons_succ, i64_w, i32_w]; rfl)
                      refine one_ (i := 2) (N := some 86) #[tt,tt,tt,ff,tt,tt,tt,tt,ff,ff,ff] rfl rfl (by kernel_rfl) (by decide) (fun K hK => ?_)
                      refine value_ (v := .slice (some ⟨wd.heap.size, 0, none⟩) 1 1) (w1 := wd.alloc (.cells #[.int .u64 y.id, .bool false, .int .u32 y.level, .int .u64 y.keyId, .int .u32 y.comp] 45)) (by rfl) rfl ?_ ?_
                      · go_simp
                        try rfl
                      have HOl : Hid (Sl (wd.alloc (.cells #[.int .u64 y.id, .bool false, .int .u32 y.level, .int .u64 y.keyId, .int .u32 y.comp] 45)) (some ⟨wd.heap.size, 0, none⟩) (1 * 5) [.int .u64 y.id, .bool false, .int .u32 y.level, .int .u64 y.keyId, .int .u32 y.comp]) := (Blk.new wd 45 [.int .u64 y.id, .bool false, .int .u32 y.level, .int .u64 y.keyId, .int .u32 y.comp]).sl (off := 0) (n := 5) (by show 0 + 5 ≤ 5; omega)
                      replace HOd := Lib.hid (HOd.out.alloc (.cells #[.int .u64 y.id, .bool false, .int .u32 y.level, .int .u64 y.keyId, .int .u32 y.comp] 45))
                      replace HO7d := Lib.hid (HO7d.out.alloc (.cells #[.int .u64 y.id, .bool false, .int .u32 y.level, .int .u64 y.keyId, .int .u32 y.comp] 45))
                      have hb4 : Below wd.heap.size wd (wd.alloc (.cells #[.int .u64 y.id, .bool false, .int .u32 y.level, .int .u64 y.keyId, .int .u32 y.comp] 45)) := (Below.refl _ _).alloc (Nat.le_refl _) _
                      refine hK.out _ _ (⟨cell_belM hHeld.1 hb4, cell_belM hHeld.2.1 hb4, cell_belM hHeld.2.2.1 hb4, cell_belM hHeld.2.2.2.1 hb4, cell_belM hHeld.2.2.2.2.1 hb4, cell_belM hHeld.2.2.2.2.2 hb4⟩) (fun hHeld => ?_); clear hK K; refine norm_ (a' := ?_) ?_ ?_; rotate_left; (show Act.put _ (some 86) _ = _; simp only [Act.put, List.setIfInBounds_toArray, List.set_cons_zero, List.set_cons_succ, i64_w, i32_w]; rfl)
                      replace HBd : Hid (Below w.heap.size w (wd.alloc (.cells #[.int .u64 y.id, .bool false, .int .u32 y.level, .int .u64 y.keyId, .int .u32 y.comp] 45))) := HBd.out.alloc HBd.out.size _
                      replace HM5d := Lib.hid (HM5d.out.alloc (.cells #[.int .u64 y.id, .bool false, .int .u32 y.level, .int .u64 y.keyId, .int .u32 y.comp] 45))
                      replace HG5d := Lib.hid (HG5d.out.alloc (.cells #[.int .u64 y.id, .bool false, .int .u32 y.level, .int .u64 y.keyId, .int .u32 y.comp] 45))
                      clear hb4
                      have HGBW : Hid (wd.heap.size ≤ (wd.alloc (.cells #[.int .u64 y.id, .bool false, .int .u32 y.level, .int .u64 y.keyId, .int .u32 y.comp] 45)).heap.size) := by show _ ≤ _; rw [World.size_alloc]; omega
                      generalize wd.alloc (.cells #[.int .u64 y.id, .bool false, .int .u32 y.level, .int .u64 y.keyId, .int .u32 y.comp] 45) = w4 at *
                      generalize wd.heap.size = gb at *
                      refine one_ (i := 3) (N := some 87) #[tt,tt,tt,tt,tt,tt,tt,tt,ff,ff,ff] rfl rfl (by kernel_rfl) (by decide) (fun K hK => ?_)
                      refine step_append_chg rfl (.tmp 84) (.tmp 86) rfl w.heap.size (.slice A7 p c7) p ((cellsL Mj.l).take (p * 5)) rfl HO7d.out (some ⟨gb, 0, none⟩) 1 1 [.int .u64 y.id, .bool false, .int .u32 y.level, .int .u64 y.keyId, .int .u32 y.comp] rfl HOl.out (fun u hu => chg_one y u (by unfold Chg.cells; rw [hgn]; exact hu)) (by omega) HBd.out.size ?_
                      intro v87 w6 ho87 hg87 hat87
                      obtain ⟨A8, c8, hv87, hc8, _, _⟩ := own_chg ho87
                      subst hv87
                      have HO8 := Lib.hid ho87
                      have hne : ∀ x cs t, Blk w4 x t cs → t ≠ 45 → Blk w6 x t cs := fun x cs t hb ht => (hg87.block x hb.lt (own_ne HO7d.out hb ht)).trans hb
                      replace HOd : Hid (w6.ownsRow w.heap.size 45 5 (.slice (some ⟨gA, 0, none⟩) Mj.l.length c3) Mj.l.length (cellsL Mj.l)) := own_apart HOd.out hg87 HNE7.out.2
                      replace HM5d := Lib.hid (hne _ _ _ HM5d.out (by decide))
                      replace HG5d := Lib.hid (hne _ _ _ HG5d.out (by decide))
                      replace HBd : Hid (Below w.heap.size w w6) := HBd.out.grown hg87 HBd.out.size (fun k e => (HO7d.out.lt k e).1)
                      have hg4w : w6.cell? ⟨g4, 0, none⟩ = some (.slice (some ⟨gA, 0, none⟩) Mj.l.length c3) := HM5d.out.at_ rfl
                      have hng8 := HNE7.out.1
                      refine hK.out _ _ (⟨hg4w, cell_row hHeld.2.1 hg87 hng8, cell_row hHeld.2.2.1 hg87 hng8, cell_row hHeld.2.2.2.1 hg87 hng8, cell_row hHeld.2.2.2.2.1 hg87 hng8, cell_row hHeld.2.2.2.2.2 hg87 hng8⟩) (fun hHeld => ?_); clear hK K; refine norm_ (a' := ?_) ?_ ?_; rotate_left; (show Act.put _ (some 87) _ = _; simp only [Act.put, List.setIfInBounds_toArray, List.set_cons_zero, List.set_cons_succ, i64_w, i32_w]; rfl)
                      have HNE8 : Hid (some g8 ≠ (Value.slice A8 (p + 1) c8).ownBlock) := fun e => by
                        rcases hat87 with h | h
                        · rw [h] at e; exact hng8 e
                        · rw [h] at e; injection e with e; have := HYLd.out; have := HGBW.out; omega
                      clear ho87 hg87 hat87 hne hg4w hng8 HO7d HOl
                      have hdr : Sl w6 (some ⟨gA, p * 5, none⟩) ((Mj.l.length - p) * 5) ((cellsL Mj.l).drop (p * 5)) := HDR w6 HOd.out
                      refine one_ (i := 8) (N := some 92) #[tt,tt,tt,tt,tt,tt,tt,tt,tt,ff,ff] rfl rfl (by kernel_rfl) (by decide) (fun K hK => ?_)
                      refine step_append_chg rfl (.tmp 87) (.tmp 91) rfl w.heap.size (.slice A8 (p + 1) c8) (p + 1) ((cellsL Mj.l).take (p * 5) ++ [.int .u64 y.id, .bool false, .int .u32 y.level, .int .u64 y.keyId, .int .u32 y.comp]) rfl HO8.out (some ⟨gA, p * 5, none⟩) (Mj.l.length - p) (c3 - p) ((cellsL Mj.l).drop (p * 5)) rfl hdr (fun u hu => cellsL_one Mj.l u (List.mem_of_mem_drop hu)) (by omega) HBd.out.size ?_
                      intro v92 w7 ho92 hg92 hat92
                      obtain ⟨A9, c9, hv92, hc9, _, _⟩ := own_chg ho92
                      subst hv92
                      have HO9 := Lib.hid ho92
                      have hne : ∀ x cs t, Blk w6 x t cs → t ≠ 45 → Blk w7 x t cs := fun x cs t hb ht => (hg92.block x hb.lt (own_ne HO8.out hb ht)).trans hb
                      replace HM5d := Lib.hid (hne _ _ _ HM5d.out (by decide))
                      replace HG5d := Lib.hid (hne _ _ _ HG5d.out (by decide))
                      replace HBd : Hid (Below w.heap.size w w7) := HBd.out.grown hg92 HBd.out.size (fun k e => (HO8.out.lt k e).1)
                      have hg4w : w7.cell? ⟨g4, 0, none⟩ = some (.slice (some ⟨gA, 0, none⟩) Mj.l.length c3) := HM5d.out.at_ rfl
                      have hng8 := HNE8.out
                      refine hK.out _ _ (⟨hg4w, cell_row hHeld.2.1 hg92 hng8, cell_row hHeld.2.2.1 hg92 hng8, cell_row hHeld.2.2.2.1 hg92 hng8, cell_row hHeld.2.2.2.2.1 hg92 hng8, cell_row hHeld.2.2.2.2.2 hg92 hng8⟩) (fun hHeld => ?_); clear hK K; refine norm_ (a' := ?_) ?_ ?_; rotate_left; (show Act.put _ (some 92) _ = _; simp only [Act.put, List.setIfInBounds_toArray, List.set_cons_zero, List.set_cons_succ, i64_w, i32_w]; rfl)
                      clear ho92 hg92 hat92 hne hg4w hng8 HO8 hdr HOd
                      refine pure_ (i := 9) (N := some 93) (v := ?_) (a' := ?_) #[tt,tt,tt,tt,tt,tt,tt,tt,tt,tt,ff] rfl rfl (by kernel_rfl) (fun _ _ _ h => h) (Or.inl ⟨by rfl, ?_⟩) ?_ ?_; rotate_left; (intro w'; go_simp; with_reducible rfl); rotate_left; (simp only [Act.put, List.setIfInBounds_toArray, List.set_cons_zero, List.set_cons_succ, i64_w, i32_w]; rfl)
                      have q0 := HM5d.out.at_ (i := 0) rfl
                      have f0 := HM5d.out.frozen 0
                      refine last_ (i := 10) (N := none) #[tt,tt,tt,tt,tt,tt,tt,tt,tt,tt,tt] rfl rfl (by kernel_rfl) (by decide) (fun K hK => ?_)
                      refine skip_ (w1 := w7.setCell ⟨g4, 0, none⟩ (.slice A9 (p + 1 + (Mj.l.length - p)) c9)) (by rfl) rfl ?_ ?_
                      · simp [go_sem, q0, f0]
                      refine hK.out _ _ ?_; clear hK K
                      refine done_ (by kernel_rfl) ?_
                      have q1 := HM5d.out.at_ (i := 1) rfl
                      have f1 := HM5d.out.frozen 1
                      go_wp2
                      have HW9 := Lib.hid (ins_tail HO9.out HM5d.out HG5d.out HBd.out HPP.out hgn HNP.out (by omega) (by omega))
                      clear HO9 HM5d HG5d HBd q0 q1 f0 f1
                      go_roundg gkI
                      case measure => omega
                      case rel => exact ⟨j + 1, c9, A9, ⟨insC Mj.l y, Mj.come + 1, Mj.gone⟩, by go_num, by omega, by have := HJF.out; show _ = _; omega, HW9.out.1, HAN.out, HCN.out, HW9.out.2⟩
              | true =>
                cases hgn : y.gone with
                | false =>
                  rw [hgn] at HYg
                  have HST : Hid (allM ⟨[], 0, 0⟩ ls.flatten = none) := by
                    show _ = _
                    rw [← HAJ.out]
                    unfold stepM
                    rw [hh, hgn, if_neg (by decide)]
                    rfl
                  have r0 := HGg.out.at_ (i := 0) rfl
                  have r1 := HGg.out.at_ (i := 1) rfl
                  have r2 := HGg.out.at_ (i := 2) rfl
                  have z0 := HGg.out.frozen 0
                  have z1 := HGg.out.frozen 1
                  have z2 := HGg.out.frozen 2
                  have b8 : wg.cell? ⟨g8, 1, none⟩ = some (.bool false) := HYg.out.at_ rfl
                  have HZ : Hid (Below w.heap.size w (((wg.setCell ⟨g2, 0, none⟩ (.slice none 0 0)).setCell ⟨g2, 1, none⟩ (.int .i64 0)).setCell ⟨g2, 2, none⟩ (.int .i64 0))) := ((HUg.out.setCell (Nat.le_of_eq hg2) _).setCell (Nat.le_of_eq hg2) _).setCell (Nat.le_of_eq hg2) _
                  go_wp2
                  refine bodyPost_ret (v := .tuple #[.agg #[.slice none 0 0, .int .i64 0, .int .i64 0], .bool false]) (by simp [results, Tryd.results9, go_sem, r0, r1, r2, z0, z1, z2]) rfl ?_
                  exact ⟨HZ.out, fun M hM => (by rw [HST.out] at hM; cases hM), fun _ => rfl⟩
                | true =>
                  rw [hgn] at HYg
                  have hpl2 : p < Mj.l.length := hit_lt hh HPP.out
                  have HSN : Hid (stepM Mj y = some ⟨delC Mj.l y.id, Mj.come, Mj.gone + 1⟩) := stepM_del hgn hh
                  have HAN : Hid (allM ⟨delC Mj.l y.id, Mj.come, Mj.gone + 1⟩ (l.drop (j + 1) ++ rst) = allM ⟨[], 0, 0⟩ ls.flatten) := by have h1 := HAJ.out; rw [HSN.out] at h1; exact h1
                  have HCN := Lib.hid (bnd_del y.id HCJ.out)
                  clear HAJ HCJ HSN
                  rcases HAD.out with ⟨hA, h0, hcz⟩ | ⟨gA, hA, hgA1, hgA2⟩
                  · exact absurd h0 (by omega)
                  · subst hA
                    have hq0 : (0 : Int) ≤ (p : Int) + 1 := by omega
                    have hqc : (p : Int) + 1 ≤ (c3 : Int) := by omega
                    have hql : (p : Int) + 1 ≤ (Mj.l.length : Int) := by omega
                    by_cases hcc : c3 = p + 1
                    · subst hcc
                      have HDX : ∀ wx : World, wx.ownsRow w.heap.size 45 5 (.slice (some ⟨gA, 0, none⟩) Mj.l.length (p + 1)) Mj.l.length (cellsL Mj.l) → Sl wx (some ⟨gA, 0, none⟩) (0 * 5) ((cellsL Mj.l).drop ((p + 1) * 5)) := fun wx _ => by have h := drop_nil_sl (w := wx) (A := some ⟨gA, 0, none⟩) (p := p + 1) (by omega) (rfl : Mj.l.length = _); have e : Mj.l.length - (p + 1) = 0 := (by omega); rwa [e] at h
                      have HOh : Hid ((wg.alloc (.cells #[] 45)).ownsRow w.heap.size 45 5 (.slice (some ⟨gA, 0, none⟩) Mj.l.length (p + 1)) Mj.l.length (cellsL Mj.l)) := HOg.out.alloc _
                      have HMh : Hid (Blk (wg.alloc (.cells #[] 45)) g4 27 [.slice (some ⟨gA, 0, none⟩) Mj.l.length (p + 1), .int .i64 Mj.come, .int .i64 Mj.gone]) := HMg.out.alloc _
                      have HUh : Hid (Below w.heap.size w (wg.alloc (.cells #[] 45))) := HUg.out.alloc HUg.out.size _
                      have HGh : Hid (Blk (wg.alloc (.cells #[] 45)) g2 27 [.slice none 0 0, .int .i64 0, .int .i64 0]) := HGg.out.alloc _
                      have HYh := Lib.hid (HYg.out.alloc (.cells #[] 45))
                      have HEh := Lib.hid (World.ownsRow_made (base := w.heap.size) (e := 45) (size := 5) wg #[] 0 HUg.out.size (by simp [maxLen]) rfl)
                      have htk : Sl (wg.alloc (.cells #[] 45)) (some ⟨gA, 0, none⟩) (p * 5) ((cellsL Mj.l).take (p * 5)) := by
                        obtain ⟨_, _, hv7, _, hs7, _⟩ := own_chg (own_take HOh.out hpl (by decide : 0 < 5))
                        injection hv7 with e1 _ _
                        subst e1
                        exact hs7
                      have b8 : wg.cell? ⟨g8, 1, none⟩ = some (.bool true) := HYg.out.at_ rfl
                      have b4 : (wg.alloc (.cells #[] 45)).cell? ⟨g4, 0, none⟩ = some (.slice (some ⟨gA, 0, none⟩) Mj.l.length (p + 1)) := HMh.out.at_ rfl
                      have hb4 : wg.cell? ⟨g4, 0, none⟩ = some (.slice (some ⟨gA, 0, none⟩) Mj.l.length (p + 1)) := HMg.out.at_ rfl
                      have HGE : Hid (∀ x, (Value.slice (some ⟨gA, 0, none⟩) Mj.l.length (p + 1)).ownBlock = some x → x < wg.heap.size) := fun x e => (HOg.out.lt x e).2
                      have HG8 : Hid (g8 < wg.heap.size) := HYg.out.lt
                      clear HOg HMg HUg HGg HYg
                      go_upto_region 15 with (at_builtin; refine wpList_append_chg rfl (.tmp 64) (.tmp 68) rfl w.heap.size (.slice (some ⟨wg.heap.size, 0, none⟩) 0 0) 0 [] rfl HEh.out (some ⟨gA, 0, none⟩) p (p + 1) ((cellsL Mj.l).take (p * 5)) rfl htk (fun u hu => cellsL_one Mj.l u (List.mem_of_mem_take hu)) (by omega) HUh.out.size ?_; intro v69 w5 ho69 hg69 hat69; rw [Nat.zero_add, List.nil_append] at ho69; obtain ⟨A7, c7, hv69, hc7, hs7, hA7⟩ := own_chg ho69; subst hv69; have HO7 := Lib.hid ho69; have HG7 := Lib.hid hg69; have HS7 := Lib.hid hs7; have HNE7 : Hid (∀ x cs t, Blk (wg.alloc (.cells #[] 45)) x t cs → t ≠ 45 → Blk w5 x t cs) := fun x cs t hb ht => (HG7.out.block x hb.lt (own_ne HEh.out hb ht)).trans hb; have HM5 := Lib.hid (HNE7.out _ _ _ HMh.out (by decide)); have HG5 := Lib.hid (HNE7.out _ _ _ HGh.out (by decide)); have HU5 : Hid (Below w.heap.size w w5) := HUh.out.grown HG7.out HUh.out.size (fun k e => (HEh.out.lt k e).1); have HY5 : Hid (Blk w5 g8 45 _) := (HG7.out.block _ HYh.out.lt (fun e => by simp only [Value.ownBlock, Option.some.injEq] at e; have := HG8.out; omega)).trans HYh.out; have HO5 : Hid (w5.ownsRow w.heap.size 45 5 (.slice (some ⟨gA, 0, none⟩) Mj.l.length (p + 1)) Mj.l.length (cellsL Mj.l)) := HOh.out.kept HG7.out (.inr (fun e => absurd (HGE.out _ e) (Nat.lt_irrefl _))); have HAT7 : Hid (some g8 ≠ (Value.slice A7 p c7).ownBlock ∧ ∀ x, (Value.slice A7 p c7).ownBlock = some x → (Value.slice (some ⟨gA, 0, none⟩) Mj.l.length (p + 1)).ownBlock ≠ some x) := fresh_own hat69 HG8.out HGE.out; have c8 : w5.cell? ⟨g8, 1, none⟩ = some (.bool true) := HY5.out.at_ rfl; have c4 : w5.cell? ⟨g4, 0, none⟩ = some (.slice (some ⟨gA, 0, none⟩) Mj.l.length (p + 1)) := HM5.out.at_ rfl; clear ho69 hg69 hat69 hs7 hA7 htk HOh HMh HUh HGh HYh HEh HNE7 b8 b4 hb4)
                      have HDR : Hid (Sl w5 (some ⟨gA, 0, none⟩) (0 * 5) ((cellsL Mj.l).drop ((p + 1) * 5))) := HDX w5 HO5.out
                      go_wp2_with (at_builtin; refine wpList_append_chg rfl (.tmp 72) (.tmp 77) rfl w.heap.size (.slice A7 p c7) p ((cellsL Mj.l).take (p * 5)) rfl HO7.out (some ⟨gA, 0, none⟩) 0 0 ((cellsL Mj.l).drop ((p + 1) * 5)) rfl HDR.out (fun u hu => cellsL_one Mj.l u (List.mem_of_mem_drop hu)) (by omega) HU5.out.size ?_; intro v78 w6 ho78 hg78 hat78; obtain ⟨A9, c9, hv78, hc9, hs9, hA9⟩ := own_chg ho78; subst hv78; have HO6 := Lib.hid ho78; have HG6 := Lib.hid hg78; have HM6 : Hid (Blk w6 g4 27 [.slice (some ⟨gA, 0, none⟩) Mj.l.length (p + 1), .int .i64 Mj.come, .int .i64 Mj.gone]) := (HG6.out.block _ HM5.out.lt (own_ne HO7.out HM5.out (by decide))).trans HM5.out; have HGN6 : Hid (Blk w6 g2 27 [.slice none 0 0, .int .i64 0, .int .i64 0]) := (HG6.out.block _ HG5.out.lt (own_ne HO7.out HG5.out (by decide))).trans HG5.out; have HU6 : Hid (Below w.heap.size w w6) := HU5.out.grown HG6.out HU5.out.size (fun k e => (HO7.out.lt k e).1); have q0 := HM6.out.at_ (i := 0) rfl; have q2 := HM6.out.at_ (i := 2) rfl; have f0 := HM6.out.frozen 0; have f2 := HM6.out.frozen 2; clear ho78 hg78 hat78 hs9 hA9 c8 c4)
                      have HW9 := Lib.hid (del_tail HO6.out HM6.out HGN6.out HU6.out HPP.out hpl2 (by omega) (by omega) (by omega))
                      clear HO6 HM6 HGN6 HU6 HG6 HO7 HG7 HS7 HO5 HM5 HG5 HU5 HY5 q0 q2 f0 f2
                      go_roundg gkI
                      case measure => omega
                      case rel => exact ⟨j + 1, c9, A9, ⟨delC Mj.l y.id, Mj.come, Mj.gone + 1⟩, by go_num, by omega, by have := HJF.out; show _ = _; omega, HW9.out.1, HAN.out, HCN.out, HW9.out.2⟩
                    · have hcc2 : ¬ (c3 : Int) = (p : Int) + 1 := by omega
                      have HDX : ∀ wx : World, wx.ownsRow w.heap.size 45 5 (.slice (some ⟨gA, 0, none⟩) Mj.l.length c3) Mj.l.length (cellsL Mj.l) → Sl wx (some ⟨gA, (p + 1) * 5, none⟩) ((Mj.l.length - (p + 1)) * 5) ((cellsL Mj.l).drop ((p + 1) * 5)) := fun wx h => own_drop_sl h (by omega) rfl
                      have HOh : Hid ((wg.alloc (.cells #[] 45)).ownsRow w.heap.size 45 5 (.slice (some ⟨gA, 0, none⟩) Mj.l.length c3) Mj.l.length (cellsL Mj.l)) := HOg.out.alloc _
                      have HMh : Hid (Blk (wg.alloc (.cells #[] 45)) g4 27 [.slice (some ⟨gA, 0, none⟩) Mj.l.length c3, .int .i64 Mj.come, .int .i64 Mj.gone]) := HMg.out.alloc _
                      have HUh : Hid (Below w.heap.size w (wg.alloc (.cells #[] 45))) := HUg.out.alloc HUg.out.size _
                      have HGh : Hid (Blk (wg.alloc (.cells #[] 45)) g2 27 [.slice none 0 0, .int .i64 0, .int .i64 0]) := HGg.out.alloc _
                      have HYh := Lib.hid (HYg.out.alloc (.cells #[] 45))
                      have HEh := Lib.hid (World.ownsRow_made (base := w.heap.size) (e := 45) (size := 5) wg #[] 0 HUg.out.size (by simp [maxLen]) rfl)
                      have htk : Sl (wg.alloc (.cells #[] 45)) (some ⟨gA, 0, none⟩) (p * 5) ((cellsL Mj.l).take (p * 5)) := by
                        obtain ⟨_, _, hv7, _, hs7, _⟩ := own_chg (own_take HOh.out hpl (by decide : 0 < 5))
                        injection hv7 with e1 _ _
                        subst e1
                        exact hs7
                      have b8 : wg.cell? ⟨g8, 1, none⟩ = some (.bool true) := HYg.out.at_ rfl
                      have b4 : (wg.alloc (.cells #[] 45)).cell? ⟨g4, 0, none⟩ = some (.slice (some ⟨gA, 0, none⟩) Mj.l.length c3) := HMh.out.at_ rfl
                      have hb4 : wg.cell? ⟨g4, 0, none⟩ = some (.slice (some ⟨gA, 0, none⟩) Mj.l.length c3) := HMg.out.at_ rfl
                      have HGE : Hid (∀ x, (Value.slice (some ⟨gA, 0, none⟩) Mj.l.length c3).ownBlock = some x → x < wg.heap.size) := fun x e => (HOg.out.lt x e).2
                      have HG8 : Hid (g8 < wg.heap.size) := HYg.out.lt
                      clear HOg HMg HUg HGg HYg
                      go_upto_region 15 with (at_builtin; refine wpList_append_chg rfl (.tmp 64) (.tmp 68) rfl w.heap.size (.slice (some ⟨wg.heap.size, 0, none⟩) 0 0) 0 [] rfl HEh.out (some ⟨gA, 0, none⟩) p c3 ((cellsL Mj.l).take (p * 5)) rfl htk (fun u hu => cellsL_one Mj.l u (List.mem_of_mem_take hu)) (by omega) HUh.out.size ?_; intro v69 w5 ho69 hg69 hat69; rw [Nat.zero_add, List.nil_append] at ho69; obtain ⟨A7, c7, hv69, hc7, hs7, hA7⟩ := own_chg ho69; subst hv69; have HO7 := Lib.hid ho69; have HG7 := Lib.hid hg69; have HS7 := Lib.hid hs7; have HNE7 : Hid (∀ x cs t, Blk (wg.alloc (.cells #[] 45)) x t cs → t ≠ 45 → Blk w5 x t cs) := fun x cs t hb ht => (HG7.out.block x hb.lt (own_ne HEh.out hb ht)).trans hb; have HM5 := Lib.hid (HNE7.out _ _ _ HMh.out (by decide)); have HG5 := Lib.hid (HNE7.out _ _ _ HGh.out (by decide)); have HU5 : Hid (Below w.heap.size w w5) := HUh.out.grown HG7.out HUh.out.size (fun k e => (HEh.out.lt k e).1); have HY5 : Hid (Blk w5 g8 45 _) := (HG7.out.block _ HYh.out.lt (fun e => by simp only [Value.ownBlock, Option.some.injEq] at e; have := HG8.out; omega)).trans HYh.out; have HO5 : Hid (w5.ownsRow w.heap.size 45 5 (.slice (some ⟨gA, 0, none⟩) Mj.l.length c3) Mj.l.length (cellsL Mj.l)) := HOh.out.kept HG7.out (.inr (fun e => absurd (HGE.out _ e) (Nat.lt_irrefl _))); have HAT7 : Hid (some g8 ≠ (Value.slice A7 p c7).ownBlock ∧ ∀ x, (Value.slice A7 p c7).ownBlock = some x → (Value.slice (some ⟨gA, 0, none⟩) Mj.l.length c3).ownBlock ≠ some x) := fresh_own hat69 HG8.out HGE.out; have c8 : w5.cell? ⟨g8, 1, none⟩ = some (.bool true) := HY5.out.at_ rfl; have c4 : w5.cell? ⟨g4, 0, none⟩ = some (.slice (some ⟨gA, 0, none⟩) Mj.l.length c3) := HM5.out.at_ rfl; clear ho69 hg69 hat69 hs7 hA7 htk HOh HMh HUh HGh HYh HEh HNE7 b8 b4 hb4)
                      have HDR : Hid (Sl w5 (some ⟨gA, (p + 1) * 5, none⟩) ((Mj.l.length - (p + 1)) * 5) ((cellsL Mj.l).drop ((p + 1) * 5))) := HDX w5 HO5.out
                      go_wp2_with (at_builtin; refine wpList_append_chg rfl (.tmp 72) (.tmp 77) rfl w.heap.size (.slice A7 p c7) p ((cellsL Mj.l).take (p * 5)) rfl HO7.out (some ⟨gA, (p + 1) * 5, none⟩) (Mj.l.length - (p + 1)) (c3 - (p + 1)) ((cellsL Mj.l).drop ((p + 1) * 5)) rfl HDR.out (fun u hu => cellsL_one Mj.l u (List.mem_of_mem_drop hu)) (by omega) HU5.out.size ?_; intro v78 w6 ho78 hg78 hat78; obtain ⟨A9, c9, hv78, hc9, hs9, hA9⟩ := own_chg ho78; subst hv78; have HO6 := Lib.hid ho78; have HG6 := Lib.hid hg78; have HM6 : Hid (Blk w6 g4 27 [.slice (some ⟨gA, 0, none⟩) Mj.l.length c3, .int .i64 Mj.come, .int .i64 Mj.gone]) := (HG6.out.block _ HM5.out.lt (own_ne HO7.out HM5.out (by decide))).trans HM5.out; have HGN6 : Hid (Blk w6 g2 27 [.slice none 0 0, .int .i64 0, .int .i64 0]) := (HG6.out.block _ HG5.out.lt (own_ne HO7.out HG5.out (by decide))).trans HG5.out; have HU6 : Hid (Below w.heap.size w w6) := HU5.out.grown HG6.out HU5.out.size (fun k e => (HO7.out.lt k e).1); have q0 := HM6.out.at_ (i := 0) rfl; have q2 := HM6.out.at_ (i := 2) rfl; have f0 := HM6.out.frozen 0; have f2 := HM6.out.frozen 2; clear ho78 hg78 hat78 hs9 hA9 c8 c4)
                      have HW9 := Lib.hid (del_tail HO6.out HM6.out HGN6.out HU6.out HPP.out hpl2 (by omega) (by omega) (by omega))
                      clear HO6 HM6 HGN6 HU6 HG6 HO7 HG7 HS7 HO5 HM5 HG5 HU5 HY5 q0 q2 f0 f2
                      go_roundg gkI
                      case measure => omega
                      case rel => exact ⟨j + 1, c9, A9, ⟨delC Mj.l y.id, Mj.come, Mj.gone + 1⟩, by go_num, by omega, by have := HJF.out; show _ = _; omega, HW9.out.1, HAN.out, HCN.out, HW9.out.2⟩
        · have hje : j = l.length := by omega
          subst hje
          have hge : ¬ ((l.length : Int) < (l.length : Int)) := by omega
          have HAN : Hid (allM Mj (ls.drop (i + 1)).flatten = allM ⟨[], 0, 0⟩ ls.flatten) := by
            have h1 := hA.out
            rw [List.drop_eq_nil_of_le (Nat.le_refl _), List.nil_append, ← HRST.out] at h1
            exact h1
          have HCN : Hid (Mj.l.length + (ls.drop (i + 1)).flatten.length ≤ 100000000 ∧ 0 ≤ Mj.come ∧ Mj.come + (ls.drop (i + 1)).flatten.length ≤ 100000000 ∧ 0 ≤ Mj.gone ∧ Mj.gone + (ls.drop (i + 1)).flatten.length ≤ 100000000) := by
            have h1 := hC.out
            rw [List.drop_eq_nil_of_le (Nat.le_refl _), List.nil_append, ← HRST.out] at h1
            exact h1
          clear hA hC
          go_wp2
          go_roundg gkO
          case measure => omega
          case rel => exact ⟨i + 1, c3, A3, Mj, by go_num, by omega, by have := hf.out; show _ = _; omega, hT.out, HAN.out, HCN.out, hG2.out⟩
    · have hie : i = m := by omega
      subst hie
      have HE : Hid (allM ⟨[], 0, 0⟩ ls.flatten = some Mi) := by
        have h1 := hA.out
        rw [List.drop_eq_nil_of_le (by rw [H.out.1]; exact Nat.le_refl _)] at h1
        exact h1.symm
      have hge : ¬ ((i : Int) < (i : Int)) := by omega
      have q0 := hT.out.man.at_ (i := 0) rfl
      have q1 := hT.out.man.at_ (i := 1) rfl
      have q2 := hT.out.man.at_ (i := 2) rfl
      have r0 := hG2.out.at_ (i := 0) rfl
      have r1 := hG2.out.at_ (i := 1) rfl
      have r2 := hG2.out.at_ (i := 2) rfl
      have z0 := hG2.out.frozen 0
      have z1 := hG2.out.frozen 1
      have z2 := hG2.out.frozen 2
      clear hA
      go_wp2
      have hfs : Frm [g2] wr (((wr.setCell ⟨g2, 0, none⟩ (.slice A2 Mi.l.length c2)).setCell ⟨g2, 1, none⟩ (.int .i64 Mi.come)).setCell ⟨g2, 2, none⟩ (.int .i64 Mi.gone)) := (((Frm.refl [g2] wr).andSet _ _ (.inl (by simp))).andSet _ _ (.inl (by simp))).andSet _ _ (.inl (by simp))
      have HO9 := Lib.hid (own_frm2 hT.out.own hfs (fun x e => by rw [List.mem_singleton]; intro e2; subst e2; exact own_ne hT.out.own hG2.out (by decide) e.symm))
      have HB9 : Hid (Below w.heap.size w (((wr.setCell ⟨g2, 0, none⟩ (.slice A2 Mi.l.length c2)).setCell ⟨g2, 1, none⟩ (.int .i64 Mi.come)).setCell ⟨g2, 2, none⟩ (.int .i64 Mi.gone))) := hT.out.bel.trans (frm_below hfs (fun x hx => by rw [List.mem_singleton] at hx; omega) hT.out.bel.size)
      clear hfs
      refine bodyPost_ret (v := .tuple #[.agg #[.slice A2 Mi.l.length c2, .int .i64 Mi.come, .int .i64 Mi.gone], .bool true]) (by simp [results, Tryd.results9, go_sem, r0, r1, r2, z0, z1, z2]) rfl ?_
      obtain ⟨A9, c9, hv9, hsl⟩ := own_slc HO9.out rfl
      injection hv9 with e1 e2 e3
      subst e1 e3
      exact ⟨HB9.out, fun M hM => (by rw [HE.out] at hM; injection hM with hM; subst hM; exact ⟨A2, c2, rfl, hsl⟩), fun hM => (by rw [HE.out] at hM; cases hM)⟩
end Go.Proofs.YtpfmmbhbmdbmeaaDoor
