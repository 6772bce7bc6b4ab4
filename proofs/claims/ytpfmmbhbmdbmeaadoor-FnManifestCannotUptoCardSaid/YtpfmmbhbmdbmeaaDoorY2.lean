/- A manifest in memory; a table that comes. -/
import Derived.Test.YtpfmmbhbmdbmeaaDoorY1
import Derived.Test.YtpfmmbhbmdbmeaaDoorMR
import Derived.Test.YtpfmmbhbmdbmeaaDoorFM
import Derived.Test.YtpfmmbhbmdbmeaaDoorGM
import Derived.BigRegion
import Derived.Carry
import Derived.Deep.DeepCutAuto
import Derived.StillTailTactics
namespace Go.Proofs.YtpfmmbhbmdbmeaaDoor
open Go.RowKit
set_option linter.unusedVariables false
set_option linter.unusedSimpArgs false
abbrev levV (lm : List Nat) : List Value := lm.map fun b => .map (some b)
/-- A manifest in memory: its levels, its map of tables, and its counts. -/
structure MSo (w : World) (gm bt n : Nat) (LA : Option Addr) (lc : Nat) (lm : List Nat) (F : Int → Option Value) (come gone : Int) : Prop where
  man : Blk w gm 54 [.slice LA lm.length lc, .map (some bt), .int .i64 come, .int .i64 gone]
  lev : w.ownsRow 0 115 1 (.slice LA lm.length lc) lm.length (levV lm)
  tab : MapAt Tryd.prog w 42 .u64 bt n F
  sets : ∀ b ∈ lm, ∃ f, MapAt Tryd.prog w 42 .u64 b n f
  nd : (bt :: lm).Nodup
structure MSt (w : World) (gm bt n : Nat) (LA : Option Addr) (lc : Nat) (lm : List Nat) (M : MF) : Prop where
  o : MSo w gm bt n LA lc lm (tabF M.l) M.come M.gone
  lvl : ∀ c ∈ M.l, 0 ≤ c.level ∧ c.level < lm.length ∧ c.level ≤ 255
  srt : SortedC M.l
  lmb : lm.length ≤ 1007
def foot (gm bt : Nat) (LA : Option Addr) (lm : List Nat) : List Nat := gm :: bt :: lm ++ (match LA with | some ad => [ad.block] | none => [])
theorem MapAt.ne_blk {P : Program} {w : World} {k : TypeId} {q : IntKind} {b n g t : Nat} {m : Int → Option Value} {cs : List Value} (h : MapAt P w k q b n m) (hk : Blk w g t cs) : b ≠ g := fun e => by
  obtain ⟨D, ⟨es, clock, h1, _⟩, _⟩ := h
  subst e
  have h2 : w.heap[b]? = some (.cells cs.toArray t (0, 0)) := hk
  rw [h1] at h2
  injection h2 with h2
  cases h2
theorem MapAt.ne_own {P : Program} {w : World} {k : TypeId} {q : IntKind} {b n base e s j : Nat} {m : Int → Option Value} {v : Value} {xs : List Value} (h : MapAt P w k q b n m) (ho : w.ownsRow base e s v j xs) : some b ≠ v.ownBlock := fun hb => by
  obtain ⟨D, ⟨es, clock, h1, _⟩, _⟩ := h
  rcases ho.2 with ⟨rfl, _⟩ | ⟨g, cap, cur, rfl, _, hh, _⟩
  · cases hb
  · simp only [Value.ownBlock, Option.some.injEq] at hb
    subst hb
    rw [h1] at hh
    injection hh with hh
    cases hh
theorem own_frm2 {l : List Nat} {w w1 : World} {base e s n : Nat} {v : Value} {xs : List Value} (h : w.ownsRow base e s v n xs) (hf : Frm l w w1) (hl : ∀ g, v.ownBlock = some g → g ∉ l) : w1.ownsRow base e s v n xs := by
  have hlt := h.lt
  obtain ⟨h1, h2⟩ := h
  refine ⟨h1, ?_⟩
  rcases h2 with h2 | ⟨g, cap, cur, e1, hg, hh, r⟩
  · exact .inl h2
  · have e2 : v.ownBlock = some g := by rw [e1]; rfl
    exact .inr ⟨g, cap, cur, e1, hg, (hf.block g (hlt g e2).2 (hl g e2)).trans hh, r⟩
theorem own_ad {LA : Option Addr} {n c g : Nat} (h : (Value.slice LA n c).ownBlock = some g) : ∃ ad, LA = some ad ∧ ad.block = g := by
  cases LA with
  | none => cases h
  | some ad => exact ⟨ad, rfl, by simpa [Value.ownBlock] using h⟩
section
variable {w w' : World} {gm bt n lc : Nat} {LA : Option Addr} {lm : List Nat} {F : Int → Option Value} {come gone : Int} {M : MF} {l : List Nat}
theorem MSo.frm (h : MSo w gm bt n LA lc lm F come gone) (hf : Frm l w w') (hl : ∀ i ∈ foot gm bt LA lm, i ∉ l) : MSo w' gm bt n LA lc lm F come gone := by
  refine ⟨h.man.frm hf (hl _ (by simp [foot])), own_frm2 h.lev hf (fun g e => ?_), h.tab.frm hf (hl _ (by simp [foot])), fun b hb => ?_, h.nd⟩
  · obtain ⟨ad, rfl, rfl⟩ := own_ad e
    exact hl _ (by simp [foot])
  · obtain ⟨f, hf'⟩ := h.sets b hb
    exact ⟨f, hf'.frm hf (hl _ (by simp [foot, hb]))⟩
theorem MSt.frm (h : MSt w gm bt n LA lc lm M) (hf : Frm l w w') (hl : ∀ i ∈ foot gm bt LA lm, i ∉ l) : MSt w' gm bt n LA lc lm M := ⟨h.o.frm hf hl, h.lvl, h.srt, h.lmb⟩
theorem MSo.alloc (h : MSo w gm bt n LA lc lm F come gone) (o : Obj) : MSo (w.alloc o) gm bt n LA lc lm F come gone := h.frm (Frm.alloc w o) (fun i _ hi => by cases hi)
theorem MSo.drew (h : MSo w gm bt n LA lc lm F come gone) : MSo w.drew gm bt n LA lc lm F come gone := h.frm (Frm.refl [] w).drew (fun i _ hi => by cases hi)
theorem MSo.drewN (h : MSo w gm bt n LA lc lm F come gone) (k : Nat) : MSo (w.drewN k) gm bt n LA lc lm F come gone := h.frm ((Frm.refl [] w).drewN k) (fun i _ hi => by cases hi)
theorem MSt.below (h : MSt w gm bt n LA lc lm M) (hb : Below w.heap.size w w') : MSt w' gm bt n LA lc lm M := h.frm (Frm.of_below hb) (fun i _ hi => by cases hi)
theorem MSo.lt (h : MSo w gm bt n LA lc lm F come gone) : ∀ i ∈ foot gm bt LA lm, i < w.heap.size := by
  intro i hi
  unfold foot at hi
  rcases List.mem_append.1 hi with h1 | h1
  · rcases List.mem_cons.1 h1 with rfl | h2
    · exact h.man.lt
    · rcases List.mem_cons.1 h2 with rfl | h3
      · exact h.tab.lt
      · obtain ⟨f, hf⟩ := h.sets i h3
        exact hf.lt
  · cases hL : LA with
    | none => rw [hL] at h1; cases h1
    | some ad =>
      rw [hL] at h1
      rw [List.mem_singleton] at h1
      subst h1
      have := h.lev.lt ad.block (by rw [hL]; rfl)
      exact this.2
/-- Another function of the map, behind a store or a delete. -/
theorem MSo.turn {G : Int → Option Value} {m : Nat} (h : MSo w gm bt n LA lc lm F come gone) (hm : MapAt Tryd.prog w' 42 .u64 bt m G) (hg : w.grownBy w' (some bt)) (hnm : n ≤ m) : MSo w' gm bt m LA lc lm G come gone := by
  have hf : Frm [bt] w w' := Frm.of_grown hg
  have h1 : gm ∉ [bt] := by rw [List.mem_singleton]; exact fun e => h.tab.ne_blk h.man e.symm
  refine ⟨h.man.frm hf h1, own_frm2 h.lev hf (fun g e => ?_), hm, fun b hb => ?_, h.nd⟩
  · rw [List.mem_singleton]
    intro e2
    subst e2
    exact h.tab.ne_own h.lev e.symm
  · obtain ⟨f, hf'⟩ := h.sets b hb
    refine ⟨f, (hf'.frm hf ?_).mono hnm⟩
    rw [List.mem_singleton]
    intro e
    subst e
    have := h.nd
    rw [List.nodup_cons] at this
    exact this.1 hb
/-- A level's set is turned. -/
theorem MSo.turnSet {f : Int → Option Value} {b m : Nat} (h : MSo w gm bt n LA lc lm F come gone) (hb : b ∈ lm) (hm : MapAt Tryd.prog w' 42 .u64 b m f) (hg : w.grownBy w' (some b)) (hnm : n ≤ m) : MSo w' gm bt m LA lc lm F come gone := by
  have hf : Frm [b] w w' := Frm.of_grown hg
  obtain ⟨f0, hb0⟩ := h.sets b hb
  have h1 : gm ∉ [b] := by rw [List.mem_singleton]; exact fun e => hb0.ne_blk h.man e.symm
  have hbt : bt ∉ [b] := by
    rw [List.mem_singleton]
    intro e
    have := h.nd
    rw [List.nodup_cons] at this
    exact this.1 (e ▸ hb)
  refine ⟨h.man.frm hf h1, own_frm2 h.lev hf (fun g e => ?_), (h.tab.frm hf hbt).mono hnm, fun b2 hb2 => ?_, h.nd⟩
  · rw [List.mem_singleton]
    intro e2
    subst e2
    exact hb0.ne_own h.lev e.symm
  · by_cases e : b2 = b
    · subst e
      exact ⟨f, hm⟩
    · obtain ⟨f2, hf2⟩ := h.sets b2 hb2
      exact ⟨f2, (hf2.frm hf (by rw [List.mem_singleton]; exact e)).mono hnm⟩
theorem MSo.set2 (h : MSo w gm bt n LA lc lm F come gone) (x : Int) : MSo (w.setCell ⟨gm, 2, none⟩ (.int .i64 x)) gm bt n LA lc lm F x gone := by
  have hf : Frm [gm] w (w.setCell ⟨gm, 2, none⟩ (.int .i64 x)) := Frm.set w ⟨gm, 2, none⟩ _
  refine ⟨h.man.set_ 2 _, own_frm2 h.lev hf (fun g e => ?_), h.tab.frm hf (by rw [List.mem_singleton]; exact h.tab.ne_blk h.man), fun b hb => ?_, h.nd⟩
  · rw [List.mem_singleton]
    intro e2
    subst e2
    exact own_ne h.lev h.man (by decide) e.symm
  · obtain ⟨f, hf'⟩ := h.sets b hb
    exact ⟨f, hf'.frm hf (by rw [List.mem_singleton]; exact hf'.ne_blk h.man)⟩
theorem MSo.set3 (h : MSo w gm bt n LA lc lm F come gone) (x : Int) : MSo (w.setCell ⟨gm, 3, none⟩ (.int .i64 x)) gm bt n LA lc lm F come x := by
  have hf : Frm [gm] w (w.setCell ⟨gm, 3, none⟩ (.int .i64 x)) := Frm.set w ⟨gm, 3, none⟩ _
  refine ⟨h.man.set_ 3 _, own_frm2 h.lev hf (fun g e => ?_), h.tab.frm hf (by rw [List.mem_singleton]; exact h.tab.ne_blk h.man), fun b hb => ?_, h.nd⟩
  · rw [List.mem_singleton]
    intro e2
    subst e2
    exact own_ne h.lev h.man (by decide) e.symm
  · obtain ⟨f, hf'⟩ := h.sets b hb
    exact ⟨f, hf'.frm hf (by rw [List.mem_singleton]; exact hf'.ne_blk h.man)⟩
end
theorem infoLM : (Tryd.prog.info? 115).map (fun i => (i.zero, i.size, i.bytes)) = some (some (.agg #[.map none]), 1, 8) := by kernel_rfl
theorem frmRow {w w' : World} {row : Option Nat} (hg : w.grownBy w' row) : Frm row.toList w w' := ⟨hg.os, hg.tape, hg.output, hg.size, fun i hi hn => hg.block i hi (fun e => hn (by simp [← e]))⟩
theorem blk_ne {w : World} {a b t u : Nat} {cs ds : List Value} (h : Blk w a t cs) (k : Blk w b u ds) (hne : t ≠ u) : a ≠ b := fun e => by
  subst e
  have h1 : w.heap[a]? = some (.cells cs.toArray t (0, 0)) := h
  have h2 : w.heap[a]? = some (.cells ds.toArray u (0, 0)) := k
  rw [h1] at h2
  injection h2 with h2
  injection h2 with _ h3 _
  exact hne h3
theorem foot_own {gm bt b c : Nat} {LA : Option Addr} {lm : List Nat} (h : (Value.slice LA lm.length c).ownBlock = some b) : b ∈ foot gm bt LA lm := by
  obtain ⟨ad, rfl, rfl⟩ := own_ad h
  simp [foot]
theorem foot_more {gm bt b c2 lc : Nat} {LA A3 : Option Addr} {lm F0 : List Nat} {B N : Nat} (hft : ∀ i ∈ foot gm bt LA lm, i ∈ F0 ∨ B ≤ i) (hb : B ≤ b) (hN : B ≤ N)
    (hat : (Value.slice A3 (lm.length + 1) c2).ownBlock = (Value.slice LA lm.length lc).ownBlock ∨ (Value.slice A3 (lm.length + 1) c2).ownBlock = some N) : ∀ i ∈ foot gm bt A3 (lm ++ [b]), i ∈ F0 ∨ B ≤ i := by
  intro i hi
  unfold foot at hi
  rcases List.mem_append.1 hi with h1 | h1
  · rw [List.mem_cons, List.mem_cons, List.mem_append, List.mem_singleton] at h1
    rcases h1 with rfl | rfl | h1 | rfl
    · exact hft _ (by simp [foot])
    · exact hft _ (by simp [foot])
    · exact hft _ (by simp [foot, h1])
    · exact .inr hb
  · cases hA : A3 with
    | none => rw [hA] at h1; cases h1
    | some ad =>
      rw [hA, List.mem_singleton] at h1
      have e : (Value.slice A3 (lm.length + 1) c2).ownBlock = some i := by rw [hA, h1]; rfl
      rcases hat with h2 | h2
      · rw [h2] at e
        exact hft _ (foot_own e)
      · rw [h2] at e
        injection e with e
        exact .inr (by omega)
theorem sl_one' (w : World) (x : Value) (t : TypeId) : Sl (w.alloc (.cells #[x] t)) (some ⟨w.heap.size, 0, none⟩) 1 [x] := sl_one w x t
def lvObj (b : Nat) : Obj := .cells #[.map (some b)] 115
/-- One level more: its map is new, the slice of levels is grown, and put back. -/
theorem MSo.more {w w2 : World} {gm bt n lc c2 : Nat} {LA A2 : Option Addr} {lm : List Nat} {F : Int → Option Value} {come gone : Int} (h : MSo w gm bt n LA lc lm F come gone)
    (ho : w2.ownsRow 0 115 1 (.slice A2 (lm.length + 1) c2) (lm.length + 1) (levV lm ++ [.map (some w.heap.size)])) (hg : ((w.alloc (.map #[] 0)).alloc (lvObj w.heap.size)).grownBy w2 (Value.slice LA lm.length lc).ownBlock) :
    MSo (w2.setCell ⟨gm, 0, none⟩ (.slice A2 (lm.length + 1) c2)) gm bt n A2 c2 (lm ++ [w.heap.size]) F come gone := by
  have h1 := (h.alloc (.map #[] 0)).alloc (lvObj w.heap.size)
  have hne : some gm ≠ (Value.slice LA lm.length lc).ownBlock := own_ne h1.lev h1.man (by decide)
  have hman2 : Blk w2 gm 54 [.slice LA lm.length lc, .map (some bt), .int .i64 come, .int .i64 gone] := (hg.block gm h1.man.lt hne).trans h1.man
  have hf : Frm [gm] w2 (w2.setCell ⟨gm, 0, none⟩ (.slice A2 (lm.length + 1) c2)) := Frm.set w2 ⟨gm, 0, none⟩ _
  have hl : (lm ++ [w.heap.size]).length = lm.length + 1 := by rw [List.length_append]; rfl
  have hnew : MapAt Tryd.prog w2 42 .u64 w.heap.size 0 (fun _ => none) := by
    have h2 := (MapAt.made Tryd.prog w 42 .u64).alloc (lvObj w.heap.size)
    exact h2.kept hg (h2.ne_own h1.lev)
  refine ⟨?_, ?_, ?_, fun b hb => ?_, ?_⟩
  · rw [hl]
    exact hman2.set_ 0 _
  · rw [hl, levV, List.map_append]
    refine own_frm2 ho hf (fun g e => ?_)
    rw [List.mem_singleton]
    intro e2
    subst e2
    exact own_ne ho hman2 (by decide) e.symm
  · exact (h1.tab.kept hg (h1.tab.ne_own h1.lev)).frm hf (by rw [List.mem_singleton]; exact (h1.tab.kept hg (h1.tab.ne_own h1.lev)).ne_blk hman2)
  · rcases List.mem_append.1 hb with hb | hb
    · obtain ⟨f, hf'⟩ := h1.sets b hb
      have h3 := hf'.kept hg (hf'.ne_own h1.lev)
      exact ⟨f, h3.frm hf (by rw [List.mem_singleton]; exact h3.ne_blk hman2)⟩
    · rw [List.mem_singleton] at hb
      subst hb
      exact ⟨_, (hnew.frm hf (by rw [List.mem_singleton]; exact hnew.ne_blk hman2)).mono (Nat.zero_le _)⟩
  · have hnd := h.nd
    rw [← List.cons_append, List.nodup_append]
    refine ⟨hnd, by simp, fun b hb c hc e => ?_⟩
    rw [List.mem_singleton] at hc
    subst hc
    have : b < w.heap.size := by
      rcases List.mem_cons.1 hb with rfl | hb
      · exact h.tab.lt
      · obtain ⟨f, hf'⟩ := h.sets b hb
        exact hf'.lt
    omega
theorem tm61 (w : World) : (zeroValue 79).run Tryd.prog w = .ok (.agg #[.int .u8 0, .int .u64 0, .int .u32 0]) w := by kernel_rfl
theorem u64int : Tryd.prog.underlying 42 = some (.int .u64) := Tryd.underlying42
/-- What a change leaves: the manifest turned; nothing but its own blocks has turned, and its blocks are its own ones or new. -/
def AppP (gm bt n : Nat) (LA : Option Addr) (lm : List Nat) (M : MF) (w : World) (E : Ending) (w' : World) : Prop := E = .returned .nilIface ∧ ∃ LA2 lc2 lm2, MSt w' gm bt n LA2 lc2 lm2 M ∧ Frm (foot gm bt LA lm) w w' ∧ ∀ i ∈ foot gm bt LA2 lm2, i ∈ foot gm bt LA lm ∨ w.heap.size ≤ i
set_option maxRecDepth 100000 in
set_option maxHeartbeats 4000000 in
theorem applyCreate (gm gc bt n lc : Nat) (LA : Option Addr) (lm : List Nat) (M : MF) (c : Chg) (w : World) (h : MSt w gm bt n LA lc lm M) (hc : Blk w gc 76 c.row) (hg : c.gone = false) (hh : hitC M.l c.id = false) (hl0 : 0 ≤ c.level) (hl6 : c.level ≤ 6) (hid : (Lit.int .u64 c.id).wf = true) (hn : n ≤ 1000000) (hcm : 0 ≤ M.come ∧ M.come ≤ 1000000) :
    Calls Tryd.prog 45 #[.pointer (some ⟨gm, 0, none⟩), .pointer (some ⟨gc, 0, none⟩)] w (AppP gm bt (n + 2) LA lm ⟨insC M.l c, M.come + 1, M.gone⟩ w) := by
  have H := Lib.hid h
  have HC := Lib.hid hc
  have m1 : w.cell? ⟨gm, 1, none⟩ = some (.map (some bt)) := h.o.man.at_ rfl
  have c0 : w.cell? ⟨gc, 0, none⟩ = some (.int .u64 c.id) := hc.at_ rfl
  have c1 : w.cell? ⟨gc, 1, none⟩ = some (.int .i32 0) := by have := hc.at_ (i := 1) rfl; rwa [Chg.op, hg] at this
  have hlk : (Instr.lookup 52 (.map (some bt)) (.int .u64 c.id) true).run Tryd.prog w.drew = .ok (.tuple #[.agg #[.int .u8 0, .int .u64 0, .int .u32 0], .bool false]) w.drew := by
    have h1 := (h.o.tab.drew).look_ok u64int Tryd.underlying52 (tm61 _) c.id hid
    rcases tabF_cases h.srt c.id with ⟨d, hd, hx, _⟩ | ⟨_, h2⟩
    · exact absurd ((hit_iff h.srt c.id).2 ⟨d, hd, hx⟩) (by rw [hh]; simp)
    · rw [h2] at h1
      exact h1
  have m1b : (w.alloc (.cells #[.int .u8 0, .int .u64 0, .int .u32 0] 79)).cell? ⟨gm, 1, none⟩ = some (.map (some bt)) := (h.o.man.alloc _).at_ rfl
  have c0b : (w.alloc (.cells #[.int .u8 0, .int .u64 0, .int .u32 0] 79)).cell? ⟨gc, 0, none⟩ = some (.int .u64 c.id) := (hc.alloc _).at_ rfl
  have hlk2 : (Instr.lookup 52 (.map (some bt)) (.int .u64 c.id) true).run Tryd.prog (w.alloc (.cells #[.int .u8 0, .int .u64 0, .int .u32 0] 79)).drew = .ok (.tuple #[.agg #[.int .u8 0, .int .u64 0, .int .u32 0], .bool false]) (w.alloc (.cells #[.int .u8 0, .int .u64 0, .int .u32 0] 79)).drew := by
    have h1 := (((h.o.tab.alloc (.cells #[.int .u8 0, .int .u64 0, .int .u32 0] 79))).drew).look_ok u64int Tryd.underlying52 (tm61 _) c.id hid
    rcases tabF_cases h.srt c.id with ⟨d, hd, hx, _⟩ | ⟨_, h2⟩
    · exact absurd ((hit_iff h.srt c.id).2 ⟨d, hd, hx⟩) (by rw [hh]; simp)
    · rw [h2] at h1
      exact h1
  have HG := Lib.hid (And.intro hg (And.intro hh (And.intro h.lvl h.srt)))
  have HFT := Lib.hid h.o.lt
  have hlm := h.lmb
  clear h hc hg hh
  have hmm := @run_makeMap Tryd.prog
  go_enter Tryd.func45, Tryd.ntmps45
  go_upto_region 4 with fail
  go_cut [5, 6] (fun v5 v6 wx => v5 = .pointer (some ⟨w.heap.size, 0, none⟩) ∧ v6 = .bool false ∧ (w.alloc (.cells #[.int .u8 0, .int .u64 0, .int .u32 0] 79)).drew = wx)
  case first =>
    go_region
    all_goals (go_wp2_with fail; go_meet; exact ⟨rfl, rfl, rfl⟩)
  case rest =>
  obtain ⟨rfl, rfl, hcw⟩ := hcut
  subst hcw
  go_wp2
  have H1 := Lib.hid ((H.out.o.alloc (.cells #[.int .u8 0, .int .u64 0, .int .u32 0] 79)).drew)
  have HC1 : Hid (Blk (w.alloc (.cells #[.int .u8 0, .int .u64 0, .int .u32 0] 79)).drew gc 76 c.row) := HC.out.alloc _
  have hF1 : Hid (Frm [] w (w.alloc (.cells #[.int .u8 0, .int .u64 0, .int .u32 0] 79)).drew) := (Frm.alloc w _).drew
  clear m1 c0 c1 m1b c0b hlk hlk2 H HC
  generalize (w.alloc (.cells #[.int .u8 0, .int .u64 0, .int .u32 0] 79)).drew = w1 at *
  generalize w.heap.size = g5 at *
  have m1 : w1.cell? ⟨gm, 1, none⟩ = some (.map (some bt)) := H1.out.man.at_ rfl
  have c0 : w1.cell? ⟨gc, 0, none⟩ = some (.int .u64 c.id) := HC1.out.at_ rfl
  have c2 : w1.cell? ⟨gc, 2, none⟩ = some (.int .u32 c.level) := HC1.out.at_ rfl
  have c3 : w1.cell? ⟨gc, 3, none⟩ = some (.int .u64 c.keyId) := HC1.out.at_ rfl
  have c5 : w1.cell? ⟨gc, 5, none⟩ = some (.int .u32 c.comp) := HC1.out.at_ rfl
  have HT1 := Lib.hid H1.out.drew.tab
  go_still_tail 22, (by kernel_rfl)
  change wpList _ _ _ _ _ w1.drew
  refine wpList_mapUpdate_at rfl (.tmp 35) (.tmp 39) (.tmp 53) 52 rfl HT1.out u64int Tryd.underlying52 (by simp only [maxLen]; omega) c.id (tmV c) rfl rfl ?_ hid ?_
  · show Value.agg #[.int .u8 (IntKind.u8.wrap c.level), .int .u64 c.keyId, .int .u32 c.comp] = tmV c
    rw [IntWalk.u8_in c.level ⟨hl0, by omega⟩]
    rfl
  intro w3 hT3 hG3
  have H3 := Lib.hid (H1.out.drew.turn hT3 hG3 (Nat.le_succ n))
  have HC3 : Hid (Blk w3 gc 76 c.row) := (hG3.block gc HC1.out.lt (fun e => by injection e with e; exact HT1.out.ne_blk HC1.out e.symm)).trans HC1.out
  have hF3 : Hid (Frm (foot gm bt LA lm) w w3) := (hF1.out.mono (l2 := foot gm bt LA lm) (fun i hi => by cases hi)).trans ((Frm.refl [bt] w1).drew.trans (Frm.of_grown hG3) (fun i hi => .inl hi)) (fun i hi => .inl (by rw [List.mem_singleton] at hi; subst hi; simp [foot]))
  clear hT3 hG3 HT1 HC1 H1 hF1 m1 c0 c2 c3 c5
  generalize hUF : updM (tabF M.l) c.id (some (tmV c)) = UF at *
  have HUF := Lib.hid hUF
  clear hUF
  obtain ⟨lv, hlv⟩ : ∃ k : Nat, c.level = (k : Int) := Int.eq_ofNat_of_zero_le hl0
  have HLV := Lib.hid hlv
  have hlv6 : lv ≤ 6 := by omega
  have hlv0 : (0 : Int) ≤ (lv : Int) := by omega
  clear hlv
  go_wp2
  go_frame
  rw [IntWalk.u8_in c.level ⟨hl0, by omega⟩]
  go_loopg [] 7 (fun f wr => ∃ (LA2 : Option Addr) (lc2 : Nat) (lm2 : List Nat), Hid (lv + 1 ≤ lm2.length + f) ∧ lm2.length ≤ 1000 + 7 ∧ Hid (lm.length ≤ lm2.length) ∧ Hid (MSo wr gm bt (n + 1) LA2 lc2 lm2 UF M.come M.gone) ∧ Hid (Blk wr gc 76 c.row) ∧ Hid (Frm (foot gm bt LA lm) w wr) ∧ Hid (∀ i ∈ foot gm bt LA2 lm2, i ∈ foot gm bt LA lm ∨ w.heap.size ≤ i))
  case atStart => exact ⟨LA, lc, lm, by show _ ≤ _; omega, hlm, Nat.le_refl _, H3.out, HC3.out, hF3.out, fun i hi => .inl hi⟩
  case round =>
    obtain ⟨LA2, lc2, lm2, hq, hl7, hlg, hM, hC, hF, hft⟩ := hrel
    have m0 : ∀ k, (wr.drewN k).cell? ⟨gm, 0, none⟩ = some (.slice LA2 lm2.length lc2) := fun k => Blk.at_ (w := wr.drewN k) (cs := [.slice LA2 lm2.length lc2, .map (some bt), .int .i64 M.come, .int .i64 M.gone]) hM.out.man rfl
    have c2 : ∀ k, (wr.drewN k).cell? ⟨gc, 2, none⟩ = some (.int .u32 (lv : Int)) := fun k => by have := Blk.at_ (w := wr.drewN k) (g := gc) (t := 76) (cs := c.row) (i := 2) (v := .int .u32 c.level) hC.out rfl; rwa [HLV.out] at this
    have m0' := m0 0
    have c2' := c2 0
    by_cases hle : lm2.length ≤ lv
    · have hle2 : ((lm2.length : Int)) ≤ (lv : Int) := by omega
      go_wp2
      go_quiet (fail)
      have hM2 := Lib.hid (hM.out.drewN nq)
      have hC2 : Hid (Blk (wr.drewN nq) gc 76 c.row) := hC.out
      have hF2 : Hid (Frm (foot gm bt LA lm) w (wr.drewN nq)) := hF.out.drewN nq
      have m02 := m0 nq
      clear m0 c2 m0' c2' hM hC hF
      generalize wr.drewN nq = wd at *
      have hMA := Lib.hid ((hM2.out.alloc (.map #[] 0)).alloc (lvObj wd.heap.size))
      have HSW : Hid (w.heap.size ≤ wd.heap.size) := hF2.out.size
      have m03 : (wd.alloc (.map #[] 0)).cell? ⟨gm, 0, none⟩ = some (.slice LA2 lm2.length lc2) := (hM2.out.alloc (.map #[] 0)).man.at_ rfl
      have hs1 : Hid (Sl ((wd.alloc (.map #[] 0)).alloc (lvObj wd.heap.size)) (some ⟨wd.heap.size + 1, 0, none⟩) 1 [.map (some wd.heap.size)]) := by
        have h1 := sl_one' (wd.alloc (.map #[] 0)) (.map (some wd.heap.size)) 115
        rw [World.size_alloc] at h1
        exact h1
      have HOW : Hid (∀ b, (Value.slice LA2 lm2.length lc2).ownBlock = some b → b ∈ foot gm bt LA2 lm2) := fun b e => by
        obtain ⟨ad, rfl, rfl⟩ := own_ad e
        simp [foot]
      go_wp2_with (at_builtin; refine wpList_append_sl _ rfl (.tmp 69) (.tmp 72) 51 rfl 0 115 (.agg #[.map none]) 8 Tryd.underlying51 infoLM rfl (.slice LA2 lm2.length lc2) lm2.length (levV lm2) rfl hMA.out.lev _ 1 1 [.map (some wd.heap.size)] rfl ?c1 (by simp [Value.oneCell']) (by omega) (by omega) (Nat.zero_le _) ?_; (case c1 => exact hs1.out); intro v73 w2 ho2 hg2 hat2; obtain ⟨A3, c3, hv3, hc3, hs3⟩ := own_sl ho2; subst hv3; have HM3 := Lib.hid (hM2.out.more ho2 hg2); have HMN : Hid (Blk w2 gm 54 [.slice LA2 lm2.length lc2, .map (some bt), .int .i64 M.come, .int .i64 M.gone]) := (hg2.block gm hMA.out.man.lt (own_ne hMA.out.lev hMA.out.man (by decide))).trans hMA.out.man; have HC3 : Hid (Blk w2 gc 76 c.row) := (hg2.block gc (Blk.lt ((Blk.alloc (Blk.alloc hC2.out (.map #[] 0)) (lvObj wd.heap.size)))) (own_ne hMA.out.lev ((Blk.alloc (Blk.alloc hC2.out (.map #[] 0)) (lvObj wd.heap.size))) (by decide))).trans ((Blk.alloc (Blk.alloc hC2.out (.map #[] 0)) (lvObj wd.heap.size))); have HG2 := Lib.hid hg2; have HAT : Hid ((Value.slice A3 (lm2.length + 1) c3).ownBlock = (Value.slice LA2 lm2.length lc2).ownBlock ∨ (Value.slice A3 (lm2.length + 1) c3).ownBlock = some ((wd.alloc (.map #[] 0)).alloc (lvObj wd.heap.size)).heap.size) := hat2; have q0 := HMN.out.at_ (i := 0) rfl; have z0 := HMN.out.frozen 0; clear ho2 hg2 hat2 hs3)
      have HGE := Lib.hid (blk_ne HMN.out HC3.out (by decide))
      have HC4 : Hid (Blk (w2.setCell ⟨gm, 0, none⟩ (.slice A3 (lm2.length + 1) c3)) gc 76 c.row) := HC3.out.frm (Frm.set w2 ⟨gm, 0, none⟩ _) (by rw [List.mem_singleton]; exact fun e => HGE.out e.symm)
      have HF4 : Hid (Frm (foot gm bt LA lm) w (w2.setCell ⟨gm, 0, none⟩ (.slice A3 (lm2.length + 1) c3))) := ((((hF2.out.andAlloc _).andAlloc _).trans (frmRow HG2.out) (fun i hi => hft.out i (HOW.out i (show (Value.slice LA2 lm2.length lc2).ownBlock = some i from Option.mem_toList.1 hi))))).andSet _ _ (.inl (by simp [foot]))
      have HFT4 := Lib.hid (foot_more hft.out HSW.out (show w.heap.size ≤ ((wd.alloc (.map #[] 0)).alloc (lvObj wd.heap.size)).heap.size by rw [World.size_alloc, World.size_alloc]; have := HSW.out; omega) HAT.out)
      obtain ⟨gkO, rfl⟩ : ∃ x, gk = x + 1 := ⟨gk - 1, by have := hq.out; omega⟩
      clear q0 z0 HMN HC3 HG2 HAT HGE hM2 hC2 hF2 m02 hMA m03 hs1 HOW
      go_roundg gkO
      case measure => omega
      case rel => exact ⟨A3, c3, lm2 ++ [wd.heap.size], by have := hq.out; show _ ≤ _; rw [List.length_append, List.length_singleton]; omega, by rw [List.length_append, List.length_singleton]; omega, by have := hlg.out; show _ ≤ _; rw [List.length_append]; omega, HM3.out, HC4.out, HF4.out, HFT4.out⟩
    · have hle2 : ¬ ((lm2.length : Int)) ≤ (lv : Int) := by omega
      have hlt : (lv : Int) < (lm2.length : Int) := by omega
      have hltn : lv < lm2.length := by omega
      go_wp2
      go_quiet (fail)
      have hM2 := Lib.hid (hM.out.drewN nq)
      have hC2 : Hid (Blk (wr.drewN nq) gc 76 c.row) := hC.out
      have hF2 : Hid (Frm (foot gm bt LA lm) w (wr.drewN nq)) := hF.out.drewN nq
      have m02 := m0 nq
      have c22 := c2 nq
      clear m0 c2 m0' c2' hM hC hF
      generalize wr.drewN nq = wd at *
      have c02 : wd.cell? ⟨gc, 0, none⟩ = some (.int .u64 c.id) := hC2.out.at_ rfl
      obtain ⟨bl, hbl⟩ : ∃ b, lm2[lv]? = some b := ⟨_, List.getElem?_eq_getElem hltn⟩
      obtain ⟨fs, hfs⟩ := hM2.out.sets bl (List.mem_of_getElem? hbl)
      obtain ⟨gv, cur, hLA, _, _, _, _, _⟩ := own_blk hM2.out.lev (by omega)
      subst hLA
      have cl2 : wd.cell? ⟨gv, lv, none⟩ = some (.map (some bl)) := by
        rw [hM2.out.lev.cellAt lv (by omega), levV, List.getElem?_map, hbl]
        rfl
      have HFS := Lib.hid hfs
      have HBL := Lib.hid (List.mem_of_getElem? hbl)
      clear hfs hbl
      go_wp2
      have HFSD := Lib.hid HFS.out.drew
      go_still_tail 16, (by kernel_rfl)
      change wpList _ _ _ _ _ wd.drew
      refine wpList_mapUpdate_at rfl (.tmp 86) (.tmp 90) (.tmp 91) 113 rfl HFSD.out u64int Tryd.underlying113 (by simp only [maxLen]; omega) c.id (.agg #[]) rfl rfl rfl hid ?_
      intro w5 hS5 hG5
      have HM5 := Lib.hid (hM2.out.drew.turnSet HBL.out hS5 hG5 (Nat.le_succ (n + 1)))
      have HF5 : Hid (Frm (foot gm bt LA lm) w w5) := hF2.out.drew.trans (Frm.of_grown hG5) (fun i hi => hft.out i (by rw [List.mem_singleton] at hi; subst hi; have := HBL.out; simp [foot, this]))
      clear hS5 hG5 HFSD HFS hM2 hC2 hF2 m02 c22 c02 cl2
      have m2 : w5.cell? ⟨gm, 2, none⟩ = some (.int .i64 M.come) := HM5.out.man.at_ rfl
      have z2 := HM5.out.man.frozen 2
      have HM6 := Lib.hid (HM5.out.set2 (M.come + 1))
      have HF6 : Hid (Frm (foot gm bt LA lm) w (w5.setCell ⟨gm, 2, none⟩ (.int .i64 (M.come + 1)))) := HF5.out.andSet _ _ (.inl (by simp [foot]))
      have HTF : Hid (UF = tabF (insC M.l c)) := by show _ = _; rw [← HUF.out]; funext x; exact tabF_ins HG.out.2.2.2 HG.out.2.1 x
      go_wp2
      go_ret
      refine ⟨rfl, _, _, lm2, ⟨by rw [← HTF.out]; exact HM6.out, fun d hd => ?_, insC_sorted HG.out.2.2.2 HG.out.2.1, hl7⟩, HF6.out, hft.out⟩
      rcases mem_insC.1 hd with rfl | hd
      · exact ⟨hl0, by rw [HLV.out]; omega, by omega⟩
      · obtain ⟨g1, g2, g3⟩ := HG.out.2.2.1 d hd
        exact ⟨g1, by have := hlg.out; omega, g3⟩
end Go.Proofs.YtpfmmbhbmdbmeaaDoor
