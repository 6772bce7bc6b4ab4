/- A skip list: an entry is put into it. -/
import Derived.Test.YtanmgkpgfmkobaaGU
namespace Go.Proofs.Ytanmgkpgfmkobaa
open Go.RowKit
set_option linter.unusedVariables false
set_option linter.unusedSimpArgs false
def blksOf (g : Nat) (s : SkA) : List Nat := g :: s.ga :: s.gb :: s.gm :: s.gh :: s.ns.map Nd.blk
theorem blks_lt {w : World} {g : Nat} {s : SkA} (h : SkSt w g s) : ∀ b ∈ blksOf g s, b < w.heap.size := by
  intro b hb
  unfold blksOf at hb
  simp only [List.mem_cons] at hb
  rcases hb with rfl | rfl | rfl | rfl | rfl | hb
  · exact h.list.lt
  · exact h.arn.ar.lt
  · exact h.arn.buf.lt
  · exact h.arn.map.lt
  · exact h.head.lt
  · obtain ⟨d, hd, rfl⟩ := List.mem_map.1 hb
    obtain ⟨j, hj⟩ := List.mem_iff_getElem?.1 hd
    exact (h.nodes j d hj).lt
theorem SkSt.frm {w w' : World} {g B : Nat} {s : SkA} (h : SkSt w g s) (ok : SkOk g B s) {l : List Nat} (hf : Frm l w w') (hl : ∀ b ∈ l, b ∉ blksOf g s ∧ ∀ o, s.ra ≠ some ⟨b, o, none⟩) : SkSt w' g s := by
  have hb : ∀ b, b ∈ blksOf g s → b ∉ l := fun b hb h2 => (hl b h2).1 hb
  refine ⟨h.list.frm hf (hb _ (by simp [blksOf])), h.arn.frm hf (hb _ (by simp [blksOf])) (hb _ (by simp [blksOf])) (hb _ (by simp [blksOf])), h.head.frm hf (hb _ (by simp [blksOf])), fun j d hj => (h.nodes j d hj).frm hf (hb _ ?_), h.rand.frm hf (fun b o e h2 => (hl b h2).2 o e)⟩
  unfold blksOf
  simp only [List.mem_cons]
  exact .inr (.inr (.inr (.inr (.inr (List.mem_map_of_mem (List.mem_of_getElem? hj))))))
def PutPost (g B : Nat) (s : SkA) (e : Ent) (w : World) (E : Ending) (w' : World) : Prop :=
  ∃ s', E = .returned (.tuple #[]) ∧ SkSt w' g s' ∧ SkOk g B s' ∧ Full s' ∧ s'.ns.map Nd.e = putE (s.ns.map Nd.e) e ∧ s'.n ≤ s.n + 2200 ∧ s'.turn ≤ s'.n ∧ s'.ref = s.ref ∧ Below B w w'
/-- What the two lists of places hold at a level. -/
structure LvP (s : SkA) (k : List Int) (v : Int) (l : Nat) (P N : List Value) (p j : Nat) : Prop where
  pp : P[l]? = some (plcP s p)
  np : N[l]? = some (ndP s j)
  lev : Lev s (s.pos k v) l p j
  far : ∀ d : Nd, s.ns[j]? = some d → orderL k v d.e.k d.e.v = -1
/-- What stays while places are looked for. -/
structure PutW (g B : Nat) (s : SkA) (e : Ent) (A D : Option Addr) (nk nd cd gx b7 : Nat) (ver : Int) (w wr : World) : Prop where
  st : SkSt wr g s
  key : Sl wr A nk (nums .u8 (keyB e.k e.v))
  dat : Sl wr D nd (nums .u8 e.d)
  vs : Blk wr gx 72 [.int .u8 e.m, .int .u8 e.u, .int .u64 e.x, .slice D nd cd, .int .u64 ver]
  bel : Below B w wr
  sz : b7 + 2 ≤ wr.heap.size
theorem PutW.drewN {g B : Nat} {s : SkA} {e : Ent} {A D : Option Addr} {nk nd cd gx b7 : Nat} {ver : Int} {w wr : World} (h : PutW g B s e A D nk nd cd gx b7 ver w wr) (k : Nat) : PutW g B s e A D nk nd cd gx b7 ver w (wr.drewN k) :=
  ⟨h.st.drewN k, h.key, h.dat, h.vs, ⟨h.bel.os, h.bel.tape, h.bel.output, h.bel.size, h.bel.block⟩, h.sz⟩
theorem PutW.drew {g B : Nat} {s : SkA} {e : Ent} {A D : Option Addr} {nk nd cd gx b7 : Nat} {ver : Int} {w wr w' : World} (h : PutW g B s e A D nk nd cd gx b7 ver w wr) (k : Drew wr w') : PutW g B s e A D nk nd cd gx b7 ver w w' := by
  obtain ⟨n, rfl⟩ := k
  exact h.drewN n
theorem PutW.two {g B : Nat} {s : SkA} {e : Ent} {A D : Option Addr} {nk nd cd gx b7 i : Nat} {ver : Int} {w wr : World} (h : PutW g B s e A D nk nd cd gx b7 ver w wr) (ok : SkOk g B s) (hz : w.heap.size < b7) (hbl : ∀ b ∈ blksOf g s, b < w.heap.size) (hgx : gx = w.heap.size) (hB : B ≤ w.heap.size)
    (hk : ∀ b o, A = some ⟨b, o, none⟩ → 0 < nk → b < w.heap.size) (hd : ∀ b o, D = some ⟨b, o, none⟩ → 0 < nd → b < w.heap.size) (hr : ∀ b o, s.ra = some ⟨b, o, none⟩ → b < w.heap.size) (x y : Value) :
    PutW g B s e A D nk nd cd gx b7 ver w ((wr.setCell ⟨b7, i, none⟩ x).setCell ⟨b7 + 1, i, none⟩ y) := by
  have hf : Frm [b7, b7 + 1] wr ((wr.setCell ⟨b7, i, none⟩ x).setCell ⟨b7 + 1, i, none⟩ y) := ((Frm.refl _ wr).andSet _ _ (.inl (by simp))).andSet _ _ (.inl (by simp))
  refine ⟨h.st.frm ok hf (fun b hb => ?_), h.key.frm0 hf (fun b o e hp _ => by have := hk b o e hp; simp; omega), h.dat.frm0 hf (fun b o e hp _ => by have := hd b o e hp; simp; omega), h.vs.frm hf (by simp; omega), ?_, Nat.le_trans h.sz hf.size⟩
  · refine ⟨fun hb2 => by have := hbl b hb2; simp at hb; omega, fun o e => by have := hr b o e; simp at hb; omega⟩
  · have hb := hf.below (B := B) (Nat.le_trans hB h.bel.size) (fun i hi => by simp at hi; omega)
    exact h.bel.trans hb
theorem arr21n : Try.prog.arrayLen 160 = 21 := by kernel_rfl
theorem ndP_ptr (s : SkA) (j : Nat) : ∃ a, ndP s j = .pointer a := by
  unfold ndP
  cases s.ns[j]? with
  | none => exact ⟨none, rfl⟩
  | some d => exact ⟨_, rfl⟩
theorem PutPost.hit {g B : Nat} {s : SkA} {e : Ent} {w w0 w' : World} (h : SkSt w0 g s) (ok : SkOk g B s) (hf : Full s) (he : EntOk e) (hn : s.n ≤ 800000) (htn : s.turn ≤ s.n) (d : Nd) (hd : s.ns[s.pos e.k e.v]? = some d) (hk : d.e.k = e.k) (hv : d.e.v = e.v) (hb0 : Below B w w0)
    (ha : Arn w' s.ga s.gb s.gm (s.n + (valB e.m e.u e.x e.d).length) (splice s.cs s.n (nums .u8 (valB e.m e.u e.x e.d))) s.k s.m)
    (hb : Blk w' d.blk 130 ((d.cells (s.ns.drop (s.pos e.k e.v + 1))).set 0 (.int .u64 (((valB e.m e.u e.x e.d).length : Int) * 4294967296 + s.n)))) (hfr : Frm [s.ga, s.gb, d.blk] w0 w') (hBw : B ≤ w0.heap.size) : PutPost g B s e w (.returned (.tuple #[])) w' := by
  have hvl := valB_len e.m e.u e.x e.d
  have hvt := vint_len 9 e.x
  have hdl := he.dlen
  have hl := h.arn.len
  have hle : s.n ≤ s.cs.length := by omega
  refine ⟨_, rfl, st_with h ok (s.pos e.k e.v) d s.n e hd hk hv hfr ha hb, ok_with ok d e _ _ hd hk hv he (by show s.n + (valB e.m e.u e.x e.d).length ≤ _; exact Nat.le_refl _) (by omega) (take_splice0 _ _ _ _ (Nat.le_refl _) hle) ?_, ?_, putE_hit s d s.n e hd hk hv, by show s.n + _ ≤ _; omega, by show s.turn ≤ s.n + _; omega, rfl, ?_⟩
  · have := part_splice s.cs (nums .u8 (valB e.m e.u e.x e.d)) s.n hle
    rw [nums_length] at this
    exact this
  · intro d' hd'
    rcases List.mem_or_eq_of_mem_set hd' with h1 | h1
    · exact hf d' h1
    · rw [h1]; exact hf d (List.mem_of_getElem? hd)
  · refine hb0.trans (hfr.below hBw (fun i hi => ?_))
    simp only [List.mem_cons, List.not_mem_nil, or_false] at hi
    have hba := ok.base
    rcases hi with rfl | rfl | rfl
    · exact hba _ (by simp)
    · exact hba _ (by simp)
    · exact hba _ (by simp only [List.mem_cons]; exact .inr (.inr (.inr (.inr (.inr (List.mem_map_of_mem (List.mem_of_getElem? hd)))))))
theorem Nd.cells_at (d : Nd) (r : List Nd) : (d.cells r)[24]? = some (.int .u32 d.at_) := by
  unfold Nd.cells
  rw [List.getElem?_append_right (by simp), List.getElem?_append_right (by rw [tow_len]; simp), tow_len]
  rfl
/-- The place ahead of a node that comes in, in memory. -/
theorem st_place {w : World} {g i l p j : Nat} {s t : SkA} {x : Nd} (h : SkSt w g t) (hcl : t.hc.length = 4) (ht : t.ns = insL s i x l) (hg : t.gh = s.gh) (hi : i ≤ s.ns.length) (hl : l < 20) (lev : Lev s i l p j) :
    ∃ cs, Blk w (plcB s p) 130 cs ∧ 24 ≤ cs.length ∧ cs[4 + l]? = some (.int .u32 (nextAt (s.ns.drop i) l)) := by
  have hpi := lev.lo
  have hnx : nextAt ((insL s i x l).drop p) l = nextAt (s.ns.drop i) l := by
    rw [insL_drop_lo s i x l p hi hpi, nextAt_skip _ _ (x.upto l) l (Nat.le_refl _), nextAt_none _ _ l (lev.skip hi)]
  by_cases h0 : p = 0
  · subst h0
    refine ⟨t.headC, ?_, ?_, ?_⟩
    · unfold plcB; rw [if_pos rfl, ← hg]; exact h.head
    · unfold SkA.headC; rw [List.length_append, List.length_append, tow_len]; omega
    · unfold SkA.headC
      rw [List.getElem?_append_right (by rw [hcl]; omega), hcl, List.getElem?_append_left (by rw [tow_len]; omega), show 4 + l - 4 = l from by omega, tow_get _ _ _ hl]
      unfold towV
      rw [if_pos hl, ht, ← hnx, List.drop_zero]
  · obtain ⟨d, hd, hs⟩ := lev.vis.resolve_left h0
    have hd' : t.ns[p - 1]? = some d := by rw [ht, insL_lo s i x l (p - 1) hi (by omega)]; exact hd
    refine ⟨d.cells (t.ns.drop (p - 1 + 1)), ?_, ?_, ?_⟩
    · unfold plcB; rw [if_neg h0, hd]; exact h.nodes _ _ hd'
    · rw [Nd.cells_len]; omega
    · rw [d.cells_tow _ _ hl, show p - 1 + 1 = p from by omega, ht]
      unfold towV
      rw [if_pos hs, hnx]
/-- What stays while a node comes in. -/
structure PutY (g B : Nat) (t : SkA) (k : List Int) (v : Int) (A : Option Addr) (nk b7 : Nat) (w wr : World) : Prop where
  st : SkSt wr g t
  key : Sl wr A nk (nums .u8 (keyB k v))
  bel : Below B w wr
  sz : b7 + 2 ≤ wr.heap.size
theorem PutY.drewN {g B : Nat} {t : SkA} {k : List Int} {v : Int} {A : Option Addr} {nk b7 : Nat} {w wr : World} (h : PutY g B t k v A nk b7 w wr) (n : Nat) : PutY g B t k v A nk b7 w (wr.drewN n) :=
  ⟨h.st.drewN n, h.key, ⟨h.bel.os, h.bel.tape, h.bel.output, h.bel.size, h.bel.block⟩, h.sz⟩
theorem PutY.drew {g B : Nat} {t : SkA} {k : List Int} {v : Int} {A : Option Addr} {nk b7 : Nat} {w wr w' : World} (h : PutY g B t k v A nk b7 w wr) (hd : Drew wr w') : PutY g B t k v A nk b7 w w' := by
  obtain ⟨n, rfl⟩ := hd
  exact h.drewN n
theorem PutY.frm {g B : Nat} {t : SkA} {k : List Int} {v : Int} {A : Option Addr} {nk b7 : Nat} {w wr w' : World} (h : PutY g B t k v A nk b7 w wr) (ok : SkOk g B t) {l : List Nat} (hf : Frm l wr w') (hl : ∀ b ∈ l, b ∉ blksOf g t ∧ (∀ o, t.ra ≠ some ⟨b, o, none⟩) ∧ (∀ o, A = some ⟨b, o, none⟩ → nk = 0) ∧ B ≤ b) (hB : B ≤ wr.heap.size) : PutY g B t k v A nk b7 w w' :=
  ⟨h.st.frm ok hf (fun b hb => ⟨(hl b hb).1, (hl b hb).2.1⟩), h.key.frm0 hf (fun b o e hp _ hb => by have := (hl b hb).2.2.1 o e; omega), h.bel.trans (hf.below hB (fun i hi => (hl i hi).2.2.2)), Nat.le_trans h.sz hf.size⟩
theorem nodeC_cells (x : Nd) (r : List Nd) (hk : x.key.length = x.e.k.length + 8) : (x.upto 0).cells r = nodeC x.val.length x.vo x.ko (x.e.k.length + 8) x.ht x.at_ := by
  rw [word_upto]
  have e : tow 0 r = List.replicate 20 (.int .u32 0) := by
    apply List.ext_getElem?
    intro q
    by_cases hq : q < 20
    · rw [tow_get _ _ _ hq, List.getElem?_replicate, if_pos hq]; unfold towV; rw [if_neg (by omega)]
    · rw [List.getElem?_eq_none (by rw [tow_len]; omega), List.getElem?_eq_none (by simp; omega)]
  rw [e]
  unfold nodeC Nd.word
  rw [hk]
set_option maxRecDepth 100000 in
set_option maxHeartbeats 40000000 in
theorem put_skl (g B : Nat) (s : SkA) (A D : Option Addr) (nk ck nd cd : Nat) (e : Ent) (ver : Int) (w : World) (h : SkSt w g s) (ok : SkOk g B s) (hf : Full s) (hk : Sl w A nk (nums .u8 (keyB e.k e.v))) (hck : nk ≤ ck)
    (hA : ∀ b o, A = some ⟨b, o, none⟩ → b ∉ blksOf g s) (hd : Sl w D nd (nums .u8 e.d)) (hD : ∀ b o, D = some ⟨b, o, none⟩ → b ∉ blksOf g s) (he : EntOk e) (hn : s.n ≤ 800000) (htn : s.turn ≤ s.n) (hB : B ≤ w.heap.size) :
    Calls Try.prog 67 #[.pointer (some ⟨g, 0, none⟩), .slice A nk ck, .agg #[.int .u8 e.m, .int .u8 e.u, .int .u64 e.x, .slice D nd cd, .int .u64 ver]] w (PutPost g B s e w) := by
  have hkl : e.k.length + 8 = nk := by have := hk.1; rw [nums_length, keyB_len] at this; exact this
  have hdl : e.d.length = nd := by have := hd.1; rwa [nums_length] at this
  have hk3 := he.klen
  have hd3 := he.dlen
  have hnk : nk ≤ 1000 := by omega
  have hnd : nd ≤ 1000 := by omega
  have HN := Lib.hid (And.intro hkl hdl)
  have H0 : Hid (∀ o, SkSt (w.alloc o) g s) := fun o => h.frm ok (Frm.alloc w o) (fun b hb => by cases hb)
  have HK0 : Hid (∀ o, Sl (w.alloc o) A nk (nums .u8 (keyB e.k e.v))) := fun o => hk.alloc o
  have HD0 : Hid (∀ o, Sl (w.alloc o) D nd (nums .u8 e.d)) := fun o => hd.alloc o
  have HX : Hid (Blk (w.alloc (.cells #[.int .u8 e.m, .int .u8 e.u, .int .u64 e.x, .slice D nd cd, .int .u64 ver] 72)) w.heap.size 72 [.int .u8 e.m, .int .u8 e.u, .int .u64 e.x, .slice D nd cd, .int .u64 ver]) := Blk.new _ _ _
  have HBL : Hid (∀ o, Below B w (w.alloc o)) := fun o => (Below.refl B w).alloc hB o
  have HSZ : Hid (∀ o, (w.alloc o).heap.size = w.heap.size + 1) := fun o => World.size_alloc w o
  have HBB := Lib.hid (blks_lt h)
  have hh1 := ok.h1
  have hh2 := ok.h2
  have OK := Lib.hid ok
  have HF := Lib.hid hf
  have HA := Lib.hid hA
  have HDD := Lib.hid hD
  have HE := Lib.hid he
  have HH := Lib.hid hB
  have HLK : Hid (∀ b o, A = some ⟨b, o, none⟩ → 0 < nk → b < w.heap.size) := fun b o e hp => hk.lt e hp
  have HLD : Hid (∀ b o, D = some ⟨b, o, none⟩ → 0 < nd → b < w.heap.size) := fun b o e hp => hd.lt e hp
  have HLR : Hid (∀ b o, s.ra = some ⟨b, o, none⟩ → b < w.heap.size) := fun b o e => h.rand.lt e ok.rn1
  clear h ok hf hk hA hd hD he hkl hdl hk3 hd3 hB
  go_enter Try.func67, Try.ntmps67
  go_wp2_with fail
  replace H0 := Lib.hid (H0.out (.cells #[.int .u8 e.m, .int .u8 e.u, .int .u64 e.x, .slice D nd cd, .int .u64 ver] 72))
  replace HK0 := Lib.hid (HK0.out (.cells #[.int .u8 e.m, .int .u8 e.u, .int .u64 e.x, .slice D nd cd, .int .u64 ver] 72))
  replace HD0 := Lib.hid (HD0.out (.cells #[.int .u8 e.m, .int .u8 e.u, .int .u64 e.x, .slice D nd cd, .int .u64 ver] 72))
  replace HBL := Lib.hid (HBL.out (.cells #[.int .u8 e.m, .int .u8 e.u, .int .u64 e.x, .slice D nd cd, .int .u64 ver] 72))
  replace HSZ := Lib.hid (HSZ.out (.cells #[.int .u8 e.m, .int .u8 e.u, .int .u64 e.x, .slice D nd cd, .int .u64 ver] 72))
  generalize w.alloc (.cells #[.int .u8 e.m, .int .u8 e.u, .int .u64 e.x, .slice D nd cd, .int .u64 ver] 72) = w0 at *
  obtain ⟨gx, hgx⟩ : ∃ gx, w.heap.size = gx := ⟨_, rfl⟩
  rw [hgx] at HX
  have HGX := Lib.hid hgx
  clear hgx
  refine (getHeight_skl g s.height w0 (H0.out.list.at_ rfl)).mono ?_
  rintro E w1 ⟨rfl, rfl⟩
  have hgl : g < w0.heap.size := H0.out.list.lt
  have c1 : ∀ o o', ((w0.alloc o).alloc o').cell? ⟨g, 1, none⟩ = some (.pointer (some ⟨s.gh, 0, none⟩)) := fun o o' => ((H0.out.list.alloc o).alloc o').at_ rfl
  have hH21 : s.height < 21 := by omega
  have z7b : Blk ((w0.alloc (.cells #[.pointer none, .pointer none, .pointer none, .pointer none, .pointer none, .pointer none, .pointer none, .pointer none, .pointer none, .pointer none, .pointer none, .pointer none, .pointer none, .pointer none, .pointer none, .pointer none, .pointer none, .pointer none, .pointer none, .pointer none, .pointer none] 160)).alloc (.cells #[.pointer none, .pointer none, .pointer none, .pointer none, .pointer none, .pointer none, .pointer none, .pointer none, .pointer none, .pointer none, .pointer none, .pointer none, .pointer none, .pointer none, .pointer none, .pointer none, .pointer none, .pointer none, .pointer none, .pointer none, .pointer none] 160)) w0.heap.size 160 (List.replicate 21 (Value.pointer none)) := (Blk.new w0 160 (List.replicate 21 (Value.pointer none))).alloc _
  have z8b : Blk ((w0.alloc (.cells #[.pointer none, .pointer none, .pointer none, .pointer none, .pointer none, .pointer none, .pointer none, .pointer none, .pointer none, .pointer none, .pointer none, .pointer none, .pointer none, .pointer none, .pointer none, .pointer none, .pointer none, .pointer none, .pointer none, .pointer none, .pointer none] 160)).alloc (.cells #[.pointer none, .pointer none, .pointer none, .pointer none, .pointer none, .pointer none, .pointer none, .pointer none, .pointer none, .pointer none, .pointer none, .pointer none, .pointer none, .pointer none, .pointer none, .pointer none, .pointer none, .pointer none, .pointer none, .pointer none, .pointer none] 160)) (w0.heap.size + 1) 160 (List.replicate 21 (Value.pointer none)) := by
    have := Blk.new (w0.alloc (.cells #[.pointer none, .pointer none, .pointer none, .pointer none, .pointer none, .pointer none, .pointer none, .pointer none, .pointer none, .pointer none, .pointer none, .pointer none, .pointer none, .pointer none, .pointer none, .pointer none, .pointer none, .pointer none, .pointer none, .pointer none, .pointer none] 160)) 160 (List.replicate 21 (Value.pointer none))
    rwa [World.size_alloc] at this
  have z7 : ((w0.alloc (.cells #[.pointer none, .pointer none, .pointer none, .pointer none, .pointer none, .pointer none, .pointer none, .pointer none, .pointer none, .pointer none, .pointer none, .pointer none, .pointer none, .pointer none, .pointer none, .pointer none, .pointer none, .pointer none, .pointer none, .pointer none, .pointer none] 160)).alloc (.cells #[.pointer none, .pointer none, .pointer none, .pointer none, .pointer none, .pointer none, .pointer none, .pointer none, .pointer none, .pointer none, .pointer none, .pointer none, .pointer none, .pointer none, .pointer none, .pointer none, .pointer none, .pointer none, .pointer none, .pointer none, .pointer none] 160)).cell? ⟨w0.heap.size, s.height, none⟩ = some (.pointer none) := z7b.at_ (by rw [List.getElem?_replicate, if_pos hH21])
  have z8 : ((w0.alloc (.cells #[.pointer none, .pointer none, .pointer none, .pointer none, .pointer none, .pointer none, .pointer none, .pointer none, .pointer none, .pointer none, .pointer none, .pointer none, .pointer none, .pointer none, .pointer none, .pointer none, .pointer none, .pointer none, .pointer none, .pointer none, .pointer none] 160)).alloc (.cells #[.pointer none, .pointer none, .pointer none, .pointer none, .pointer none, .pointer none, .pointer none, .pointer none, .pointer none, .pointer none, .pointer none, .pointer none, .pointer none, .pointer none, .pointer none, .pointer none, .pointer none, .pointer none, .pointer none, .pointer none, .pointer none] 160)).cell? ⟨w0.heap.size + 1, s.height, none⟩ = some (.pointer none) := z8b.at_ (by rw [List.getElem?_replicate, if_pos hH21])
  have y7 := z7b.frozen s.height
  have y8 := z8b.frozen s.height
  have Z7 := Lib.hid z7b
  have Z8 := Lib.hid z8b
  clear z7b z8b
  go_wp2
  have HP1 : Hid (Blk ((w0.alloc (.cells ([.pointer none, .pointer none, .pointer none, .pointer none, .pointer none, .pointer none, .pointer none, .pointer none, .pointer none, .pointer none, .pointer none, .pointer none, .pointer none, .pointer none, .pointer none, .pointer none, .pointer none, .pointer none, .pointer none, .pointer none, .pointer none].set s.height (.pointer (some ⟨s.gh, 0, none⟩))).toArray 160)).alloc (.cells ([.pointer none, .pointer none, .pointer none, .pointer none, .pointer none, .pointer none, .pointer none, .pointer none, .pointer none, .pointer none, .pointer none, .pointer none, .pointer none, .pointer none, .pointer none, .pointer none, .pointer none, .pointer none, .pointer none, .pointer none, .pointer none].set s.height (.pointer none)).toArray 160)) w0.heap.size 160 ((List.replicate 21 (Value.pointer none)).set s.height (.pointer (some ⟨s.gh, 0, none⟩)))) := (Blk.new w0 160 ((List.replicate 21 (Value.pointer none)).set s.height (.pointer (some ⟨s.gh, 0, none⟩)))).alloc _
  have HN1 : Hid (Blk ((w0.alloc (.cells ([.pointer none, .pointer none, .pointer none, .pointer none, .pointer none, .pointer none, .pointer none, .pointer none, .pointer none, .pointer none, .pointer none, .pointer none, .pointer none, .pointer none, .pointer none, .pointer none, .pointer none, .pointer none, .pointer none, .pointer none, .pointer none].set s.height (.pointer (some ⟨s.gh, 0, none⟩))).toArray 160)).alloc (.cells ([.pointer none, .pointer none, .pointer none, .pointer none, .pointer none, .pointer none, .pointer none, .pointer none, .pointer none, .pointer none, .pointer none, .pointer none, .pointer none, .pointer none, .pointer none, .pointer none, .pointer none, .pointer none, .pointer none, .pointer none, .pointer none].set s.height (.pointer none)).toArray 160)) (w0.heap.size + 1) 160 ((List.replicate 21 (Value.pointer none)).set s.height (.pointer none))) := by
    have := Blk.new (w0.alloc (.cells ([.pointer none, .pointer none, .pointer none, .pointer none, .pointer none, .pointer none, .pointer none, .pointer none, .pointer none, .pointer none, .pointer none, .pointer none, .pointer none, .pointer none, .pointer none, .pointer none, .pointer none, .pointer none, .pointer none, .pointer none, .pointer none].set s.height (.pointer (some ⟨s.gh, 0, none⟩))).toArray 160)) 160 ((List.replicate 21 (Value.pointer none)).set s.height (.pointer none))
    rwa [World.size_alloc] at this
  have hf1 : Frm [] w0 ((w0.alloc (.cells ([.pointer none, .pointer none, .pointer none, .pointer none, .pointer none, .pointer none, .pointer none, .pointer none, .pointer none, .pointer none, .pointer none, .pointer none, .pointer none, .pointer none, .pointer none, .pointer none, .pointer none, .pointer none, .pointer none, .pointer none, .pointer none].set s.height (.pointer (some ⟨s.gh, 0, none⟩))).toArray 160)).alloc (.cells ([.pointer none, .pointer none, .pointer none, .pointer none, .pointer none, .pointer none, .pointer none, .pointer none, .pointer none, .pointer none, .pointer none, .pointer none, .pointer none, .pointer none, .pointer none, .pointer none, .pointer none, .pointer none, .pointer none, .pointer none, .pointer none].set s.height (.pointer none)).toArray 160)) := ((Frm.refl [] w0).andAlloc _).andAlloc _
  have HS1 : Hid (SkSt ((w0.alloc (.cells ([.pointer none, .pointer none, .pointer none, .pointer none, .pointer none, .pointer none, .pointer none, .pointer none, .pointer none, .pointer none, .pointer none, .pointer none, .pointer none, .pointer none, .pointer none, .pointer none, .pointer none, .pointer none, .pointer none, .pointer none, .pointer none].set s.height (.pointer (some ⟨s.gh, 0, none⟩))).toArray 160)).alloc (.cells ([.pointer none, .pointer none, .pointer none, .pointer none, .pointer none, .pointer none, .pointer none, .pointer none, .pointer none, .pointer none, .pointer none, .pointer none, .pointer none, .pointer none, .pointer none, .pointer none, .pointer none, .pointer none, .pointer none, .pointer none, .pointer none].set s.height (.pointer none)).toArray 160)) g s) := H0.out.frm OK.out hf1 (fun b hb => by cases hb)
  have HK1 : Hid (Sl ((w0.alloc (.cells ([.pointer none, .pointer none, .pointer none, .pointer none, .pointer none, .pointer none, .pointer none, .pointer none, .pointer none, .pointer none, .pointer none, .pointer none, .pointer none, .pointer none, .pointer none, .pointer none, .pointer none, .pointer none, .pointer none, .pointer none, .pointer none].set s.height (.pointer (some ⟨s.gh, 0, none⟩))).toArray 160)).alloc (.cells ([.pointer none, .pointer none, .pointer none, .pointer none, .pointer none, .pointer none, .pointer none, .pointer none, .pointer none, .pointer none, .pointer none, .pointer none, .pointer none, .pointer none, .pointer none, .pointer none, .pointer none, .pointer none, .pointer none, .pointer none, .pointer none].set s.height (.pointer none)).toArray 160)) A nk (nums .u8 (keyB e.k e.v))) := (HK0.out.alloc _).alloc _
  have HD1 : Hid (Sl ((w0.alloc (.cells ([.pointer none, .pointer none, .pointer none, .pointer none, .pointer none, .pointer none, .pointer none, .pointer none, .pointer none, .pointer none, .pointer none, .pointer none, .pointer none, .pointer none, .pointer none, .pointer none, .pointer none, .pointer none, .pointer none, .pointer none, .pointer none].set s.height (.pointer (some ⟨s.gh, 0, none⟩))).toArray 160)).alloc (.cells ([.pointer none, .pointer none, .pointer none, .pointer none, .pointer none, .pointer none, .pointer none, .pointer none, .pointer none, .pointer none, .pointer none, .pointer none, .pointer none, .pointer none, .pointer none, .pointer none, .pointer none, .pointer none, .pointer none, .pointer none, .pointer none].set s.height (.pointer none)).toArray 160)) D nd (nums .u8 e.d)) := (HD0.out.alloc _).alloc _
  have HX1 : Hid (Blk ((w0.alloc (.cells ([.pointer none, .pointer none, .pointer none, .pointer none, .pointer none, .pointer none, .pointer none, .pointer none, .pointer none, .pointer none, .pointer none, .pointer none, .pointer none, .pointer none, .pointer none, .pointer none, .pointer none, .pointer none, .pointer none, .pointer none, .pointer none].set s.height (.pointer (some ⟨s.gh, 0, none⟩))).toArray 160)).alloc (.cells ([.pointer none, .pointer none, .pointer none, .pointer none, .pointer none, .pointer none, .pointer none, .pointer none, .pointer none, .pointer none, .pointer none, .pointer none, .pointer none, .pointer none, .pointer none, .pointer none, .pointer none, .pointer none, .pointer none, .pointer none, .pointer none].set s.height (.pointer none)).toArray 160)) gx 72 [.int .u8 e.m, .int .u8 e.u, .int .u64 e.x, .slice D nd cd, .int .u64 ver]) := (HX.out.alloc _).alloc _
  have HB1 : Hid (Below B w ((w0.alloc (.cells ([.pointer none, .pointer none, .pointer none, .pointer none, .pointer none, .pointer none, .pointer none, .pointer none, .pointer none, .pointer none, .pointer none, .pointer none, .pointer none, .pointer none, .pointer none, .pointer none, .pointer none, .pointer none, .pointer none, .pointer none, .pointer none].set s.height (.pointer (some ⟨s.gh, 0, none⟩))).toArray 160)).alloc (.cells ([.pointer none, .pointer none, .pointer none, .pointer none, .pointer none, .pointer none, .pointer none, .pointer none, .pointer none, .pointer none, .pointer none, .pointer none, .pointer none, .pointer none, .pointer none, .pointer none, .pointer none, .pointer none, .pointer none, .pointer none, .pointer none].set s.height (.pointer none)).toArray 160))) := by
    have hB0 : B ≤ w0.heap.size := Nat.le_trans HH.out HBL.out.size
    exact (HBL.out.alloc hB0 _).alloc (by rw [World.size_alloc]; omega) _
  have HG1 : Hid (gx + 1 = w0.heap.size ∧ gx = w.heap.size) := ⟨by have := HSZ.out; have := HGX.out; omega, HGX.out.symm⟩
  have HZ1 : Hid (w0.heap.size + 2 = ((w0.alloc (.cells ([.pointer none, .pointer none, .pointer none, .pointer none, .pointer none, .pointer none, .pointer none, .pointer none, .pointer none, .pointer none, .pointer none, .pointer none, .pointer none, .pointer none, .pointer none, .pointer none, .pointer none, .pointer none, .pointer none, .pointer none, .pointer none].set s.height (.pointer (some ⟨s.gh, 0, none⟩))).toArray 160)).alloc (.cells ([.pointer none, .pointer none, .pointer none, .pointer none, .pointer none, .pointer none, .pointer none, .pointer none, .pointer none, .pointer none, .pointer none, .pointer none, .pointer none, .pointer none, .pointer none, .pointer none, .pointer none, .pointer none, .pointer none, .pointer none, .pointer none].set s.height (.pointer none)).toArray 160)).heap.size) := by show _ = _; rw [World.size_alloc, World.size_alloc]
  clear hf1 H0 HK0 HD0 HX HBL HSZ z7 z8 y7 y8 Z7 Z8 hgl c1
  generalize ((w0.alloc (.cells ([.pointer none, .pointer none, .pointer none, .pointer none, .pointer none, .pointer none, .pointer none, .pointer none, .pointer none, .pointer none, .pointer none, .pointer none, .pointer none, .pointer none, .pointer none, .pointer none, .pointer none, .pointer none, .pointer none, .pointer none, .pointer none].set s.height (.pointer (some ⟨s.gh, 0, none⟩))).toArray 160)).alloc (.cells ([.pointer none, .pointer none, .pointer none, .pointer none, .pointer none, .pointer none, .pointer none, .pointer none, .pointer none, .pointer none, .pointer none, .pointer none, .pointer none, .pointer none, .pointer none, .pointer none, .pointer none, .pointer none, .pointer none, .pointer none, .pointer none].set s.height (.pointer none)).toArray 160)) = w1 at *
  generalize w0.heap.size = b7 at *
  have HW1 : Hid (PutW g B s e A D nk nd cd gx b7 ver w w1) := ⟨HS1.out, HK1.out, HD1.out, HX1.out, HB1.out, by have := HZ1.out; omega⟩
  clear HS1 HK1 HD1 HX1 HB1 HZ1
  rw [HGX.out]
  have e21 : ((List.replicate 21 (Value.pointer none)).set s.height (.pointer (some ⟨s.gh, 0, none⟩))).length = 21 ∧ ((List.replicate 21 (Value.pointer none)).set s.height (Value.pointer none)).length = 21 := by simp
  have hst : Hid (∀ l, s.height ≤ l → l ≤ s.height → ∃ p j, LvP s e.k e.v l ((List.replicate 21 (Value.pointer none)).set s.height (.pointer (some ⟨s.gh, 0, none⟩))) ((List.replicate 21 (Value.pointer none)).set s.height (Value.pointer none)) p j) := by
    intro l h1 h2
    obtain rfl : l = s.height := by omega
    refine ⟨0, s.ns.length, ⟨?_, ?_, ⟨⟨by omega, Nat.le_refl _, fun q d _ _ hd => OK.out.eff d (List.mem_of_getElem? hd), fun d hd => by have := (List.getElem?_eq_some_iff.1 hd).1; omega⟩, by omega, .inl rfl, s.pos_le _ _⟩, fun d hd => by have := (List.getElem?_eq_some_iff.1 hd).1; omega⟩⟩
    · rw [List.getElem?_set_self (by simpa using hH21), plcP_zero]
    · rw [List.getElem?_set_self (by simpa using hH21), ndP_none (List.getElem?_eq_none (Nat.le_refl _))]
  have hup : Hid (∀ l, s.height < l → l < 21 → ((List.replicate 21 (Value.pointer none)).set s.height (.pointer (some ⟨s.gh, 0, none⟩)))[l]? = some (.pointer none)) := by
    intro l h1 h2
    rw [List.getElem?_set_ne (by omega), List.getElem?_replicate, if_pos h2]
  have E21 := Lib.hid e21
  clear e21
  generalize (List.replicate 21 (Value.pointer none)).set s.height (.pointer (some ⟨s.gh, 0, none⟩)) = P0 at *
  generalize (List.replicate 21 (Value.pointer none)).set s.height (Value.pointer none) = N0 at *
  go_loopg [9] s.height (fun q v9 wr => ∃ (P N : List Value), v9 = .int .i64 ((q : Int) - 1) ∧ q ≤ s.height ∧ Hid (Blk wr b7 160 P) ∧ Hid (Blk wr (b7 + 1) 160 N) ∧ Hid (P.length = 21 ∧ N.length = 21) ∧
    Hid (∀ l, q ≤ l → l ≤ s.height → ∃ p j, LvP s e.k e.v l P N p j) ∧ Hid (∀ l, s.height < l → l < 21 → P[l]? = some (.pointer none)) ∧ Hid (PutW g B s e A D nk nd cd gx b7 ver w wr))
  case atStart => exact ⟨P0, N0, rfl, Nat.le_refl _, HP1.out, HN1.out, E21.out, hst.out, hup.out, HW1.out⟩
  case round =>
    obtain ⟨P, N, rfl, hqh, hP, hN, hPN, hLv, hUp, hW⟩ := hrel
    clear HP1 HN1 HW1 hst hup E21
    cases gk with
    | zero =>
      have e0 : (((0 : Nat) : Int) - 1) = (-1 : Int) := rfl
      rw [e0]
      clear e0
      have hhit : Hid (s.hit e.k e.v = false) := by
        obtain ⟨p, j, hl⟩ := hLv.out 0 (Nat.le_refl _) (Nat.zero_le _)
        have hpj := nx_zero HF.out hl.lev.nx
        have h1 := hl.lev.lo
        have h2 := hl.lev.hi
        cases hd : s.ns[s.pos e.k e.v]? with
        | none => exact hit_none hd
        | some d =>
          have := hl.far d (by rw [show j = s.pos e.k e.v from by omega]; exact hd)
          show s.hit e.k e.v = false
          rw [hit_of hd, this]; rfl
      go_wp2_with fail
      refine (randomHeight_skl g 119 s.rn s.rc s.turn _ _ _ _ s.ra s.rs wr hW.out.st.list hW.out.st.rand (fun b o eb => (ran_five OK.out eb).1) OK.out.rn1 OK.out.rn2 (by omega)).mono ?_
      rintro E w2 ⟨h, turn', rfl, hx1, hx20, htt, hb2, hf2⟩
      have HOK2 : Hid (SkOk g B { s with turn := turn' }) := ok_turn OK.out (by omega)
      have HS2 : Hid (SkSt w2 g { s with turn := turn' }) := st_turn hW.out.st OK.out hf2 hb2
      have HG0 : Hid (g < w.heap.size) := HBB.out g (by simp [blksOf])
      have HP2 : Hid (Blk w2 b7 160 P) := hP.out.frm hf2 (by have := HG0.out; have := HG1.out; simp; omega)
      have HN2 : Hid (Blk w2 (b7 + 1) 160 N) := hN.out.frm hf2 (by have := HG0.out; have := HG1.out; simp; omega)
      have HK2 : Hid (Sl w2 A nk (nums .u8 (keyB e.k e.v))) := hW.out.key.frm hf2 (fun b o eb => by have := HA.out b o eb; unfold blksOf at this; simp only [List.mem_cons, not_or] at this; simpa using this.1)
      have HD2 : Hid (Sl w2 D nd (nums .u8 e.d)) := hW.out.dat.frm hf2 (fun b o eb => by have := HDD.out b o eb; unfold blksOf at this; simp only [List.mem_cons, not_or] at this; simpa using this.1)
      have HX2 : Hid (Blk w2 gx 72 [.int .u8 e.m, .int .u8 e.u, .int .u64 e.x, .slice D nd cd, .int .u64 ver]) := hW.out.vs.frm hf2 (by have := HG0.out; have := HG1.out; simp; omega)
      have HB2 : Hid (Below B w w2) := hW.out.bel.trans (hf2.below (Nat.le_trans HH.out hW.out.bel.size) (fun i hi => by rw [List.mem_singleton] at hi; subst hi; exact OK.out.base _ (by simp)))
      have HZ2 : Hid (b7 + 2 ≤ w2.heap.size) := Nat.le_trans hW.out.sz hf2.size
      clear hb2 hf2 hP hN hW
      go_wp2_with fail
      have c3 : w2.drew.cell? ⟨g, 3, none⟩ = some (.pointer (some ⟨s.ga, 0, none⟩)) := HS2.out.list.at_ rfl
      have v0 : w2.drew.cell? ⟨gx, 0, none⟩ = some (.int .u8 e.m) := HX2.out.at_ rfl
      have v1 : w2.drew.cell? ⟨gx, 1, none⟩ = some (.int .u8 e.u) := HX2.out.at_ rfl
      have v2 : w2.drew.cell? ⟨gx, 2, none⟩ = some (.int .u64 e.x) := HX2.out.at_ rfl
      have v3 : w2.drew.cell? ⟨gx, 3, none⟩ = some (.slice D nd cd) := HX2.out.at_ rfl
      have v4 : w2.drew.cell? ⟨gx, 4, none⟩ = some (.int .u64 ver) := HX2.out.at_ rfl
      go_still_tail 7, (by kernel_rfl)
      change wpList _ _ _ _ _ w2.drew
      replace HS2 : Hid (SkSt w2.drew g { s with turn := turn' }) := HS2.out.drewN 1
      replace HP2 : Hid (Blk w2.drew b7 160 P) := HP2.out
      replace HN2 : Hid (Blk w2.drew (b7 + 1) 160 N) := HN2.out
      replace HK2 : Hid (Sl w2.drew A nk (nums .u8 (keyB e.k e.v))) := HK2.out
      replace HD2 : Hid (Sl w2.drew D nd (nums .u8 e.d)) := HD2.out
      replace HB2 : Hid (Below B w w2.drew) := HB2.out.drew
      replace HZ2 : Hid (b7 + 2 ≤ w2.drew.heap.size) := HZ2.out
      clear c3 v0 v1 v2 v3 v4 HX2
      generalize w2.drew = w3 at *
      go_wp2_with fail
      have hko := OK.out.k
      have hno := OK.out.n0
      refine (newNode_skl s.ga s.gb s.gm s.n s.k nk ck nd cd h A D e.m e.u e.x ver (keyB e.k e.v) e.d s.cs s.m w3 HS2.out.arn HK2.out (fun b o eb => by have := HA.out b o eb; unfold blksOf at this; simp only [List.mem_cons, not_or] at this; exact ⟨this.2.1, this.2.2.1, this.2.2.2.1⟩) HD2.out (fun b o eb => by have := HDD.out b o eb; unfold blksOf at this; simp only [List.mem_cons, not_or] at this; exact ⟨this.2.1, this.2.2.1, this.2.2.2.1⟩) hno (by omega) (by omega) hnk hnd hx1 hx20 HE.out.x0 HE.out.x1).mono ?_
      rintro E w4 ⟨a, b, rfl, hae, ha4, hb4, hgb, hf4⟩
      obtain ⟨N1, hN1⟩ : ∃ N1, N1 = s.n + (23 + 4 * h) := ⟨_, rfl⟩
      obtain ⟨N2, hN2⟩ : ∃ N2, N2 = N1 + nk := ⟨_, rfl⟩
      obtain ⟨N3, hN3⟩ : ∃ N3, N3 = N2 + (valB e.m e.u e.x e.d).length := ⟨_, rfl⟩
      obtain ⟨x, hxx⟩ : ∃ x : Nd, x = ⟨a, b, N1, N2, h, 0, e⟩ := ⟨_, rfl⟩
      rw [← hN1, ← hN2, ← hN3] at ha4
      rw [← hN1, ← hN2] at hb4
      have hvl := valB_len e.m e.u e.x e.d
      have hvt := vint_len 9 e.x
      have hxe : x.e = e := by rw [hxx]
      have hxb : x.blk = b := by rw [hxx]
      have hxa : x.at_ = a := by rw [hxx]
      have hxkl : x.key.length = nk := by rw [x.key_len, hxe]; exact HN.out.1
      have hxvl : x.val.length = (valB e.m e.u e.x e.d).length := by rw [← hxe]; rfl
      have hdl2 := HN.out.2
      have hcl := HS2.out.arn.len
      replace hcl : s.cs.length = 1048576 := hcl
      have hcs1 : (splice s.cs N1 (nums .u8 (keyB e.k e.v))).length = s.cs.length := splice_len _ _ _ (by rw [nums_length, keyB_len]; have := HN.out.1; omega)
      have HOKl : Hid (∀ l hm, l ≤ hm → s.height ≤ hm → hm ≤ 20 → SkOk g B (s.put turn' N3 (splice (splice s.cs N1 (nums .u8 (keyB e.k e.v))) N2 (nums .u8 (valB e.m e.u e.x e.d))) hm x l)) := by
        intro l hm h1 h2 h3
        refine ok_ins OK.out x l N3 turn' hm _ (by rw [hxe]; exact hhit.out) (by rw [hxe]; exact HE.out) (by rw [hxb]; intro hb; have := HBB.out b hb; have := HB2.out.size; omega) (by rw [hxb]; have := HB2.out.size; have := HH.out; omega) (fun b' o eb => by rw [hxb]; have := HLR.out b' o eb; have := HB2.out.size; omega)
          (by rw [hxa]; omega) (by rw [hxa]; omega) (by omega) ?_ ?_ ?_ ?_ ?_ (by omega) h2 h1 h3
        · rw [take_splice0 _ _ _ _ (by omega) (by rw [hcs1]; omega), take_splice0 _ _ _ _ (by omega) (by omega)]
        · rw [hxkl]; show x.ko + nk ≤ N3; rw [hxx]; show N1 + nk ≤ N3; omega
        · rw [hxkl]
          have e1 := part_of_take (cs := splice s.cs N1 (nums .u8 (keyB e.k e.v))) (ds := splice (splice s.cs N1 (nums .u8 (keyB e.k e.v))) N2 (nums .u8 (valB e.m e.u e.x e.d))) (n0 := N2) (o := N1) (k := nk) (take_splice0 _ _ _ _ (Nat.le_refl _) (by rw [hcs1]; omega)) (by omega)
          have e2 := part_splice s.cs (nums .u8 (keyB e.k e.v)) N1 (by omega)
          rw [nums_length, keyB_len, HN.out.1] at e2
          have e3 : x.ko = N1 := by rw [hxx]
          have e4 : x.key = keyB e.k e.v := by unfold Nd.key; rw [hxe]
          rw [e3, e4, e1, e2]
        · rw [hxvl]; have e3 : x.vo = N2 := by rw [hxx]
          rw [e3]; omega
        · have e3 : x.vo = N2 := by rw [hxx]
          have e4 : x.val = valB e.m e.u e.x e.d := by rw [← hxe]; rfl
          have e2 := part_splice (splice s.cs N1 (nums .u8 (keyB e.k e.v))) (nums .u8 (valB e.m e.u e.x e.d)) N2 (by rw [hcs1]; omega)
          rw [nums_length] at e2
          rw [e3, e4]
          exact e2
      have HS4 : Hid (SkSt w4 g (s.put turn' N3 (splice (splice s.cs N1 (nums .u8 (keyB e.k e.v))) N2 (nums .u8 (valB e.m e.u e.x e.d))) s.height x 0)) := by
        have hx0 : Blk w4 x.blk 130 ((x.upto 0).cells (s.ns.drop (s.pos x.e.k x.e.v))) := by
          rw [nodeC_cells x _ (by rw [x.key_len]), hxb, hxvl, hxe, hxa]
          rw [HN.out.1]
          have e3 : x.vo = N2 := by rw [hxx]
          have e5 : x.ko = N1 := by rw [hxx]
          have e6 : x.ht = h := by rw [hxx]
          rw [e3, e5, e6]
          exact hb4
        have h4 := st_new (i := s.pos x.e.k x.e.v) HS2.out HOK2.out (s.pos_le _ _) hf4 ha4 hx0
        unfold SkA.put
        rw [hxa, hxb]
        exact h4
      have HP4 : Hid (Blk w4 b7 160 P) := HP2.out.frm hf4 (by have := HBB.out; have h1 := HBB.out s.ga (by simp [blksOf]); have h2 := HBB.out s.gb (by simp [blksOf]); have h3 := HBB.out s.gm (by simp [blksOf]); have := HG1.out; simp; omega)
      have HN4 : Hid (Blk w4 (b7 + 1) 160 N) := HN2.out.frm hf4 (by have := HBB.out; have h1 := HBB.out s.ga (by simp [blksOf]); have h2 := HBB.out s.gb (by simp [blksOf]); have h3 := HBB.out s.gm (by simp [blksOf]); have := HG1.out; simp; omega)
      have HK4 : Hid (Sl w4 A nk (nums .u8 (keyB e.k e.v))) := HK2.out.frm hf4 (fun b o eb => by have := HA.out b o eb; unfold blksOf at this; simp only [List.mem_cons, not_or] at this; simp; exact ⟨this.2.1, this.2.2.1, this.2.2.2.1⟩)
      have HB4 : Hid (Below B w w4) := HB2.out.trans (hf4.below (Nat.le_trans HH.out HB2.out.size) (fun i hi => by simp only [List.mem_cons, List.not_mem_nil, or_false] at hi; rcases hi with rfl | rfl | rfl <;> exact OK.out.base _ (by simp)))
      have HZ4 : Hid (b7 + 2 ≤ w4.heap.size) := Nat.le_trans HZ2.out hf4.size
      have hxb4 : Hid (w.heap.size ≤ x.blk ∧ b7 + 2 ≤ x.blk ∧ x.blk = b ∧ x.e = e ∧ x.at_ = a ∧ N3 ≤ s.n + 2200 ∧ turn' ≤ N3) := by
        have h1 := HB2.out.size
        have h2 := HZ2.out
        refine ⟨by omega, by omega, hxb, hxe, hxa, by omega, by omega⟩
      rw [← hxb]
      clear hae ha4 hb4 hgb hf4 HS2 HP2 HN2 HK2 HD2 HB2 HZ2 HOK2 hN1 hN2 hN3 hxx hvl hvt hxe hxb hxa hxkl hxvl hdl2 hcl hcs1 hko hno htt
      generalize splice (splice s.cs N1 (nums .u8 (keyB e.k e.v))) N2 (nums .u8 (valB e.m e.u e.x e.d)) = cs' at *
      go_wp2_with fail
      refine (getHeight_skl g s.height w4 (HS4.out.list.at_ rfl)).mono ?_
      rintro E w5 ⟨rfl, rfl⟩
      go_wp2_with fail
      obtain ⟨ga1, hga1⟩ : ∃ q, q = s.pos e.k e.v := ⟨_, rfl⟩
      go_loopg [6] 1 (fun q v6 wr => v6 = .int .i32 (s.height : Int) ∧ Hid (wr = w4))
      case atStart => exact ⟨rfl, rfl⟩
      case round =>
        obtain ⟨rfl, hwr⟩ := hrel
        have hcut : ∃ hm wz, Hid (s.height ≤ hm ∧ h ≤ hm ∧ hm ≤ 20) ∧ Hid (PutY g B (s.put turn' N3 cs' hm x 0) e.k e.v A nk b7 w wz) ∧ Hid (Blk wz b7 160 P) ∧ Hid (Blk wz (b7 + 1) 160 N) ∧
            ((s.height < h ∧ wz = wr.setCell ⟨g, 0, none⟩ (.int .i32 h)) ∨ (h ≤ s.height ∧ wz = wr)) := by
          have hwr' := hwr.out
          subst hwr'
          by_cases hgt : s.height < h
          · refine ⟨h, _, ⟨by omega, by omega, hx20⟩, ?_, ?_, ?_, .inl ⟨hgt, rfl⟩⟩
            · have hf := Frm.set wr ⟨g, 0, none⟩ (.int .i32 h)
              have hbl := HBB.out g (by simp [blksOf])
              refine ⟨st_height HS4.out (HOKl.out 0 s.height (Nat.zero_le _) (Nat.le_refl _) hh2), HK4.out.frm hf (fun b o eb => by have := HA.out b o eb; unfold blksOf at this; simp only [List.mem_cons, not_or] at this; simpa using this.1), HB4.out.trans (hf.below (Nat.le_trans HH.out HB4.out.size) (fun i hi => by rw [List.mem_singleton] at hi; subst hi; exact OK.out.base _ (by simp))), Nat.le_trans HZ4.out hf.size⟩
            · exact HP4.out.far (p := ⟨g, 0, none⟩) (by have := HBB.out g (by simp [blksOf]); have := HG1.out; simp; omega) _
            · exact HN4.out.far (p := ⟨g, 0, none⟩) (by have := HBB.out g (by simp [blksOf]); have := HG1.out; simp; omega) _
          · exact ⟨s.height, wr, ⟨Nat.le_refl _, by omega, hh2⟩, ⟨HS4.out, HK4.out, HB4.out, HZ4.out⟩, HP4.out, HN4.out, .inr ⟨by omega, rfl⟩⟩
        obtain ⟨hm, wz, hhm, HY5, HP5, HN5, hway⟩ := hcut
        have c0 : wr.cell? ⟨g, 0, none⟩ = some (.int .i32 s.height) := by rw [hwr.out]; exact HS4.out.list.at_ rfl
        have f0 : wr.frozen? ⟨g, 0, none⟩ = false := by rw [hwr.out]; exact HS4.out.list.frozen 0
        rcases hway with ⟨hgt, hwz⟩ | ⟨hgt, hwz⟩
        · skip
          have hgi : ((s.height : Int) < (h : Int)) = (s.height < h) := by simp
          clear hgi
          have HWZ := Lib.hid hwz
          clear hwz
          go_wp2_with fail
          rw [← HWZ.out]
          clear HS4 HK4 HB4 HZ4 HP4 HN4 HWZ hwr c0 f0 hgt
          have hLv0 : Hid (∀ l', 0 ≤ l' → l' ≤ s.height → ∃ p j, LvP s e.k e.v l' P N p j) := hLv.out
          have hUp0 : Hid (∀ l', s.height < l' → l' < 21 → 0 ≤ l' → P[l']? = some (.pointer none)) := fun l' h1 h2 _ => hUp.out l' h1 h2
          have hPN0 := hPN
          clear hLv hUp hPN
          go_loopg [12] h (fun q v12 wr => ∃ (l : Nat) (P N : List Value), v12 = .int .i64 l ∧ l ≤ h ∧ Hid (l + q = h) ∧ Hid (Blk wr b7 160 P) ∧ Hid (Blk wr (b7 + 1) 160 N) ∧ Hid (P.length = 21 ∧ N.length = 21) ∧
            Hid (∀ l', l ≤ l' → l' ≤ s.height → ∃ p j, LvP s e.k e.v l' P N p j) ∧ Hid (∀ l', s.height < l' → l' < 21 → l ≤ l' → P[l']? = some (.pointer none)) ∧ Hid (PutY g B (s.put turn' N3 cs' hm x l) e.k e.v A nk b7 w wr))
          case atStart => exact ⟨0, P, N, rfl, by omega, by simp [Hid], HP5.out, HN5.out, hPN0.out, hLv0.out, hUp0.out, HY5.out⟩
          case round =>
            clear HP5 HN5 HY5 hLv0 hUp0 hPN0
            obtain ⟨l, P, N, rfl, hlh, hq, hP, hN, hPN, hLv, hUp, hY⟩ := hrel
            by_cases hlt : l < h
            · obtain ⟨gkO, rfl⟩ : ∃ q, gk = q + 1 := ⟨gk - 1, by have := hq.out; omega⟩
              have hl20 : l < 20 := by omega
              have hl21 : (l : Int) < 21 := by omega
              have hl20i : (l : Int) < 20 := by omega
              have hlti : (l : Int) < (h : Int) := by omega
              go_wp2_with fail
              refine wp_loop_rounds 1 ?_
              rw [rounds_succ]
              by_cases hlH : l ≤ s.height
              case' pos =>
                obtain ⟨p, j, hl⟩ := hLv.out l (Nat.le_refl _) hlH
                obtain ⟨an, han⟩ := ndP_ptr s j
                have c7 : wr.cell? ⟨b7, l, none⟩ = some (.pointer (some ⟨plcB s p, 0, none⟩)) := hP.out.at_ hl.pp
                have c8 : wr.cell? ⟨b7 + 1, l, none⟩ = some (.pointer an) := hN.out.at_ (by rw [← han]; exact hl.np)
                have HLev := Lib.hid hl.lev
                have HAN := Lib.hid han
                have HP1 := Lib.hid hP.out
                have HN1 := Lib.hid hN.out
                have HPN1 := Lib.hid hPN.out
                have HLv1 : Hid (∀ l', l + 1 ≤ l' → l' ≤ s.height → ∃ p j, LvP s e.k e.v l' P N p j) := fun l' h1 h2 => hLv.out l' (by omega) h2
                have HUp1 : Hid (∀ l', s.height < l' → l' < 21 → l + 1 ≤ l' → P[l']? = some (.pointer none)) := fun l' h1 h2 h3 => hUp.out l' h1 h2 (by omega)
                have HY1 := Lib.hid hY.out
                clear hl han hP hN hPN hLv hUp hY
                go_wp2_with fail
              case' neg =>
                have hl1 : (1 : Int) < (l : Int) := by omega
                have c7 : wr.cell? ⟨b7, l, none⟩ = some (.pointer none) := hP.out.at_ (hUp.out l (by omega) (by omega) (Nat.le_refl _))
                have c1 : wr.cell? ⟨g, 1, none⟩ = some (.pointer (some ⟨s.gh, 0, none⟩)) := hY.out.st.list.at_ rfl
                go_wp2_with fail
                refine (assertTrue_any _).mono ?_
                rintro E w1 ⟨rfl, rfl⟩
                go_wp2_with fail
                have hokl := HOKl.out l hm (by have := hhm.out; omega) hhm.out.1 hhm.out.2.2
                have heff : ∀ d ∈ (s.put turn' N3 cs' hm x l).ns, d.eff ≤ l := by
                  intro d hd
                  rcases mem_insL hd with rfl | hd
                  · exact Nat.le_refl _
                  · have := OK.out.eff d hd; omega
                have HEff := Lib.hid (And.intro hokl heff)
                clear hokl heff
                have hp0 : Value.pointer (some ⟨s.gh, 0, none⟩) = plcP (s.put turn' N3 cs' hm x l) 0 := by rw [plcP_zero]; rfl
                rw [hp0]
                refine (findSplice_skl g B _ A nk ck 0 l e.k e.v wr hY.out.st HEff.out.1 hY.out.key hck HE.out.kbyt hnk hl20 (.inl rfl) (Nat.zero_le _)).mono ?_
                rintro E w1 ⟨hd1, hres⟩
                have hE : E = .returned (.tuple #[.pointer (some ⟨s.gh, 0, none⟩), .pointer none]) := by
                  rcases hres with ⟨d, hd, hv, _⟩ | ⟨p, j, hnx, hp, hv, hj, hf, rfl⟩
                  · have := HEff.out.2 d (List.mem_of_getElem? hd); omega
                  · have e1 : p = 0 := by
                      rcases hv with h0 | ⟨d, hd, hs⟩
                      · exact h0
                      · have := HEff.out.2 d (List.mem_of_getElem? hd); omega
                    have e2 : (s.put turn' N3 cs' hm x l).ns[j]? = none := by
                      cases hj2 : (s.put turn' N3 cs' hm x l).ns[j]? with
                      | none => rfl
                      | some d => have h1 := hnx.2.2.2 d hj2; have h2 := HEff.out.2 d (List.mem_of_getElem? hj2); omega
                    rw [e1, ndP_none e2, plcP_zero]; rfl
                subst hE
                rw [← hp0]
                have HPa : Hid (Blk w1 b7 160 P) := by obtain ⟨c, rfl⟩ := hd1; exact hP.out
                have HNa : Hid (Blk w1 (b7 + 1) 160 N) := by obtain ⟨c, rfl⟩ := hd1; exact hN.out
                have HYa : Hid (PutY g B (s.put turn' N3 cs' hm x l) e.k e.v A nk b7 w w1) := hY.out.drew hd1
                have c7a : w1.cell? ⟨b7, l, none⟩ = some (.pointer none) := HPa.out.at_ (hUp.out l (by omega) (by omega) (Nat.le_refl _))
                obtain ⟨y8, hy8⟩ : ∃ y, w1.cell? ⟨b7 + 1, l, none⟩ = some y := ⟨N[l]'(by have := hPN.out; omega), HNa.out.at_ (List.getElem?_eq_getElem _)⟩
                have fz7 := HPa.out.frozen l
                have fz8 := HNa.out.frozen l
                clear hd1 hres hp0 c7 c1 hP hN hY
                go_wp2_with fail
                obtain ⟨p, hp⟩ : ∃ p, p = 0 := ⟨0, rfl⟩
                obtain ⟨j, hj⟩ : ∃ j, j = s.ns.length := ⟨_, rfl⟩
                obtain ⟨an, hanx⟩ : ∃ an : Option Addr, an = none := ⟨none, rfl⟩
                have HAN : Hid (ndP s j = .pointer an) := by rw [hj, hanx]; exact ndP_none (List.getElem?_eq_none (Nat.le_refl _))
                have HLev : Hid (Lev s (s.pos e.k e.v) l p j) := by
                  rw [hp, hj]
                  exact ⟨⟨Nat.zero_le _, Nat.le_refl _, fun q d _ _ hd => by have := OK.out.eff d (List.mem_of_getElem? hd); omega, fun d hd => by have := (List.getElem?_eq_some_iff.1 hd).1; omega⟩, Nat.zero_le _, .inl rfl, s.pos_le _ _⟩
                have hpb : plcB s p = s.gh := by rw [hp]; unfold plcB; rw [if_pos rfl]
                have HP1 : Hid (Blk ((w1.setCell ⟨b7, l, none⟩ (.pointer (some ⟨s.gh, 0, none⟩))).setCell ⟨b7 + 1, l, none⟩ (.pointer none)) b7 160 (P.set l (.pointer (some ⟨s.gh, 0, none⟩)))) := (HPa.out.set_ l _).far (by simp) _
                have HN1 : Hid (Blk ((w1.setCell ⟨b7, l, none⟩ (.pointer (some ⟨s.gh, 0, none⟩))).setCell ⟨b7 + 1, l, none⟩ (.pointer none)) (b7 + 1) 160 (N.set l (.pointer none))) := (HNa.out.far (p := ⟨b7, l, none⟩) (by simp) (.pointer (some ⟨s.gh, 0, none⟩))).set_ l _
                have HY1 : Hid (PutY g B (s.put turn' N3 cs' hm x l) e.k e.v A nk b7 w ((w1.setCell ⟨b7, l, none⟩ (.pointer (some ⟨s.gh, 0, none⟩))).setCell ⟨b7 + 1, l, none⟩ (.pointer none))) := by
                  refine HYa.out.frm HEff.out.1 (l := [b7, b7 + 1]) (((Frm.refl _ w1).andSet _ _ (.inl (by simp))).andSet _ _ (.inl (by simp))) (fun b hb => ?_) (Nat.le_trans HH.out HYa.out.bel.size)
                  have hb' : b = b7 ∨ b = b7 + 1 := by simpa using hb
                  have hg1 := HG1.out
                  have hx4 := hxb4.out
                  refine ⟨fun hb2 => ?_, fun o eo => ?_, fun o eo => ?_, by have := HH.out; omega⟩
                  · have hb3 : b ∈ blksOf g s ∨ b = x.blk := by
                      unfold blksOf at hb2 ⊢
                      simp only [List.mem_cons] at hb2 ⊢
                      rcases hb2 with h | h | h | h | h | h
                      · exact .inl (.inl h)
                      · exact .inl (.inr (.inl h))
                      · exact .inl (.inr (.inr (.inl h)))
                      · exact .inl (.inr (.inr (.inr (.inl h))))
                      · exact .inl (.inr (.inr (.inr (.inr (.inl h)))))
                      · obtain ⟨d, hd, rfl⟩ := List.mem_map.1 h
                        rcases mem_insL hd with rfl | hd
                        · exact .inr rfl
                        · exact .inl (.inr (.inr (.inr (.inr (.inr (List.mem_map_of_mem hd))))))
                    rcases hb3 with hb3 | hb3
                    · have := HBB.out b hb3; omega
                    · omega
                  · have := HLR.out b o eo; omega
                  · rcases Nat.eq_zero_or_pos nk with h0 | h0
                    · exact h0
                    · have := HLK.out b o eo h0; omega
                have HPN1 : Hid ((P.set l (.pointer (some ⟨s.gh, 0, none⟩))).length = 21 ∧ (N.set l (.pointer none)).length = 21) := by have := hPN.out; simp [Hid]; exact this
                have HLv1 : Hid (∀ l', l + 1 ≤ l' → l' ≤ s.height → ∃ p' j', LvP s e.k e.v l' (P.set l (.pointer (some ⟨s.gh, 0, none⟩))) (N.set l (.pointer none)) p' j') := fun l' h1 h2 => by omega
                have HUp1 : Hid (∀ l', s.height < l' → l' < 21 → l + 1 ≤ l' → (P.set l (.pointer (some ⟨s.gh, 0, none⟩)))[l']? = some (.pointer none)) := fun l' h1 h2 h3 => by rw [List.getElem?_set_ne (by omega)]; exact hUp.out l' h1 h2 (by omega)
                clear HPa HNa HYa c7a hy8 fz7 fz8 hp hj hPN hLv hUp HEff
                have hannone : an = none := hanx
                generalize (w1.setCell ⟨b7, l, none⟩ (.pointer (some ⟨s.gh, 0, none⟩))).setCell ⟨b7 + 1, l, none⟩ (.pointer none) = wq at *
                have c7q : wq.cell? ⟨b7, l, none⟩ = some (.pointer (some ⟨plcB s p, 0, none⟩)) := by
                  rw [hpb]
                  exact HP1.out.at_ (List.getElem?_set_self (by have := HPN1.out.1; rw [List.length_set] at this; omega))
                have c8q : wq.cell? ⟨b7 + 1, l, none⟩ = some (.pointer an) := by
                  rw [hannone]
                  exact HN1.out.at_ (List.getElem?_set_self (by have := HPN1.out.2; rw [List.length_set] at this; omega))
                have hpe : ∀ n, (binOp .neq 116 (.pointer (some ⟨plcB s p, 0, none⟩)) (.pointer an)).run Try.prog (wq.drewN n) = .ok (.bool true) (wq.drewN n) := fun n => by
                  rw [hannone]
                  simpa using run_neq_pointer_nil (P := Try.prog) (wq.drewN n) 116 (some ⟨plcB s p, 0, none⟩) (by kernel_rfl)
                clear hannone hanx hpb
                go_quiet ((go_at_call 80; exact quiet_same (assertTrue_any _)))
                have c7 : (wq.drewN nq).cell? ⟨b7, l, none⟩ = some (.pointer (some ⟨plcB s p, 0, none⟩)) := c7q
                have c8 : (wq.drewN nq).cell? ⟨b7 + 1, l, none⟩ = some (.pointer an) := c8q
                replace HP1 : Hid (Blk (wq.drewN nq) b7 160 _) := HP1.out
                replace HN1 : Hid (Blk (wq.drewN nq) (b7 + 1) 160 _) := HN1.out
                replace HY1 := Lib.hid (HY1.out.drewN nq)
                clear c7q c8q hpe
                generalize wq.drewN nq = wr at *
                go_wp2_with fail
              all_goals
                have hps : s.pos x.e.k x.e.v = s.pos e.k e.v := by rw [hxb4.out.2.2.2.1]
                have HLevX : Hid (Lev s (s.pos x.e.k x.e.v) l p j) := by rw [hps]; exact HLev.out
                clear hps
                obtain ⟨off, hoffe⟩ : ∃ off : Nat, off = nextAt (s.ns.drop (s.pos x.e.k x.e.v)) l := ⟨_, rfl⟩
                have HOE := Lib.hid hoffe
                clear hoffe
                have hoff : Hid (∀ n, Calls Try.prog 99 #[.pointer (some ⟨s.ga, 0, none⟩), .pointer an] (wr.drewN n) fun E w'' => E = .returned (.int .u32 (off : Int)) ∧ wr.drewN n = w'') := fun n => by
                  have hnx := HLevX.out.next (s.pos_le _ _)
                  cases hj : s.ns[j]? with
                  | none =>
                    have hth := HAN.out
                    rw [ndP_none hj] at hth
                    injection hth with hth
                    rw [← hth, HOE.out, hnx, hj]
                    exact getNodeOffset_nil _ _
                  | some d =>
                    have hth := HAN.out
                    rw [ndP_some hj] at hth
                    injection hth with hth
                    rw [← hth, HOE.out, hnx, hj]
                    have hnode := (HY1.out.st.drewN n).nodes (j + 1) d (by
                      show (insL s (s.pos x.e.k x.e.v) x l)[j + 1]? = some d
                      rw [insL_hi s _ x l (j + 1) (s.pos_le _ _) (by have := HLevX.out.hi; omega)]
                      exact hj)
                    exact getNodeOffset_some s.ga d.blk d.at_ _ (hnode.at_ (d.cells_at _))
                have c3 : wr.cell? ⟨g, 3, none⟩ = some (.pointer (some ⟨s.ga, 0, none⟩)) := HY1.out.st.list.at_ rfl
                go_quiet ((go_at_call 99; exact quiet_same (hoff.out _)))
                have HP2 := Lib.hid (show Blk (wr.drewN nq) b7 _ _ from HP1.out)
                have HN2 := Lib.hid (show Blk (wr.drewN nq) (b7 + 1) _ _ from HN1.out)
                have HY2 := Lib.hid (HY1.out.drewN nq)
                have C7 : Hid ((wr.drewN nq).cell? ⟨b7, l, none⟩ = some (.pointer (some ⟨plcB s p, 0, none⟩))) := c7
                clear HP1 HN1 HY1 c7 c8 c3 hoff
                generalize wr.drewN nq = wq at *
                have hxi : (s.put turn' N3 cs' hm x l).ns[s.pos x.e.k x.e.v]? = some (x.upto l) := insL_at s _ x l (s.pos_le _ _)
                have hxb0 : Blk wq x.blk 130 ((x.upto l).cells ((s.put turn' N3 cs' hm x l).ns.drop (s.pos x.e.k x.e.v + 1))) := HY2.out.st.nodes _ _ hxi
                have cx := hxb0.at_ ((x.upto l).cells_tow _ l hl20)
                have fx := hxb0.frozen (4 + l)
                have hokl := HOKl.out l hm (by have := hhm.out; omega) hhm.out.1 hhm.out.2.2
                obtain ⟨csP, hbP, hlP, hgP⟩ := st_place HY2.out.st hokl.hcl (i := s.pos x.e.k x.e.v) (x := x) (l := l) rfl rfl (s.pos_le _ _) hl20 HLevX.out
                rw [← HOE.out] at hgP
                have hpx : plcB s p ≠ x.blk := by
                  rcases HLevX.out.vis with h0 | ⟨d, hd, _⟩
                  · subst h0
                    have e1 : plcB s 0 = s.gh := by unfold plcB; rw [if_pos rfl]
                    rw [e1]
                    have := HBB.out s.gh (by simp [blksOf]); have := hxb4.out; omega
                  · by_cases h0 : p = 0
                    · have e1 : plcB s p = s.gh := by unfold plcB; rw [if_pos h0]
                      rw [e1]
                      have := HBB.out s.gh (by simp [blksOf]); have := hxb4.out; omega
                    · have e1 : plcB s p = d.blk := by unfold plcB; rw [if_neg h0, hd]
                      rw [e1]
                      have := HBB.out d.blk (by unfold blksOf; simp only [List.mem_cons]; exact .inr (.inr (.inr (.inr (.inr (List.mem_map_of_mem (List.mem_of_getElem? hd))))))); have := hxb4.out; omega
                have hxg := own_node hokl hxi
                have HXX := Lib.hid (And.intro hxb0 (And.intro hokl (And.intro hpx hxg)))
                have HCP := Lib.hid (And.intro hbP (And.intro hlP hgP))
                clear hxb0 hokl hbP hlP hgP hpx hxg hxi
                go_wp2_with fail
                have HB6 : Hid (Blk (wq.setCell ⟨x.blk, 4 + l, none⟩ (.int .u32 (off : Int))) (plcB s p) 130 csP) := HCP.out.1.far HXX.out.2.2.1 _
                have HX6 : Hid ((wq.setCell ⟨x.blk, 4 + l, none⟩ (.int .u32 (off : Int))).cell? ⟨x.blk, 24, none⟩ = some (.int .u32 (x.at_ : Int))) := (HXX.out.1.set_ (4 + l) _).at_ (by rw [List.getElem?_set_ne (by omega)]; exact (x.upto l).cells_at _)
                have HC6 : Hid ((wq.setCell ⟨x.blk, 4 + l, none⟩ (.int .u32 (off : Int))).cell? ⟨b7, l, none⟩ = some (.pointer (some ⟨plcB s p, 0, none⟩))) := cell_frm C7.out (Frm.set _ _ _) (by have := hxb4.out; simp; omega)
                have HG6 : Hid ((wq.setCell ⟨x.blk, 4 + l, none⟩ (.int .u32 (off : Int))).cell? ⟨g, 3, none⟩ = some (.pointer (some ⟨s.ga, 0, none⟩))) := by
                  have h0 : wq.cell? ⟨g, 3, none⟩ = some (.pointer (some ⟨s.ga, 0, none⟩)) := HY2.out.st.list.at_ rfl
                  exact cell_frm h0 (Frm.set _ _ _) (by have h9 : x.blk ≠ g := HXX.out.2.2.2.1; simpa using h9.symm)
                clear cx fx
                obtain ⟨w5, hw5⟩ : ∃ w5, wq.setCell ⟨x.blk, 4 + l, none⟩ (.int .u32 (off : Int)) = w5 := ⟨_, rfl⟩
                rw [hw5] at HB6 HX6 HC6 HG6 ⊢
                have HW5 := Lib.hid hw5
                clear hw5
                have d7 : w5.drew.cell? ⟨b7, l, none⟩ = some (.pointer (some ⟨plcB s p, 0, none⟩)) := HC6.out
                have d3 : w5.drew.cell? ⟨g, 3, none⟩ = some (.pointer (some ⟨s.ga, 0, none⟩)) := HG6.out
                have d24 : Hid (w5.drew.cell? ⟨x.blk, 24, none⟩ = some (.int .u32 (x.at_ : Int))) := HX6.out
                have hib : (l : Int) < (((Try.prog.arrayLen 160 : Nat)) : Int) := by rw [arr21n]; omega
                have hic : l < 21 := by omega
                refine wp_region_still_tail 11 (by kernel_rfl) (by kernel_rfl) ?_
                simp only [List.take_succ_cons, List.take_zero, List.drop_succ_cons, List.drop_zero]
                repeat still_step
                still_call ((getNodeOffset_some s.ga x.blk (x.at_ : Int) _ d24.out).mono fun _ _ ⟨a, b⟩ => ⟨a, b.symm⟩)
                repeat still_step
                refine wpStill_nil ?_
                change wpList _ _ _ _ _ w5.drew
                go_wp2_with fail
                refine (cas_skl (plcB s p) 130 l (off : Int) (x.at_ : Int) csP w5.drew HB6.out hl20 HCP.out.2.1 HCP.out.2.2).mono ?_
                rintro E w6 ⟨rfl, hw6⟩
                have HW6 := Lib.hid hw6
                clear hw6 d7 d3
                go_wp2
                go_roundg gkO
                case measure => omega
                case rel =>
                  have hfr : Frm [x.blk, plcB s p] wq w6 := by
                    rw [HW6.out, ← HW5.out]
                    exact ((((Frm.refl _ wq).andSet ⟨x.blk, 4 + l, none⟩ _ (.inl (by simp))).drew).andSet ⟨plcB s p, 4 + l, none⟩ _ (.inl (by simp)))
                  have hbp : plcB s p < w.heap.size ∧ B ≤ plcB s p := by
                    rcases bef_walk s OK.out p (by have := HLevX.out.lo; have := s.pos_le x.e.k x.e.v; omega) with ⟨h0, e1, _⟩ | ⟨d, hd, _, _, e1, _⟩
                    · have e2 : plcB s p = s.gh := by unfold plcP at e1; injection e1 with e1; injection e1 with e1; injection e1
                      rw [e2]; exact ⟨HBB.out _ (by simp [blksOf]), OK.out.base _ (by simp)⟩
                    · have e2 : plcB s p = d.blk := by unfold plcP at e1; injection e1 with e1; injection e1 with e1; injection e1
                      have hm : d.blk ∈ blksOf g s := by unfold blksOf; simp only [List.mem_cons]; exact .inr (.inr (.inr (.inr (.inr (List.mem_map_of_mem (List.mem_of_getElem? hd))))))
                      rw [e2]; exact ⟨HBB.out _ hm, OK.out.base _ hm⟩
                  have hx4 := hxb4.out
                  have hg1 := HG1.out
                  have hHH := HH.out
                  have hst := st_step (t := s.put turn' N3 cs' hm x l) HY2.out.st HXX.out.2.1 rfl rfl (s.pos_le _ _) hl20 HLevX.out
                  rw [← HOE.out, HW5.out] at hst
                  have hst6 : SkSt w6 g (s.put turn' N3 cs' hm x (l + 1)) := by
                    rw [HW6.out]
                    exact hst.drewN 1
                  refine ⟨l + 1, _, _, by go_num, by omega, by have := hq.out; show _ = _; omega, HP2.out.frm hfr (by simp; omega), HN2.out.frm hfr (by simp; omega), HPN1.out, HLv1.out, HUp1.out, hst6, HY2.out.key.frm0 hfr (fun b o eo hp0 _ => ?_), HY2.out.bel.trans (hfr.below (Nat.le_trans hHH HY2.out.bel.size) (fun i hi => by simp at hi; omega)), Nat.le_trans HY2.out.sz hfr.size⟩
                  have hb1 := HLK.out b o eo hp0
                  have hb2 := HA.out b o eo
                  have hb3 : plcB s p ∈ blksOf g s := by
                    rcases bef_walk s OK.out p (by have := HLevX.out.lo; have := s.pos_le x.e.k x.e.v; omega) with ⟨h0, e1, _⟩ | ⟨d, hd, _, _, e1, _⟩
                    · have e2 : plcB s p = s.gh := by unfold plcP at e1; injection e1 with e1; injection e1 with e1; injection e1
                      rw [e2]; simp [blksOf]
                    · have e2 : plcB s p = d.blk := by unfold plcP at e1; injection e1 with e1; injection e1 with e1; injection e1
                      rw [e2]; unfold blksOf; simp only [List.mem_cons]; exact .inr (.inr (.inr (.inr (.inr (List.mem_map_of_mem (List.mem_of_getElem? hd))))))
                  simp only [List.mem_cons, List.not_mem_nil, or_false, not_or]
                  exact ⟨by omega, fun e9 => hb2 (e9 ▸ hb3)⟩
            · obtain rfl : l = h := by omega
              go_wp2_with fail
              go_end0
              have hx4 := hxb4.out
              refine ⟨s.put turn' N3 cs' hm x l, rfl, hY.out.st, HOKl.out l hm hhm.out.2.1 hhm.out.1 hhm.out.2.2, fun d hd => ?_, ?_, hx4.2.2.2.2.2.1, hx4.2.2.2.2.2.2, rfl, hY.out.bel⟩
              · rcases mem_insL hd with rfl | hd
                · exact hx1
                · exact HF.out d hd
              · have := putE_miss s x l (by rw [hx4.2.2.2.1]; exact hhit.out)
                rw [hx4.2.2.2.1] at this
                have e9 : (s.put turn' N3 cs' hm x l).ns = insL s (s.pos x.e.k x.e.v) x l := rfl
                rw [e9, hx4.2.2.2.1]
                exact this
        · skip
          have hgi : ((s.height : Int) < (h : Int)) = (s.height < h) := by simp
          clear hgi
          have hdf : decide (s.height < h) = false := decide_eq_false (by omega)
          have hdg : decide ((s.height : Int) < (h : Int)) = false := decide_eq_false (by omega)
          have HWZ := Lib.hid hwz
          clear hwz
          go_wp2_with fail
          rw [← HWZ.out]
          clear HS4 HK4 HB4 HZ4 HP4 HN4 HWZ hwr c0 f0 hdf hdg
          have hLv0 : Hid (∀ l', 0 ≤ l' → l' ≤ s.height → ∃ p j, LvP s e.k e.v l' P N p j) := hLv.out
          have hUp0 : Hid (∀ l', s.height < l' → l' < 21 → 0 ≤ l' → P[l']? = some (.pointer none)) := fun l' h1 h2 _ => hUp.out l' h1 h2
          have hPN0 := hPN
          clear hLv hUp hPN
          go_loopg [12] h (fun q v12 wr => ∃ (l : Nat) (P N : List Value), v12 = .int .i64 l ∧ l ≤ h ∧ Hid (l + q = h) ∧ Hid (Blk wr b7 160 P) ∧ Hid (Blk wr (b7 + 1) 160 N) ∧ Hid (P.length = 21 ∧ N.length = 21) ∧
            Hid (∀ l', l ≤ l' → l' ≤ s.height → ∃ p j, LvP s e.k e.v l' P N p j) ∧ Hid (∀ l', s.height < l' → l' < 21 → l ≤ l' → P[l']? = some (.pointer none)) ∧ Hid (PutY g B (s.put turn' N3 cs' hm x l) e.k e.v A nk b7 w wr))
          case atStart => exact ⟨0, P, N, rfl, by omega, by simp [Hid], HP5.out, HN5.out, hPN0.out, hLv0.out, hUp0.out, HY5.out⟩
          case round =>
            clear HP5 HN5 HY5 hLv0 hUp0 hPN0
            obtain ⟨l, P, N, rfl, hlh, hq, hP, hN, hPN, hLv, hUp, hY⟩ := hrel
            by_cases hlt : l < h
            · obtain ⟨gkO, rfl⟩ : ∃ q, gk = q + 1 := ⟨gk - 1, by have := hq.out; omega⟩
              have hl20 : l < 20 := by omega
              have hl21 : (l : Int) < 21 := by omega
              have hl20i : (l : Int) < 20 := by omega
              have hlti : (l : Int) < (h : Int) := by omega
              go_wp2_with fail
              refine wp_loop_rounds 1 ?_
              rw [rounds_succ]
              by_cases hlH : l ≤ s.height
              case' pos =>
                obtain ⟨p, j, hl⟩ := hLv.out l (Nat.le_refl _) hlH
                obtain ⟨an, han⟩ := ndP_ptr s j
                have c7 : wr.cell? ⟨b7, l, none⟩ = some (.pointer (some ⟨plcB s p, 0, none⟩)) := hP.out.at_ hl.pp
                have c8 : wr.cell? ⟨b7 + 1, l, none⟩ = some (.pointer an) := hN.out.at_ (by rw [← han]; exact hl.np)
                have HLev := Lib.hid hl.lev
                have HAN := Lib.hid han
                have HP1 := Lib.hid hP.out
                have HN1 := Lib.hid hN.out
                have HPN1 := Lib.hid hPN.out
                have HLv1 : Hid (∀ l', l + 1 ≤ l' → l' ≤ s.height → ∃ p j, LvP s e.k e.v l' P N p j) := fun l' h1 h2 => hLv.out l' (by omega) h2
                have HUp1 : Hid (∀ l', s.height < l' → l' < 21 → l + 1 ≤ l' → P[l']? = some (.pointer none)) := fun l' h1 h2 h3 => hUp.out l' h1 h2 (by omega)
                have HY1 := Lib.hid hY.out
                clear hl han hP hN hPN hLv hUp hY
                go_wp2_with fail
              case' neg => exact absurd hlH (by omega)
              all_goals
                have hps : s.pos x.e.k x.e.v = s.pos e.k e.v := by rw [hxb4.out.2.2.2.1]
                have HLevX : Hid (Lev s (s.pos x.e.k x.e.v) l p j) := by rw [hps]; exact HLev.out
                clear hps
                obtain ⟨off, hoffe⟩ : ∃ off : Nat, off = nextAt (s.ns.drop (s.pos x.e.k x.e.v)) l := ⟨_, rfl⟩
                have HOE := Lib.hid hoffe
                clear hoffe
                have hoff : Hid (∀ n, Calls Try.prog 99 #[.pointer (some ⟨s.ga, 0, none⟩), .pointer an] (wr.drewN n) fun E w'' => E = .returned (.int .u32 (off : Int)) ∧ wr.drewN n = w'') := fun n => by
                  have hnx := HLevX.out.next (s.pos_le _ _)
                  cases hj : s.ns[j]? with
                  | none =>
                    have hth := HAN.out
                    rw [ndP_none hj] at hth
                    injection hth with hth
                    rw [← hth, HOE.out, hnx, hj]
                    exact getNodeOffset_nil _ _
                  | some d =>
                    have hth := HAN.out
                    rw [ndP_some hj] at hth
                    injection hth with hth
                    rw [← hth, HOE.out, hnx, hj]
                    have hnode := (HY1.out.st.drewN n).nodes (j + 1) d (by
                      show (insL s (s.pos x.e.k x.e.v) x l)[j + 1]? = some d
                      rw [insL_hi s _ x l (j + 1) (s.pos_le _ _) (by have := HLevX.out.hi; omega)]
                      exact hj)
                    exact getNodeOffset_some s.ga d.blk d.at_ _ (hnode.at_ (d.cells_at _))
                have c3 : wr.cell? ⟨g, 3, none⟩ = some (.pointer (some ⟨s.ga, 0, none⟩)) := HY1.out.st.list.at_ rfl
                go_quiet ((go_at_call 99; exact quiet_same (hoff.out _)))
                have HP2 := Lib.hid (show Blk (wr.drewN nq) b7 _ _ from HP1.out)
                have HN2 := Lib.hid (show Blk (wr.drewN nq) (b7 + 1) _ _ from HN1.out)
                have HY2 := Lib.hid (HY1.out.drewN nq)
                have C7 : Hid ((wr.drewN nq).cell? ⟨b7, l, none⟩ = some (.pointer (some ⟨plcB s p, 0, none⟩))) := c7
                clear HP1 HN1 HY1 c7 c8 c3 hoff
                generalize wr.drewN nq = wq at *
                have hxi : (s.put turn' N3 cs' hm x l).ns[s.pos x.e.k x.e.v]? = some (x.upto l) := insL_at s _ x l (s.pos_le _ _)
                have hxb0 : Blk wq x.blk 130 ((x.upto l).cells ((s.put turn' N3 cs' hm x l).ns.drop (s.pos x.e.k x.e.v + 1))) := HY2.out.st.nodes _ _ hxi
                have cx := hxb0.at_ ((x.upto l).cells_tow _ l hl20)
                have fx := hxb0.frozen (4 + l)
                have hokl := HOKl.out l hm (by have := hhm.out; omega) hhm.out.1 hhm.out.2.2
                obtain ⟨csP, hbP, hlP, hgP⟩ := st_place HY2.out.st hokl.hcl (i := s.pos x.e.k x.e.v) (x := x) (l := l) rfl rfl (s.pos_le _ _) hl20 HLevX.out
                rw [← HOE.out] at hgP
                have hpx : plcB s p ≠ x.blk := by
                  rcases HLevX.out.vis with h0 | ⟨d, hd, _⟩
                  · subst h0
                    have e1 : plcB s 0 = s.gh := by unfold plcB; rw [if_pos rfl]
                    rw [e1]
                    have := HBB.out s.gh (by simp [blksOf]); have := hxb4.out; omega
                  · by_cases h0 : p = 0
                    · have e1 : plcB s p = s.gh := by unfold plcB; rw [if_pos h0]
                      rw [e1]
                      have := HBB.out s.gh (by simp [blksOf]); have := hxb4.out; omega
                    · have e1 : plcB s p = d.blk := by unfold plcB; rw [if_neg h0, hd]
                      rw [e1]
                      have := HBB.out d.blk (by unfold blksOf; simp only [List.mem_cons]; exact .inr (.inr (.inr (.inr (.inr (List.mem_map_of_mem (List.mem_of_getElem? hd))))))); have := hxb4.out; omega
                have hxg := own_node hokl hxi
                have HXX := Lib.hid (And.intro hxb0 (And.intro hokl (And.intro hpx hxg)))
                have HCP := Lib.hid (And.intro hbP (And.intro hlP hgP))
                clear hxb0 hokl hbP hlP hgP hpx hxg hxi
                go_wp2_with fail
                have HB6 : Hid (Blk (wq.setCell ⟨x.blk, 4 + l, none⟩ (.int .u32 (off : Int))) (plcB s p) 130 csP) := HCP.out.1.far HXX.out.2.2.1 _
                have HX6 : Hid ((wq.setCell ⟨x.blk, 4 + l, none⟩ (.int .u32 (off : Int))).cell? ⟨x.blk, 24, none⟩ = some (.int .u32 (x.at_ : Int))) := (HXX.out.1.set_ (4 + l) _).at_ (by rw [List.getElem?_set_ne (by omega)]; exact (x.upto l).cells_at _)
                have HC6 : Hid ((wq.setCell ⟨x.blk, 4 + l, none⟩ (.int .u32 (off : Int))).cell? ⟨b7, l, none⟩ = some (.pointer (some ⟨plcB s p, 0, none⟩))) := cell_frm C7.out (Frm.set _ _ _) (by have := hxb4.out; simp; omega)
                have HG6 : Hid ((wq.setCell ⟨x.blk, 4 + l, none⟩ (.int .u32 (off : Int))).cell? ⟨g, 3, none⟩ = some (.pointer (some ⟨s.ga, 0, none⟩))) := by
                  have h0 : wq.cell? ⟨g, 3, none⟩ = some (.pointer (some ⟨s.ga, 0, none⟩)) := HY2.out.st.list.at_ rfl
                  exact cell_frm h0 (Frm.set _ _ _) (by have h9 : x.blk ≠ g := HXX.out.2.2.2.1; simpa using h9.symm)
                clear cx fx
                obtain ⟨w5, hw5⟩ : ∃ w5, wq.setCell ⟨x.blk, 4 + l, none⟩ (.int .u32 (off : Int)) = w5 := ⟨_, rfl⟩
                rw [hw5] at HB6 HX6 HC6 HG6 ⊢
                have HW5 := Lib.hid hw5
                clear hw5
                have d7 : w5.drew.cell? ⟨b7, l, none⟩ = some (.pointer (some ⟨plcB s p, 0, none⟩)) := HC6.out
                have d3 : w5.drew.cell? ⟨g, 3, none⟩ = some (.pointer (some ⟨s.ga, 0, none⟩)) := HG6.out
                have d24 : Hid (w5.drew.cell? ⟨x.blk, 24, none⟩ = some (.int .u32 (x.at_ : Int))) := HX6.out
                have hib : (l : Int) < (((Try.prog.arrayLen 160 : Nat)) : Int) := by rw [arr21n]; omega
                have hic : l < 21 := by omega
                refine wp_region_still_tail 11 (by kernel_rfl) (by kernel_rfl) ?_
                simp only [List.take_succ_cons, List.take_zero, List.drop_succ_cons, List.drop_zero]
                repeat still_step
                still_call ((getNodeOffset_some s.ga x.blk (x.at_ : Int) _ d24.out).mono fun _ _ ⟨a, b⟩ => ⟨a, b.symm⟩)
                repeat still_step
                refine wpStill_nil ?_
                change wpList _ _ _ _ _ w5.drew
                go_wp2_with fail
                refine (cas_skl (plcB s p) 130 l (off : Int) (x.at_ : Int) csP w5.drew HB6.out hl20 HCP.out.2.1 HCP.out.2.2).mono ?_
                rintro E w6 ⟨rfl, hw6⟩
                have HW6 := Lib.hid hw6
                clear hw6 d7 d3
                go_wp2
                go_roundg gkO
                case measure => omega
                case rel =>
                  have hfr : Frm [x.blk, plcB s p] wq w6 := by
                    rw [HW6.out, ← HW5.out]
                    exact ((((Frm.refl _ wq).andSet ⟨x.blk, 4 + l, none⟩ _ (.inl (by simp))).drew).andSet ⟨plcB s p, 4 + l, none⟩ _ (.inl (by simp)))
                  have hbp : plcB s p < w.heap.size ∧ B ≤ plcB s p := by
                    rcases bef_walk s OK.out p (by have := HLevX.out.lo; have := s.pos_le x.e.k x.e.v; omega) with ⟨h0, e1, _⟩ | ⟨d, hd, _, _, e1, _⟩
                    · have e2 : plcB s p = s.gh := by unfold plcP at e1; injection e1 with e1; injection e1 with e1; injection e1
                      rw [e2]; exact ⟨HBB.out _ (by simp [blksOf]), OK.out.base _ (by simp)⟩
                    · have e2 : plcB s p = d.blk := by unfold plcP at e1; injection e1 with e1; injection e1 with e1; injection e1
                      have hm : d.blk ∈ blksOf g s := by unfold blksOf; simp only [List.mem_cons]; exact .inr (.inr (.inr (.inr (.inr (List.mem_map_of_mem (List.mem_of_getElem? hd))))))
                      rw [e2]; exact ⟨HBB.out _ hm, OK.out.base _ hm⟩
                  have hx4 := hxb4.out
                  have hg1 := HG1.out
                  have hHH := HH.out
                  have hst := st_step (t := s.put turn' N3 cs' hm x l) HY2.out.st HXX.out.2.1 rfl rfl (s.pos_le _ _) hl20 HLevX.out
                  rw [← HOE.out, HW5.out] at hst
                  have hst6 : SkSt w6 g (s.put turn' N3 cs' hm x (l + 1)) := by
                    rw [HW6.out]
                    exact hst.drewN 1
                  refine ⟨l + 1, _, _, by go_num, by omega, by have := hq.out; show _ = _; omega, HP2.out.frm hfr (by simp; omega), HN2.out.frm hfr (by simp; omega), HPN1.out, HLv1.out, HUp1.out, hst6, HY2.out.key.frm0 hfr (fun b o eo hp0 _ => ?_), HY2.out.bel.trans (hfr.below (Nat.le_trans hHH HY2.out.bel.size) (fun i hi => by simp at hi; omega)), Nat.le_trans HY2.out.sz hfr.size⟩
                  have hb1 := HLK.out b o eo hp0
                  have hb2 := HA.out b o eo
                  have hb3 : plcB s p ∈ blksOf g s := by
                    rcases bef_walk s OK.out p (by have := HLevX.out.lo; have := s.pos_le x.e.k x.e.v; omega) with ⟨h0, e1, _⟩ | ⟨d, hd, _, _, e1, _⟩
                    · have e2 : plcB s p = s.gh := by unfold plcP at e1; injection e1 with e1; injection e1 with e1; injection e1
                      rw [e2]; simp [blksOf]
                    · have e2 : plcB s p = d.blk := by unfold plcP at e1; injection e1 with e1; injection e1 with e1; injection e1
                      rw [e2]; unfold blksOf; simp only [List.mem_cons]; exact .inr (.inr (.inr (.inr (.inr (List.mem_map_of_mem (List.mem_of_getElem? hd))))))
                  simp only [List.mem_cons, List.not_mem_nil, or_false, not_or]
                  exact ⟨by omega, fun e9 => hb2 (e9 ▸ hb3)⟩
            · obtain rfl : l = h := by omega
              go_wp2_with fail
              go_end0
              have hx4 := hxb4.out
              refine ⟨s.put turn' N3 cs' hm x l, rfl, hY.out.st, HOKl.out l hm hhm.out.2.1 hhm.out.1 hhm.out.2.2, fun d hd => ?_, ?_, hx4.2.2.2.2.2.1, hx4.2.2.2.2.2.2, rfl, hY.out.bel⟩
              · rcases mem_insL hd with rfl | hd
                · exact hx1
                · exact HF.out d hd
              · have := putE_miss s x l (by rw [hx4.2.2.2.1]; exact hhit.out)
                rw [hx4.2.2.2.1] at this
                have e9 : (s.put turn' N3 cs' hm x l).ns = insL s (s.pos x.e.k x.e.v) x l := rfl
                rw [e9, hx4.2.2.2.1]
                exact this
    | succ i =>
      have e0 : (((i + 1 : Nat) : Int) - 1) = (i : Int) := by omega
      rw [e0]
      clear e0
      obtain ⟨p1, j1, hl1⟩ := hLv.out (i + 1) (Nat.le_refl _) hqh
      have cP := hP.out.at_ hl1.pp
      have HL1 := Lib.hid hl1
      clear hl1
      have hi21 : (i : Int) + 1 < 21 := by omega
      have hi20 : i < 20 := by omega
      go_wp2_with fail
      refine (findSplice_skl g B s A nk ck p1 i e.k e.v wr hW.out.st OK.out hW.out.key hck HE.out.kbyt hnk hi20 (HL1.out.lev.vis.lower (by omega)) HL1.out.lev.lo).mono ?_
      rintro E w2 ⟨hd2, hres⟩
      have hP2 : Hid (Blk w2 b7 160 P) := by obtain ⟨c, rfl⟩ := hd2; exact hP.out
      have hN2 : Hid (Blk w2 (b7 + 1) 160 N) := by obtain ⟨c, rfl⟩ := hd2; exact hN.out
      have hW2 : Hid (PutW g B s e A D nk nd cd gx b7 ver w w2) := hW.out.drew hd2
      obtain ⟨y7, hy7⟩ : ∃ y, w2.cell? ⟨b7, i, none⟩ = some y := ⟨P[i]'(by have := hPN.out; omega), hP2.out.at_ (List.getElem?_eq_getElem _)⟩
      obtain ⟨y8, hy8⟩ : ∃ y, w2.cell? ⟨b7 + 1, i, none⟩ = some y := ⟨N[i]'(by have := hPN.out; omega), hN2.out.at_ (List.getElem?_eq_getElem _)⟩
      have fz7 := hP2.out.frozen i
      have fz8 := hN2.out.frozen i
      clear hd2 hP hN hW cP
      rcases hres with ⟨d, hd, hvis, hdk, hdv, rfl⟩ | ⟨p, j, hnx, hp, hvis, hj, hfar, rfl⟩
      · have HD := Lib.hid (And.intro hd (And.intro hvis (And.intro hdk hdv)))
        clear hd hvis hdk hdv
        go_wp2_with fail
        have hW3 := hW2.out.two (i := i) OK.out (by have := HG1.out; omega) HBB.out (HG1.out.2) HH.out HLK.out HLD.out HLR.out (.pointer (some ⟨d.blk, 0, none⟩)) (.pointer (some ⟨d.blk, 0, none⟩))
        have c7 : ((w2.setCell ⟨b7, i, none⟩ (.pointer (some ⟨d.blk, 0, none⟩))).setCell ⟨b7 + 1, i, none⟩ (.pointer (some ⟨d.blk, 0, none⟩))).cell? ⟨b7, i, none⟩ = some (.pointer (some ⟨d.blk, 0, none⟩)) :=
          ((hP2.out.set_ i (.pointer (some ⟨d.blk, 0, none⟩))).far (by simp) _).at_ (List.getElem?_set_self (by have := hPN.out; omega))
        have c8 : ((w2.setCell ⟨b7, i, none⟩ (.pointer (some ⟨d.blk, 0, none⟩))).setCell ⟨b7 + 1, i, none⟩ (.pointer (some ⟨d.blk, 0, none⟩))).cell? ⟨b7 + 1, i, none⟩ = some (.pointer (some ⟨d.blk, 0, none⟩)) :=
          ((hN2.out.far (p := ⟨b7, i, none⟩) (by simp) (.pointer (some ⟨d.blk, 0, none⟩))).set_ i _).at_ (List.getElem?_set_self (by have := hPN.out; omega))
        have HW3 := Lib.hid hW3
        clear hW3 hP2 hN2 hW2 hy7 hy8 fz7 fz8
        generalize (w2.setCell ⟨b7, i, none⟩ (.pointer (some ⟨d.blk, 0, none⟩))).setCell ⟨b7 + 1, i, none⟩ (.pointer (some ⟨d.blk, 0, none⟩)) = w3 at *
        have hpe : ∀ n, (binOp .eql 116 (.pointer (some ⟨d.blk, 0, none⟩)) (.pointer (some ⟨d.blk, 0, none⟩))).run Try.prog (w3.drewN n) = .ok (.bool true) (w3.drewN n) := fun n => ptr_same _ _
        go_quiet (fail)
        go_wp2_with fail
        have HW4 : Hid (PutW g B s e A D nk nd cd gx b7 ver w (w3.drewN nq)) := HW3.out.drewN nq
        have C7 : Hid ((w3.drewN nq).cell? ⟨b7, i, none⟩ = some (.pointer (some ⟨d.blk, 0, none⟩))) := c7
        clear c7 c8 hpe HW3
        generalize w3.drewN nq = w4 at *
        have c7 : w4.drew.cell? ⟨b7, i, none⟩ = some (.pointer (some ⟨d.blk, 0, none⟩)) := C7.out
        have c3 : w4.drew.cell? ⟨g, 3, none⟩ = some (.pointer (some ⟨s.ga, 0, none⟩)) := HW4.out.st.list.at_ rfl
        have v0 : w4.drew.cell? ⟨gx, 0, none⟩ = some (.int .u8 e.m) := HW4.out.vs.at_ rfl
        have v1 : w4.drew.cell? ⟨gx, 1, none⟩ = some (.int .u8 e.u) := HW4.out.vs.at_ rfl
        have v2 : w4.drew.cell? ⟨gx, 2, none⟩ = some (.int .u64 e.x) := HW4.out.vs.at_ rfl
        have v3 : w4.drew.cell? ⟨gx, 3, none⟩ = some (.slice D nd cd) := HW4.out.vs.at_ rfl
        have v4 : w4.drew.cell? ⟨gx, 4, none⟩ = some (.int .u64 ver) := HW4.out.vs.at_ rfl
        have hia : (i : Int) < 21 := by omega
        have hib : (i : Int) < (((Try.prog.arrayLen 160 : Nat)) : Int) := by rw [arr21n]; omega
        have hic : i < 21 := by omega
        go_still_tail 8, (by kernel_rfl)
        change wpList _ _ _ _ _ w4.drew
        replace HW4 : Hid (PutW g B s e A D nk nd cd gx b7 ver w w4.drew) := HW4.out.drewN 1
        clear c7 c3 v0 v1 v2 v3 v4 C7
        generalize w4.drew = w5 at *
        go_wp2_with fail
        refine (setValue_skl d.blk 130 s.ga s.gb s.gm s.n s.k nd cd D e.m e.u e.x ver e.d s.cs _ s.m w5 HW4.out.st.arn (HW4.out.st.nodes _ _ HD.out.1) (by have := own_node OK.out HD.out.1; exact ⟨this.2.1, this.2.2.1, this.2.2.2.1⟩) HW4.out.dat (fun b o eb => by have := HDD.out b o eb; unfold blksOf at this; simp only [List.mem_cons, not_or] at this; exact ⟨this.2.1, this.2.2.1⟩) (by omega) hnd HE.out.x0 HE.out.x1 (by rw [Nd.cells_len]; omega)).mono ?_
        rintro E w6 ⟨rfl, ha6, hb6, hf6⟩
        have HR6 := Lib.hid (And.intro ha6 (And.intro hb6 hf6))
        clear ha6 hb6 hf6
        go_wp2
        go_end0
        exact PutPost.hit HW4.out.st OK.out HF.out HE.out hn htn d HD.out.1 HD.out.2.2.1 HD.out.2.2.2 HW4.out.bel HR6.out.1 HR6.out.2.1 HR6.out.2.2 (Nat.le_trans HH.out HW4.out.bel.size)
      · obtain ⟨an, han⟩ := ndP_ptr s j
        rw [han]
        have hpp : plcP s p = .pointer (some ⟨plcB s p, 0, none⟩) := rfl
        rw [hpp]
        have HR := Lib.hid (And.intro hnx (And.intro hp (And.intro hvis (And.intro hj hfar))))
        have HAN := Lib.hid han
        clear hnx hp hvis hj hfar han hpp
        go_wp2_with fail
        have hW3 := hW2.out.two (i := i) OK.out (by have := HG1.out; omega) HBB.out (HG1.out.2) HH.out HLK.out HLD.out HLR.out (.pointer (some ⟨plcB s p, 0, none⟩)) (.pointer an)
        have HP3 : Hid (Blk ((w2.setCell ⟨b7, i, none⟩ (.pointer (some ⟨plcB s p, 0, none⟩))).setCell ⟨b7 + 1, i, none⟩ (.pointer an)) b7 160 (P.set i (plcP s p))) := (hP2.out.set_ i (.pointer (some ⟨plcB s p, 0, none⟩))).far (by simp) _
        have HN3 : Hid (Blk ((w2.setCell ⟨b7, i, none⟩ (.pointer (some ⟨plcB s p, 0, none⟩))).setCell ⟨b7 + 1, i, none⟩ (.pointer an)) (b7 + 1) 160 (N.set i (ndP s j))) := by
          rw [HAN.out]
          exact (hN2.out.far (p := ⟨b7, i, none⟩) (by simp) (.pointer (some ⟨plcB s p, 0, none⟩))).set_ i _
        have HW3 := Lib.hid hW3
        clear hW3 hP2 hN2 hW2 hy7 hy8 fz7 fz8
        generalize (w2.setCell ⟨b7, i, none⟩ (.pointer (some ⟨plcB s p, 0, none⟩))).setCell ⟨b7 + 1, i, none⟩ (.pointer an) = w3 at *
        have c7 : w3.cell? ⟨b7, i, none⟩ = some (.pointer (some ⟨plcB s p, 0, none⟩)) := HP3.out.at_ (List.getElem?_set_self (by have := hPN.out; omega))
        have c8 : w3.cell? ⟨b7 + 1, i, none⟩ = some (.pointer an) := HN3.out.at_ (by rw [List.getElem?_set_self (by have := hPN.out; omega), HAN.out])
        have hpe : ∀ n, (binOp .eql 116 (.pointer (some ⟨plcB s p, 0, none⟩)) (.pointer an)).run Try.prog (w3.drewN n) = .ok (.bool false) (w3.drewN n) := fun n => by
          have hst := HW3.out.st.drewN n
          obtain ⟨hnx, hp, hvis, hj, hfar⟩ := HR.out
          cases hnj : s.ns[j]? with
          | none =>
            have := HAN.out
            rw [ndP_none hnj] at this
            injection this with this
            rw [← this]
            simpa using run_eql_pointer_nil (P := Try.prog) (w3.drewN n) 116 (some ⟨plcB s p, 0, none⟩) (by kernel_rfl)
          | some d =>
            have := HAN.out
            rw [ndP_some hnj] at this
            injection this with this
            rw [← this]
            by_cases h0 : p = 0
            · subst h0
              have e1 : plcB s 0 = s.gh := by unfold plcB; rw [if_pos rfl]
              rw [e1]
              exact ptr_other hst.head (hst.nodes _ _ hnj) (blk_head OK.out j d hnj).symm
            · obtain ⟨d2, hd2, _⟩ := hvis.resolve_left h0
              have e1 : plcB s p = d2.blk := by unfold plcB; rw [if_neg h0, hd2]
              rw [e1]
              exact ptr_other (hst.nodes _ _ hd2) (hst.nodes _ _ hnj) (own_two OK.out (p - 1) j hd2 hnj (by omega))
        go_quiet (fail)
        have HW4 : Hid (PutW g B s e A D nk nd cd gx b7 ver w (w3.drewN nq)) := HW3.out.drewN nq
        have HP4 : Hid (Blk (w3.drewN nq) b7 160 (P.set i (plcP s p))) := HP3.out
        have HN4 : Hid (Blk (w3.drewN nq) (b7 + 1) 160 (N.set i (ndP s j))) := HN3.out
        clear c7 c8 hpe HW3 HP3 HN3
        generalize w3.drewN nq = w4 at *
        go_wp2
        go_roundg i
        case measure => omega
        case rel =>
          refine ⟨P.set i (plcP s p), N.set i (ndP s j), by go_num, by omega, HP4.out, HN4.out, by have := hPN.out; simp [Hid]; exact this, ?_, ?_, HW4.out⟩
          · intro l h1 h2
            by_cases hli : l = i
            · subst hli
              obtain ⟨hnx, hp, hvis, hj, hfar⟩ := HR.out
              exact ⟨p, j, ⟨List.getElem?_set_self (by have := hPN.out; omega), List.getElem?_set_self (by have := hPN.out; omega), ⟨hnx, hp, hvis, hj⟩, hfar⟩⟩
            · obtain ⟨p', j', hl'⟩ := hLv.out l (by omega) h2
              exact ⟨p', j', ⟨by rw [List.getElem?_set_ne (by omega)]; exact hl'.pp, by rw [List.getElem?_set_ne (by omega)]; exact hl'.np, hl'.lev, hl'.far⟩⟩
          · intro l h1 h2
            rw [List.getElem?_set_ne (by omega)]
            exact hUp.out l h1 h2
end Go.Proofs.Ytanmgkpgfmkobaa
