/- Texts that this claim shares with others, put together: TH TI TJ. -/
import Derived.Test.YtanmgkpgfmkobaaTG
import Derived.Test.YtanmgkpgfmkobaaPB
import Derived.Test.YtanmgkpgfmkobaaGA
/- A new skip list. -/
namespace Go.Proofs.Ytanmgkpgfmkobaa
open Go.RowKit
set_option linter.unusedVariables false
set_option linter.unusedSimpArgs false
def ArenaPost (w : World) (E : Ending) (w' : World) : Prop :=
  ∃ ga gb gm cs, E = .returned (.pointer (some ⟨ga, 0, none⟩)) ∧ Arn w' ga gb gm 1 cs 0 (fun _ => none) ∧ w.heap.size ≤ ga ∧ w.heap.size ≤ gb ∧ w.heap.size ≤ gm ∧ Below w.heap.size w w'
set_option maxRecDepth 100000 in
theorem newArena_skl (w : World) : Calls Try.prog 93 #[.int .i64 1048576] w (ArenaPost w) := by
  obtain ⟨i0, hi0, hz0, hz1, hz2⟩ := info_parts infoU8
  have hmm := @run_makeMap Try.prog
  go_enter Try.func93, Try.ntmps93
  go_wp2_with (at_make; refine wpList_make_full _ rfl (.tmp 3) (.tmp 3) 27 rfl w.heap.size 5 i0 (.int .u8 0) 1 Try.underlying27 hi0 hz0 hz1 .i64 .i64 _ _ 1048576 rfl rfl (by omega) (by omega) (by rw [hz2]; omega) (by simp [maxLen]) (Nat.le_refl _) ?_; intro w1 hown1 hg1; obtain ⟨g, cur, hA1, hgb, hblk, hnc, hcl, hct⟩ := own_blk hown1 (by omega); injection hA1 with hA1; injection hA1 with hA1 _; subst hA1; have HG1 := Lib.hid hg1; have HB1 : Hid (Blk w1 w.heap.size 5 cur) := hblk; have HC1 := Lib.hid hcl; clear hown1 hg1 hblk hcl hct hi0 hz0 hz1 hz2)
  go_ret
  have hgb := HG1.out
  have hz1 : w.heap.size < w1.heap.size := HB1.out.lt
  refine ⟨w1.heap.size + 1, w.heap.size, w1.heap.size, cur, by simp [World.size_alloc], ⟨?_, ?_, HC1.out, ?_, ?_⟩, by omega, by omega, by omega, ?_⟩
  · have := Blk.new (w1.alloc (.map #[] 0)) 171 [.int .u32 1, .slice (some ⟨w.heap.size, 0, none⟩) 1048576 1048576, .map (some w1.heap.size)]
    rw [World.size_alloc] at this
    exact this
  · exact (HB1.out.alloc _).alloc _
  · exact (MapAt.made Try.prog w1 26 .u32).alloc _
  · exact ⟨by omega, by omega, by omega⟩
  · have h1 : Below w.heap.size w w1 := (Below.refl _ w).grown hgb (Nat.le_refl _) (by simp)
    exact (h1.alloc h1.size _).alloc (by rw [World.size_alloc]; omega) _
def NewPost (w : World) (E : Ending) (w' : World) : Prop :=
  ∃ g ga gb gm gh n cs hc hat m, E = .returned (.pointer (some ⟨g, 0, none⟩)) ∧ Blk w' g 119 (listC (.int .i32 1) (.pointer (some ⟨gh, 0, none⟩)) (.int .i32 1) (.pointer (some ⟨ga, 0, none⟩)) none 0 0 0) ∧ Arn w' ga gb gm n cs 1 m ∧
    Blk w' gh 130 (hc ++ (tow 20 [] ++ [.int .u32 (hat : Nat)])) ∧ hc.length = 4 ∧ 1 ≤ n ∧ n ≤ 200 ∧ (∀ b ∈ [g, ga, gb, gm, gh], w.heap.size ≤ b) ∧ [g, ga, gb, gm, gh].Nodup ∧ Below w.heap.size w w'
set_option maxRecDepth 100000 in
theorem newSkiplist_skl (w : World) : Calls Try.prog 66 #[.int .i64 1048576] w (NewPost w) := by
  go_enter Try.func66, Try.ntmps66
  go_wp2_with fail
  refine (newArena_skl w).mono ?_
  rintro E w1 ⟨ga, gb, gm, cs, rfl, ha1, h1, h2, h3, hb1⟩
  have HA1 := Lib.hid ha1
  have HB1 := Lib.hid (And.intro hb1 (And.intro h1 (And.intro h2 h3)))
  clear ha1 hb1 h1 h2 h3
  go_wp2_with fail
  refine (newNode_skl ga gb gm 1 0 0 0 0 0 20 none none 0 0 0 0 [] [] cs _ w1 HA1.out (Sl.nil _ _) (fun b o e => by cases e) (Sl.nil _ _) (fun b o e => by cases e) (by omega) (by omega) (by omega) (by omega) (by omega) (by omega) (by omega) (by omega) (by show _ ≤ _; omega)).mono ?_
  rintro E w2 ⟨a, b, rfl, hae, ha2, hb2, hgb, hf2⟩
  have HR2 := Lib.hid (And.intro hae (And.intro ha2 (And.intro hb2 (And.intro hgb hf2))))
  clear hae ha2 hb2 hgb hf2
  go_wp2
  go_ret
  obtain ⟨hae, ha2, hb2, hgb, hf2⟩ := HR2.out
  obtain ⟨hb1, h1, h2, h3⟩ := HB1.out
  have hne := HA1.out.ne
  have l1 := HA1.out.ar.lt
  have l2 := HA1.out.buf.lt
  have l3 := HA1.out.map.lt
  have l4 := hb2.lt
  have l5 := hf2.size
  have hsz := hb1.size
  have hvl := valB_len 0 0 0 []
  have hvt := vint_len 9 0
  simp only [List.length_nil] at hvl
  have e20 : tow 20 ([] : List Nd) = List.replicate 20 (.int .u32 0) := by
    apply List.ext_getElem?
    intro q
    by_cases hq : q < 20
    · rw [tow_get _ _ _ hq, List.getElem?_replicate, if_pos hq]; unfold towV; rw [if_pos hq]; rfl
    · rw [List.getElem?_eq_none (by rw [tow_len]; omega), List.getElem?_eq_none (by simp; omega)]
  generalize hn2 : 1 + (23 + 4 * 20) + 0 + (valB 0 0 0 []).length = n2 at ha2
  generalize splice (splice cs (1 + (23 + 4 * 20)) (nums .u8 [])) (1 + (23 + 4 * 20) + 0) (nums .u8 (valB 0 0 0 [])) = cs2 at ha2
  generalize updM (fun _ => none) (a : Int) (some (.pointer (some ⟨b, 0, none⟩))) = m2 at ha2
  obtain ⟨y, hy⟩ : ∃ y : Nat, y = (valB 0 0 0 []).length := ⟨_, rfl⟩
  rw [← hy] at hb2
  refine ⟨w2.heap.size, ga, gb, gm, b, n2, cs2, [.int .u64 ((y : Int) * 4294967296 + ((1 + (23 + 4 * 20) + 0 : Nat) : Int)), .int .u32 ((1 + (23 + 4 * 20) : Nat) : Int), .int .u16 ((0 : Nat) : Int), .int .u16 ((20 : Nat) : Int)], a, m2, rfl, Blk.new w2 119 _, ha2.frm (Frm.alloc w2 _) (by simp) (by simp) (by simp), ?_, rfl, ?_, ?_, ?_, ?_, ?_⟩
  · rw [e20]
    exact hb2.alloc _
  · omega
  · omega
  · intro x hx
    simp only [List.mem_cons, List.not_mem_nil, or_false] at hx
    omega
  · simp only [List.nodup_cons, List.mem_cons, List.not_mem_nil, or_false, not_or, List.nodup_nil, and_true, not_false_eq_true]
    omega
  · have h4 : Below w.heap.size w w2 := hb1.trans (hf2.below hsz (fun i hi => by simp only [List.mem_cons, List.not_mem_nil, or_false] at hi; omega))
    exact h4.alloc h4.size _
end Go.Proofs.Ytanmgkpgfmkobaa

/- A skip list behind entries have been put into it. -/
namespace Go.Proofs.Ytanmgkpgfmkobaa
open Go.Proofs.YtanmgkpgfmkobaaW.PrintLast
open Go.RowKit
set_option linter.unusedVariables false
set_option linter.unusedSimpArgs false
/-- An entry at a place in memory. -/
structure EntC (w : World) (b o : Nat) (e : Ent) (Ak : Option Addr) (nk ck : Nat) (Ad : Option Addr) (nd cd : Nat) : Prop where
  c0 : w.cell? ⟨b, o, none⟩ = some (.slice Ak nk ck)
  c1 : w.cell? ⟨b, o + 1, none⟩ = some (.int .u64 e.v)
  c2 : w.cell? ⟨b, o + 2, none⟩ = some (.int .u8 e.m)
  c3 : w.cell? ⟨b, o + 3, none⟩ = some (.int .u8 e.u)
  c4 : w.cell? ⟨b, o + 4, none⟩ = some (.int .u64 e.x)
  c5 : w.cell? ⟨b, o + 5, none⟩ = some (.slice Ad nd cd)
  key : Sl w Ak nk (nums .u8 e.k)
  dat : Sl w Ad nd (nums .u8 e.d)
  hk : nk ≤ ck
  hd : nd ≤ cd
/-- A slice of entries that reads as a list. -/
def Sle (w : World) (A : Option Addr) (n : Nat) (l : List Ent) : Prop :=
  l.length = n ∧ (0 < n → ∃ g o, A = some ⟨g, o, none⟩ ∧ ∀ (j : Nat) (e : Ent), l[j]? = some e → ∃ Ak nk ck Ad nd cd, EntC w g (o + j * 6) e Ak nk ck Ad nd cd)
theorem EntC.below {w w' : World} {b o : Nat} {e : Ent} {Ak Ad : Option Addr} {nk ck nd cd : Nat} (h : EntC w b o e Ak nk ck Ad nd cd) (hb : Below w.heap.size w w') : EntC w' b o e Ak nk ck Ad nd cd := by
  have s : ∀ {p : Addr} {v : Value}, w.cell? p = some v → w'.cell? p = some v := fun {p v} hc => by
    rw [hb.cell (World.block_lt_of_cell? w _ hc)]; exact hc
  exact ⟨s h.c0, s h.c1, s h.c2, s h.c3, s h.c4, s h.c5, h.key.below hb, h.dat.below hb, h.hk, h.hd⟩
theorem Sle.below {w w' : World} {A : Option Addr} {n : Nat} {l : List Ent} (h : Sle w A n l) (hb : Below w.heap.size w w') : Sle w' A n l :=
  ⟨h.1, fun hn => by
    obtain ⟨g, o, e, hc⟩ := h.2 hn
    refine ⟨g, o, e, fun j x hj => ?_⟩
    obtain ⟨Ak, nk, ck, Ad, nd, cd, hx⟩ := hc j x hj
    exact ⟨Ak, nk, ck, Ad, nd, cd, hx.below hb⟩⟩
theorem cell_bel {w w' : World} {p : Addr} {v : Value} (h : w.cell? p = some v) (hb : Below w.heap.size w w') : w'.cell? p = some v := by
  rw [hb.cell (World.block_lt_of_cell? w _ h)]; exact h
theorem infoU32 : (Try.prog.info? 26).map (fun i => (i.zero, i.size, i.bytes)) = some (some (.int .u32 0), 1, 4) := by kernel_rfl
def SkipsPost (rs : List Int) (l : List Ent) (w : World) (E : Ending) (w' : World) : Prop :=
  ∃ g s, E = .returned (.pointer (some ⟨g, 0, none⟩)) ∧ SkSt w' g s ∧ SkOk g w.heap.size s ∧ Full s ∧ s.ns.map Nd.e = putsE l ∧ s.ref = 1 ∧ Below w.heap.size w w'
theorem putsE_snoc (l : List Ent) (e : Ent) : putsE (l ++ [e]) = putE (putsE l) e := by simp [putsE, List.foldl_append]
theorem own_out {w : World} {base e n c : Nat} {A : Option Addr} {xs : List Value} (h : w.ownsRow base e 1 (.slice A n c) n xs) {L : List Nat} (hL : ∀ b ∈ L, b < base) : ∀ b o, A = some ⟨b, o, none⟩ → b ∉ L := fun b o hA hb => by
  subst hA
  have := (h.lt b rfl).1
  have := hL b hb
  omega
theorem six_bel {w w' : World} {ge : Nat} {v0 v1 v2 v3 v4 v5 : Value} (h : w.cell? ⟨ge, 0, none⟩ = some v0 ∧ w.cell? ⟨ge, 1, none⟩ = some v1 ∧ w.cell? ⟨ge, 2, none⟩ = some v2 ∧ w.cell? ⟨ge, 3, none⟩ = some v3 ∧ w.cell? ⟨ge, 4, none⟩ = some v4 ∧ w.cell? ⟨ge, 5, none⟩ = some v5) (hb : Below w.heap.size w w') :
    w'.cell? ⟨ge, 0, none⟩ = some v0 ∧ w'.cell? ⟨ge, 1, none⟩ = some v1 ∧ w'.cell? ⟨ge, 2, none⟩ = some v2 ∧ w'.cell? ⟨ge, 3, none⟩ = some v3 ∧ w'.cell? ⟨ge, 4, none⟩ = some v4 ∧ w'.cell? ⟨ge, 5, none⟩ = some v5 :=
  ⟨cell_bel h.1 hb, cell_bel h.2.1 hb, cell_bel h.2.2.1 hb, cell_bel h.2.2.2.1 hb, cell_bel h.2.2.2.2.1 hb, cell_bel h.2.2.2.2.2 hb⟩
theorem take_snoc {α : Type} (l : List α) (i : Nat) (d : α) (h : l[i]? = some d) : l.take (i + 1) = l.take i ++ [d] := by
  obtain ⟨g, rfl⟩ := List.getElem?_eq_some_iff.1 h
  exact List.take_succ_eq_append_getElem g
set_option maxRecDepth 100000 in
set_option maxHeartbeats 40000000 in
theorem skips_any (A P : Option Addr) (n c m d : Nat) (rs : List Int) (l : List Ent) (w : World) (ha : Sl w A n (nums .u32 rs)) (hn1 : 1 ≤ n) (hn2 : n ≤ 1000000) (hp : Sle w P m l) (hm : m ≤ 80) (hok : ∀ e ∈ l, EntOk e) :
    Calls Try.prog 30 #[.slice A n c, .slice P m d] w (SkipsPost rs l w) := by
  have HP := Lib.hid hp
  have HOK := Lib.hid hok
  have HAS := Lib.hid ha
  clear hp hok ha
  go_enter Try.func30, Try.ntmps30
  go_wp2_with fail
  refine (newSkiplist_skl w).mono ?_
  rintro E w1 ⟨g, ga, gb, gm, gh, n0, cs, hc, hat, m0, rfl, hb1, ha1, hh1, hcl, hn01, hn02, hbs, hnd, hbel1⟩
  have HB1 := Lib.hid hb1
  have HR1 := Lib.hid (And.intro ha1 (And.intro hh1 (And.intro hcl (And.intro hn01 (And.intro hn02 (And.intro hbs (And.intro hnd hbel1)))))))
  have HAS1 := Lib.hid (HAS.out.below hbel1)
  have q5 : ∀ o, (w1.alloc o).cell? ⟨g, 5, none⟩ = some (.slice none 0 0) := fun o => (hb1.alloc o).at_ rfl
  have f5 : ∀ o, (w1.alloc o).frozen? ⟨g, 5, none⟩ = false := fun o => (hb1.alloc o).frozen 5
  have hgl := hb1.lt
  have HGL : Hid (∀ b ∈ [g, ga, gb, gm, gh], b < w1.heap.size) := fun b hb => by
    simp only [List.mem_cons, List.not_mem_nil, or_false] at hb
    rcases hb with rfl | rfl | rfl | rfl | rfl
    · exact hb1.lt
    · exact ha1.ar.lt
    · exact ha1.buf.lt
    · exact ha1.map.lt
    · exact hh1.lt
  clear hb1 ha1 hh1 hcl hn01 hn02 hbs hnd hbel1
  go_wp2_with (at_builtin; refine wpList_append_sl _ rfl (.tmp 10) (.tmp 11) 22 rfl w1.heap.size 26 (.int .u32 0) 4 Try.underlying22 infoU32 rfl (.slice (some ⟨w1.heap.size, 0, none⟩) 0 0) 0 [] rfl ?c1 A n c (nums .u32 rs) rfl (HAS1.out.alloc _) (nums_one _ _) ?c2 (by omega) ?c3 ?_; (case c1 => exact World.ownsRow_made w1 #[] 0 (Nat.le_refl _) (by simp [maxLen]) rfl); (case c2 => omega); (case c3 => simp); intro v2 w2 hown2 hg2 hat2; obtain ⟨A2, c2, hv2, hcc2, hs2⟩ := own_sl hown2; subst hv2; have HB2 := Lib.hid ((HB1.out.alloc _).grown hg2 (by simp [Value.ownBlock]; omega)); have p5 : w2.cell? ⟨g, 5, none⟩ = some (.slice none 0 0) := HB2.out.at_ rfl; have p6 := HB2.out.frozen 5; have HG2 := Lib.hid hg2; have HO2 := Lib.hid hown2; have HS2 := Lib.hid hs2; clear hown2 hg2 hat2 hs2)
  obtain ⟨s0, hs0⟩ : ∃ s0 : SkA, s0 = { ga := ga, gb := gb, gm := gm, gh := gh, n := n0, cs := cs, hc := hc, hat := hat, height := 1, ref := 1, ra := A2, rn := n, rc := c2, rs := rs, turn := 0, k := 1, m := m0, ns := [] } := ⟨_, rfl⟩
  have hall : Hid (SkSt (w2.setCell ⟨g, 5, none⟩ (.slice A2 n c2)) g s0 ∧ SkOk g w.heap.size s0 ∧ Full s0 ∧ s0.ns = [] ∧ s0.ref = 1 ∧ s0.n ≤ 200 ∧ s0.turn ≤ s0.n ∧ Below w.heap.size w (w2.setCell ⟨g, 5, none⟩ (.slice A2 n c2))) := by
    obtain ⟨ha1, hh1, hcl, hn01, hn02, hbs, hnd, hbel1⟩ := HR1.out
    have hgl1 := HGL.out
    have hf : Frm [w1.heap.size, g] w1 (w2.setCell ⟨g, 5, none⟩ (.slice A2 n c2)) := by
      have h1 : Frm [w1.heap.size] (w1.alloc (.cells #[] 26)) w2 := Frm.of_grown HG2.out
      exact (((Frm.refl [w1.heap.size, g] w1).andAlloc _).trans h1 (fun i hi => by rw [List.mem_singleton] at hi; subst hi; simp)).andSet _ _ (.inl (by simp))
    have hnl : ∀ b, b ∈ [g, ga, gb, gm, gh] → b ≠ g → b ∉ [w1.heap.size, g] := fun b hb hne => by
      have := hgl1 b hb
      simp only [List.mem_cons, List.not_mem_nil, or_false, not_or]
      exact ⟨by omega, hne⟩
    have hnd' := hnd
    simp only [List.nodup_cons, List.mem_cons, List.not_mem_nil, or_false, not_or, List.nodup_nil, and_true, not_false_eq_true] at hnd'
    obtain ⟨⟨n1, n2, n3, n4⟩, ⟨n5, n6, n7⟩, ⟨n8, n9⟩, n10⟩ := hnd'
    have hA2 : ∀ b o, A2 = some ⟨b, o, none⟩ → w1.heap.size ≤ b := fun b o e => by subst e; exact (HO2.out.lt b rfl).1
    subst hs0
    refine ⟨⟨HB2.out.set_ 5 _, ha1.frm hf (hnl ga (by simp) (fun e => n1 e.symm)) (hnl gb (by simp) (fun e => n2 e.symm)) (hnl gm (by simp) (fun e => n3 e.symm)), hh1.frm hf (hnl gh (by simp) (fun e => n4 e.symm)), (fun j d hj => by simp at hj), ?_⟩, ?_, (fun d hd => by cases hd), rfl, rfl, hn02, Nat.zero_le _, ?_⟩
    · have hs2 := HS2.out
      rw [Nat.zero_add, List.nil_append] at hs2
      refine hs2.frm (Frm.set w2 ⟨g, 5, none⟩ _) (fun b o e => ?_)
      have := hA2 b o e
      have := hgl1 g (by simp)
      simp; omega
    · refine ⟨hcl, hnd, hbs, (fun b o e => ⟨by have := hA2 b o e; have := hbel1.size; omega, fun hb => by have := hA2 b o e; have := hgl1 b hb; omega⟩), hn1, hn2, by show 0 ≤ n0 + 20; omega, hn01, hn01, by show n0 ≤ 900000; omega, (fun d hd => by cases hd), (fun d hd => by cases hd), (fun d hd => by cases hd), (fun d hd => by cases hd), List.Pairwise.nil, (fun d hd => by cases hd), Nat.le_refl _, by show 1 ≤ 20; omega⟩
    · exact hbel1.trans (hf.below hbel1.size (fun i hi => by
        simp only [List.mem_cons, List.not_mem_nil, or_false] at hi
        rcases hi with rfl | rfl
        · exact hbel1.size
        · exact hbs _ (by simp)))
  clear hs0 HR1 HGL HB2 HG2 HO2 HS2 HB1 HAS HAS1 p5 p6 hcc2 hgl q5 f5
  generalize w2.setCell ⟨g, 5, none⟩ (.slice A2 n c2) = w3 at *
  go_loopg [17] m (fun q v17 wr => ∃ (i : Nat) (s : SkA), v17 = .int .i64 i ∧ i ≤ m ∧ Hid (i + q = m) ∧ Hid (SkSt wr g s) ∧ Hid (SkOk g w.heap.size s) ∧ Hid (Full s) ∧ Hid (s.ns.map Nd.e = putsE (l.take i)) ∧ Hid (s.n ≤ 200 + 2200 * i ∧ s.turn ≤ s.n ∧ s.ref = 1) ∧ Hid (Below w.heap.size w wr))
  case atStart =>
    obtain ⟨h1, h2, h3, h4, h5, h6, h7, h8⟩ := hall.out
    exact ⟨0, s0, rfl, Nat.zero_le _, by simp [Hid], h1, h2, h3, by rw [h4]; rfl, ⟨by omega, h7, h5⟩, h8⟩
  case round =>
    clear hall
    obtain ⟨i, s, rfl, him, hq, hst, hokk, hfull, hns, hnn, hbel⟩ := hrel
    by_cases hlt : i < m
    · obtain ⟨gkO, rfl⟩ : ∃ q, gk = q + 1 := ⟨gk - 1, by have := hq.out; omega⟩
      have hpw := HP.out.below hbel.out
      obtain ⟨gp, op, hPe, hcell⟩ := hpw.2 (by omega)
      obtain ⟨e, hle⟩ : ∃ e, l[i]? = some e := ⟨_, List.getElem?_eq_getElem (by have := HP.out.1; omega)⟩
      obtain ⟨Ak, nk, ck, Ad, nd, cd, hE⟩ := hcell i e hle
      have heok := HOK.out e (List.mem_of_getElem? hle)
      have hkl : e.k.length = nk := by have := hE.key.1; rwa [nums_length] at this
      have hdl : e.d.length = nd := by have := hE.dat.1; rwa [nums_length] at this
      have k1 := heok.klen
      have k2 := heok.dlen
      have hck := hE.hk
      have hcd := hE.hd
      have c0 := hE.c0
      have c1 := hE.c1
      have c2' := hE.c2
      have c3 := hE.c3
      have c4 := hE.c4
      have c5 := hE.c5
      have HEK := Lib.hid hE.key
      have HED := Lib.hid hE.dat
      have HEO := Lib.hid (And.intro heok (And.intro hkl (And.intro hdl hle)))
      have hnk : nk ≤ 300 := by omega
      have hndd : nd ≤ 300 := by omega
      obtain rfl := hPe
      clear hpw hcell hE heok hkl hdl k1 k2 hle
      go_wp2_with fail
      have hst1 : Hid (SkSt (wr.alloc (.cells #[.slice Ak nk ck, .int .u64 e.v, .int .u8 e.m, .int .u8 e.u, .int .u64 e.x, .slice Ad nd cd] 32)) g s) := hst.out.frm hokk.out (Frm.alloc wr _) (fun b hb => by cases hb)
      have hb1 : Hid (Below w.heap.size w (wr.alloc (.cells #[.slice Ak nk ck, .int .u64 e.v, .int .u8 e.m, .int .u8 e.u, .int .u64 e.x, .slice Ad nd cd] 32))) := hbel.out.alloc hbel.out.size _
      have hk1 : Hid (Sl (wr.alloc (.cells #[.slice Ak nk ck, .int .u64 e.v, .int .u8 e.m, .int .u8 e.u, .int .u64 e.x, .slice Ad nd cd] 32)) Ak nk (nums .u8 e.k)) := HEK.out.alloc _
      have hd1 : Hid (Sl (wr.alloc (.cells #[.slice Ak nk ck, .int .u64 e.v, .int .u8 e.m, .int .u8 e.u, .int .u64 e.x, .slice Ad nd cd] 32)) Ad nd (nums .u8 e.d)) := HED.out.alloc _
      have hx1 : Blk (wr.alloc (.cells #[.slice Ak nk ck, .int .u64 e.v, .int .u8 e.m, .int .u8 e.u, .int .u64 e.x, .slice Ad nd cd] 32)) wr.heap.size 32 [.slice Ak nk ck, .int .u64 e.v, .int .u8 e.m, .int .u8 e.u, .int .u64 e.x, .slice Ad nd cd] := Blk.new _ _ _
      clear hst hbel HEK HED c0 c1 c2' c3 c4 c5
      generalize wr.alloc (.cells #[.slice Ak nk ck, .int .u64 e.v, .int .u8 e.m, .int .u8 e.u, .int .u64 e.x, .slice Ad nd cd] 32) = wa at *
      generalize wr.heap.size = ge at *
      refine start_ (n := 11) (S := fun w' => w'.cell? ⟨ge, 0, none⟩ = some (.slice Ak nk ck) ∧ w'.cell? ⟨ge, 1, none⟩ = some (.int .u64 e.v) ∧ w'.cell? ⟨ge, 2, none⟩ = some (.int .u8 e.m) ∧ w'.cell? ⟨ge, 3, none⟩ = some (.int .u8 e.u) ∧ w'.cell? ⟨ge, 4, none⟩ = some (.int .u64 e.x) ∧ w'.cell? ⟨ge, 5, none⟩ = some (.slice Ad nd cd)) (ds := [10]) #[ff,ff,ff,ff,ff,ff,ff,ff,ff,ff,ff] (by kernel_rfl) rfl rfl (⟨hx1.at_ rfl, hx1.at_ rfl, hx1.at_ rfl, hx1.at_ rfl, hx1.at_ rfl, hx1.at_ rfl⟩) (fun hHeld => ?_)
      replace hst1 : Hid (SkSt wa.drew g s) := hst1.out.drewN 1
      replace hb1 : Hid (Below w.heap.size w wa.drew) := hb1.out.drew
      replace hk1 : Hid (Sl wa.drew Ak nk (nums .u8 e.k)) := hk1.out
      replace hd1 : Hid (Sl wa.drew Ad nd (nums .u8 e.d)) := hd1.out
      clear hx1
      generalize wa.drew = wb at *
      refine pure_ (i := 0) (N := some 21) (v := ?_) (a' := ?_) #[tt,ff,ff,ff,ff,ff,ff,ff,ff,ff,ff] rfl rfl (by kernel_rfl) (fun _ _ _ h => h) (Or.inl ⟨by rfl, ?_⟩) ?_ ?_; rotate_left; (intro w'; go_simp; with_reducible rfl); rotate_left; (simp only [Act.put, List.setIfInBounds_toArray, List.set_cons_zero, List.set_cons_succ, i64_w, i32_w]; rfl)
      refine pure_ (i := 1) (N := some 22) (v := ?_) (a' := ?_) #[tt,tt,ff,ff,ff,ff,ff,ff,ff,ff,ff] rfl rfl (by kernel_rfl) (fun _ _ _ h => h) (Or.inl ⟨by rfl, ?_⟩) ?_ ?_; rotate_left; (intro w'; go_simp; with_reducible rfl); rotate_left; (simp only [Act.put, List.setIfInBounds_toArray, List.set_cons_zero, List.set_cons_succ, i64_w, i32_w]; rfl)
      refine take_ (i := 2) (N := some 23) (v := ?_) (a' := ?_) #[tt,tt,tt,ff,ff,ff,ff,ff,ff,ff,ff] rfl rfl (by kernel_rfl) (fun _ _ _ h => h) (Or.inl ⟨by rfl, ?_⟩) hHeld ?_ ?_; rotate_left; (rintro w' ⟨h0, h1, h2, h3, h4, h5⟩; go_simp; with_reducible rfl); rotate_left; (simp only [Act.put, List.setIfInBounds_toArray, List.set_cons_zero, List.set_cons_succ, i64_w, i32_w]; rfl)
      refine pure_ (i := 4) (N := some 25) (v := ?_) (a' := ?_) #[tt,tt,tt,ff,tt,ff,ff,ff,ff,ff,ff] rfl rfl (by kernel_rfl) (fun _ _ _ h => h) (Or.inl ⟨by rfl, ?_⟩) ?_ ?_; rotate_left; (intro w'; go_simp; with_reducible rfl); rotate_left; (simp only [Act.put, List.setIfInBounds_toArray, List.set_cons_zero, List.set_cons_succ, i64_w, i32_w]; rfl)
      refine take_ (i := 5) (N := some 26) (v := ?_) (a' := ?_) #[tt,tt,tt,ff,tt,tt,ff,ff,ff,ff,ff] rfl rfl (by kernel_rfl) (fun _ _ _ h => h) (Or.inl ⟨by rfl, ?_⟩) hHeld ?_ ?_; rotate_left; (rintro w' ⟨h0, h1, h2, h3, h4, h5⟩; go_simp; with_reducible rfl); rotate_left; (simp only [Act.put, List.setIfInBounds_toArray, List.set_cons_zero, List.set_cons_succ, i64_w, i32_w]; rfl)
      refine pure_ (i := 7) (N := some 28) (v := ?_) (a' := ?_) #[tt,tt,tt,ff,tt,tt,ff,tt,ff,ff,ff] rfl rfl (by kernel_rfl) (fun _ _ _ h => h) (Or.inl ⟨by rfl, ?_⟩) ?_ ?_; rotate_left; (intro w'; go_simp; with_reducible rfl); rotate_left; (simp only [Act.put, List.setIfInBounds_toArray, List.set_cons_zero, List.set_cons_succ, i64_w, i32_w]; rfl)
      refine take_ (i := 8) (N := some 29) (v := ?_) (a' := ?_) #[tt,tt,tt,ff,tt,tt,ff,tt,tt,ff,ff] rfl rfl (by kernel_rfl) (fun _ _ _ h => h) (Or.inl ⟨by rfl, ?_⟩) hHeld ?_ ?_; rotate_left; (rintro w' ⟨h0, h1, h2, h3, h4, h5⟩; go_simp; with_reducible rfl); rotate_left; (simp only [Act.put, List.setIfInBounds_toArray, List.set_cons_zero, List.set_cons_succ, i64_w, i32_w]; rfl)
      refine one_ (i := 3) (N := some 24) #[tt,tt,tt,tt,tt,tt,ff,tt,tt,ff,ff] rfl rfl (by kernel_rfl) (by decide) (fun K hK => ?_); refine goes_ Try.func36 (by kernel_rfl) rfl #[.slice Ak nk ck] (by rfl) rfl rfl (by (try simp only [List.map_toArray, List.map_cons, List.map_nil]); first | done | rfl) ?_
      refine (own_any Ak nk ck e.k wb hk1.out (by omega)).mono ?_
      intro E wx1 h5; obtain ⟨A5, c5, rfl, hc5, hs5, hbo, ho5⟩ := h5.sv; refine ⟨_, rfl, ?_⟩
      have hsx1 : Hid (SkSt wx1 g s) := hst1.out.frm hokk.out (Frm.of_below hbo.out) (fun b hb => by cases hb)
      have hbx1 : Hid (Below w.heap.size w wx1) := hb1.out.trans (hbo.out.mono hb1.out.size)
      replace hk1 := Lib.hid (hk1.out.below hbo.out)
      replace hd1 := Lib.hid (hd1.out.below hbo.out)
      refine hK.out _ _ (six_bel hHeld hbo.out) (fun hHeld => ?_); clear hK K; refine norm_ (a' := ?_) ?_ ?_; rotate_left; (show Act.put _ (some 24) _ = _; simp only [Act.put, List.setIfInBounds_toArray, List.set_cons_zero, List.set_cons_succ, i64_w, i32_w]; rfl)
      clear hbo hst1 hb1
      refine one_ (i := 6) (N := some 27) #[tt,tt,tt,tt,tt,tt,tt,tt,tt,ff,ff] rfl rfl (by kernel_rfl) (by decide) (fun K hK => ?_); refine goes_ Try.func35 (by kernel_rfl) rfl #[.slice A5 e.k.length c5, .int .u64 e.v] (by rfl) rfl rfl (by (try simp only [List.map_toArray, List.map_cons, List.map_nil]); first | done | rfl) ?_
      refine (keyWithTs_any A5 e.k.length c5 e.k e.v wx1 hs5.out (by have := HEO.out; omega) HEO.out.1.v0 HEO.out.1.v1).mono ?_
      intro E wx2 h6; obtain ⟨A6, c6, rfl, hc6, hs6, hbo, ho6⟩ := h6.sv; refine ⟨_, rfl, ?_⟩
      have hn6 : Hid (∀ b o, A6 = some ⟨b, o, none⟩ → b ∉ blksOf g s) := own_out ho6.out (fun b hb => blks_lt hsx1.out b hb)
      have hsx2 : Hid (SkSt wx2 g s) := hsx1.out.frm hokk.out (Frm.of_below hbo.out) (fun b hb => by cases hb)
      have hbx2 : Hid (Below w.heap.size w wx2) := hbx1.out.trans (hbo.out.mono hbx1.out.size)
      replace hs5 := Lib.hid (hs5.out.below hbo.out)
      replace hk1 := Lib.hid (hk1.out.below hbo.out)
      replace hd1 := Lib.hid (hd1.out.below hbo.out)
      refine hK.out _ _ (six_bel hHeld hbo.out) (fun hHeld => ?_); clear hK K; refine norm_ (a' := ?_) ?_ ?_; rotate_left; (show Act.put _ (some 27) _ = _; simp only [Act.put, List.setIfInBounds_toArray, List.set_cons_zero, List.set_cons_succ, i64_w, i32_w]; rfl)
      clear hbo hsx1 hbx1
      refine one_ (i := 9) (N := some 30) #[tt,tt,tt,tt,tt,tt,tt,tt,tt,tt,ff] rfl rfl (by kernel_rfl) (by decide) (fun K hK => ?_); refine goes_ Try.func68 (by kernel_rfl) rfl #[.agg #[.int .u8 e.m, .int .u8 e.u, .int .u64 e.x, .slice Ad nd cd]] (by rfl) rfl rfl (by (try simp only [List.map_toArray, List.map_cons, List.map_nil]); first | done | rfl) ?_
      refine (structOf_any e.m e.u e.x Ad nd cd e.d wx2 hd1.out hcd (by omega)).mono ?_
      rintro E wx3 ⟨v7, rfl, ho7, hbo7⟩; obtain ⟨A7, c7, hv7, hc7, hs7⟩ := own_sl ho7; subst hv7; refine ⟨_, rfl, ?_⟩
      have hn7 : Hid (∀ b o, A7 = some ⟨b, o, none⟩ → b ∉ blksOf g s) := own_out ho7 (fun b hb => blks_lt hsx2.out b hb)
      have hbo := Lib.hid hbo7; have hs7 := Lib.hid hs7; clear ho7 hbo7
      have hsx3 : Hid (SkSt wx3 g s) := hsx2.out.frm hokk.out (Frm.of_below hbo.out) (fun b hb => by cases hb)
      have hbx3 : Hid (Below w.heap.size w wx3) := hbx2.out.trans (hbo.out.mono hbx2.out.size)
      replace hs5 := Lib.hid (hs5.out.below hbo.out)
      replace hs6 := Lib.hid (hs6.out.below hbo.out)
      replace hk1 := Lib.hid (hk1.out.below hbo.out)
      replace hd1 := Lib.hid (hd1.out.below hbo.out)
      refine hK.out _ _ (six_bel hHeld hbo.out) (fun hHeld => ?_); clear hK K; refine norm_ (a' := ?_) ?_ ?_; rotate_left; (show Act.put _ (some 30) _ = _; simp only [Act.put, List.setIfInBounds_toArray, List.set_cons_zero, List.set_cons_succ, i64_w, i32_w]; rfl)
      clear hbo hsx2 hbx2
      refine last_ (i := 10) (N := some 31) #[tt,tt,tt,tt,tt,tt,tt,tt,tt,tt,tt] rfl rfl (by kernel_rfl) (by decide) (fun K hK => ?_); refine goes_ Try.func67 (by kernel_rfl) rfl #[.pointer (some ⟨g, 0, none⟩), .slice A6 (keyB e.k e.v).length c6, .agg #[.int .u8 e.m, .int .u8 e.u, .int .u64 e.x, .slice A7 nd c7, .int .u64 0]] (by rfl) rfl rfl (by (try simp only [List.map_toArray, List.map_cons, List.map_nil]); first | done | rfl) ?_
      refine (put_skl g w.heap.size s A6 A7 (keyB e.k e.v).length c6 nd c7 e 0 wx3 hsx3.out hokk.out hfull.out hs6.out hc6 hn6.out hs7.out hn7.out HEO.out.1 (by have := hnn.out; omega) hnn.out.2.1 hbx3.out.size).mono ?_
      rintro E w9 ⟨s', rfl, hst9, hok9, hf9, hns9, hn9, ht9, hr9, hb9⟩; refine ⟨_, rfl, ?_⟩
      have HR9 := Lib.hid (And.intro hst9 (And.intro hok9 (And.intro hf9 (And.intro hns9 (And.intro hn9 (And.intro ht9 (And.intro hr9 hb9)))))))
      clear hst9 hok9 hf9 hns9 hn9 ht9 hr9 hb9 hHeld
      refine hK.out _ _ ?_; clear hK K; refine norm_ (a' := ?_) ?_ ?_; rotate_left; (show Act.put _ (some 31) _ = _; simp only [Act.put, List.setIfInBounds_toArray, List.set_cons_zero, List.set_cons_succ, i64_w, i32_w]; rfl)
      refine done_ (by kernel_rfl) ?_
      go_wp2
      go_roundg gkO
      case measure => omega
      case rel =>
        obtain ⟨hst9, hok9, hf9, hns9, hn9, ht9, hr9, hb9⟩ := HR9.out
        refine ⟨i + 1, s', by go_num, by omega, by have := hq.out; show _ = _; omega, hst9, hok9, hf9, ?_, ⟨by have := hnn.out; omega, ht9, by rw [hr9]; exact hnn.out.2.2⟩, hbx3.out.trans hb9⟩
        show _ = _
        rw [hns9, hns.out, take_snoc l i e HEO.out.2.2.2, putsE_snoc]
    · obtain rfl : i = m := by omega
      go_wp2
      go_ret
      exact ⟨g, s, rfl, hst.out, hokk.out, hfull.out, by rw [hns.out, List.take_of_length_le (by have := HP.out.1; omega)], hnn.out.2.2, hbel.out⟩
end Go.Proofs.Ytanmgkpgfmkobaa

/- Whether a skip list is empty. -/
namespace Go.Proofs.Ytanmgkpgfmkobaa
open Go.RowKit
set_option linter.unusedVariables false
set_option linter.unusedSimpArgs false
theorem empty_skl (g B : Nat) (s : SkA) (w : World) (h : SkSt w g s) (ok : SkOk g B s) (hf : Full s) :
    Calls Try.prog 31 #[.pointer (some ⟨g, 0, none⟩)] w fun E w' => E = .returned (.bool (decide (s.ns.length = 0))) ∧ Drew w w' := by
  have H := Lib.hid h
  have OK := Lib.hid ok
  have HF := Lib.hid hf
  clear h ok hf
  go_enter Try.func31, Try.ntmps31
  go_wp2_with fail
  refine (findLast_skl g B s w H.out OK.out HF.out).mono ?_
  rintro E w1 ⟨rfl, hd⟩
  have HD := Lib.hid hd
  clear hd
  by_cases h0 : s.ns.length = 0
  · have e1 : befP s s.ns.length = .pointer none := by unfold befP; rw [if_pos h0]
    rw [e1]
    have H0 := Lib.hid h0
    clear e1 h0
    go_wp2
    go_ret
    exact ⟨by rw [decide_eq_true H0.out]; rfl, HD.out⟩
  · have e1 : befP s s.ns.length = .pointer (some ⟨plcB s s.ns.length, 0, none⟩) := by unfold befP; rw [if_neg h0]; rfl
    rw [e1]
    have H0 := Lib.hid h0
    clear e1 h0
    go_wp2
    go_ret
    exact ⟨by rw [decide_eq_false H0.out]; rfl, HD.out⟩
theorem putE_ne (l : List Ent) (e : Ent) : putE l e ≠ [] := by
  unfold putE
  intro h
  have := congrArg List.length h
  simp at this
theorem putsE_nil (l : List Ent) : (putsE l).length = 0 ↔ l.length = 0 := by
  constructor
  · intro h
    rcases Nat.eq_zero_or_pos l.length with h0 | h0
    · exact h0
    · exfalso
      have e : l = l.dropLast ++ [l.getLast (by intro e; rw [e] at h0; simp at h0)] := (List.dropLast_concat_getLast _).symm
      rw [e, putsE_snoc] at h
      exact putE_ne _ _ (List.length_eq_zero_iff.1 h)
  · intro h
    rw [List.length_eq_zero_iff.1 h]
    rfl
theorem noneIn_any (A P : Option Addr) (n c m d : Nat) (rs : List Int) (l : List Ent) (w : World) (ha : Sl w A n (nums .u32 rs)) (hn1 : 1 ≤ n) (hn2 : n ≤ 1000000) (hp : Sle w P m l) (hm : m ≤ 80) (hok : ∀ e ∈ l, EntOk e) :
    Calls Try.prog 13 #[.slice A n c, .slice P m d] w fun E w' => E = .returned (.bool (decide (l.length = 0))) ∧ Below w.heap.size w w' := by
  have HP := Lib.hid hp
  have HOK := Lib.hid hok
  have HAS := Lib.hid ha
  clear hp hok ha
  go_enter Try.func13, Try.ntmps13
  go_wp2_with fail
  refine (skips_any A P n c m d rs l w HAS.out hn1 hn2 HP.out hm HOK.out).mono ?_
  rintro E w1 ⟨g, s, rfl, hst, hokk, hfull, hns, href, hbel⟩
  have HR := Lib.hid (And.intro hst (And.intro hokk (And.intro hfull (And.intro hns hbel))))
  clear hst hokk hfull hns href hbel
  go_wp2_with fail
  refine (empty_skl g w.heap.size s w1 HR.out.1 HR.out.2.1 HR.out.2.2.1).mono ?_
  rintro E w2 ⟨rfl, hd⟩
  have HD := Lib.hid hd
  clear hd
  obtain ⟨bb, hbb⟩ : ∃ bb, decide (s.ns.length = 0) = bb := ⟨_, rfl⟩
  rw [hbb]
  have HBB := Lib.hid hbb
  clear hbb
  go_wp2
  go_ret
  have hl : s.ns.length = (putsE l).length := by rw [← HR.out.2.2.2.1, List.length_map]
  refine ⟨?_, HR.out.2.2.2.2.trans (HD.out.below.mono HR.out.2.2.2.2.size)⟩
  have e : decide (s.ns.length = 0) = decide (l.length = 0) := by rw [hl]; exact decide_eq_decide.2 (putsE_nil l)
  rw [← e, HBB.out]
  rfl
end Go.Proofs.Ytanmgkpgfmkobaa
