/- spec.put: an entry comes into a list in order. -/
import Derived.Test.YtanmgkpgfmkobaaGK
namespace Go.Proofs.Ytanmgkpgfmkobaa
open Go.Proofs.YtanmgkpgfmkobaaW.PrintLast
open Go.RowKit
set_option linter.unusedVariables false
set_option linter.unusedSimpArgs false
theorem own_bel {w w1 : World} {base e s n : Nat} {v : Value} {xs : List Value} (h : w.ownsRow base e s v n xs) (hb : Below w.heap.size w w1) : w1.ownsRow base e s v n xs := by
  obtain ⟨h1, h2⟩ := h
  refine ⟨h1, ?_⟩
  rcases h2 with h2 | ⟨g, cap, cur, e1, hg, hh, r⟩
  · exact .inl h2
  · exact .inr ⟨g, cap, cur, e1, hg, blk_below hh hb, r⟩
theorem bel_drewN {B : Nat} {w w' : World} (h : Below B w w') (n : Nat) : Below B w (w'.drewN n) := ⟨h.os, h.tape, h.output, h.size, h.block⟩
theorem pos_lt_of (l : List Ent) (k : List Int) (v : Int) (i : Nat) (a : Ent) (hi : i ≤ posE l k v) (ha : l[i]? = some a) (h : orderL a.k a.v k v = -1) : i < posE l k v := by
  rcases Nat.lt_or_eq_of_le hi with h1 | h1
  · exact h1
  · subst h1
    exact absurd h (posE_at l k v a ha)
/-- An entry of a list, and one in a block. -/
def Two (ga o gq : Nat) (r q : ER) (w' : World) : Prop := w'.cell? ⟨ga, o, none⟩ = some (.slice r.Ak r.nk r.ck) ∧ w'.cell? ⟨ga, o + 1, none⟩ = some (.int .u64 r.e.v) ∧ w'.cell? ⟨ga, o + 2, none⟩ = some (.int .u8 r.e.m) ∧ w'.cell? ⟨ga, o + 3, none⟩ = some (.int .u8 r.e.u) ∧ w'.cell? ⟨ga, o + 4, none⟩ = some (.int .u64 r.e.x) ∧ w'.cell? ⟨ga, o + 5, none⟩ = some (.slice r.Ad r.nd r.cd) ∧ w'.cell? ⟨gq, 0, none⟩ = some (.slice q.Ak q.nk q.ck) ∧ w'.cell? ⟨gq, 1, none⟩ = some (.int .u64 q.e.v) ∧ w'.cell? ⟨gq, 2, none⟩ = some (.int .u8 q.e.m) ∧ w'.cell? ⟨gq, 3, none⟩ = some (.int .u8 q.e.u) ∧ w'.cell? ⟨gq, 4, none⟩ = some (.int .u64 q.e.x) ∧ w'.cell? ⟨gq, 5, none⟩ = some (.slice q.Ad q.nd q.cd)
theorem Two.bel {ga o gq : Nat} {r q : ER} {w w' : World} (h : Two ga o gq r q w) (hb : Below w.heap.size w w') : Two ga o gq r q w' := by
  obtain ⟨h0, h1, h2, h3, h4, h5, h6, h7, h8, h9, h10, h11⟩ := h
  exact ⟨cell_bel h0 hb, cell_bel h1 hb, cell_bel h2 hb, cell_bel h3 hb, cell_bel h4 hb, cell_bel h5 hb, cell_bel h6 hb, cell_bel h7 hb, cell_bel h8 hb, cell_bel h9 hb, cell_bel h10 hb, cell_bel h11 hb⟩
/-- An entry in a block. -/
def One (gq : Nat) (q : ER) (w' : World) : Prop := w'.cell? ⟨gq, 0, none⟩ = some (.slice q.Ak q.nk q.ck) ∧ w'.cell? ⟨gq, 1, none⟩ = some (.int .u64 q.e.v) ∧ w'.cell? ⟨gq, 2, none⟩ = some (.int .u8 q.e.m) ∧ w'.cell? ⟨gq, 3, none⟩ = some (.int .u8 q.e.u) ∧ w'.cell? ⟨gq, 4, none⟩ = some (.int .u64 q.e.x) ∧ w'.cell? ⟨gq, 5, none⟩ = some (.slice q.Ad q.nd q.cd)
theorem One.bel {gq : Nat} {q : ER} {w w' : World} (h : One gq q w) (hb : Below w.heap.size w w') : One gq q w' := by
  obtain ⟨h0, h1, h2, h3, h4, h5⟩ := h
  exact ⟨cell_bel h0 hb, cell_bel h1 hb, cell_bel h2 hb, cell_bel h3 hb, cell_bel h4 hb, cell_bel h5 hb⟩
theorem cells_one (q : ER) : ∀ u ∈ q.cells, u.oneCell' = true := by
  have := flatE_one [q]
  rwa [show flatE [q] = q.cells from by simp [flatE]] at this
theorem drop_sl {w : World} {g o c : Nat} {rs : List ER} {i : Nat} (h : Ers w (some ⟨g, o, none⟩) rs) (hi : i ≤ rs.length) (hc : rs.length ≤ c) : Sl w (if c = i then some ⟨g, o, none⟩ else some ⟨g, o + i * 6, none⟩) ((rs.length - i) * 6) (flatE (rs.drop i)) := by
  have h1 := h.sl.drop (m := i * 6) (c := c * 6) (by omega) (by omega)
  rw [flatE_drop rs i hi] at h1
  rw [show rs.length * 6 - i * 6 = (rs.length - i) * 6 by omega] at h1
  by_cases hcc : c = i
  · rw [if_pos (by omega)] at h1
    rwa [if_pos hcc]
  · rw [if_neg (by omega)] at h1
    rw [if_neg hcc]
    simpa [add_none] using h1
theorem putR_len (l : List ER) (r : ER) (i j : Nat) (hi : i = posE (l.map ER.e) r.e.k r.e.v) (hj : j = if hitE (l.map ER.e) r.e.k r.e.v then i + 1 else i) : putR l r = l.take i ++ r :: l.drop j := by
  unfold putR
  rw [hj, ← hi]
def PutsP (rs : List ER) (q : ER) (w : World) (E : Ending) (w' : World) : Prop := ∃ A c, E = .returned (.slice A (putR rs q).length c) ∧ (putR rs q).length ≤ c ∧ Ers w' A (putR rs q) ∧ Below w.heap.size w w'
theorem put_end {rs : List ER} {q : ER} {w wy wv w9 : World} {gq ga oa m i j c6 c9 : Nat} {A6 A9 : Option Addr} (hm : rs.length = m) (hA : Ers wy (some ⟨ga, oa, none⟩) rs) (hq : q.In wy) (hb : Below gq w wy) (hsz : gq ≤ wy.heap.size) (hbe : Below wy.heap.size wy wv) (hgq : w.heap.size = gq)
    (ho6 : wv.ownsRow wy.heap.size 32 6 (.slice A6 (i + 1) c6) (i + 1) (flatE (rs.take i) ++ q.cells)) (hg9 : wv.grownBy w9 (Value.slice A6 (i + 1) c6).ownBlock) (hs9 : Sl w9 A9 ((i + 1 + (m - j)) * 6) (flatE (rs.take i) ++ q.cells ++ flatE (rs.drop j))) (hc9 : i + 1 + (m - j) ≤ c9)
    (hH : putR rs q = rs.take i ++ q :: rs.drop j) (hj : j ≤ m) (hi : i ≤ m) {n : Nat} (hn : n = i + 1 + (m - j)) : PutsP rs q w (.returned (.slice A9 n c9)) w9 := by
  subst hn
  have h9 : Below wy.heap.size wy w9 := hbe.grown hg9 hbe.size (fun k e => (ho6.lt k e).1)
  have hl : (putR rs q).length = i + 1 + (m - j) := by rw [hH]; simp; omega
  have hf : flatE (putR rs q) = flatE (rs.take i) ++ q.cells ++ flatE (rs.drop j) := by rw [hH, flatE_append, flatE_cons, List.append_assoc]
  refine ⟨A9, c9, by rw [hl], by rw [hl]; exact hc9, ⟨by rw [hl, hf]; exact hs9, fun r hr => ?_⟩, by rw [hgq]; exact hb.trans (h9.mono hsz)⟩
  rw [hH] at hr
  rcases List.mem_append.1 hr with h1 | h1
  · exact (hA.each r (List.mem_of_mem_take h1)).below h9
  · rcases List.mem_cons.1 h1 with rfl | h2
    · exact hq.below h9
    · exact (hA.each r (List.mem_of_mem_drop h2)).below h9
set_option maxRecDepth 100000 in
set_option maxHeartbeats 8000000 in
theorem specPut_any (ga oa m c : Nat) (rs : List ER) (q : ER) (w : World) (hm : rs.length = m) (hmc : m ≤ c) (hm2 : m ≤ 4000000000) (hA : Ers w (some ⟨ga, oa, none⟩) rs) (hq : q.In w) (hl : ∀ r ∈ rs, r.nk ≤ 4000000000) (hl2 : q.nk ≤ 4000000000) :
    Calls Try.prog 32 #[.slice (some ⟨ga, oa, none⟩) m c, .agg #[.slice q.Ak q.nk q.ck, .int .u64 q.e.v, .int .u8 q.e.m, .int .u8 q.e.u, .int .u64 q.e.x, .slice q.Ad q.nd q.cd]] w (PutsP rs q w) := by
  have HA := Lib.hid (hA.alloc (.cells #[.slice q.Ak q.nk q.ck, .int .u64 q.e.v, .int .u8 q.e.m, .int .u8 q.e.u, .int .u64 q.e.x, .slice q.Ad q.nd q.cd] 32))
  have HQ := Lib.hid (hq.alloc (.cells #[.slice q.Ak q.nk q.ck, .int .u64 q.e.v, .int .u8 q.e.m, .int .u8 q.e.u, .int .u64 q.e.x, .slice q.Ad q.nd q.cd] 32))
  have HX : Hid (Blk (w.alloc (.cells #[.slice q.Ak q.nk q.ck, .int .u64 q.e.v, .int .u8 q.e.m, .int .u8 q.e.u, .int .u64 q.e.x, .slice q.Ad q.nd q.cd] 32)) w.heap.size 32 q.cells) := Blk.new w _ _
  have HB : Hid (Below w.heap.size w (w.alloc (.cells #[.slice q.Ak q.nk q.ck, .int .u64 q.e.v, .int .u8 q.e.m, .int .u8 q.e.u, .int .u64 q.e.x, .slice q.Ad q.nd q.cd] 32))) := (Below.refl _ _).alloc (Nat.le_refl _) _
  have HL := Lib.hid hl
  have HM := Lib.hid hm
  have hpp : Hid (posE (rs.map ER.e) q.e.k q.e.v ≤ m) := by have := posE_le (rs.map ER.e) q.e.k q.e.v; rw [List.length_map] at this; show _ ≤ _; omega
  clear hA hq hl hm
  go_enter Try.func32, Try.ntmps32
  go_wp2_with fail
  generalize w.alloc (.cells #[.slice q.Ak q.nk q.ck, .int .u64 q.e.v, .int .u8 q.e.m, .int .u8 q.e.u, .int .u64 q.e.x, .slice q.Ad q.nd q.cd] 32) = w0 at *
  generalize hgq : w.heap.size = gq at *
  have HGQ := Lib.hid hgq
  clear hgq
  obtain ⟨p, hp⟩ : ∃ p, p = posE (rs.map ER.e) q.e.k q.e.v := ⟨_, rfl⟩
  rw [← hp] at hpp
  have HPP := Lib.hid hp
  have hpm : p ≤ m := hpp.out
  clear hpp hp
  go_loopg [5] m (fun f v5 wr => ∃ (i : Nat), v5 = .int .i64 i ∧ i ≤ p ∧ Hid (i + f = m) ∧ Hid (Below w0.heap.size w0 wr))
  case atStart => exact ⟨0, rfl, Nat.zero_le _, by simp [Hid], Below.refl _ _⟩
  case round =>
    obtain ⟨i, rfl, hip, hf, hbw⟩ := hrel
    have hAr := Lib.hid (HA.out.below hbw.out)
    have hQr := Lib.hid (HQ.out.below hbw.out)
    have hXr := Lib.hid (HX.out.frm (Frm.of_below hbw.out) (by simp))
    have hBr : Hid (Below gq w wr) := HB.out.trans (hbw.out.mono (by have := HX.out.lt; omega))
    by_cases hlt : i < m
    · obtain ⟨r, hr⟩ : ∃ r, rs[i]? = some r := ⟨_, List.getElem?_eq_getElem (by have := HM.out; omega)⟩
      have hrn : r.nk ≤ 4000000000 := HL.out r (List.mem_of_getElem? hr)
      have hrin := Lib.hid (hAr.out.each r (List.mem_of_getElem? hr))
      have HR := Lib.hid hr
      have hx := hXr.out
      have ha : ∀ j v, r.cells[j]? = some v → wr.cell? ⟨ga, oa + i * 6 + j, none⟩ = some v := fun j v hj => hAr.out.at_ hr hj
      have hil : ((i : Int)) < (m : Int) := by omega
      have a0 := ha 0 _ rfl
      rw [Nat.add_zero] at a0
      go_wp2
      refine start_ (n := 13) (S := Two ga (oa + i * 6) gq r q) (ds := []) #[ff,ff,ff,ff,ff,ff,ff,ff,ff,ff,ff,ff,ff] (by kernel_rfl) rfl rfl (⟨a0, ha 1 _ rfl, ha 2 _ rfl, ha 3 _ rfl, ha 4 _ rfl, ha 5 _ rfl, hx.at_ rfl, hx.at_ rfl, hx.at_ rfl, hx.at_ rfl, hx.at_ rfl, hx.at_ rfl⟩) (fun hHeld => ?_)
      replace hAr : Hid (Ers wr.drew (some ⟨ga, oa, none⟩) rs) := ⟨hAr.out.sl, fun r hr => (hAr.out.each r hr).drewN 1⟩
      replace hQr : Hid (q.In wr.drew) := hQr.out.drewN 1
      replace hXr : Hid (Blk wr.drew gq 32 q.cells) := hXr.out
      replace hBr : Hid (Below gq w wr.drew) := hBr.out.drew
      replace hbw : Hid (Below w0.heap.size w0 wr.drew) := hbw.out.drew
      replace hrin : Hid (r.In wr.drew) := hrin.out.drewN 1
      clear ha hx a0
      generalize wr.drew = wd at *
      refine pure_ (i := 0) (N := some 7) (v := ?_) (a' := ?_) #[tt,ff,ff,ff,ff,ff,ff,ff,ff,ff,ff,ff,ff] rfl rfl (by kernel_rfl) (fun _ _ _ h => h) (Or.inl ⟨by rfl, ?_⟩) ?_ ?_; rotate_left; (intro w'; go_simp; with_reducible rfl); rotate_left; (simp only [Act.put, List.setIfInBounds_toArray, List.set_cons_zero, List.set_cons_succ, i64_w, i32_w]; rfl)
      refine pure_ (i := 1) (N := some 8) (v := ?_) (a' := ?_) #[tt,tt,ff,ff,ff,ff,ff,ff,ff,ff,ff,ff,ff] rfl rfl (by kernel_rfl) (fun _ _ _ h => h) (Or.inl ⟨by rfl, ?_⟩) ?_ ?_; rotate_left; (intro w'; go_simp; with_reducible rfl); rotate_left; (simp only [Act.put, List.setIfInBounds_toArray, List.set_cons_zero, List.set_cons_succ, i64_w, i32_w]; rfl)
      refine pure_ (i := 2) (N := some 9) (v := ?_) (a' := ?_) #[tt,tt,tt,ff,ff,ff,ff,ff,ff,ff,ff,ff,ff] rfl rfl (by kernel_rfl) (fun _ _ _ h => h) (Or.inl ⟨by rfl, ?_⟩) ?_ ?_; rotate_left; (intro w'; go_simp; with_reducible rfl); rotate_left; (simp only [Act.put, List.setIfInBounds_toArray, List.set_cons_zero, List.set_cons_succ, i64_w, i32_w]; rfl)
      refine pure_ (i := 3) (N := some 10) (v := ?_) (a' := ?_) #[tt,tt,tt,tt,ff,ff,ff,ff,ff,ff,ff,ff,ff] rfl rfl (by kernel_rfl) (fun _ _ _ h => h) (Or.inl ⟨by rfl, ?_⟩) ?_ ?_; rotate_left; (intro w'; go_simp; with_reducible rfl); rotate_left; (simp only [Act.put, List.setIfInBounds_toArray, List.set_cons_zero, List.set_cons_succ, i64_w, i32_w]; rfl)
      refine pure_ (i := 4) (N := some 11) (v := ?_) (a' := ?_) #[tt,tt,tt,tt,tt,ff,ff,ff,ff,ff,ff,ff,ff] rfl rfl (by kernel_rfl) (fun _ _ _ h => h) (Or.inl ⟨by rfl, ?_⟩) ?_ ?_; rotate_left; (intro w'; go_simp; with_reducible rfl); rotate_left; (simp only [Act.put, List.setIfInBounds_toArray, List.set_cons_zero, List.set_cons_succ, i64_w, i32_w]; rfl)
      refine pure_ (i := 5) (N := some 12) (v := ?_) (a' := ?_) #[tt,tt,tt,tt,tt,tt,ff,ff,ff,ff,ff,ff,ff] rfl rfl (by kernel_rfl) (fun _ _ _ h => h) (Or.inl ⟨by rfl, ?_⟩) ?_ ?_; rotate_left; (intro w'; go_simp; with_reducible rfl); rotate_left; (simp only [Act.put, List.setIfInBounds_toArray, List.set_cons_zero, List.set_cons_succ, i64_w, i32_w]; rfl)
      refine pure_ (i := 6) (N := some 13) (v := ?_) (a' := ?_) #[tt,tt,tt,tt,tt,tt,tt,ff,ff,ff,ff,ff,ff] rfl rfl (by kernel_rfl) (fun _ _ _ h => h) (Or.inl ⟨by rfl, ?_⟩) ?_ ?_; rotate_left; (intro w'; go_simp; with_reducible rfl); rotate_left; (simp only [Act.put, List.setIfInBounds_toArray, List.set_cons_zero, List.set_cons_succ, i64_w, i32_w]; rfl)
      refine pure_ (i := 7) (N := some 14) (v := ?_) (a' := ?_) #[tt,tt,tt,tt,tt,tt,tt,tt,ff,ff,ff,ff,ff] rfl rfl (by kernel_rfl) (fun _ _ _ h => h) (Or.inl ⟨by rfl, ?_⟩) ?_ ?_; rotate_left; (intro w'; go_simp; with_reducible rfl); rotate_left; (simp only [Act.put, List.setIfInBounds_toArray, List.set_cons_zero, List.set_cons_succ, i64_w, i32_w]; rfl)
      refine take_ (i := 8) (N := some 15) (v := ?_) (a' := ?_) #[tt,tt,tt,tt,tt,tt,tt,tt,tt,ff,ff,ff,ff] rfl rfl (by kernel_rfl) (fun _ _ _ h => h) (Or.inl ⟨by rfl, ?_⟩) hHeld ?_ ?_; rotate_left; (rintro w' ⟨h0, h1, h2, h3, h4, h5, h6, h7, h8, h9, h10, h11⟩; go_simp; with_reducible rfl); rotate_left; (simp only [Act.put, List.setIfInBounds_toArray, List.set_cons_zero, List.set_cons_succ, i64_w, i32_w]; rfl)
      refine take_ (i := 9) (N := some 16) (v := ?_) (a' := ?_) #[tt,tt,tt,tt,tt,tt,tt,tt,tt,tt,ff,ff,ff] rfl rfl (by kernel_rfl) (fun _ _ _ h => h) (Or.inl ⟨by rfl, ?_⟩) hHeld ?_ ?_; rotate_left; (rintro w' ⟨h0, h1, h2, h3, h4, h5, h6, h7, h8, h9, h10, h11⟩; go_simp; with_reducible rfl); rotate_left; (simp only [Act.put, List.setIfInBounds_toArray, List.set_cons_zero, List.set_cons_succ, i64_w, i32_w]; rfl)
      refine one_ (i := 10) (N := some 17) #[tt,tt,tt,tt,tt,tt,tt,tt,tt,tt,tt,ff,ff] rfl rfl (by kernel_rfl) (by decide) (fun K hK => ?_); refine goes_ Try.func70 (by kernel_rfl) rfl #[.agg #[.slice r.Ak r.nk r.ck, .int .u64 r.e.v, .int .u8 r.e.m, .int .u8 r.e.u, .int .u64 r.e.x, .slice r.Ad r.nd r.cd], .agg #[.slice q.Ak q.nk q.ck, .int .u64 q.e.v, .int .u8 q.e.m, .int .u8 q.e.u, .int .u64 q.e.x, .slice q.Ad q.nd q.cd]] (by rfl) rfl rfl (by (try simp only [List.map_toArray, List.map_cons, List.map_nil]); first | done | rfl) ?_
      refine (orderOf_any r q wd hrin.out hQr.out (by omega) (by omega)).mono ?_
      rintro E wx ⟨rfl, hbx⟩; refine ⟨_, rfl, ?_⟩
      have HBX := Lib.hid hbx
      have hsz0 : Hid (gq < wd.heap.size) := hXr.out.lt
      refine hK.out _ _ (Two.bel hHeld hbx) (fun hHeld => ?_); clear hK K; refine norm_ (a' := ?_) ?_ ?_; rotate_left; (show Act.put _ (some 17) _ = _; simp only [Act.put, List.setIfInBounds_toArray, List.set_cons_zero, List.set_cons_succ, i64_w, i32_w]; rfl)
      replace hAr := Lib.hid (hAr.out.below HBX.out)
      replace hQr := Lib.hid (hQr.out.below HBX.out)
      replace hXr := Lib.hid (hXr.out.frm (Frm.of_below HBX.out) (by simp))
      replace hBr : Hid (Below gq w wx) := hBr.out.trans (HBX.out.mono (Nat.le_of_lt hsz0.out))
      replace hbw : Hid (Below w0.heap.size w0 wx) := hbw.out.trans (HBX.out.mono hbw.out.size)
      clear HBX hbx hsz0 hHeld hrin
      have h3 := orderL_three r.e.k q.e.k r.e.v q.e.v
      rcases h3 with h3 | h3 | h3
      · rw [h3]
        refine pure_ (i := 11) (N := some 18) (v := ?_) (a' := ?_) #[tt,tt,tt,tt,tt,tt,tt,tt,tt,tt,tt,tt,ff] rfl rfl (by kernel_rfl) (fun _ _ _ h => h) (Or.inl ⟨by rfl, ?_⟩) ?_ ?_; rotate_left; (intro w'; go_simp; with_reducible rfl); rotate_left; (simp only [Act.put, List.setIfInBounds_toArray, List.set_cons_zero, List.set_cons_succ, i64_w, i32_w]; rfl)
        refine pure_ (i := 12) (N := some 19) (v := ?_) (a' := ?_) #[tt,tt,tt,tt,tt,tt,tt,tt,tt,tt,tt,tt,tt] rfl rfl (by kernel_rfl) (fun _ _ _ h => h) (Or.inl ⟨by rfl, ?_⟩) ?_ ?_; rotate_left; (intro w'; go_simp; with_reducible rfl); rotate_left; (simp only [Act.put, List.setIfInBounds_toArray, List.set_cons_zero, List.set_cons_succ, i64_w, i32_w]; rfl)
        refine done_ (by kernel_rfl) ?_
        have hnx : i < p := by rw [HPP.out] at hip ⊢; exact pos_lt_of _ _ _ i r.e hip (by rw [List.getElem?_map, HR.out]; rfl) h3
        clear h3 hHeld
        go_wp2
        obtain ⟨gkO, rfl⟩ : ∃ q, gk = q + 1 := ⟨gk - 1, by have := hf.out; omega⟩
        go_roundg gkO
        case measure => omega
        case rel => exact ⟨i + 1, by go_num, by omega, by have := hf.out; show _ = _; omega, hbw.out⟩
      · rw [h3]
        refine pure_ (i := 11) (N := some 18) (v := ?_) (a' := ?_) #[tt,tt,tt,tt,tt,tt,tt,tt,tt,tt,tt,tt,ff] rfl rfl (by kernel_rfl) (fun _ _ _ h => h) (Or.inl ⟨by rfl, ?_⟩) ?_ ?_; rotate_left; (intro w'; go_simp; with_reducible rfl); rotate_left; (simp only [Act.put, List.setIfInBounds_toArray, List.set_cons_zero, List.set_cons_succ, i64_w, i32_w]; rfl)
        refine pure_ (i := 12) (N := some 19) (v := ?_) (a' := ?_) #[tt,tt,tt,tt,tt,tt,tt,tt,tt,tt,tt,tt,tt] rfl rfl (by kernel_rfl) (fun _ _ _ h => h) (Or.inl ⟨by rfl, ?_⟩) ?_ ?_; rotate_left; (intro w'; go_simp; with_reducible rfl); rotate_left; (simp only [Act.put, List.setIfInBounds_toArray, List.set_cons_zero, List.set_cons_succ, i64_w, i32_w]; rfl)
        refine done_ (by kernel_rfl) ?_
        have hpi : i = p := by
          rcases Nat.lt_or_eq_of_le hip with h4 | h4
          · exfalso
            rw [HPP.out] at h4
            have := posE_lt _ _ _ i r.e h4 (by rw [List.getElem?_map, HR.out]; rfl)
            omega
          · exact h4
        clear hHeld
        subst hpi
        have hx := hXr.out
        have hic : i ≤ c := by omega
        go_wp2
        refine start_ (n := 9) (S := One gq q) (ds := []) #[ff,ff,ff,ff,ff,ff,ff,ff,ff] (by kernel_rfl) rfl rfl (⟨hx.at_ rfl, hx.at_ rfl, hx.at_ rfl, hx.at_ rfl, hx.at_ rfl, hx.at_ rfl⟩) (fun hHeld => ?_)
        replace hAr : Hid (Ers wx.drew (some ⟨ga, oa, none⟩) rs) := ⟨hAr.out.sl, fun r hr => (hAr.out.each r hr).drewN 1⟩
        replace hQr : Hid (q.In wx.drew) := hQr.out.drewN 1
        replace hXr : Hid (Blk wx.drew gq 32 q.cells) := hXr.out
        replace hBr : Hid (Below gq w wx.drew) := hBr.out.drew
        have hY := Lib.hid hHeld
        clear hx hbw
        generalize wx.drew = wy at *
        have hsz : Hid (gq < wy.heap.size) := hXr.out.lt
        have htk : Hid (Sl wy (some ⟨ga, oa, none⟩) (i * 6) (flatE (rs.take i))) := by
          have := hAr.out.sl.take (m := i * 6) (by have := HM.out; omega)
          rw [flatE_take] at this
          exact this
        refine pure_ (i := 1) (N := some 23) (v := ?_) (a' := ?_) #[ff,tt,ff,ff,ff,ff,ff,ff,ff] rfl rfl (by kernel_rfl) (fun _ _ _ h => h) (Or.inl ⟨by rfl, ?_⟩) ?_ ?_; rotate_left; (intro w'; go_simp; with_reducible rfl); rotate_left; (simp only [Act.put, List.setIfInBounds_toArray, List.set_cons_zero, List.set_cons_succ, i64_w, i32_w]; rfl)
        refine pure_ (i := 2) (N := some 24) (v := ?_) (a' := ?_) #[ff,tt,tt,ff,ff,ff,ff,ff,ff] rfl rfl (by kernel_rfl) (fun _ _ _ h => h) (Or.inl ⟨by rfl, ?_⟩) ?_ ?_; rotate_left; (intro w'; go_simp; with_reducible rfl); rotate_left; (simp only [Act.put, List.setIfInBounds_toArray, List.set_cons_zero, List.set_cons_succ, i64_w, i32_w]; rfl)
        refine pure_ (i := 3) (N := some 25) (v := ?_) (a' := ?_) #[ff,tt,tt,tt,ff,ff,ff,ff,ff] rfl rfl (by kernel_rfl) (fun _ _ _ h => h) (Or.inl ⟨by rfl, ?_⟩) ?_ ?_; rotate_left; (intro w'; go_simp; with_reducible rfl); rotate_left; (simp only [Act.put, List.setIfInBounds_toArray, List.set_cons_zero, List.set_cons_succ, i64_w, i32_w]; rfl)
        refine take_ (i := 5) (N := some 27) (v := ?_) (a' := ?_) #[ff,tt,tt,tt,ff,tt,ff,ff,ff] rfl rfl (by kernel_rfl) (fun _ _ _ h => h) (Or.inl ⟨by rfl, ?_⟩) hHeld ?_ ?_; rotate_left; (rintro w' ⟨h0, h1, h2, h3, h4, h5⟩; go_simp; with_reducible rfl); rotate_left; (simp only [Act.put, List.setIfInBounds_toArray, List.set_cons_zero, List.set_cons_succ, i64_w, i32_w]; rfl)
        refine two_ (i := 0) (j := 6) (Ni := some 22) (Nj := some 28) #[tt,tt,tt,tt,ff,tt,ff,ff,ff] #[ff,tt,tt,tt,ff,tt,tt,ff,ff] rfl rfl rfl rfl (by kernel_rfl) (by decide) (by decide) (fun K hK => ?_) (fun K hK => ?_)
        · skip
          have hbe : Hid (Below wy.heap.size wy wy) := Below.refl _ _
          refine Go.Proofs.YtanmgkpgfmkobaaW.PrintLast.value_ (v := .slice (some ⟨wy.heap.size, 0, none⟩) 0 0) (w1 := wy.alloc (.cells #[] 32)) (by rfl) rfl ?_ ?_
          · go_simp
            try rfl
          have hbn : Hid (Below wy.heap.size wy (wy.alloc (.cells #[] 32))) := hbe.out.alloc hbe.out.size _
          have ho22 := Lib.hid (World.ownsRow_made (base := wy.heap.size) (e := 32) (size := 6) wy #[] 0 hbe.out.size (by simp [maxLen]) rfl)
          refine hK.out _ _ (One.bel hY.out hbn.out) (fun hHeld => ?_); clear hK K; refine norm_ (a' := ?_) ?_ ?_; rotate_left; (show Act.put _ (some 22) _ = _; simp only [Act.put, List.setIfInBounds_toArray, List.set_cons_zero, List.set_cons_succ, i64_w, i32_w]; rfl)
          replace hbe := hbn
          clear hbn
          generalize wy.alloc (.cells #[] 32) = w00 at *
          have hl22 : Hid (wy.heap.size < w00.heap.size) := by have := ho22.out.lt _ rfl; exact this.2
          refine two_ (i := 4) (j := 6) (Ni := some 26) (Nj := some 28) #[tt,tt,tt,tt,tt,tt,ff,ff,ff] #[tt,tt,tt,tt,ff,tt,tt,ff,ff] rfl rfl rfl rfl (by kernel_rfl) (by decide) (by decide) (fun K hK => ?_) (fun K hK => ?_)
          · skip
            refine step_append_ent rfl (.tmp 22) (.tmp 25) rfl wy.heap.size (.slice (some ⟨wy.heap.size, 0, none⟩) 0 0) 0 [] rfl ho22.out (some ⟨ga, oa, none⟩) i c (flatE (rs.take i)) rfl (htk.out.below hbe.out) (flatE_one _) (by omega) hbe.out.size ?_
            intro v26 wb ho26 hg26 hat26
            replace ho26 := Lib.hid ho26
            rw [Nat.zero_add, List.nil_append] at ho26
            have hbn : Hid (Below wy.heap.size wy wb) := hbe.out.grown hg26 hbe.out.size (fun k e => (ho22.out.lt k e).1)
            clear hat26 hg26
            refine hK.out _ _ (One.bel hY.out hbn.out) (fun hHeld => ?_); clear hK K; refine norm_ (a' := ?_) ?_ ?_; rotate_left; (show Act.put _ (some 26) _ = _; simp only [Act.put, List.setIfInBounds_toArray, List.set_cons_zero, List.set_cons_succ, i64_w, i32_w]; rfl)
            replace hbe := hbn
            clear hbn
            refine one_ (i := 6) (N := some 28) #[tt,tt,tt,tt,tt,tt,tt,ff,ff] rfl rfl (by kernel_rfl) (by decide) (fun K hK => ?_)
            refine Go.Proofs.YtanmgkpgfmkobaaW.PrintLast.value_ (v := .slice (some ⟨wb.heap.size, 0, none⟩) 1 1) (w1 := wb.alloc (.cells #[.slice q.Ak q.nk q.ck, .int .u64 q.e.v, .int .u8 q.e.m, .int .u8 q.e.u, .int .u64 q.e.x, .slice q.Ad q.nd q.cd] 32)) (by rfl) rfl ?_ ?_
            · go_simp
              try rfl
            have hbn : Hid (Below wy.heap.size wy (wb.alloc (.cells #[.slice q.Ak q.nk q.ck, .int .u64 q.e.v, .int .u8 q.e.m, .int .u8 q.e.u, .int .u64 q.e.x, .slice q.Ad q.nd q.cd] 32))) := hbe.out.alloc hbe.out.size _
            have hs28 : Hid (Blk (wb.alloc (.cells #[.slice q.Ak q.nk q.ck, .int .u64 q.e.v, .int .u8 q.e.m, .int .u8 q.e.u, .int .u64 q.e.x, .slice q.Ad q.nd q.cd] 32)) wb.heap.size 32 q.cells) := Blk.new wb _ _
            have hl28 : Hid (wb.heap.size < (wb.alloc (.cells #[.slice q.Ak q.nk q.ck, .int .u64 q.e.v, .int .u8 q.e.m, .int .u8 q.e.u, .int .u64 q.e.x, .slice q.Ad q.nd q.cd] 32)).heap.size) := hs28.out.lt
            have ho26 := Lib.hid (ho26.out.alloc (.cells #[.slice q.Ak q.nk q.ck, .int .u64 q.e.v, .int .u8 q.e.m, .int .u8 q.e.u, .int .u64 q.e.x, .slice q.Ad q.nd q.cd] 32))
            refine hK.out _ _ (One.bel hY.out hbn.out) (fun hHeld => ?_); clear hK K; refine norm_ (a' := ?_) ?_ ?_; rotate_left; (show Act.put _ (some 28) _ = _; simp only [Act.put, List.setIfInBounds_toArray, List.set_cons_zero, List.set_cons_succ, i64_w, i32_w]; rfl)
            replace hbe := hbn
            clear hbn
            generalize wb.alloc (.cells #[.slice q.Ak q.nk q.ck, .int .u64 q.e.v, .int .u8 q.e.m, .int .u8 q.e.u, .int .u64 q.e.x, .slice q.Ad q.nd q.cd] 32) = w62 at *
            refine one_ (i := 7) (N := some 29) #[tt,tt,tt,tt,tt,tt,tt,tt,ff] rfl rfl (by kernel_rfl) (by decide) (fun K hK => ?_)
            have hq28 : Sl w62 (some ⟨wb.heap.size, 0, none⟩) (1 * 6) q.cells := hs28.out.sl (off := 0) (n := 6) (by show 0 + 6 ≤ 6; omega)
            refine step_append_ent rfl (.tmp 26) (.tmp 28) rfl wy.heap.size v26 i (flatE (rs.take i)) rfl ho26.out (some ⟨wb.heap.size, 0, none⟩) 1 1 q.cells rfl hq28 (cells_one q) (by omega) hbe.out.size ?_
            intro v29 wz ho29 hg29 hat29
            obtain ⟨A6, c6, hv29, hc6, _, hA6⟩ := own_ent ho29
            subst hv29
            have HO6 := Lib.hid ho29
            have hbn : Hid (Below wy.heap.size wy wz) := hbe.out.grown hg29 hbe.out.size (fun k e => (ho26.out.lt k e).1)
            clear ho29 hg29 hat29 hA6 hq28
            refine hK.out _ _ (One.bel hY.out hbn.out) (fun hHeld => ?_); clear hK K; refine norm_ (a' := ?_) ?_ ?_; rotate_left; (show Act.put _ (some 29) _ = _; simp only [Act.put, List.setIfInBounds_toArray, List.set_cons_zero, List.set_cons_succ, i64_w, i32_w]; rfl)
            refine pure_ (i := 8) (N := some 6) (v := ?_) (a' := ?_) #[tt,tt,tt,tt,tt,tt,tt,tt,tt] rfl rfl (by kernel_rfl) (fun _ _ _ h => h) (Or.inl ⟨by rfl, ?_⟩) ?_ ?_; rotate_left; (intro w'; go_simp; with_reducible rfl); rotate_left; (simp only [Act.put, List.setIfInBounds_toArray, List.set_cons_zero, List.set_cons_succ, i64_w, i32_w]; rfl)
            refine done_ (by kernel_rfl) ?_
            replace hbe := hbn
            clear hbn hHeld
            have hAy := hAr
            have hQy := hQr
            have hBy := hBr
            replace hAr := Lib.hid (hAr.out.below hbe.out)
            replace hQr := Lib.hid (hQr.out.below hbe.out)
            replace hXr := Lib.hid (hXr.out.frm (Frm.of_below hbe.out) (by simp))
            replace hBr : Hid (Below gq w wz) := hBr.out.trans (hbe.out.mono (Nat.le_of_lt hsz.out))
            clear htk hY
            have hrin := Lib.hid (hAr.out.each r (List.mem_of_getElem? HR.out))
            have hx := hXr.out
            have ha : ∀ j v, r.cells[j]? = some v → wz.cell? ⟨ga, oa + i * 6 + j, none⟩ = some v := fun j v hj => hAr.out.at_ HR.out hj
            have hHJ : Hid (i + 1 = if hitE (rs.map ER.e) q.e.k q.e.v then i + 1 else i) := by
              have h9 : hitE (rs.map ER.e) q.e.k q.e.v = true := by
                unfold hitE
                rw [← HPP.out, List.getElem?_map, HR.out]
                show (orderL r.e.k r.e.v q.e.k q.e.v == 0) = _
                rw [h3]
                rfl
              rw [h9]
              rfl
            have a0 := ha 0 _ rfl
            rw [Nat.add_zero] at a0
            go_wp2
            refine start_ (n := 13) (S := Two ga (oa + i * 6) gq r q) (ds := []) #[ff,ff,ff,ff,ff,ff,ff,ff,ff,ff,ff,ff,ff] (by kernel_rfl) rfl rfl (⟨a0, ha 1 _ rfl, ha 2 _ rfl, ha 3 _ rfl, ha 4 _ rfl, ha 5 _ rfl, hx.at_ rfl, hx.at_ rfl, hx.at_ rfl, hx.at_ rfl, hx.at_ rfl, hx.at_ rfl⟩) (fun hHeld => ?_)
            replace hAr : Hid (Ers wz.drew (some ⟨ga, oa, none⟩) rs) := ⟨hAr.out.sl, fun r hr => (hAr.out.each r hr).drewN 1⟩
            replace hQr : Hid (q.In wz.drew) := hQr.out.drewN 1
            replace hXr : Hid (Blk wz.drew gq 32 q.cells) := hXr.out
            replace hBr : Hid (Below gq w wz.drew) := hBr.out.drew
            replace hrin : Hid (r.In wz.drew) := hrin.out.drewN 1
            replace HO6 : Hid (wz.drew.ownsRow wy.heap.size 32 6 (.slice A6 (i + 1) c6) (i + 1) (flatE (rs.take i) ++ q.cells)) := HO6.out
            replace hbe : Hid (Below wy.heap.size wy wz.drew) := hbe.out.drew
            clear ha hx a0
            generalize wz.drew = wd at *
            refine pure_ (i := 0) (N := some 30) (v := ?_) (a' := ?_) #[tt,ff,ff,ff,ff,ff,ff,ff,ff,ff,ff,ff,ff] rfl rfl (by kernel_rfl) (fun _ _ _ h => h) (Or.inl ⟨by rfl, ?_⟩) ?_ ?_; rotate_left; (intro w'; go_simp; with_reducible rfl); rotate_left; (simp only [Act.put, List.setIfInBounds_toArray, List.set_cons_zero, List.set_cons_succ, i64_w, i32_w]; rfl)
            refine pure_ (i := 1) (N := some 31) (v := ?_) (a' := ?_) #[tt,tt,ff,ff,ff,ff,ff,ff,ff,ff,ff,ff,ff] rfl rfl (by kernel_rfl) (fun _ _ _ h => h) (Or.inl ⟨by rfl, ?_⟩) ?_ ?_; rotate_left; (intro w'; go_simp; with_reducible rfl); rotate_left; (simp only [Act.put, List.setIfInBounds_toArray, List.set_cons_zero, List.set_cons_succ, i64_w, i32_w]; rfl)
            refine pure_ (i := 2) (N := some 32) (v := ?_) (a' := ?_) #[tt,tt,tt,ff,ff,ff,ff,ff,ff,ff,ff,ff,ff] rfl rfl (by kernel_rfl) (fun _ _ _ h => h) (Or.inl ⟨by rfl, ?_⟩) ?_ ?_; rotate_left; (intro w'; go_simp; with_reducible rfl); rotate_left; (simp only [Act.put, List.setIfInBounds_toArray, List.set_cons_zero, List.set_cons_succ, i64_w, i32_w]; rfl)
            refine pure_ (i := 3) (N := some 33) (v := ?_) (a' := ?_) #[tt,tt,tt,tt,ff,ff,ff,ff,ff,ff,ff,ff,ff] rfl rfl (by kernel_rfl) (fun _ _ _ h => h) (Or.inl ⟨by rfl, ?_⟩) ?_ ?_; rotate_left; (intro w'; go_simp; with_reducible rfl); rotate_left; (simp only [Act.put, List.setIfInBounds_toArray, List.set_cons_zero, List.set_cons_succ, i64_w, i32_w]; rfl)
            refine pure_ (i := 4) (N := some 34) (v := ?_) (a' := ?_) #[tt,tt,tt,tt,tt,ff,ff,ff,ff,ff,ff,ff,ff] rfl rfl (by kernel_rfl) (fun _ _ _ h => h) (Or.inl ⟨by rfl, ?_⟩) ?_ ?_; rotate_left; (intro w'; go_simp; with_reducible rfl); rotate_left; (simp only [Act.put, List.setIfInBounds_toArray, List.set_cons_zero, List.set_cons_succ, i64_w, i32_w]; rfl)
            refine pure_ (i := 5) (N := some 35) (v := ?_) (a' := ?_) #[tt,tt,tt,tt,tt,tt,ff,ff,ff,ff,ff,ff,ff] rfl rfl (by kernel_rfl) (fun _ _ _ h => h) (Or.inl ⟨by rfl, ?_⟩) ?_ ?_; rotate_left; (intro w'; go_simp; with_reducible rfl); rotate_left; (simp only [Act.put, List.setIfInBounds_toArray, List.set_cons_zero, List.set_cons_succ, i64_w, i32_w]; rfl)
            refine pure_ (i := 6) (N := some 36) (v := ?_) (a' := ?_) #[tt,tt,tt,tt,tt,tt,tt,ff,ff,ff,ff,ff,ff] rfl rfl (by kernel_rfl) (fun _ _ _ h => h) (Or.inl ⟨by rfl, ?_⟩) ?_ ?_; rotate_left; (intro w'; go_simp; with_reducible rfl); rotate_left; (simp only [Act.put, List.setIfInBounds_toArray, List.set_cons_zero, List.set_cons_succ, i64_w, i32_w]; rfl)
            refine pure_ (i := 7) (N := some 37) (v := ?_) (a' := ?_) #[tt,tt,tt,tt,tt,tt,tt,tt,ff,ff,ff,ff,ff] rfl rfl (by kernel_rfl) (fun _ _ _ h => h) (Or.inl ⟨by rfl, ?_⟩) ?_ ?_; rotate_left; (intro w'; go_simp; with_reducible rfl); rotate_left; (simp only [Act.put, List.setIfInBounds_toArray, List.set_cons_zero, List.set_cons_succ, i64_w, i32_w]; rfl)
            refine take_ (i := 8) (N := some 38) (v := ?_) (a' := ?_) #[tt,tt,tt,tt,tt,tt,tt,tt,tt,ff,ff,ff,ff] rfl rfl (by kernel_rfl) (fun _ _ _ h => h) (Or.inl ⟨by rfl, ?_⟩) hHeld ?_ ?_; rotate_left; (rintro w' ⟨h0, h1, h2, h3, h4, h5, h6, h7, h8, h9, h10, h11⟩; go_simp; with_reducible rfl); rotate_left; (simp only [Act.put, List.setIfInBounds_toArray, List.set_cons_zero, List.set_cons_succ, i64_w, i32_w]; rfl)
            refine take_ (i := 9) (N := some 39) (v := ?_) (a' := ?_) #[tt,tt,tt,tt,tt,tt,tt,tt,tt,tt,ff,ff,ff] rfl rfl (by kernel_rfl) (fun _ _ _ h => h) (Or.inl ⟨by rfl, ?_⟩) hHeld ?_ ?_; rotate_left; (rintro w' ⟨h0, h1, h2, h3, h4, h5, h6, h7, h8, h9, h10, h11⟩; go_simp; with_reducible rfl); rotate_left; (simp only [Act.put, List.setIfInBounds_toArray, List.set_cons_zero, List.set_cons_succ, i64_w, i32_w]; rfl)
            refine one_ (i := 10) (N := some 40) #[tt,tt,tt,tt,tt,tt,tt,tt,tt,tt,tt,ff,ff] rfl rfl (by kernel_rfl) (by decide) (fun K hK => ?_); refine goes_ Try.func70 (by kernel_rfl) rfl #[.agg #[.slice r.Ak r.nk r.ck, .int .u64 r.e.v, .int .u8 r.e.m, .int .u8 r.e.u, .int .u64 r.e.x, .slice r.Ad r.nd r.cd], .agg #[.slice q.Ak q.nk q.ck, .int .u64 q.e.v, .int .u8 q.e.m, .int .u8 q.e.u, .int .u64 q.e.x, .slice q.Ad q.nd q.cd]] (by rfl) rfl rfl (by (try simp only [List.map_toArray, List.map_cons, List.map_nil]); first | done | rfl) ?_
            refine (orderOf_any r q wd hrin.out hQr.out (by omega) (by omega)).mono ?_
            rintro E wx ⟨rfl, hbx⟩; refine ⟨_, rfl, ?_⟩
            have HBX := Lib.hid hbx
            have hsz0 : Hid (gq < wd.heap.size) := hXr.out.lt
            refine hK.out _ _ (Two.bel hHeld hbx) (fun hHeld => ?_); clear hK K; refine norm_ (a' := ?_) ?_ ?_; rotate_left; (show Act.put _ (some 40) _ = _; simp only [Act.put, List.setIfInBounds_toArray, List.set_cons_zero, List.set_cons_succ, i64_w, i32_w]; rfl)
            replace hAr := Lib.hid (hAr.out.below HBX.out)
            replace hQr := Lib.hid (hQr.out.below HBX.out)
            replace hXr := Lib.hid (hXr.out.frm (Frm.of_below HBX.out) (by simp))
            replace hBr : Hid (Below gq w wx) := hBr.out.trans (HBX.out.mono (Nat.le_of_lt hsz0.out))
            have HBX2 := HBX
            clear HBX hbx hsz0 hHeld hrin
            replace HO6 := Lib.hid (own_bel HO6.out HBX2.out)
            replace hbe : Hid (Below wy.heap.size wy wx) := hbe.out.trans (HBX2.out.mono hbe.out.size)
            clear HBX2
            rw [h3]
            refine pure_ (i := 11) (N := some 41) (v := ?_) (a' := ?_) #[tt,tt,tt,tt,tt,tt,tt,tt,tt,tt,tt,tt,ff] rfl rfl (by kernel_rfl) (fun _ _ _ h => h) (Or.inl ⟨by rfl, ?_⟩) ?_ ?_; rotate_left; (intro w'; go_simp; with_reducible rfl); rotate_left; (simp only [Act.put, List.setIfInBounds_toArray, List.set_cons_zero, List.set_cons_succ, i64_w, i32_w]; rfl)
            refine pure_ (i := 12) (N := some 42) (v := ?_) (a' := ?_) #[tt,tt,tt,tt,tt,tt,tt,tt,tt,tt,tt,tt,tt] rfl rfl (by kernel_rfl) (fun _ _ _ h => h) (Or.inl ⟨by rfl, ?_⟩) ?_ ?_; rotate_left; (intro w'; go_simp; with_reducible rfl); rotate_left; (simp only [Act.put, List.setIfInBounds_toArray, List.set_cons_zero, List.set_cons_succ, i64_w, i32_w]; rfl)
            refine done_ (by kernel_rfl) ?_
            have hat : i + 1 ≤ rs.length := by have := HM.out; omega
            have hds := Lib.hid (drop_sl (c := c) (i := i + 1) hAr.out hat (by have := HM.out; omega))
            rw [HM.out] at hds
            have hHIT : Hid (putR rs q = rs.take i ++ q :: rs.drop (i + 1)) := putR_len rs q i _ HPP.out hHJ.out
            have h71 : ((i + 1 : Nat) : Int) ≤ (m : Int) := by have := HM.out; omega
            have h72 : (i + 1 : Nat) ≤ m := by have := HM.out; omega
            have h73 : (m : Int) ≤ (c : Int) := by omega
            have hip9 : i ≤ m := by omega
            clear hHJ hat
            by_cases hcc : c = i + 1
            · rw [if_pos hcc] at hds
              go_wp2_with (at_builtin; refine wpList_append_ent rfl (.tmp 45) (.tmp 48) rfl wy.heap.size (.slice A6 (i + 1) c6) (i + 1) (flatE (rs.take i) ++ q.cells) rfl HO6.out _ (m - (i + 1)) 0 (flatE (rs.drop (i + 1))) ?cx hds.out (flatE_one _) (by omega) hbe.out.size ?_; (case cx => rfl); intro v9 w9 hown9 hg9 hat9; obtain ⟨A9, c9, hv9, hc9, hs9, hA9⟩ := own_ent hown9; subst hv9; have HO9 := Lib.hid hown9; have HG9 := Lib.hid hg9; have HS9 := Lib.hid hs9; clear hown9 hg9 hat9 hs9 hA9)
              go_ret
              exact put_end HM.out hAy.out hQy.out hBy.out (Nat.le_of_lt hsz.out) hbe.out HGQ.out HO6.out HG9.out HS9.out hc9 hHIT.out h72 hip9 (by omega)
            · rw [if_neg hcc] at hds
              go_wp2_with (at_builtin; refine wpList_append_ent rfl (.tmp 45) (.tmp 48) rfl wy.heap.size (.slice A6 (i + 1) c6) (i + 1) (flatE (rs.take i) ++ q.cells) rfl HO6.out _ (m - (i + 1)) (c - (i + 1)) (flatE (rs.drop (i + 1))) ?cx hds.out (flatE_one _) (by omega) hbe.out.size ?_; (case cx => rfl); intro v9 w9 hown9 hg9 hat9; obtain ⟨A9, c9, hv9, hc9, hs9, hA9⟩ := own_ent hown9; subst hv9; have HO9 := Lib.hid hown9; have HG9 := Lib.hid hg9; have HS9 := Lib.hid hs9; clear hown9 hg9 hat9 hs9 hA9)
              go_ret
              exact put_end HM.out hAy.out hQy.out hBy.out (Nat.le_of_lt hsz.out) hbe.out HGQ.out HO6.out HG9.out HS9.out hc9 hHIT.out h72 hip9 (by omega)
          · skip
            refine Go.Proofs.YtanmgkpgfmkobaaW.PrintLast.value_ (v := .slice (some ⟨w00.heap.size, 0, none⟩) 1 1) (w1 := w00.alloc (.cells #[.slice q.Ak q.nk q.ck, .int .u64 q.e.v, .int .u8 q.e.m, .int .u8 q.e.u, .int .u64 q.e.x, .slice q.Ad q.nd q.cd] 32)) (by rfl) rfl ?_ ?_
            · go_simp
              try rfl
            have hbn : Hid (Below wy.heap.size wy (w00.alloc (.cells #[.slice q.Ak q.nk q.ck, .int .u64 q.e.v, .int .u8 q.e.m, .int .u8 q.e.u, .int .u64 q.e.x, .slice q.Ad q.nd q.cd] 32))) := hbe.out.alloc hbe.out.size _
            have hs28 : Hid (Blk (w00.alloc (.cells #[.slice q.Ak q.nk q.ck, .int .u64 q.e.v, .int .u8 q.e.m, .int .u8 q.e.u, .int .u64 q.e.x, .slice q.Ad q.nd q.cd] 32)) w00.heap.size 32 q.cells) := Blk.new w00 _ _
            have hl28 : Hid (w00.heap.size < (w00.alloc (.cells #[.slice q.Ak q.nk q.ck, .int .u64 q.e.v, .int .u8 q.e.m, .int .u8 q.e.u, .int .u64 q.e.x, .slice q.Ad q.nd q.cd] 32)).heap.size) := hs28.out.lt
            have ho22 := Lib.hid (ho22.out.alloc (.cells #[.slice q.Ak q.nk q.ck, .int .u64 q.e.v, .int .u8 q.e.m, .int .u8 q.e.u, .int .u64 q.e.x, .slice q.Ad q.nd q.cd] 32))
            have hn28 : Hid (w00.heap.size ≠ wy.heap.size) := by have := hl22.out; show _ ≠ _; omega
            refine hK.out _ _ (One.bel hY.out hbn.out) (fun hHeld => ?_); clear hK K; refine norm_ (a' := ?_) ?_ ?_; rotate_left; (show Act.put _ (some 28) _ = _; simp only [Act.put, List.setIfInBounds_toArray, List.set_cons_zero, List.set_cons_succ, i64_w, i32_w]; rfl)
            replace hbe := hbn
            clear hbn
            generalize w00.alloc (.cells #[.slice q.Ak q.nk q.ck, .int .u64 q.e.v, .int .u8 q.e.m, .int .u8 q.e.u, .int .u64 q.e.x, .slice q.Ad q.nd q.cd] 32) = w61 at *
            refine one_ (i := 4) (N := some 26) #[tt,tt,tt,tt,tt,tt,tt,ff,ff] rfl rfl (by kernel_rfl) (by decide) (fun K hK => ?_)
            refine step_append_ent rfl (.tmp 22) (.tmp 25) rfl wy.heap.size (.slice (some ⟨wy.heap.size, 0, none⟩) 0 0) 0 [] rfl ho22.out (some ⟨ga, oa, none⟩) i c (flatE (rs.take i)) rfl (htk.out.below hbe.out) (flatE_one _) (by omega) hbe.out.size ?_
            intro v26 wb ho26 hg26 hat26
            replace ho26 := Lib.hid ho26
            rw [Nat.zero_add, List.nil_append] at ho26
            have hbn : Hid (Below wy.heap.size wy wb) := hbe.out.grown hg26 hbe.out.size (fun k e => (ho22.out.lt k e).1)
            have hs28 := Lib.hid (hs28.out.frm (Frm.of_grown hg26) (by rw [List.mem_singleton]; exact hn28.out))
            clear hat26 hg26
            refine hK.out _ _ (One.bel hY.out hbn.out) (fun hHeld => ?_); clear hK K; refine norm_ (a' := ?_) ?_ ?_; rotate_left; (show Act.put _ (some 26) _ = _; simp only [Act.put, List.setIfInBounds_toArray, List.set_cons_zero, List.set_cons_succ, i64_w, i32_w]; rfl)
            replace hbe := hbn
            clear hbn
            refine one_ (i := 7) (N := some 29) #[tt,tt,tt,tt,tt,tt,tt,tt,ff] rfl rfl (by kernel_rfl) (by decide) (fun K hK => ?_)
            have hq28 : Sl wb (some ⟨w00.heap.size, 0, none⟩) (1 * 6) q.cells := hs28.out.sl (off := 0) (n := 6) (by show 0 + 6 ≤ 6; omega)
            refine step_append_ent rfl (.tmp 26) (.tmp 28) rfl wy.heap.size v26 i (flatE (rs.take i)) rfl ho26.out (some ⟨w00.heap.size, 0, none⟩) 1 1 q.cells rfl hq28 (cells_one q) (by omega) hbe.out.size ?_
            intro v29 wz ho29 hg29 hat29
            obtain ⟨A6, c6, hv29, hc6, _, hA6⟩ := own_ent ho29
            subst hv29
            have HO6 := Lib.hid ho29
            have hbn : Hid (Below wy.heap.size wy wz) := hbe.out.grown hg29 hbe.out.size (fun k e => (ho26.out.lt k e).1)
            clear ho29 hg29 hat29 hA6 hq28
            refine hK.out _ _ (One.bel hY.out hbn.out) (fun hHeld => ?_); clear hK K; refine norm_ (a' := ?_) ?_ ?_; rotate_left; (show Act.put _ (some 29) _ = _; simp only [Act.put, List.setIfInBounds_toArray, List.set_cons_zero, List.set_cons_succ, i64_w, i32_w]; rfl)
            refine pure_ (i := 8) (N := some 6) (v := ?_) (a' := ?_) #[tt,tt,tt,tt,tt,tt,tt,tt,tt] rfl rfl (by kernel_rfl) (fun _ _ _ h => h) (Or.inl ⟨by rfl, ?_⟩) ?_ ?_; rotate_left; (intro w'; go_simp; with_reducible rfl); rotate_left; (simp only [Act.put, List.setIfInBounds_toArray, List.set_cons_zero, List.set_cons_succ, i64_w, i32_w]; rfl)
            refine done_ (by kernel_rfl) ?_
            replace hbe := hbn
            clear hbn hHeld
            have hAy := hAr
            have hQy := hQr
            have hBy := hBr
            replace hAr := Lib.hid (hAr.out.below hbe.out)
            replace hQr := Lib.hid (hQr.out.below hbe.out)
            replace hXr := Lib.hid (hXr.out.frm (Frm.of_below hbe.out) (by simp))
            replace hBr : Hid (Below gq w wz) := hBr.out.trans (hbe.out.mono (Nat.le_of_lt hsz.out))
            clear htk hY
            have hrin := Lib.hid (hAr.out.each r (List.mem_of_getElem? HR.out))
            have hx := hXr.out
            have ha : ∀ j v, r.cells[j]? = some v → wz.cell? ⟨ga, oa + i * 6 + j, none⟩ = some v := fun j v hj => hAr.out.at_ HR.out hj
            have hHJ : Hid (i + 1 = if hitE (rs.map ER.e) q.e.k q.e.v then i + 1 else i) := by
              have h9 : hitE (rs.map ER.e) q.e.k q.e.v = true := by
                unfold hitE
                rw [← HPP.out, List.getElem?_map, HR.out]
                show (orderL r.e.k r.e.v q.e.k q.e.v == 0) = _
                rw [h3]
                rfl
              rw [h9]
              rfl
            have a0 := ha 0 _ rfl
            rw [Nat.add_zero] at a0
            go_wp2
            refine start_ (n := 13) (S := Two ga (oa + i * 6) gq r q) (ds := []) #[ff,ff,ff,ff,ff,ff,ff,ff,ff,ff,ff,ff,ff] (by kernel_rfl) rfl rfl (⟨a0, ha 1 _ rfl, ha 2 _ rfl, ha 3 _ rfl, ha 4 _ rfl, ha 5 _ rfl, hx.at_ rfl, hx.at_ rfl, hx.at_ rfl, hx.at_ rfl, hx.at_ rfl, hx.at_ rfl⟩) (fun hHeld => ?_)
            replace hAr : Hid (Ers wz.drew (some ⟨ga, oa, none⟩) rs) := ⟨hAr.out.sl, fun r hr => (hAr.out.each r hr).drewN 1⟩
            replace hQr : Hid (q.In wz.drew) := hQr.out.drewN 1
            replace hXr : Hid (Blk wz.drew gq 32 q.cells) := hXr.out
            replace hBr : Hid (Below gq w wz.drew) := hBr.out.drew
            replace hrin : Hid (r.In wz.drew) := hrin.out.drewN 1
            replace HO6 : Hid (wz.drew.ownsRow wy.heap.size 32 6 (.slice A6 (i + 1) c6) (i + 1) (flatE (rs.take i) ++ q.cells)) := HO6.out
            replace hbe : Hid (Below wy.heap.size wy wz.drew) := hbe.out.drew
            clear ha hx a0
            generalize wz.drew = wd at *
            refine pure_ (i := 0) (N := some 30) (v := ?_) (a' := ?_) #[tt,ff,ff,ff,ff,ff,ff,ff,ff,ff,ff,ff,ff] rfl rfl (by kernel_rfl) (fun _ _ _ h => h) (Or.inl ⟨by rfl, ?_⟩) ?_ ?_; rotate_left; (intro w'; go_simp; with_reducible rfl); rotate_left; (simp only [Act.put, List.setIfInBounds_toArray, List.set_cons_zero, List.set_cons_succ, i64_w, i32_w]; rfl)
            refine pure_ (i := 1) (N := some 31) (v := ?_) (a' := ?_) #[tt,tt,ff,ff,ff,ff,ff,ff,ff,ff,ff,ff,ff] rfl rfl (by kernel_rfl) (fun _ _ _ h => h) (Or.inl ⟨by rfl, ?_⟩) ?_ ?_; rotate_left; (intro w'; go_simp; with_reducible rfl); rotate_left; (simp only [Act.put, List.setIfInBounds_toArray, List.set_cons_zero, List.set_cons_succ, i64_w, i32_w]; rfl)
            refine pure_ (i := 2) (N := some 32) (v := ?_) (a' := ?_) #[tt,tt,tt,ff,ff,ff,ff,ff,ff,ff,ff,ff,ff] rfl rfl (by kernel_rfl) (fun _ _ _ h => h) (Or.inl ⟨by rfl, ?_⟩) ?_ ?_; rotate_left; (intro w'; go_simp; with_reducible rfl); rotate_left; (simp only [Act.put, List.setIfInBounds_toArray, List.set_cons_zero, List.set_cons_succ, i64_w, i32_w]; rfl)
            refine pure_ (i := 3) (N := some 33) (v := ?_) (a' := ?_) #[tt,tt,tt,tt,ff,ff,ff,ff,ff,ff,ff,ff,ff] rfl rfl (by kernel_rfl) (fun _ _ _ h => h) (Or.inl ⟨by rfl, ?_⟩) ?_ ?_; rotate_left; (intro w'; go_simp; with_reducible rfl); rotate_left; (simp only [Act.put, List.setIfInBounds_toArray, List.set_cons_zero, List.set_cons_succ, i64_w, i32_w]; rfl)
            refine pure_ (i := 4) (N := some 34) (v := ?_) (a' := ?_) #[tt,tt,tt,tt,tt,ff,ff,ff,ff,ff,ff,ff,ff] rfl rfl (by kernel_rfl) (fun _ _ _ h => h) (Or.inl ⟨by rfl, ?_⟩) ?_ ?_; rotate_left; (intro w'; go_simp; with_reducible rfl); rotate_left; (simp only [Act.put, List.setIfInBounds_toArray, List.set_cons_zero, List.set_cons_succ, i64_w, i32_w]; rfl)
            refine pure_ (i := 5) (N := some 35) (v := ?_) (a' := ?_) #[tt,tt,tt,tt,tt,tt,ff,ff,ff,ff,ff,ff,ff] rfl rfl (by kernel_rfl) (fun _ _ _ h => h) (Or.inl ⟨by rfl, ?_⟩) ?_ ?_; rotate_left; (intro w'; go_simp; with_reducible rfl); rotate_left; (simp only [Act.put, List.setIfInBounds_toArray, List.set_cons_zero, List.set_cons_succ, i64_w, i32_w]; rfl)
            refine pure_ (i := 6) (N := some 36) (v := ?_) (a' := ?_) #[tt,tt,tt,tt,tt,tt,tt,ff,ff,ff,ff,ff,ff] rfl rfl (by kernel_rfl) (fun _ _ _ h => h) (Or.inl ⟨by rfl, ?_⟩) ?_ ?_; rotate_left; (intro w'; go_simp; with_reducible rfl); rotate_left; (simp only [Act.put, List.setIfInBounds_toArray, List.set_cons_zero, List.set_cons_succ, i64_w, i32_w]; rfl)
            refine pure_ (i := 7) (N := some 37) (v := ?_) (a' := ?_) #[tt,tt,tt,tt,tt,tt,tt,tt,ff,ff,ff,ff,ff] rfl rfl (by kernel_rfl) (fun _ _ _ h => h) (Or.inl ⟨by rfl, ?_⟩) ?_ ?_; rotate_left; (intro w'; go_simp; with_reducible rfl); rotate_left; (simp only [Act.put, List.setIfInBounds_toArray, List.set_cons_zero, List.set_cons_succ, i64_w, i32_w]; rfl)
            refine take_ (i := 8) (N := some 38) (v := ?_) (a' := ?_) #[tt,tt,tt,tt,tt,tt,tt,tt,tt,ff,ff,ff,ff] rfl rfl (by kernel_rfl) (fun _ _ _ h => h) (Or.inl ⟨by rfl, ?_⟩) hHeld ?_ ?_; rotate_left; (rintro w' ⟨h0, h1, h2, h3, h4, h5, h6, h7, h8, h9, h10, h11⟩; go_simp; with_reducible rfl); rotate_left; (simp only [Act.put, List.setIfInBounds_toArray, List.set_cons_zero, List.set_cons_succ, i64_w, i32_w]; rfl)
            refine take_ (i := 9) (N := some 39) (v := ?_) (a' := ?_) #[tt,tt,tt,tt,tt,tt,tt,tt,tt,tt,ff,ff,ff] rfl rfl (by kernel_rfl) (fun _ _ _ h => h) (Or.inl ⟨by rfl, ?_⟩) hHeld ?_ ?_; rotate_left; (rintro w' ⟨h0, h1, h2, h3, h4, h5, h6, h7, h8, h9, h10, h11⟩; go_simp; with_reducible rfl); rotate_left; (simp only [Act.put, List.setIfInBounds_toArray, List.set_cons_zero, List.set_cons_succ, i64_w, i32_w]; rfl)
            refine one_ (i := 10) (N := some 40) #[tt,tt,tt,tt,tt,tt,tt,tt,tt,tt,tt,ff,ff] rfl rfl (by kernel_rfl) (by decide) (fun K hK => ?_); refine goes_ Try.func70 (by kernel_rfl) rfl #[.agg #[.slice r.Ak r.nk r.ck, .int .u64 r.e.v, .int .u8 r.e.m, .int .u8 r.e.u, .int .u64 r.e.x, .slice r.Ad r.nd r.cd], .agg #[.slice q.Ak q.nk q.ck, .int .u64 q.e.v, .int .u8 q.e.m, .int .u8 q.e.u, .int .u64 q.e.x, .slice q.Ad q.nd q.cd]] (by rfl) rfl rfl (by (try simp only [List.map_toArray, List.map_cons, List.map_nil]); first | done | rfl) ?_
            refine (orderOf_any r q wd hrin.out hQr.out (by omega) (by omega)).mono ?_
            rintro E wx ⟨rfl, hbx⟩; refine ⟨_, rfl, ?_⟩
            have HBX := Lib.hid hbx
            have hsz0 : Hid (gq < wd.heap.size) := hXr.out.lt
            refine hK.out _ _ (Two.bel hHeld hbx) (fun hHeld => ?_); clear hK K; refine norm_ (a' := ?_) ?_ ?_; rotate_left; (show Act.put _ (some 40) _ = _; simp only [Act.put, List.setIfInBounds_toArray, List.set_cons_zero, List.set_cons_succ, i64_w, i32_w]; rfl)
            replace hAr := Lib.hid (hAr.out.below HBX.out)
            replace hQr := Lib.hid (hQr.out.below HBX.out)
            replace hXr := Lib.hid (hXr.out.frm (Frm.of_below HBX.out) (by simp))
            replace hBr : Hid (Below gq w wx) := hBr.out.trans (HBX.out.mono (Nat.le_of_lt hsz0.out))
            have HBX2 := HBX
            clear HBX hbx hsz0 hHeld hrin
            replace HO6 := Lib.hid (own_bel HO6.out HBX2.out)
            replace hbe : Hid (Below wy.heap.size wy wx) := hbe.out.trans (HBX2.out.mono hbe.out.size)
            clear HBX2
            rw [h3]
            refine pure_ (i := 11) (N := some 41) (v := ?_) (a' := ?_) #[tt,tt,tt,tt,tt,tt,tt,tt,tt,tt,tt,tt,ff] rfl rfl (by kernel_rfl) (fun _ _ _ h => h) (Or.inl ⟨by rfl, ?_⟩) ?_ ?_; rotate_left; (intro w'; go_simp; with_reducible rfl); rotate_left; (simp only [Act.put, List.setIfInBounds_toArray, List.set_cons_zero, List.set_cons_succ, i64_w, i32_w]; rfl)
            refine pure_ (i := 12) (N := some 42) (v := ?_) (a' := ?_) #[tt,tt,tt,tt,tt,tt,tt,tt,tt,tt,tt,tt,tt] rfl rfl (by kernel_rfl) (fun _ _ _ h => h) (Or.inl ⟨by rfl, ?_⟩) ?_ ?_; rotate_left; (intro w'; go_simp; with_reducible rfl); rotate_left; (simp only [Act.put, List.setIfInBounds_toArray, List.set_cons_zero, List.set_cons_succ, i64_w, i32_w]; rfl)
            refine done_ (by kernel_rfl) ?_
            have hat : i + 1 ≤ rs.length := by have := HM.out; omega
            have hds := Lib.hid (drop_sl (c := c) (i := i + 1) hAr.out hat (by have := HM.out; omega))
            rw [HM.out] at hds
            have hHIT : Hid (putR rs q = rs.take i ++ q :: rs.drop (i + 1)) := putR_len rs q i _ HPP.out hHJ.out
            have h71 : ((i + 1 : Nat) : Int) ≤ (m : Int) := by have := HM.out; omega
            have h72 : (i + 1 : Nat) ≤ m := by have := HM.out; omega
            have h73 : (m : Int) ≤ (c : Int) := by omega
            have hip9 : i ≤ m := by omega
            clear hHJ hat
            by_cases hcc : c = i + 1
            · rw [if_pos hcc] at hds
              go_wp2_with (at_builtin; refine wpList_append_ent rfl (.tmp 45) (.tmp 48) rfl wy.heap.size (.slice A6 (i + 1) c6) (i + 1) (flatE (rs.take i) ++ q.cells) rfl HO6.out _ (m - (i + 1)) 0 (flatE (rs.drop (i + 1))) ?cx hds.out (flatE_one _) (by omega) hbe.out.size ?_; (case cx => rfl); intro v9 w9 hown9 hg9 hat9; obtain ⟨A9, c9, hv9, hc9, hs9, hA9⟩ := own_ent hown9; subst hv9; have HO9 := Lib.hid hown9; have HG9 := Lib.hid hg9; have HS9 := Lib.hid hs9; clear hown9 hg9 hat9 hs9 hA9)
              go_ret
              exact put_end HM.out hAy.out hQy.out hBy.out (Nat.le_of_lt hsz.out) hbe.out HGQ.out HO6.out HG9.out HS9.out hc9 hHIT.out h72 hip9 (by omega)
            · rw [if_neg hcc] at hds
              go_wp2_with (at_builtin; refine wpList_append_ent rfl (.tmp 45) (.tmp 48) rfl wy.heap.size (.slice A6 (i + 1) c6) (i + 1) (flatE (rs.take i) ++ q.cells) rfl HO6.out _ (m - (i + 1)) (c - (i + 1)) (flatE (rs.drop (i + 1))) ?cx hds.out (flatE_one _) (by omega) hbe.out.size ?_; (case cx => rfl); intro v9 w9 hown9 hg9 hat9; obtain ⟨A9, c9, hv9, hc9, hs9, hA9⟩ := own_ent hown9; subst hv9; have HO9 := Lib.hid hown9; have HG9 := Lib.hid hg9; have HS9 := Lib.hid hs9; clear hown9 hg9 hat9 hs9 hA9)
              go_ret
              exact put_end HM.out hAy.out hQy.out hBy.out (Nat.le_of_lt hsz.out) hbe.out HGQ.out HO6.out HG9.out HS9.out hc9 hHIT.out h72 hip9 (by omega)
        · skip
          have hbe : Hid (Below wy.heap.size wy wy) := Below.refl _ _
          refine Go.Proofs.YtanmgkpgfmkobaaW.PrintLast.value_ (v := .slice (some ⟨wy.heap.size, 0, none⟩) 1 1) (w1 := wy.alloc (.cells #[.slice q.Ak q.nk q.ck, .int .u64 q.e.v, .int .u8 q.e.m, .int .u8 q.e.u, .int .u64 q.e.x, .slice q.Ad q.nd q.cd] 32)) (by rfl) rfl ?_ ?_
          · go_simp
            try rfl
          have hbn : Hid (Below wy.heap.size wy (wy.alloc (.cells #[.slice q.Ak q.nk q.ck, .int .u64 q.e.v, .int .u8 q.e.m, .int .u8 q.e.u, .int .u64 q.e.x, .slice q.Ad q.nd q.cd] 32))) := hbe.out.alloc hbe.out.size _
          have hs28 : Hid (Blk (wy.alloc (.cells #[.slice q.Ak q.nk q.ck, .int .u64 q.e.v, .int .u8 q.e.m, .int .u8 q.e.u, .int .u64 q.e.x, .slice q.Ad q.nd q.cd] 32)) wy.heap.size 32 q.cells) := Blk.new wy _ _
          have hl28 : Hid (wy.heap.size < (wy.alloc (.cells #[.slice q.Ak q.nk q.ck, .int .u64 q.e.v, .int .u8 q.e.m, .int .u8 q.e.u, .int .u64 q.e.x, .slice q.Ad q.nd q.cd] 32)).heap.size) := hs28.out.lt
          refine hK.out _ _ (One.bel hY.out hbn.out) (fun hHeld => ?_); clear hK K; refine norm_ (a' := ?_) ?_ ?_; rotate_left; (show Act.put _ (some 28) _ = _; simp only [Act.put, List.setIfInBounds_toArray, List.set_cons_zero, List.set_cons_succ, i64_w, i32_w]; rfl)
          replace hbe := hbn
          clear hbn
          generalize wy.alloc (.cells #[.slice q.Ak q.nk q.ck, .int .u64 q.e.v, .int .u8 q.e.m, .int .u8 q.e.u, .int .u64 q.e.x, .slice q.Ad q.nd q.cd] 32) = w60 at *
          refine one_ (i := 0) (N := some 22) #[tt,tt,tt,tt,ff,tt,tt,ff,ff] rfl rfl (by kernel_rfl) (by decide) (fun K hK => ?_)
          refine Go.Proofs.YtanmgkpgfmkobaaW.PrintLast.value_ (v := .slice (some ⟨w60.heap.size, 0, none⟩) 0 0) (w1 := w60.alloc (.cells #[] 32)) (by rfl) rfl ?_ ?_
          · go_simp
            try rfl
          have hbn : Hid (Below wy.heap.size wy (w60.alloc (.cells #[] 32))) := hbe.out.alloc hbe.out.size _
          have ho22 := Lib.hid (World.ownsRow_made (base := wy.heap.size) (e := 32) (size := 6) w60 #[] 0 hbe.out.size (by simp [maxLen]) rfl)
          have hs28 := Lib.hid (hs28.out.alloc (.cells #[] 32))
          have hn28 : Hid (wy.heap.size ≠ w60.heap.size) := by have := hl28.out; show _ ≠ _; omega
          refine hK.out _ _ (One.bel hY.out hbn.out) (fun hHeld => ?_); clear hK K; refine norm_ (a' := ?_) ?_ ?_; rotate_left; (show Act.put _ (some 22) _ = _; simp only [Act.put, List.setIfInBounds_toArray, List.set_cons_zero, List.set_cons_succ, i64_w, i32_w]; rfl)
          replace hbe := hbn
          clear hbn
          generalize w60.alloc (.cells #[] 32) = w01 at *
          refine one_ (i := 4) (N := some 26) #[tt,tt,tt,tt,tt,tt,tt,ff,ff] rfl rfl (by kernel_rfl) (by decide) (fun K hK => ?_)
          refine step_append_ent rfl (.tmp 22) (.tmp 25) rfl wy.heap.size (.slice (some ⟨w60.heap.size, 0, none⟩) 0 0) 0 [] rfl ho22.out (some ⟨ga, oa, none⟩) i c (flatE (rs.take i)) rfl (htk.out.below hbe.out) (flatE_one _) (by omega) hbe.out.size ?_
          intro v26 wb ho26 hg26 hat26
          replace ho26 := Lib.hid ho26
          rw [Nat.zero_add, List.nil_append] at ho26
          have hbn : Hid (Below wy.heap.size wy wb) := hbe.out.grown hg26 hbe.out.size (fun k e => (ho22.out.lt k e).1)
          have hs28 := Lib.hid (hs28.out.frm (Frm.of_grown hg26) (by rw [List.mem_singleton]; exact hn28.out))
          clear hat26 hg26
          refine hK.out _ _ (One.bel hY.out hbn.out) (fun hHeld => ?_); clear hK K; refine norm_ (a' := ?_) ?_ ?_; rotate_left; (show Act.put _ (some 26) _ = _; simp only [Act.put, List.setIfInBounds_toArray, List.set_cons_zero, List.set_cons_succ, i64_w, i32_w]; rfl)
          replace hbe := hbn
          clear hbn
          refine one_ (i := 7) (N := some 29) #[tt,tt,tt,tt,tt,tt,tt,tt,ff] rfl rfl (by kernel_rfl) (by decide) (fun K hK => ?_)
          have hq28 : Sl wb (some ⟨wy.heap.size, 0, none⟩) (1 * 6) q.cells := hs28.out.sl (off := 0) (n := 6) (by show 0 + 6 ≤ 6; omega)
          refine step_append_ent rfl (.tmp 26) (.tmp 28) rfl wy.heap.size v26 i (flatE (rs.take i)) rfl ho26.out (some ⟨wy.heap.size, 0, none⟩) 1 1 q.cells rfl hq28 (cells_one q) (by omega) hbe.out.size ?_
          intro v29 wz ho29 hg29 hat29
          obtain ⟨A6, c6, hv29, hc6, _, hA6⟩ := own_ent ho29
          subst hv29
          have HO6 := Lib.hid ho29
          have hbn : Hid (Below wy.heap.size wy wz) := hbe.out.grown hg29 hbe.out.size (fun k e => (ho26.out.lt k e).1)
          clear ho29 hg29 hat29 hA6 hq28
          refine hK.out _ _ (One.bel hY.out hbn.out) (fun hHeld => ?_); clear hK K; refine norm_ (a' := ?_) ?_ ?_; rotate_left; (show Act.put _ (some 29) _ = _; simp only [Act.put, List.setIfInBounds_toArray, List.set_cons_zero, List.set_cons_succ, i64_w, i32_w]; rfl)
          refine pure_ (i := 8) (N := some 6) (v := ?_) (a' := ?_) #[tt,tt,tt,tt,tt,tt,tt,tt,tt] rfl rfl (by kernel_rfl) (fun _ _ _ h => h) (Or.inl ⟨by rfl, ?_⟩) ?_ ?_; rotate_left; (intro w'; go_simp; with_reducible rfl); rotate_left; (simp only [Act.put, List.setIfInBounds_toArray, List.set_cons_zero, List.set_cons_succ, i64_w, i32_w]; rfl)
          refine done_ (by kernel_rfl) ?_
          replace hbe := hbn
          clear hbn hHeld
          have hAy := hAr
          have hQy := hQr
          have hBy := hBr
          replace hAr := Lib.hid (hAr.out.below hbe.out)
          replace hQr := Lib.hid (hQr.out.below hbe.out)
          replace hXr := Lib.hid (hXr.out.frm (Frm.of_below hbe.out) (by simp))
          replace hBr : Hid (Below gq w wz) := hBr.out.trans (hbe.out.mono (Nat.le_of_lt hsz.out))
          clear htk hY
          have hrin := Lib.hid (hAr.out.each r (List.mem_of_getElem? HR.out))
          have hx := hXr.out
          have ha : ∀ j v, r.cells[j]? = some v → wz.cell? ⟨ga, oa + i * 6 + j, none⟩ = some v := fun j v hj => hAr.out.at_ HR.out hj
          have hHJ : Hid (i + 1 = if hitE (rs.map ER.e) q.e.k q.e.v then i + 1 else i) := by
            have h9 : hitE (rs.map ER.e) q.e.k q.e.v = true := by
              unfold hitE
              rw [← HPP.out, List.getElem?_map, HR.out]
              show (orderL r.e.k r.e.v q.e.k q.e.v == 0) = _
              rw [h3]
              rfl
            rw [h9]
            rfl
          have a0 := ha 0 _ rfl
          rw [Nat.add_zero] at a0
          go_wp2
          refine start_ (n := 13) (S := Two ga (oa + i * 6) gq r q) (ds := []) #[ff,ff,ff,ff,ff,ff,ff,ff,ff,ff,ff,ff,ff] (by kernel_rfl) rfl rfl (⟨a0, ha 1 _ rfl, ha 2 _ rfl, ha 3 _ rfl, ha 4 _ rfl, ha 5 _ rfl, hx.at_ rfl, hx.at_ rfl, hx.at_ rfl, hx.at_ rfl, hx.at_ rfl, hx.at_ rfl⟩) (fun hHeld => ?_)
          replace hAr : Hid (Ers wz.drew (some ⟨ga, oa, none⟩) rs) := ⟨hAr.out.sl, fun r hr => (hAr.out.each r hr).drewN 1⟩
          replace hQr : Hid (q.In wz.drew) := hQr.out.drewN 1
          replace hXr : Hid (Blk wz.drew gq 32 q.cells) := hXr.out
          replace hBr : Hid (Below gq w wz.drew) := hBr.out.drew
          replace hrin : Hid (r.In wz.drew) := hrin.out.drewN 1
          replace HO6 : Hid (wz.drew.ownsRow wy.heap.size 32 6 (.slice A6 (i + 1) c6) (i + 1) (flatE (rs.take i) ++ q.cells)) := HO6.out
          replace hbe : Hid (Below wy.heap.size wy wz.drew) := hbe.out.drew
          clear ha hx a0
          generalize wz.drew = wd at *
          refine pure_ (i := 0) (N := some 30) (v := ?_) (a' := ?_) #[tt,ff,ff,ff,ff,ff,ff,ff,ff,ff,ff,ff,ff] rfl rfl (by kernel_rfl) (fun _ _ _ h => h) (Or.inl ⟨by rfl, ?_⟩) ?_ ?_; rotate_left; (intro w'; go_simp; with_reducible rfl); rotate_left; (simp only [Act.put, List.setIfInBounds_toArray, List.set_cons_zero, List.set_cons_succ, i64_w, i32_w]; rfl)
          refine pure_ (i := 1) (N := some 31) (v := ?_) (a' := ?_) #[tt,tt,ff,ff,ff,ff,ff,ff,ff,ff,ff,ff,ff] rfl rfl (by kernel_rfl) (fun _ _ _ h => h) (Or.inl ⟨by rfl, ?_⟩) ?_ ?_; rotate_left; (intro w'; go_simp; with_reducible rfl); rotate_left; (simp only [Act.put, List.setIfInBounds_toArray, List.set_cons_zero, List.set_cons_succ, i64_w, i32_w]; rfl)
          refine pure_ (i := 2) (N := some 32) (v := ?_) (a' := ?_) #[tt,tt,tt,ff,ff,ff,ff,ff,ff,ff,ff,ff,ff] rfl rfl (by kernel_rfl) (fun _ _ _ h => h) (Or.inl ⟨by rfl, ?_⟩) ?_ ?_; rotate_left; (intro w'; go_simp; with_reducible rfl); rotate_left; (simp only [Act.put, List.setIfInBounds_toArray, List.set_cons_zero, List.set_cons_succ, i64_w, i32_w]; rfl)
          refine pure_ (i := 3) (N := some 33) (v := ?_) (a' := ?_) #[tt,tt,tt,tt,ff,ff,ff,ff,ff,ff,ff,ff,ff] rfl rfl (by kernel_rfl) (fun _ _ _ h => h) (Or.inl ⟨by rfl, ?_⟩) ?_ ?_; rotate_left; (intro w'; go_simp; with_reducible rfl); rotate_left; (simp only [Act.put, List.setIfInBounds_toArray, List.set_cons_zero, List.set_cons_succ, i64_w, i32_w]; rfl)
          refine pure_ (i := 4) (N := some 34) (v := ?_) (a' := ?_) #[tt,tt,tt,tt,tt,ff,ff,ff,ff,ff,ff,ff,ff] rfl rfl (by kernel_rfl) (fun _ _ _ h => h) (Or.inl ⟨by rfl, ?_⟩) ?_ ?_; rotate_left; (intro w'; go_simp; with_reducible rfl); rotate_left; (simp only [Act.put, List.setIfInBounds_toArray, List.set_cons_zero, List.set_cons_succ, i64_w, i32_w]; rfl)
          refine pure_ (i := 5) (N := some 35) (v := ?_) (a' := ?_) #[tt,tt,tt,tt,tt,tt,ff,ff,ff,ff,ff,ff,ff] rfl rfl (by kernel_rfl) (fun _ _ _ h => h) (Or.inl ⟨by rfl, ?_⟩) ?_ ?_; rotate_left; (intro w'; go_simp; with_reducible rfl); rotate_left; (simp only [Act.put, List.setIfInBounds_toArray, List.set_cons_zero, List.set_cons_succ, i64_w, i32_w]; rfl)
          refine pure_ (i := 6) (N := some 36) (v := ?_) (a' := ?_) #[tt,tt,tt,tt,tt,tt,tt,ff,ff,ff,ff,ff,ff] rfl rfl (by kernel_rfl) (fun _ _ _ h => h) (Or.inl ⟨by rfl, ?_⟩) ?_ ?_; rotate_left; (intro w'; go_simp; with_reducible rfl); rotate_left; (simp only [Act.put, List.setIfInBounds_toArray, List.set_cons_zero, List.set_cons_succ, i64_w, i32_w]; rfl)
          refine pure_ (i := 7) (N := some 37) (v := ?_) (a' := ?_) #[tt,tt,tt,tt,tt,tt,tt,tt,ff,ff,ff,ff,ff] rfl rfl (by kernel_rfl) (fun _ _ _ h => h) (Or.inl ⟨by rfl, ?_⟩) ?_ ?_; rotate_left; (intro w'; go_simp; with_reducible rfl); rotate_left; (simp only [Act.put, List.setIfInBounds_toArray, List.set_cons_zero, List.set_cons_succ, i64_w, i32_w]; rfl)
          refine take_ (i := 8) (N := some 38) (v := ?_) (a' := ?_) #[tt,tt,tt,tt,tt,tt,tt,tt,tt,ff,ff,ff,ff] rfl rfl (by kernel_rfl) (fun _ _ _ h => h) (Or.inl ⟨by rfl, ?_⟩) hHeld ?_ ?_; rotate_left; (rintro w' ⟨h0, h1, h2, h3, h4, h5, h6, h7, h8, h9, h10, h11⟩; go_simp; with_reducible rfl); rotate_left; (simp only [Act.put, List.setIfInBounds_toArray, List.set_cons_zero, List.set_cons_succ, i64_w, i32_w]; rfl)
          refine take_ (i := 9) (N := some 39) (v := ?_) (a' := ?_) #[tt,tt,tt,tt,tt,tt,tt,tt,tt,tt,ff,ff,ff] rfl rfl (by kernel_rfl) (fun _ _ _ h => h) (Or.inl ⟨by rfl, ?_⟩) hHeld ?_ ?_; rotate_left; (rintro w' ⟨h0, h1, h2, h3, h4, h5, h6, h7, h8, h9, h10, h11⟩; go_simp; with_reducible rfl); rotate_left; (simp only [Act.put, List.setIfInBounds_toArray, List.set_cons_zero, List.set_cons_succ, i64_w, i32_w]; rfl)
          refine one_ (i := 10) (N := some 40) #[tt,tt,tt,tt,tt,tt,tt,tt,tt,tt,tt,ff,ff] rfl rfl (by kernel_rfl) (by decide) (fun K hK => ?_); refine goes_ Try.func70 (by kernel_rfl) rfl #[.agg #[.slice r.Ak r.nk r.ck, .int .u64 r.e.v, .int .u8 r.e.m, .int .u8 r.e.u, .int .u64 r.e.x, .slice r.Ad r.nd r.cd], .agg #[.slice q.Ak q.nk q.ck, .int .u64 q.e.v, .int .u8 q.e.m, .int .u8 q.e.u, .int .u64 q.e.x, .slice q.Ad q.nd q.cd]] (by rfl) rfl rfl (by (try simp only [List.map_toArray, List.map_cons, List.map_nil]); first | done | rfl) ?_
          refine (orderOf_any r q wd hrin.out hQr.out (by omega) (by omega)).mono ?_
          rintro E wx ⟨rfl, hbx⟩; refine ⟨_, rfl, ?_⟩
          have HBX := Lib.hid hbx
          have hsz0 : Hid (gq < wd.heap.size) := hXr.out.lt
          refine hK.out _ _ (Two.bel hHeld hbx) (fun hHeld => ?_); clear hK K; refine norm_ (a' := ?_) ?_ ?_; rotate_left; (show Act.put _ (some 40) _ = _; simp only [Act.put, List.setIfInBounds_toArray, List.set_cons_zero, List.set_cons_succ, i64_w, i32_w]; rfl)
          replace hAr := Lib.hid (hAr.out.below HBX.out)
          replace hQr := Lib.hid (hQr.out.below HBX.out)
          replace hXr := Lib.hid (hXr.out.frm (Frm.of_below HBX.out) (by simp))
          replace hBr : Hid (Below gq w wx) := hBr.out.trans (HBX.out.mono (Nat.le_of_lt hsz0.out))
          have HBX2 := HBX
          clear HBX hbx hsz0 hHeld hrin
          replace HO6 := Lib.hid (own_bel HO6.out HBX2.out)
          replace hbe : Hid (Below wy.heap.size wy wx) := hbe.out.trans (HBX2.out.mono hbe.out.size)
          clear HBX2
          rw [h3]
          refine pure_ (i := 11) (N := some 41) (v := ?_) (a' := ?_) #[tt,tt,tt,tt,tt,tt,tt,tt,tt,tt,tt,tt,ff] rfl rfl (by kernel_rfl) (fun _ _ _ h => h) (Or.inl ⟨by rfl, ?_⟩) ?_ ?_; rotate_left; (intro w'; go_simp; with_reducible rfl); rotate_left; (simp only [Act.put, List.setIfInBounds_toArray, List.set_cons_zero, List.set_cons_succ, i64_w, i32_w]; rfl)
          refine pure_ (i := 12) (N := some 42) (v := ?_) (a' := ?_) #[tt,tt,tt,tt,tt,tt,tt,tt,tt,tt,tt,tt,tt] rfl rfl (by kernel_rfl) (fun _ _ _ h => h) (Or.inl ⟨by rfl, ?_⟩) ?_ ?_; rotate_left; (intro w'; go_simp; with_reducible rfl); rotate_left; (simp only [Act.put, List.setIfInBounds_toArray, List.set_cons_zero, List.set_cons_succ, i64_w, i32_w]; rfl)
          refine done_ (by kernel_rfl) ?_
          have hat : i + 1 ≤ rs.length := by have := HM.out; omega
          have hds := Lib.hid (drop_sl (c := c) (i := i + 1) hAr.out hat (by have := HM.out; omega))
          rw [HM.out] at hds
          have hHIT : Hid (putR rs q = rs.take i ++ q :: rs.drop (i + 1)) := putR_len rs q i _ HPP.out hHJ.out
          have h71 : ((i + 1 : Nat) : Int) ≤ (m : Int) := by have := HM.out; omega
          have h72 : (i + 1 : Nat) ≤ m := by have := HM.out; omega
          have h73 : (m : Int) ≤ (c : Int) := by omega
          have hip9 : i ≤ m := by omega
          clear hHJ hat
          by_cases hcc : c = i + 1
          · rw [if_pos hcc] at hds
            go_wp2_with (at_builtin; refine wpList_append_ent rfl (.tmp 45) (.tmp 48) rfl wy.heap.size (.slice A6 (i + 1) c6) (i + 1) (flatE (rs.take i) ++ q.cells) rfl HO6.out _ (m - (i + 1)) 0 (flatE (rs.drop (i + 1))) ?cx hds.out (flatE_one _) (by omega) hbe.out.size ?_; (case cx => rfl); intro v9 w9 hown9 hg9 hat9; obtain ⟨A9, c9, hv9, hc9, hs9, hA9⟩ := own_ent hown9; subst hv9; have HO9 := Lib.hid hown9; have HG9 := Lib.hid hg9; have HS9 := Lib.hid hs9; clear hown9 hg9 hat9 hs9 hA9)
            go_ret
            exact put_end HM.out hAy.out hQy.out hBy.out (Nat.le_of_lt hsz.out) hbe.out HGQ.out HO6.out HG9.out HS9.out hc9 hHIT.out h72 hip9 (by omega)
          · rw [if_neg hcc] at hds
            go_wp2_with (at_builtin; refine wpList_append_ent rfl (.tmp 45) (.tmp 48) rfl wy.heap.size (.slice A6 (i + 1) c6) (i + 1) (flatE (rs.take i) ++ q.cells) rfl HO6.out _ (m - (i + 1)) (c - (i + 1)) (flatE (rs.drop (i + 1))) ?cx hds.out (flatE_one _) (by omega) hbe.out.size ?_; (case cx => rfl); intro v9 w9 hown9 hg9 hat9; obtain ⟨A9, c9, hv9, hc9, hs9, hA9⟩ := own_ent hown9; subst hv9; have HO9 := Lib.hid hown9; have HG9 := Lib.hid hg9; have HS9 := Lib.hid hs9; clear hown9 hg9 hat9 hs9 hA9)
            go_ret
            exact put_end HM.out hAy.out hQy.out hBy.out (Nat.le_of_lt hsz.out) hbe.out HGQ.out HO6.out HG9.out HS9.out hc9 hHIT.out h72 hip9 (by omega)
      · rw [h3]
        refine pure_ (i := 11) (N := some 18) (v := ?_) (a' := ?_) #[tt,tt,tt,tt,tt,tt,tt,tt,tt,tt,tt,tt,ff] rfl rfl (by kernel_rfl) (fun _ _ _ h => h) (Or.inl ⟨by rfl, ?_⟩) ?_ ?_; rotate_left; (intro w'; go_simp; with_reducible rfl); rotate_left; (simp only [Act.put, List.setIfInBounds_toArray, List.set_cons_zero, List.set_cons_succ, i64_w, i32_w]; rfl)
        refine pure_ (i := 12) (N := some 19) (v := ?_) (a' := ?_) #[tt,tt,tt,tt,tt,tt,tt,tt,tt,tt,tt,tt,tt] rfl rfl (by kernel_rfl) (fun _ _ _ h => h) (Or.inl ⟨by rfl, ?_⟩) ?_ ?_; rotate_left; (intro w'; go_simp; with_reducible rfl); rotate_left; (simp only [Act.put, List.setIfInBounds_toArray, List.set_cons_zero, List.set_cons_succ, i64_w, i32_w]; rfl)
        refine done_ (by kernel_rfl) ?_
        have hpi : i = p := by
          rcases Nat.lt_or_eq_of_le hip with h4 | h4
          · exfalso
            rw [HPP.out] at h4
            have := posE_lt _ _ _ i r.e h4 (by rw [List.getElem?_map, HR.out]; rfl)
            omega
          · exact h4
        clear hHeld
        subst hpi
        have hx := hXr.out
        have hic : i ≤ c := by omega
        go_wp2
        refine start_ (n := 9) (S := One gq q) (ds := []) #[ff,ff,ff,ff,ff,ff,ff,ff,ff] (by kernel_rfl) rfl rfl (⟨hx.at_ rfl, hx.at_ rfl, hx.at_ rfl, hx.at_ rfl, hx.at_ rfl, hx.at_ rfl⟩) (fun hHeld => ?_)
        replace hAr : Hid (Ers wx.drew (some ⟨ga, oa, none⟩) rs) := ⟨hAr.out.sl, fun r hr => (hAr.out.each r hr).drewN 1⟩
        replace hQr : Hid (q.In wx.drew) := hQr.out.drewN 1
        replace hXr : Hid (Blk wx.drew gq 32 q.cells) := hXr.out
        replace hBr : Hid (Below gq w wx.drew) := hBr.out.drew
        have hY := Lib.hid hHeld
        clear hx hbw
        generalize wx.drew = wy at *
        have hsz : Hid (gq < wy.heap.size) := hXr.out.lt
        have htk : Hid (Sl wy (some ⟨ga, oa, none⟩) (i * 6) (flatE (rs.take i))) := by
          have := hAr.out.sl.take (m := i * 6) (by have := HM.out; omega)
          rw [flatE_take] at this
          exact this
        refine pure_ (i := 1) (N := some 23) (v := ?_) (a' := ?_) #[ff,tt,ff,ff,ff,ff,ff,ff,ff] rfl rfl (by kernel_rfl) (fun _ _ _ h => h) (Or.inl ⟨by rfl, ?_⟩) ?_ ?_; rotate_left; (intro w'; go_simp; with_reducible rfl); rotate_left; (simp only [Act.put, List.setIfInBounds_toArray, List.set_cons_zero, List.set_cons_succ, i64_w, i32_w]; rfl)
        refine pure_ (i := 2) (N := some 24) (v := ?_) (a' := ?_) #[ff,tt,tt,ff,ff,ff,ff,ff,ff] rfl rfl (by kernel_rfl) (fun _ _ _ h => h) (Or.inl ⟨by rfl, ?_⟩) ?_ ?_; rotate_left; (intro w'; go_simp; with_reducible rfl); rotate_left; (simp only [Act.put, List.setIfInBounds_toArray, List.set_cons_zero, List.set_cons_succ, i64_w, i32_w]; rfl)
        refine pure_ (i := 3) (N := some 25) (v := ?_) (a' := ?_) #[ff,tt,tt,tt,ff,ff,ff,ff,ff] rfl rfl (by kernel_rfl) (fun _ _ _ h => h) (Or.inl ⟨by rfl, ?_⟩) ?_ ?_; rotate_left; (intro w'; go_simp; with_reducible rfl); rotate_left; (simp only [Act.put, List.setIfInBounds_toArray, List.set_cons_zero, List.set_cons_succ, i64_w, i32_w]; rfl)
        refine take_ (i := 5) (N := some 27) (v := ?_) (a' := ?_) #[ff,tt,tt,tt,ff,tt,ff,ff,ff] rfl rfl (by kernel_rfl) (fun _ _ _ h => h) (Or.inl ⟨by rfl, ?_⟩) hHeld ?_ ?_; rotate_left; (rintro w' ⟨h0, h1, h2, h3, h4, h5⟩; go_simp; with_reducible rfl); rotate_left; (simp only [Act.put, List.setIfInBounds_toArray, List.set_cons_zero, List.set_cons_succ, i64_w, i32_w]; rfl)
        refine two_ (i := 0) (j := 6) (Ni := some 22) (Nj := some 28) #[tt,tt,tt,tt,ff,tt,ff,ff,ff] #[ff,tt,tt,tt,ff,tt,tt,ff,ff] rfl rfl rfl rfl (by kernel_rfl) (by decide) (by decide) (fun K hK => ?_) (fun K hK => ?_)
        · skip
          have hbe : Hid (Below wy.heap.size wy wy) := Below.refl _ _
          refine Go.Proofs.YtanmgkpgfmkobaaW.PrintLast.value_ (v := .slice (some ⟨wy.heap.size, 0, none⟩) 0 0) (w1 := wy.alloc (.cells #[] 32)) (by rfl) rfl ?_ ?_
          · go_simp
            try rfl
          have hbn : Hid (Below wy.heap.size wy (wy.alloc (.cells #[] 32))) := hbe.out.alloc hbe.out.size _
          have ho22 := Lib.hid (World.ownsRow_made (base := wy.heap.size) (e := 32) (size := 6) wy #[] 0 hbe.out.size (by simp [maxLen]) rfl)
          refine hK.out _ _ (One.bel hY.out hbn.out) (fun hHeld => ?_); clear hK K; refine norm_ (a' := ?_) ?_ ?_; rotate_left; (show Act.put _ (some 22) _ = _; simp only [Act.put, List.setIfInBounds_toArray, List.set_cons_zero, List.set_cons_succ, i64_w, i32_w]; rfl)
          replace hbe := hbn
          clear hbn
          generalize wy.alloc (.cells #[] 32) = w00 at *
          have hl22 : Hid (wy.heap.size < w00.heap.size) := by have := ho22.out.lt _ rfl; exact this.2
          refine two_ (i := 4) (j := 6) (Ni := some 26) (Nj := some 28) #[tt,tt,tt,tt,tt,tt,ff,ff,ff] #[tt,tt,tt,tt,ff,tt,tt,ff,ff] rfl rfl rfl rfl (by kernel_rfl) (by decide) (by decide) (fun K hK => ?_) (fun K hK => ?_)
          · skip
            refine step_append_ent rfl (.tmp 22) (.tmp 25) rfl wy.heap.size (.slice (some ⟨wy.heap.size, 0, none⟩) 0 0) 0 [] rfl ho22.out (some ⟨ga, oa, none⟩) i c (flatE (rs.take i)) rfl (htk.out.below hbe.out) (flatE_one _) (by omega) hbe.out.size ?_
            intro v26 wb ho26 hg26 hat26
            replace ho26 := Lib.hid ho26
            rw [Nat.zero_add, List.nil_append] at ho26
            have hbn : Hid (Below wy.heap.size wy wb) := hbe.out.grown hg26 hbe.out.size (fun k e => (ho22.out.lt k e).1)
            clear hat26 hg26
            refine hK.out _ _ (One.bel hY.out hbn.out) (fun hHeld => ?_); clear hK K; refine norm_ (a' := ?_) ?_ ?_; rotate_left; (show Act.put _ (some 26) _ = _; simp only [Act.put, List.setIfInBounds_toArray, List.set_cons_zero, List.set_cons_succ, i64_w, i32_w]; rfl)
            replace hbe := hbn
            clear hbn
            refine one_ (i := 6) (N := some 28) #[tt,tt,tt,tt,tt,tt,tt,ff,ff] rfl rfl (by kernel_rfl) (by decide) (fun K hK => ?_)
            refine Go.Proofs.YtanmgkpgfmkobaaW.PrintLast.value_ (v := .slice (some ⟨wb.heap.size, 0, none⟩) 1 1) (w1 := wb.alloc (.cells #[.slice q.Ak q.nk q.ck, .int .u64 q.e.v, .int .u8 q.e.m, .int .u8 q.e.u, .int .u64 q.e.x, .slice q.Ad q.nd q.cd] 32)) (by rfl) rfl ?_ ?_
            · go_simp
              try rfl
            have hbn : Hid (Below wy.heap.size wy (wb.alloc (.cells #[.slice q.Ak q.nk q.ck, .int .u64 q.e.v, .int .u8 q.e.m, .int .u8 q.e.u, .int .u64 q.e.x, .slice q.Ad q.nd q.cd] 32))) := hbe.out.alloc hbe.out.size _
            have hs28 : Hid (Blk (wb.alloc (.cells #[.slice q.Ak q.nk q.ck, .int .u64 q.e.v, .int .u8 q.e.m, .int .u8 q.e.u, .int .u64 q.e.x, .slice q.Ad q.nd q.cd] 32)) wb.heap.size 32 q.cells) := Blk.new wb _ _
            have hl28 : Hid (wb.heap.size < (wb.alloc (.cells #[.slice q.Ak q.nk q.ck, .int .u64 q.e.v, .int .u8 q.e.m, .int .u8 q.e.u, .int .u64 q.e.x, .slice q.Ad q.nd q.cd] 32)).heap.size) := hs28.out.lt
            have ho26 := Lib.hid (ho26.out.alloc (.cells #[.slice q.Ak q.nk q.ck, .int .u64 q.e.v, .int .u8 q.e.m, .int .u8 q.e.u, .int .u64 q.e.x, .slice q.Ad q.nd q.cd] 32))
            refine hK.out _ _ (One.bel hY.out hbn.out) (fun hHeld => ?_); clear hK K; refine norm_ (a' := ?_) ?_ ?_; rotate_left; (show Act.put _ (some 28) _ = _; simp only [Act.put, List.setIfInBounds_toArray, List.set_cons_zero, List.set_cons_succ, i64_w, i32_w]; rfl)
            replace hbe := hbn
            clear hbn
            generalize wb.alloc (.cells #[.slice q.Ak q.nk q.ck, .int .u64 q.e.v, .int .u8 q.e.m, .int .u8 q.e.u, .int .u64 q.e.x, .slice q.Ad q.nd q.cd] 32) = w62 at *
            refine one_ (i := 7) (N := some 29) #[tt,tt,tt,tt,tt,tt,tt,tt,ff] rfl rfl (by kernel_rfl) (by decide) (fun K hK => ?_)
            have hq28 : Sl w62 (some ⟨wb.heap.size, 0, none⟩) (1 * 6) q.cells := hs28.out.sl (off := 0) (n := 6) (by show 0 + 6 ≤ 6; omega)
            refine step_append_ent rfl (.tmp 26) (.tmp 28) rfl wy.heap.size v26 i (flatE (rs.take i)) rfl ho26.out (some ⟨wb.heap.size, 0, none⟩) 1 1 q.cells rfl hq28 (cells_one q) (by omega) hbe.out.size ?_
            intro v29 wz ho29 hg29 hat29
            obtain ⟨A6, c6, hv29, hc6, _, hA6⟩ := own_ent ho29
            subst hv29
            have HO6 := Lib.hid ho29
            have hbn : Hid (Below wy.heap.size wy wz) := hbe.out.grown hg29 hbe.out.size (fun k e => (ho26.out.lt k e).1)
            clear ho29 hg29 hat29 hA6 hq28
            refine hK.out _ _ (One.bel hY.out hbn.out) (fun hHeld => ?_); clear hK K; refine norm_ (a' := ?_) ?_ ?_; rotate_left; (show Act.put _ (some 29) _ = _; simp only [Act.put, List.setIfInBounds_toArray, List.set_cons_zero, List.set_cons_succ, i64_w, i32_w]; rfl)
            refine pure_ (i := 8) (N := some 6) (v := ?_) (a' := ?_) #[tt,tt,tt,tt,tt,tt,tt,tt,tt] rfl rfl (by kernel_rfl) (fun _ _ _ h => h) (Or.inl ⟨by rfl, ?_⟩) ?_ ?_; rotate_left; (intro w'; go_simp; with_reducible rfl); rotate_left; (simp only [Act.put, List.setIfInBounds_toArray, List.set_cons_zero, List.set_cons_succ, i64_w, i32_w]; rfl)
            refine done_ (by kernel_rfl) ?_
            replace hbe := hbn
            clear hbn hHeld
            have hAy := hAr
            have hQy := hQr
            have hBy := hBr
            replace hAr := Lib.hid (hAr.out.below hbe.out)
            replace hQr := Lib.hid (hQr.out.below hbe.out)
            replace hXr := Lib.hid (hXr.out.frm (Frm.of_below hbe.out) (by simp))
            replace hBr : Hid (Below gq w wz) := hBr.out.trans (hbe.out.mono (Nat.le_of_lt hsz.out))
            clear htk hY
            have hrin := Lib.hid (hAr.out.each r (List.mem_of_getElem? HR.out))
            have hx := hXr.out
            have ha : ∀ j v, r.cells[j]? = some v → wz.cell? ⟨ga, oa + i * 6 + j, none⟩ = some v := fun j v hj => hAr.out.at_ HR.out hj
            have hHJ : Hid (i = if hitE (rs.map ER.e) q.e.k q.e.v then i + 1 else i) := by
              have h9 : hitE (rs.map ER.e) q.e.k q.e.v = false := by
                unfold hitE
                rw [← HPP.out, List.getElem?_map, HR.out]
                show (orderL r.e.k r.e.v q.e.k q.e.v == 0) = _
                rw [h3]
                rfl
              rw [h9]
              rfl
            have a0 := ha 0 _ rfl
            rw [Nat.add_zero] at a0
            go_wp2
            refine start_ (n := 13) (S := Two ga (oa + i * 6) gq r q) (ds := []) #[ff,ff,ff,ff,ff,ff,ff,ff,ff,ff,ff,ff,ff] (by kernel_rfl) rfl rfl (⟨a0, ha 1 _ rfl, ha 2 _ rfl, ha 3 _ rfl, ha 4 _ rfl, ha 5 _ rfl, hx.at_ rfl, hx.at_ rfl, hx.at_ rfl, hx.at_ rfl, hx.at_ rfl, hx.at_ rfl⟩) (fun hHeld => ?_)
            replace hAr : Hid (Ers wz.drew (some ⟨ga, oa, none⟩) rs) := ⟨hAr.out.sl, fun r hr => (hAr.out.each r hr).drewN 1⟩
            replace hQr : Hid (q.In wz.drew) := hQr.out.drewN 1
            replace hXr : Hid (Blk wz.drew gq 32 q.cells) := hXr.out
            replace hBr : Hid (Below gq w wz.drew) := hBr.out.drew
            replace hrin : Hid (r.In wz.drew) := hrin.out.drewN 1
            replace HO6 : Hid (wz.drew.ownsRow wy.heap.size 32 6 (.slice A6 (i + 1) c6) (i + 1) (flatE (rs.take i) ++ q.cells)) := HO6.out
            replace hbe : Hid (Below wy.heap.size wy wz.drew) := hbe.out.drew
            clear ha hx a0
            generalize wz.drew = wd at *
            refine pure_ (i := 0) (N := some 30) (v := ?_) (a' := ?_) #[tt,ff,ff,ff,ff,ff,ff,ff,ff,ff,ff,ff,ff] rfl rfl (by kernel_rfl) (fun _ _ _ h => h) (Or.inl ⟨by rfl, ?_⟩) ?_ ?_; rotate_left; (intro w'; go_simp; with_reducible rfl); rotate_left; (simp only [Act.put, List.setIfInBounds_toArray, List.set_cons_zero, List.set_cons_succ, i64_w, i32_w]; rfl)
            refine pure_ (i := 1) (N := some 31) (v := ?_) (a' := ?_) #[tt,tt,ff,ff,ff,ff,ff,ff,ff,ff,ff,ff,ff] rfl rfl (by kernel_rfl) (fun _ _ _ h => h) (Or.inl ⟨by rfl, ?_⟩) ?_ ?_; rotate_left; (intro w'; go_simp; with_reducible rfl); rotate_left; (simp only [Act.put, List.setIfInBounds_toArray, List.set_cons_zero, List.set_cons_succ, i64_w, i32_w]; rfl)
            refine pure_ (i := 2) (N := some 32) (v := ?_) (a' := ?_) #[tt,tt,tt,ff,ff,ff,ff,ff,ff,ff,ff,ff,ff] rfl rfl (by kernel_rfl) (fun _ _ _ h => h) (Or.inl ⟨by rfl, ?_⟩) ?_ ?_; rotate_left; (intro w'; go_simp; with_reducible rfl); rotate_left; (simp only [Act.put, List.setIfInBounds_toArray, List.set_cons_zero, List.set_cons_succ, i64_w, i32_w]; rfl)
            refine pure_ (i := 3) (N := some 33) (v := ?_) (a' := ?_) #[tt,tt,tt,tt,ff,ff,ff,ff,ff,ff,ff,ff,ff] rfl rfl (by kernel_rfl) (fun _ _ _ h => h) (Or.inl ⟨by rfl, ?_⟩) ?_ ?_; rotate_left; (intro w'; go_simp; with_reducible rfl); rotate_left; (simp only [Act.put, List.setIfInBounds_toArray, List.set_cons_zero, List.set_cons_succ, i64_w, i32_w]; rfl)
            refine pure_ (i := 4) (N := some 34) (v := ?_) (a' := ?_) #[tt,tt,tt,tt,tt,ff,ff,ff,ff,ff,ff,ff,ff] rfl rfl (by kernel_rfl) (fun _ _ _ h => h) (Or.inl ⟨by rfl, ?_⟩) ?_ ?_; rotate_left; (intro w'; go_simp; with_reducible rfl); rotate_left; (simp only [Act.put, List.setIfInBounds_toArray, List.set_cons_zero, List.set_cons_succ, i64_w, i32_w]; rfl)
            refine pure_ (i := 5) (N := some 35) (v := ?_) (a' := ?_) #[tt,tt,tt,tt,tt,tt,ff,ff,ff,ff,ff,ff,ff] rfl rfl (by kernel_rfl) (fun _ _ _ h => h) (Or.inl ⟨by rfl, ?_⟩) ?_ ?_; rotate_left; (intro w'; go_simp; with_reducible rfl); rotate_left; (simp only [Act.put, List.setIfInBounds_toArray, List.set_cons_zero, List.set_cons_succ, i64_w, i32_w]; rfl)
            refine pure_ (i := 6) (N := some 36) (v := ?_) (a' := ?_) #[tt,tt,tt,tt,tt,tt,tt,ff,ff,ff,ff,ff,ff] rfl rfl (by kernel_rfl) (fun _ _ _ h => h) (Or.inl ⟨by rfl, ?_⟩) ?_ ?_; rotate_left; (intro w'; go_simp; with_reducible rfl); rotate_left; (simp only [Act.put, List.setIfInBounds_toArray, List.set_cons_zero, List.set_cons_succ, i64_w, i32_w]; rfl)
            refine pure_ (i := 7) (N := some 37) (v := ?_) (a' := ?_) #[tt,tt,tt,tt,tt,tt,tt,tt,ff,ff,ff,ff,ff] rfl rfl (by kernel_rfl) (fun _ _ _ h => h) (Or.inl ⟨by rfl, ?_⟩) ?_ ?_; rotate_left; (intro w'; go_simp; with_reducible rfl); rotate_left; (simp only [Act.put, List.setIfInBounds_toArray, List.set_cons_zero, List.set_cons_succ, i64_w, i32_w]; rfl)
            refine take_ (i := 8) (N := some 38) (v := ?_) (a' := ?_) #[tt,tt,tt,tt,tt,tt,tt,tt,tt,ff,ff,ff,ff] rfl rfl (by kernel_rfl) (fun _ _ _ h => h) (Or.inl ⟨by rfl, ?_⟩) hHeld ?_ ?_; rotate_left; (rintro w' ⟨h0, h1, h2, h3, h4, h5, h6, h7, h8, h9, h10, h11⟩; go_simp; with_reducible rfl); rotate_left; (simp only [Act.put, List.setIfInBounds_toArray, List.set_cons_zero, List.set_cons_succ, i64_w, i32_w]; rfl)
            refine take_ (i := 9) (N := some 39) (v := ?_) (a' := ?_) #[tt,tt,tt,tt,tt,tt,tt,tt,tt,tt,ff,ff,ff] rfl rfl (by kernel_rfl) (fun _ _ _ h => h) (Or.inl ⟨by rfl, ?_⟩) hHeld ?_ ?_; rotate_left; (rintro w' ⟨h0, h1, h2, h3, h4, h5, h6, h7, h8, h9, h10, h11⟩; go_simp; with_reducible rfl); rotate_left; (simp only [Act.put, List.setIfInBounds_toArray, List.set_cons_zero, List.set_cons_succ, i64_w, i32_w]; rfl)
            refine one_ (i := 10) (N := some 40) #[tt,tt,tt,tt,tt,tt,tt,tt,tt,tt,tt,ff,ff] rfl rfl (by kernel_rfl) (by decide) (fun K hK => ?_); refine goes_ Try.func70 (by kernel_rfl) rfl #[.agg #[.slice r.Ak r.nk r.ck, .int .u64 r.e.v, .int .u8 r.e.m, .int .u8 r.e.u, .int .u64 r.e.x, .slice r.Ad r.nd r.cd], .agg #[.slice q.Ak q.nk q.ck, .int .u64 q.e.v, .int .u8 q.e.m, .int .u8 q.e.u, .int .u64 q.e.x, .slice q.Ad q.nd q.cd]] (by rfl) rfl rfl (by (try simp only [List.map_toArray, List.map_cons, List.map_nil]); first | done | rfl) ?_
            refine (orderOf_any r q wd hrin.out hQr.out (by omega) (by omega)).mono ?_
            rintro E wx ⟨rfl, hbx⟩; refine ⟨_, rfl, ?_⟩
            have HBX := Lib.hid hbx
            have hsz0 : Hid (gq < wd.heap.size) := hXr.out.lt
            refine hK.out _ _ (Two.bel hHeld hbx) (fun hHeld => ?_); clear hK K; refine norm_ (a' := ?_) ?_ ?_; rotate_left; (show Act.put _ (some 40) _ = _; simp only [Act.put, List.setIfInBounds_toArray, List.set_cons_zero, List.set_cons_succ, i64_w, i32_w]; rfl)
            replace hAr := Lib.hid (hAr.out.below HBX.out)
            replace hQr := Lib.hid (hQr.out.below HBX.out)
            replace hXr := Lib.hid (hXr.out.frm (Frm.of_below HBX.out) (by simp))
            replace hBr : Hid (Below gq w wx) := hBr.out.trans (HBX.out.mono (Nat.le_of_lt hsz0.out))
            have HBX2 := HBX
            clear HBX hbx hsz0 hHeld hrin
            replace HO6 := Lib.hid (own_bel HO6.out HBX2.out)
            replace hbe : Hid (Below wy.heap.size wy wx) := hbe.out.trans (HBX2.out.mono hbe.out.size)
            clear HBX2
            rw [h3]
            refine pure_ (i := 11) (N := some 41) (v := ?_) (a' := ?_) #[tt,tt,tt,tt,tt,tt,tt,tt,tt,tt,tt,tt,ff] rfl rfl (by kernel_rfl) (fun _ _ _ h => h) (Or.inl ⟨by rfl, ?_⟩) ?_ ?_; rotate_left; (intro w'; go_simp; with_reducible rfl); rotate_left; (simp only [Act.put, List.setIfInBounds_toArray, List.set_cons_zero, List.set_cons_succ, i64_w, i32_w]; rfl)
            refine pure_ (i := 12) (N := some 42) (v := ?_) (a' := ?_) #[tt,tt,tt,tt,tt,tt,tt,tt,tt,tt,tt,tt,tt] rfl rfl (by kernel_rfl) (fun _ _ _ h => h) (Or.inl ⟨by rfl, ?_⟩) ?_ ?_; rotate_left; (intro w'; go_simp; with_reducible rfl); rotate_left; (simp only [Act.put, List.setIfInBounds_toArray, List.set_cons_zero, List.set_cons_succ, i64_w, i32_w]; rfl)
            refine done_ (by kernel_rfl) ?_
            have hat : i ≤ rs.length := by have := HM.out; omega
            have hds := Lib.hid (drop_sl (c := c) (i := i) hAr.out hat (by have := HM.out; omega))
            rw [HM.out] at hds
            have hHIT : Hid (putR rs q = rs.take i ++ q :: rs.drop (i)) := putR_len rs q i _ HPP.out hHJ.out
            have h71 : ((i : Nat) : Int) ≤ (m : Int) := by have := HM.out; omega
            have h72 : (i : Nat) ≤ m := by have := HM.out; omega
            have h73 : (m : Int) ≤ (c : Int) := by omega
            have hip9 : i ≤ m := by omega
            clear hHJ hat
            by_cases hcc : c = i
            · rw [if_pos hcc] at hds
              go_wp2_with (at_builtin; refine wpList_append_ent rfl (.tmp 45) (.tmp 48) rfl wy.heap.size (.slice A6 (i + 1) c6) (i + 1) (flatE (rs.take i) ++ q.cells) rfl HO6.out _ (m - (i)) 0 (flatE (rs.drop (i))) ?cx hds.out (flatE_one _) (by omega) hbe.out.size ?_; (case cx => rfl); intro v9 w9 hown9 hg9 hat9; obtain ⟨A9, c9, hv9, hc9, hs9, hA9⟩ := own_ent hown9; subst hv9; have HO9 := Lib.hid hown9; have HG9 := Lib.hid hg9; have HS9 := Lib.hid hs9; clear hown9 hg9 hat9 hs9 hA9)
              go_ret
              exact put_end HM.out hAy.out hQy.out hBy.out (Nat.le_of_lt hsz.out) hbe.out HGQ.out HO6.out HG9.out HS9.out hc9 hHIT.out h72 hip9 (by omega)
            · rw [if_neg hcc] at hds
              go_wp2_with (at_builtin; refine wpList_append_ent rfl (.tmp 45) (.tmp 48) rfl wy.heap.size (.slice A6 (i + 1) c6) (i + 1) (flatE (rs.take i) ++ q.cells) rfl HO6.out _ (m - (i)) (c - (i)) (flatE (rs.drop (i))) ?cx hds.out (flatE_one _) (by omega) hbe.out.size ?_; (case cx => rfl); intro v9 w9 hown9 hg9 hat9; obtain ⟨A9, c9, hv9, hc9, hs9, hA9⟩ := own_ent hown9; subst hv9; have HO9 := Lib.hid hown9; have HG9 := Lib.hid hg9; have HS9 := Lib.hid hs9; clear hown9 hg9 hat9 hs9 hA9)
              go_ret
              exact put_end HM.out hAy.out hQy.out hBy.out (Nat.le_of_lt hsz.out) hbe.out HGQ.out HO6.out HG9.out HS9.out hc9 hHIT.out h72 hip9 (by omega)
          · skip
            refine Go.Proofs.YtanmgkpgfmkobaaW.PrintLast.value_ (v := .slice (some ⟨w00.heap.size, 0, none⟩) 1 1) (w1 := w00.alloc (.cells #[.slice q.Ak q.nk q.ck, .int .u64 q.e.v, .int .u8 q.e.m, .int .u8 q.e.u, .int .u64 q.e.x, .slice q.Ad q.nd q.cd] 32)) (by rfl) rfl ?_ ?_
            · go_simp
              try rfl
            have hbn : Hid (Below wy.heap.size wy (w00.alloc (.cells #[.slice q.Ak q.nk q.ck, .int .u64 q.e.v, .int .u8 q.e.m, .int .u8 q.e.u, .int .u64 q.e.x, .slice q.Ad q.nd q.cd] 32))) := hbe.out.alloc hbe.out.size _
            have hs28 : Hid (Blk (w00.alloc (.cells #[.slice q.Ak q.nk q.ck, .int .u64 q.e.v, .int .u8 q.e.m, .int .u8 q.e.u, .int .u64 q.e.x, .slice q.Ad q.nd q.cd] 32)) w00.heap.size 32 q.cells) := Blk.new w00 _ _
            have hl28 : Hid (w00.heap.size < (w00.alloc (.cells #[.slice q.Ak q.nk q.ck, .int .u64 q.e.v, .int .u8 q.e.m, .int .u8 q.e.u, .int .u64 q.e.x, .slice q.Ad q.nd q.cd] 32)).heap.size) := hs28.out.lt
            have ho22 := Lib.hid (ho22.out.alloc (.cells #[.slice q.Ak q.nk q.ck, .int .u64 q.e.v, .int .u8 q.e.m, .int .u8 q.e.u, .int .u64 q.e.x, .slice q.Ad q.nd q.cd] 32))
            have hn28 : Hid (w00.heap.size ≠ wy.heap.size) := by have := hl22.out; show _ ≠ _; omega
            refine hK.out _ _ (One.bel hY.out hbn.out) (fun hHeld => ?_); clear hK K; refine norm_ (a' := ?_) ?_ ?_; rotate_left; (show Act.put _ (some 28) _ = _; simp only [Act.put, List.setIfInBounds_toArray, List.set_cons_zero, List.set_cons_succ, i64_w, i32_w]; rfl)
            replace hbe := hbn
            clear hbn
            generalize w00.alloc (.cells #[.slice q.Ak q.nk q.ck, .int .u64 q.e.v, .int .u8 q.e.m, .int .u8 q.e.u, .int .u64 q.e.x, .slice q.Ad q.nd q.cd] 32) = w61 at *
            refine one_ (i := 4) (N := some 26) #[tt,tt,tt,tt,tt,tt,tt,ff,ff] rfl rfl (by kernel_rfl) (by decide) (fun K hK => ?_)
            refine step_append_ent rfl (.tmp 22) (.tmp 25) rfl wy.heap.size (.slice (some ⟨wy.heap.size, 0, none⟩) 0 0) 0 [] rfl ho22.out (some ⟨ga, oa, none⟩) i c (flatE (rs.take i)) rfl (htk.out.below hbe.out) (flatE_one _) (by omega) hbe.out.size ?_
            intro v26 wb ho26 hg26 hat26
            replace ho26 := Lib.hid ho26
            rw [Nat.zero_add, List.nil_append] at ho26
            have hbn : Hid (Below wy.heap.size wy wb) := hbe.out.grown hg26 hbe.out.size (fun k e => (ho22.out.lt k e).1)
            have hs28 := Lib.hid (hs28.out.frm (Frm.of_grown hg26) (by rw [List.mem_singleton]; exact hn28.out))
            clear hat26 hg26
            refine hK.out _ _ (One.bel hY.out hbn.out) (fun hHeld => ?_); clear hK K; refine norm_ (a' := ?_) ?_ ?_; rotate_left; (show Act.put _ (some 26) _ = _; simp only [Act.put, List.setIfInBounds_toArray, List.set_cons_zero, List.set_cons_succ, i64_w, i32_w]; rfl)
            replace hbe := hbn
            clear hbn
            refine one_ (i := 7) (N := some 29) #[tt,tt,tt,tt,tt,tt,tt,tt,ff] rfl rfl (by kernel_rfl) (by decide) (fun K hK => ?_)
            have hq28 : Sl wb (some ⟨w00.heap.size, 0, none⟩) (1 * 6) q.cells := hs28.out.sl (off := 0) (n := 6) (by show 0 + 6 ≤ 6; omega)
            refine step_append_ent rfl (.tmp 26) (.tmp 28) rfl wy.heap.size v26 i (flatE (rs.take i)) rfl ho26.out (some ⟨w00.heap.size, 0, none⟩) 1 1 q.cells rfl hq28 (cells_one q) (by omega) hbe.out.size ?_
            intro v29 wz ho29 hg29 hat29
            obtain ⟨A6, c6, hv29, hc6, _, hA6⟩ := own_ent ho29
            subst hv29
            have HO6 := Lib.hid ho29
            have hbn : Hid (Below wy.heap.size wy wz) := hbe.out.grown hg29 hbe.out.size (fun k e => (ho26.out.lt k e).1)
            clear ho29 hg29 hat29 hA6 hq28
            refine hK.out _ _ (One.bel hY.out hbn.out) (fun hHeld => ?_); clear hK K; refine norm_ (a' := ?_) ?_ ?_; rotate_left; (show Act.put _ (some 29) _ = _; simp only [Act.put, List.setIfInBounds_toArray, List.set_cons_zero, List.set_cons_succ, i64_w, i32_w]; rfl)
            refine pure_ (i := 8) (N := some 6) (v := ?_) (a' := ?_) #[tt,tt,tt,tt,tt,tt,tt,tt,tt] rfl rfl (by kernel_rfl) (fun _ _ _ h => h) (Or.inl ⟨by rfl, ?_⟩) ?_ ?_; rotate_left; (intro w'; go_simp; with_reducible rfl); rotate_left; (simp only [Act.put, List.setIfInBounds_toArray, List.set_cons_zero, List.set_cons_succ, i64_w, i32_w]; rfl)
            refine done_ (by kernel_rfl) ?_
            replace hbe := hbn
            clear hbn hHeld
            have hAy := hAr
            have hQy := hQr
            have hBy := hBr
            replace hAr := Lib.hid (hAr.out.below hbe.out)
            replace hQr := Lib.hid (hQr.out.below hbe.out)
            replace hXr := Lib.hid (hXr.out.frm (Frm.of_below hbe.out) (by simp))
            replace hBr : Hid (Below gq w wz) := hBr.out.trans (hbe.out.mono (Nat.le_of_lt hsz.out))
            clear htk hY
            have hrin := Lib.hid (hAr.out.each r (List.mem_of_getElem? HR.out))
            have hx := hXr.out
            have ha : ∀ j v, r.cells[j]? = some v → wz.cell? ⟨ga, oa + i * 6 + j, none⟩ = some v := fun j v hj => hAr.out.at_ HR.out hj
            have hHJ : Hid (i = if hitE (rs.map ER.e) q.e.k q.e.v then i + 1 else i) := by
              have h9 : hitE (rs.map ER.e) q.e.k q.e.v = false := by
                unfold hitE
                rw [← HPP.out, List.getElem?_map, HR.out]
                show (orderL r.e.k r.e.v q.e.k q.e.v == 0) = _
                rw [h3]
                rfl
              rw [h9]
              rfl
            have a0 := ha 0 _ rfl
            rw [Nat.add_zero] at a0
            go_wp2
            refine start_ (n := 13) (S := Two ga (oa + i * 6) gq r q) (ds := []) #[ff,ff,ff,ff,ff,ff,ff,ff,ff,ff,ff,ff,ff] (by kernel_rfl) rfl rfl (⟨a0, ha 1 _ rfl, ha 2 _ rfl, ha 3 _ rfl, ha 4 _ rfl, ha 5 _ rfl, hx.at_ rfl, hx.at_ rfl, hx.at_ rfl, hx.at_ rfl, hx.at_ rfl, hx.at_ rfl⟩) (fun hHeld => ?_)
            replace hAr : Hid (Ers wz.drew (some ⟨ga, oa, none⟩) rs) := ⟨hAr.out.sl, fun r hr => (hAr.out.each r hr).drewN 1⟩
            replace hQr : Hid (q.In wz.drew) := hQr.out.drewN 1
            replace hXr : Hid (Blk wz.drew gq 32 q.cells) := hXr.out
            replace hBr : Hid (Below gq w wz.drew) := hBr.out.drew
            replace hrin : Hid (r.In wz.drew) := hrin.out.drewN 1
            replace HO6 : Hid (wz.drew.ownsRow wy.heap.size 32 6 (.slice A6 (i + 1) c6) (i + 1) (flatE (rs.take i) ++ q.cells)) := HO6.out
            replace hbe : Hid (Below wy.heap.size wy wz.drew) := hbe.out.drew
            clear ha hx a0
            generalize wz.drew = wd at *
            refine pure_ (i := 0) (N := some 30) (v := ?_) (a' := ?_) #[tt,ff,ff,ff,ff,ff,ff,ff,ff,ff,ff,ff,ff] rfl rfl (by kernel_rfl) (fun _ _ _ h => h) (Or.inl ⟨by rfl, ?_⟩) ?_ ?_; rotate_left; (intro w'; go_simp; with_reducible rfl); rotate_left; (simp only [Act.put, List.setIfInBounds_toArray, List.set_cons_zero, List.set_cons_succ, i64_w, i32_w]; rfl)
            refine pure_ (i := 1) (N := some 31) (v := ?_) (a' := ?_) #[tt,tt,ff,ff,ff,ff,ff,ff,ff,ff,ff,ff,ff] rfl rfl (by kernel_rfl) (fun _ _ _ h => h) (Or.inl ⟨by rfl, ?_⟩) ?_ ?_; rotate_left; (intro w'; go_simp; with_reducible rfl); rotate_left; (simp only [Act.put, List.setIfInBounds_toArray, List.set_cons_zero, List.set_cons_succ, i64_w, i32_w]; rfl)
            refine pure_ (i := 2) (N := some 32) (v := ?_) (a' := ?_) #[tt,tt,tt,ff,ff,ff,ff,ff,ff,ff,ff,ff,ff] rfl rfl (by kernel_rfl) (fun _ _ _ h => h) (Or.inl ⟨by rfl, ?_⟩) ?_ ?_; rotate_left; (intro w'; go_simp; with_reducible rfl); rotate_left; (simp only [Act.put, List.setIfInBounds_toArray, List.set_cons_zero, List.set_cons_succ, i64_w, i32_w]; rfl)
            refine pure_ (i := 3) (N := some 33) (v := ?_) (a' := ?_) #[tt,tt,tt,tt,ff,ff,ff,ff,ff,ff,ff,ff,ff] rfl rfl (by kernel_rfl) (fun _ _ _ h => h) (Or.inl ⟨by rfl, ?_⟩) ?_ ?_; rotate_left; (intro w'; go_simp; with_reducible rfl); rotate_left; (simp only [Act.put, List.setIfInBounds_toArray, List.set_cons_zero, List.set_cons_succ, i64_w, i32_w]; rfl)
            refine pure_ (i := 4) (N := some 34) (v := ?_) (a' := ?_) #[tt,tt,tt,tt,tt,ff,ff,ff,ff,ff,ff,ff,ff] rfl rfl (by kernel_rfl) (fun _ _ _ h => h) (Or.inl ⟨by rfl, ?_⟩) ?_ ?_; rotate_left; (intro w'; go_simp; with_reducible rfl); rotate_left; (simp only [Act.put, List.setIfInBounds_toArray, List.set_cons_zero, List.set_cons_succ, i64_w, i32_w]; rfl)
            refine pure_ (i := 5) (N := some 35) (v := ?_) (a' := ?_) #[tt,tt,tt,tt,tt,tt,ff,ff,ff,ff,ff,ff,ff] rfl rfl (by kernel_rfl) (fun _ _ _ h => h) (Or.inl ⟨by rfl, ?_⟩) ?_ ?_; rotate_left; (intro w'; go_simp; with_reducible rfl); rotate_left; (simp only [Act.put, List.setIfInBounds_toArray, List.set_cons_zero, List.set_cons_succ, i64_w, i32_w]; rfl)
            refine pure_ (i := 6) (N := some 36) (v := ?_) (a' := ?_) #[tt,tt,tt,tt,tt,tt,tt,ff,ff,ff,ff,ff,ff] rfl rfl (by kernel_rfl) (fun _ _ _ h => h) (Or.inl ⟨by rfl, ?_⟩) ?_ ?_; rotate_left; (intro w'; go_simp; with_reducible rfl); rotate_left; (simp only [Act.put, List.setIfInBounds_toArray, List.set_cons_zero, List.set_cons_succ, i64_w, i32_w]; rfl)
            refine pure_ (i := 7) (N := some 37) (v := ?_) (a' := ?_) #[tt,tt,tt,tt,tt,tt,tt,tt,ff,ff,ff,ff,ff] rfl rfl (by kernel_rfl) (fun _ _ _ h => h) (Or.inl ⟨by rfl, ?_⟩) ?_ ?_; rotate_left; (intro w'; go_simp; with_reducible rfl); rotate_left; (simp only [Act.put, List.setIfInBounds_toArray, List.set_cons_zero, List.set_cons_succ, i64_w, i32_w]; rfl)
            refine take_ (i := 8) (N := some 38) (v := ?_) (a' := ?_) #[tt,tt,tt,tt,tt,tt,tt,tt,tt,ff,ff,ff,ff] rfl rfl (by kernel_rfl) (fun _ _ _ h => h) (Or.inl ⟨by rfl, ?_⟩) hHeld ?_ ?_; rotate_left; (rintro w' ⟨h0, h1, h2, h3, h4, h5, h6, h7, h8, h9, h10, h11⟩; go_simp; with_reducible rfl); rotate_left; (simp only [Act.put, List.setIfInBounds_toArray, List.set_cons_zero, List.set_cons_succ, i64_w, i32_w]; rfl)
            refine take_ (i := 9) (N := some 39) (v := ?_) (a' := ?_) #[tt,tt,tt,tt,tt,tt,tt,tt,tt,tt,ff,ff,ff] rfl rfl (by kernel_rfl) (fun _ _ _ h => h) (Or.inl ⟨by rfl, ?_⟩) hHeld ?_ ?_; rotate_left; (rintro w' ⟨h0, h1, h2, h3, h4, h5, h6, h7, h8, h9, h10, h11⟩; go_simp; with_reducible rfl); rotate_left; (simp only [Act.put, List.setIfInBounds_toArray, List.set_cons_zero, List.set_cons_succ, i64_w, i32_w]; rfl)
            refine one_ (i := 10) (N := some 40) #[tt,tt,tt,tt,tt,tt,tt,tt,tt,tt,tt,ff,ff] rfl rfl (by kernel_rfl) (by decide) (fun K hK => ?_); refine goes_ Try.func70 (by kernel_rfl) rfl #[.agg #[.slice r.Ak r.nk r.ck, .int .u64 r.e.v, .int .u8 r.e.m, .int .u8 r.e.u, .int .u64 r.e.x, .slice r.Ad r.nd r.cd], .agg #[.slice q.Ak q.nk q.ck, .int .u64 q.e.v, .int .u8 q.e.m, .int .u8 q.e.u, .int .u64 q.e.x, .slice q.Ad q.nd q.cd]] (by rfl) rfl rfl (by (try simp only [List.map_toArray, List.map_cons, List.map_nil]); first | done | rfl) ?_
            refine (orderOf_any r q wd hrin.out hQr.out (by omega) (by omega)).mono ?_
            rintro E wx ⟨rfl, hbx⟩; refine ⟨_, rfl, ?_⟩
            have HBX := Lib.hid hbx
            have hsz0 : Hid (gq < wd.heap.size) := hXr.out.lt
            refine hK.out _ _ (Two.bel hHeld hbx) (fun hHeld => ?_); clear hK K; refine norm_ (a' := ?_) ?_ ?_; rotate_left; (show Act.put _ (some 40) _ = _; simp only [Act.put, List.setIfInBounds_toArray, List.set_cons_zero, List.set_cons_succ, i64_w, i32_w]; rfl)
            replace hAr := Lib.hid (hAr.out.below HBX.out)
            replace hQr := Lib.hid (hQr.out.below HBX.out)
            replace hXr := Lib.hid (hXr.out.frm (Frm.of_below HBX.out) (by simp))
            replace hBr : Hid (Below gq w wx) := hBr.out.trans (HBX.out.mono (Nat.le_of_lt hsz0.out))
            have HBX2 := HBX
            clear HBX hbx hsz0 hHeld hrin
            replace HO6 := Lib.hid (own_bel HO6.out HBX2.out)
            replace hbe : Hid (Below wy.heap.size wy wx) := hbe.out.trans (HBX2.out.mono hbe.out.size)
            clear HBX2
            rw [h3]
            refine pure_ (i := 11) (N := some 41) (v := ?_) (a' := ?_) #[tt,tt,tt,tt,tt,tt,tt,tt,tt,tt,tt,tt,ff] rfl rfl (by kernel_rfl) (fun _ _ _ h => h) (Or.inl ⟨by rfl, ?_⟩) ?_ ?_; rotate_left; (intro w'; go_simp; with_reducible rfl); rotate_left; (simp only [Act.put, List.setIfInBounds_toArray, List.set_cons_zero, List.set_cons_succ, i64_w, i32_w]; rfl)
            refine pure_ (i := 12) (N := some 42) (v := ?_) (a' := ?_) #[tt,tt,tt,tt,tt,tt,tt,tt,tt,tt,tt,tt,tt] rfl rfl (by kernel_rfl) (fun _ _ _ h => h) (Or.inl ⟨by rfl, ?_⟩) ?_ ?_; rotate_left; (intro w'; go_simp; with_reducible rfl); rotate_left; (simp only [Act.put, List.setIfInBounds_toArray, List.set_cons_zero, List.set_cons_succ, i64_w, i32_w]; rfl)
            refine done_ (by kernel_rfl) ?_
            have hat : i ≤ rs.length := by have := HM.out; omega
            have hds := Lib.hid (drop_sl (c := c) (i := i) hAr.out hat (by have := HM.out; omega))
            rw [HM.out] at hds
            have hHIT : Hid (putR rs q = rs.take i ++ q :: rs.drop (i)) := putR_len rs q i _ HPP.out hHJ.out
            have h71 : ((i : Nat) : Int) ≤ (m : Int) := by have := HM.out; omega
            have h72 : (i : Nat) ≤ m := by have := HM.out; omega
            have h73 : (m : Int) ≤ (c : Int) := by omega
            have hip9 : i ≤ m := by omega
            clear hHJ hat
            by_cases hcc : c = i
            · rw [if_pos hcc] at hds
              go_wp2_with (at_builtin; refine wpList_append_ent rfl (.tmp 45) (.tmp 48) rfl wy.heap.size (.slice A6 (i + 1) c6) (i + 1) (flatE (rs.take i) ++ q.cells) rfl HO6.out _ (m - (i)) 0 (flatE (rs.drop (i))) ?cx hds.out (flatE_one _) (by omega) hbe.out.size ?_; (case cx => rfl); intro v9 w9 hown9 hg9 hat9; obtain ⟨A9, c9, hv9, hc9, hs9, hA9⟩ := own_ent hown9; subst hv9; have HO9 := Lib.hid hown9; have HG9 := Lib.hid hg9; have HS9 := Lib.hid hs9; clear hown9 hg9 hat9 hs9 hA9)
              go_ret
              exact put_end HM.out hAy.out hQy.out hBy.out (Nat.le_of_lt hsz.out) hbe.out HGQ.out HO6.out HG9.out HS9.out hc9 hHIT.out h72 hip9 (by omega)
            · rw [if_neg hcc] at hds
              go_wp2_with (at_builtin; refine wpList_append_ent rfl (.tmp 45) (.tmp 48) rfl wy.heap.size (.slice A6 (i + 1) c6) (i + 1) (flatE (rs.take i) ++ q.cells) rfl HO6.out _ (m - (i)) (c - (i)) (flatE (rs.drop (i))) ?cx hds.out (flatE_one _) (by omega) hbe.out.size ?_; (case cx => rfl); intro v9 w9 hown9 hg9 hat9; obtain ⟨A9, c9, hv9, hc9, hs9, hA9⟩ := own_ent hown9; subst hv9; have HO9 := Lib.hid hown9; have HG9 := Lib.hid hg9; have HS9 := Lib.hid hs9; clear hown9 hg9 hat9 hs9 hA9)
              go_ret
              exact put_end HM.out hAy.out hQy.out hBy.out (Nat.le_of_lt hsz.out) hbe.out HGQ.out HO6.out HG9.out HS9.out hc9 hHIT.out h72 hip9 (by omega)
        · skip
          have hbe : Hid (Below wy.heap.size wy wy) := Below.refl _ _
          refine Go.Proofs.YtanmgkpgfmkobaaW.PrintLast.value_ (v := .slice (some ⟨wy.heap.size, 0, none⟩) 1 1) (w1 := wy.alloc (.cells #[.slice q.Ak q.nk q.ck, .int .u64 q.e.v, .int .u8 q.e.m, .int .u8 q.e.u, .int .u64 q.e.x, .slice q.Ad q.nd q.cd] 32)) (by rfl) rfl ?_ ?_
          · go_simp
            try rfl
          have hbn : Hid (Below wy.heap.size wy (wy.alloc (.cells #[.slice q.Ak q.nk q.ck, .int .u64 q.e.v, .int .u8 q.e.m, .int .u8 q.e.u, .int .u64 q.e.x, .slice q.Ad q.nd q.cd] 32))) := hbe.out.alloc hbe.out.size _
          have hs28 : Hid (Blk (wy.alloc (.cells #[.slice q.Ak q.nk q.ck, .int .u64 q.e.v, .int .u8 q.e.m, .int .u8 q.e.u, .int .u64 q.e.x, .slice q.Ad q.nd q.cd] 32)) wy.heap.size 32 q.cells) := Blk.new wy _ _
          have hl28 : Hid (wy.heap.size < (wy.alloc (.cells #[.slice q.Ak q.nk q.ck, .int .u64 q.e.v, .int .u8 q.e.m, .int .u8 q.e.u, .int .u64 q.e.x, .slice q.Ad q.nd q.cd] 32)).heap.size) := hs28.out.lt
          refine hK.out _ _ (One.bel hY.out hbn.out) (fun hHeld => ?_); clear hK K; refine norm_ (a' := ?_) ?_ ?_; rotate_left; (show Act.put _ (some 28) _ = _; simp only [Act.put, List.setIfInBounds_toArray, List.set_cons_zero, List.set_cons_succ, i64_w, i32_w]; rfl)
          replace hbe := hbn
          clear hbn
          generalize wy.alloc (.cells #[.slice q.Ak q.nk q.ck, .int .u64 q.e.v, .int .u8 q.e.m, .int .u8 q.e.u, .int .u64 q.e.x, .slice q.Ad q.nd q.cd] 32) = w60 at *
          refine one_ (i := 0) (N := some 22) #[tt,tt,tt,tt,ff,tt,tt,ff,ff] rfl rfl (by kernel_rfl) (by decide) (fun K hK => ?_)
          refine Go.Proofs.YtanmgkpgfmkobaaW.PrintLast.value_ (v := .slice (some ⟨w60.heap.size, 0, none⟩) 0 0) (w1 := w60.alloc (.cells #[] 32)) (by rfl) rfl ?_ ?_
          · go_simp
            try rfl
          have hbn : Hid (Below wy.heap.size wy (w60.alloc (.cells #[] 32))) := hbe.out.alloc hbe.out.size _
          have ho22 := Lib.hid (World.ownsRow_made (base := wy.heap.size) (e := 32) (size := 6) w60 #[] 0 hbe.out.size (by simp [maxLen]) rfl)
          have hs28 := Lib.hid (hs28.out.alloc (.cells #[] 32))
          have hn28 : Hid (wy.heap.size ≠ w60.heap.size) := by have := hl28.out; show _ ≠ _; omega
          refine hK.out _ _ (One.bel hY.out hbn.out) (fun hHeld => ?_); clear hK K; refine norm_ (a' := ?_) ?_ ?_; rotate_left; (show Act.put _ (some 22) _ = _; simp only [Act.put, List.setIfInBounds_toArray, List.set_cons_zero, List.set_cons_succ, i64_w, i32_w]; rfl)
          replace hbe := hbn
          clear hbn
          generalize w60.alloc (.cells #[] 32) = w01 at *
          refine one_ (i := 4) (N := some 26) #[tt,tt,tt,tt,tt,tt,tt,ff,ff] rfl rfl (by kernel_rfl) (by decide) (fun K hK => ?_)
          refine step_append_ent rfl (.tmp 22) (.tmp 25) rfl wy.heap.size (.slice (some ⟨w60.heap.size, 0, none⟩) 0 0) 0 [] rfl ho22.out (some ⟨ga, oa, none⟩) i c (flatE (rs.take i)) rfl (htk.out.below hbe.out) (flatE_one _) (by omega) hbe.out.size ?_
          intro v26 wb ho26 hg26 hat26
          replace ho26 := Lib.hid ho26
          rw [Nat.zero_add, List.nil_append] at ho26
          have hbn : Hid (Below wy.heap.size wy wb) := hbe.out.grown hg26 hbe.out.size (fun k e => (ho22.out.lt k e).1)
          have hs28 := Lib.hid (hs28.out.frm (Frm.of_grown hg26) (by rw [List.mem_singleton]; exact hn28.out))
          clear hat26 hg26
          refine hK.out _ _ (One.bel hY.out hbn.out) (fun hHeld => ?_); clear hK K; refine norm_ (a' := ?_) ?_ ?_; rotate_left; (show Act.put _ (some 26) _ = _; simp only [Act.put, List.setIfInBounds_toArray, List.set_cons_zero, List.set_cons_succ, i64_w, i32_w]; rfl)
          replace hbe := hbn
          clear hbn
          refine one_ (i := 7) (N := some 29) #[tt,tt,tt,tt,tt,tt,tt,tt,ff] rfl rfl (by kernel_rfl) (by decide) (fun K hK => ?_)
          have hq28 : Sl wb (some ⟨wy.heap.size, 0, none⟩) (1 * 6) q.cells := hs28.out.sl (off := 0) (n := 6) (by show 0 + 6 ≤ 6; omega)
          refine step_append_ent rfl (.tmp 26) (.tmp 28) rfl wy.heap.size v26 i (flatE (rs.take i)) rfl ho26.out (some ⟨wy.heap.size, 0, none⟩) 1 1 q.cells rfl hq28 (cells_one q) (by omega) hbe.out.size ?_
          intro v29 wz ho29 hg29 hat29
          obtain ⟨A6, c6, hv29, hc6, _, hA6⟩ := own_ent ho29
          subst hv29
          have HO6 := Lib.hid ho29
          have hbn : Hid (Below wy.heap.size wy wz) := hbe.out.grown hg29 hbe.out.size (fun k e => (ho26.out.lt k e).1)
          clear ho29 hg29 hat29 hA6 hq28
          refine hK.out _ _ (One.bel hY.out hbn.out) (fun hHeld => ?_); clear hK K; refine norm_ (a' := ?_) ?_ ?_; rotate_left; (show Act.put _ (some 29) _ = _; simp only [Act.put, List.setIfInBounds_toArray, List.set_cons_zero, List.set_cons_succ, i64_w, i32_w]; rfl)
          refine pure_ (i := 8) (N := some 6) (v := ?_) (a' := ?_) #[tt,tt,tt,tt,tt,tt,tt,tt,tt] rfl rfl (by kernel_rfl) (fun _ _ _ h => h) (Or.inl ⟨by rfl, ?_⟩) ?_ ?_; rotate_left; (intro w'; go_simp; with_reducible rfl); rotate_left; (simp only [Act.put, List.setIfInBounds_toArray, List.set_cons_zero, List.set_cons_succ, i64_w, i32_w]; rfl)
          refine done_ (by kernel_rfl) ?_
          replace hbe := hbn
          clear hbn hHeld
          have hAy := hAr
          have hQy := hQr
          have hBy := hBr
          replace hAr := Lib.hid (hAr.out.below hbe.out)
          replace hQr := Lib.hid (hQr.out.below hbe.out)
          replace hXr := Lib.hid (hXr.out.frm (Frm.of_below hbe.out) (by simp))
          replace hBr : Hid (Below gq w wz) := hBr.out.trans (hbe.out.mono (Nat.le_of_lt hsz.out))
          clear htk hY
          have hrin := Lib.hid (hAr.out.each r (List.mem_of_getElem? HR.out))
          have hx := hXr.out
          have ha : ∀ j v, r.cells[j]? = some v → wz.cell? ⟨ga, oa + i * 6 + j, none⟩ = some v := fun j v hj => hAr.out.at_ HR.out hj
          have hHJ : Hid (i = if hitE (rs.map ER.e) q.e.k q.e.v then i + 1 else i) := by
            have h9 : hitE (rs.map ER.e) q.e.k q.e.v = false := by
              unfold hitE
              rw [← HPP.out, List.getElem?_map, HR.out]
              show (orderL r.e.k r.e.v q.e.k q.e.v == 0) = _
              rw [h3]
              rfl
            rw [h9]
            rfl
          have a0 := ha 0 _ rfl
          rw [Nat.add_zero] at a0
          go_wp2
          refine start_ (n := 13) (S := Two ga (oa + i * 6) gq r q) (ds := []) #[ff,ff,ff,ff,ff,ff,ff,ff,ff,ff,ff,ff,ff] (by kernel_rfl) rfl rfl (⟨a0, ha 1 _ rfl, ha 2 _ rfl, ha 3 _ rfl, ha 4 _ rfl, ha 5 _ rfl, hx.at_ rfl, hx.at_ rfl, hx.at_ rfl, hx.at_ rfl, hx.at_ rfl, hx.at_ rfl⟩) (fun hHeld => ?_)
          replace hAr : Hid (Ers wz.drew (some ⟨ga, oa, none⟩) rs) := ⟨hAr.out.sl, fun r hr => (hAr.out.each r hr).drewN 1⟩
          replace hQr : Hid (q.In wz.drew) := hQr.out.drewN 1
          replace hXr : Hid (Blk wz.drew gq 32 q.cells) := hXr.out
          replace hBr : Hid (Below gq w wz.drew) := hBr.out.drew
          replace hrin : Hid (r.In wz.drew) := hrin.out.drewN 1
          replace HO6 : Hid (wz.drew.ownsRow wy.heap.size 32 6 (.slice A6 (i + 1) c6) (i + 1) (flatE (rs.take i) ++ q.cells)) := HO6.out
          replace hbe : Hid (Below wy.heap.size wy wz.drew) := hbe.out.drew
          clear ha hx a0
          generalize wz.drew = wd at *
          refine pure_ (i := 0) (N := some 30) (v := ?_) (a' := ?_) #[tt,ff,ff,ff,ff,ff,ff,ff,ff,ff,ff,ff,ff] rfl rfl (by kernel_rfl) (fun _ _ _ h => h) (Or.inl ⟨by rfl, ?_⟩) ?_ ?_; rotate_left; (intro w'; go_simp; with_reducible rfl); rotate_left; (simp only [Act.put, List.setIfInBounds_toArray, List.set_cons_zero, List.set_cons_succ, i64_w, i32_w]; rfl)
          refine pure_ (i := 1) (N := some 31) (v := ?_) (a' := ?_) #[tt,tt,ff,ff,ff,ff,ff,ff,ff,ff,ff,ff,ff] rfl rfl (by kernel_rfl) (fun _ _ _ h => h) (Or.inl ⟨by rfl, ?_⟩) ?_ ?_; rotate_left; (intro w'; go_simp; with_reducible rfl); rotate_left; (simp only [Act.put, List.setIfInBounds_toArray, List.set_cons_zero, List.set_cons_succ, i64_w, i32_w]; rfl)
          refine pure_ (i := 2) (N := some 32) (v := ?_) (a' := ?_) #[tt,tt,tt,ff,ff,ff,ff,ff,ff,ff,ff,ff,ff] rfl rfl (by kernel_rfl) (fun _ _ _ h => h) (Or.inl ⟨by rfl, ?_⟩) ?_ ?_; rotate_left; (intro w'; go_simp; with_reducible rfl); rotate_left; (simp only [Act.put, List.setIfInBounds_toArray, List.set_cons_zero, List.set_cons_succ, i64_w, i32_w]; rfl)
          refine pure_ (i := 3) (N := some 33) (v := ?_) (a' := ?_) #[tt,tt,tt,tt,ff,ff,ff,ff,ff,ff,ff,ff,ff] rfl rfl (by kernel_rfl) (fun _ _ _ h => h) (Or.inl ⟨by rfl, ?_⟩) ?_ ?_; rotate_left; (intro w'; go_simp; with_reducible rfl); rotate_left; (simp only [Act.put, List.setIfInBounds_toArray, List.set_cons_zero, List.set_cons_succ, i64_w, i32_w]; rfl)
          refine pure_ (i := 4) (N := some 34) (v := ?_) (a' := ?_) #[tt,tt,tt,tt,tt,ff,ff,ff,ff,ff,ff,ff,ff] rfl rfl (by kernel_rfl) (fun _ _ _ h => h) (Or.inl ⟨by rfl, ?_⟩) ?_ ?_; rotate_left; (intro w'; go_simp; with_reducible rfl); rotate_left; (simp only [Act.put, List.setIfInBounds_toArray, List.set_cons_zero, List.set_cons_succ, i64_w, i32_w]; rfl)
          refine pure_ (i := 5) (N := some 35) (v := ?_) (a' := ?_) #[tt,tt,tt,tt,tt,tt,ff,ff,ff,ff,ff,ff,ff] rfl rfl (by kernel_rfl) (fun _ _ _ h => h) (Or.inl ⟨by rfl, ?_⟩) ?_ ?_; rotate_left; (intro w'; go_simp; with_reducible rfl); rotate_left; (simp only [Act.put, List.setIfInBounds_toArray, List.set_cons_zero, List.set_cons_succ, i64_w, i32_w]; rfl)
          refine pure_ (i := 6) (N := some 36) (v := ?_) (a' := ?_) #[tt,tt,tt,tt,tt,tt,tt,ff,ff,ff,ff,ff,ff] rfl rfl (by kernel_rfl) (fun _ _ _ h => h) (Or.inl ⟨by rfl, ?_⟩) ?_ ?_; rotate_left; (intro w'; go_simp; with_reducible rfl); rotate_left; (simp only [Act.put, List.setIfInBounds_toArray, List.set_cons_zero, List.set_cons_succ, i64_w, i32_w]; rfl)
          refine pure_ (i := 7) (N := some 37) (v := ?_) (a' := ?_) #[tt,tt,tt,tt,tt,tt,tt,tt,ff,ff,ff,ff,ff] rfl rfl (by kernel_rfl) (fun _ _ _ h => h) (Or.inl ⟨by rfl, ?_⟩) ?_ ?_; rotate_left; (intro w'; go_simp; with_reducible rfl); rotate_left; (simp only [Act.put, List.setIfInBounds_toArray, List.set_cons_zero, List.set_cons_succ, i64_w, i32_w]; rfl)
          refine take_ (i := 8) (N := some 38) (v := ?_) (a' := ?_) #[tt,tt,tt,tt,tt,tt,tt,tt,tt,ff,ff,ff,ff] rfl rfl (by kernel_rfl) (fun _ _ _ h => h) (Or.inl ⟨by rfl, ?_⟩) hHeld ?_ ?_; rotate_left; (rintro w' ⟨h0, h1, h2, h3, h4, h5, h6, h7, h8, h9, h10, h11⟩; go_simp; with_reducible rfl); rotate_left; (simp only [Act.put, List.setIfInBounds_toArray, List.set_cons_zero, List.set_cons_succ, i64_w, i32_w]; rfl)
          refine take_ (i := 9) (N := some 39) (v := ?_) (a' := ?_) #[tt,tt,tt,tt,tt,tt,tt,tt,tt,tt,ff,ff,ff] rfl rfl (by kernel_rfl) (fun _ _ _ h => h) (Or.inl ⟨by rfl, ?_⟩) hHeld ?_ ?_; rotate_left; (rintro w' ⟨h0, h1, h2, h3, h4, h5, h6, h7, h8, h9, h10, h11⟩; go_simp; with_reducible rfl); rotate_left; (simp only [Act.put, List.setIfInBounds_toArray, List.set_cons_zero, List.set_cons_succ, i64_w, i32_w]; rfl)
          refine one_ (i := 10) (N := some 40) #[tt,tt,tt,tt,tt,tt,tt,tt,tt,tt,tt,ff,ff] rfl rfl (by kernel_rfl) (by decide) (fun K hK => ?_); refine goes_ Try.func70 (by kernel_rfl) rfl #[.agg #[.slice r.Ak r.nk r.ck, .int .u64 r.e.v, .int .u8 r.e.m, .int .u8 r.e.u, .int .u64 r.e.x, .slice r.Ad r.nd r.cd], .agg #[.slice q.Ak q.nk q.ck, .int .u64 q.e.v, .int .u8 q.e.m, .int .u8 q.e.u, .int .u64 q.e.x, .slice q.Ad q.nd q.cd]] (by rfl) rfl rfl (by (try simp only [List.map_toArray, List.map_cons, List.map_nil]); first | done | rfl) ?_
          refine (orderOf_any r q wd hrin.out hQr.out (by omega) (by omega)).mono ?_
          rintro E wx ⟨rfl, hbx⟩; refine ⟨_, rfl, ?_⟩
          have HBX := Lib.hid hbx
          have hsz0 : Hid (gq < wd.heap.size) := hXr.out.lt
          refine hK.out _ _ (Two.bel hHeld hbx) (fun hHeld => ?_); clear hK K; refine norm_ (a' := ?_) ?_ ?_; rotate_left; (show Act.put _ (some 40) _ = _; simp only [Act.put, List.setIfInBounds_toArray, List.set_cons_zero, List.set_cons_succ, i64_w, i32_w]; rfl)
          replace hAr := Lib.hid (hAr.out.below HBX.out)
          replace hQr := Lib.hid (hQr.out.below HBX.out)
          replace hXr := Lib.hid (hXr.out.frm (Frm.of_below HBX.out) (by simp))
          replace hBr : Hid (Below gq w wx) := hBr.out.trans (HBX.out.mono (Nat.le_of_lt hsz0.out))
          have HBX2 := HBX
          clear HBX hbx hsz0 hHeld hrin
          replace HO6 := Lib.hid (own_bel HO6.out HBX2.out)
          replace hbe : Hid (Below wy.heap.size wy wx) := hbe.out.trans (HBX2.out.mono hbe.out.size)
          clear HBX2
          rw [h3]
          refine pure_ (i := 11) (N := some 41) (v := ?_) (a' := ?_) #[tt,tt,tt,tt,tt,tt,tt,tt,tt,tt,tt,tt,ff] rfl rfl (by kernel_rfl) (fun _ _ _ h => h) (Or.inl ⟨by rfl, ?_⟩) ?_ ?_; rotate_left; (intro w'; go_simp; with_reducible rfl); rotate_left; (simp only [Act.put, List.setIfInBounds_toArray, List.set_cons_zero, List.set_cons_succ, i64_w, i32_w]; rfl)
          refine pure_ (i := 12) (N := some 42) (v := ?_) (a' := ?_) #[tt,tt,tt,tt,tt,tt,tt,tt,tt,tt,tt,tt,tt] rfl rfl (by kernel_rfl) (fun _ _ _ h => h) (Or.inl ⟨by rfl, ?_⟩) ?_ ?_; rotate_left; (intro w'; go_simp; with_reducible rfl); rotate_left; (simp only [Act.put, List.setIfInBounds_toArray, List.set_cons_zero, List.set_cons_succ, i64_w, i32_w]; rfl)
          refine done_ (by kernel_rfl) ?_
          have hat : i ≤ rs.length := by have := HM.out; omega
          have hds := Lib.hid (drop_sl (c := c) (i := i) hAr.out hat (by have := HM.out; omega))
          rw [HM.out] at hds
          have hHIT : Hid (putR rs q = rs.take i ++ q :: rs.drop (i)) := putR_len rs q i _ HPP.out hHJ.out
          have h71 : ((i : Nat) : Int) ≤ (m : Int) := by have := HM.out; omega
          have h72 : (i : Nat) ≤ m := by have := HM.out; omega
          have h73 : (m : Int) ≤ (c : Int) := by omega
          have hip9 : i ≤ m := by omega
          clear hHJ hat
          by_cases hcc : c = i
          · rw [if_pos hcc] at hds
            go_wp2_with (at_builtin; refine wpList_append_ent rfl (.tmp 45) (.tmp 48) rfl wy.heap.size (.slice A6 (i + 1) c6) (i + 1) (flatE (rs.take i) ++ q.cells) rfl HO6.out _ (m - (i)) 0 (flatE (rs.drop (i))) ?cx hds.out (flatE_one _) (by omega) hbe.out.size ?_; (case cx => rfl); intro v9 w9 hown9 hg9 hat9; obtain ⟨A9, c9, hv9, hc9, hs9, hA9⟩ := own_ent hown9; subst hv9; have HO9 := Lib.hid hown9; have HG9 := Lib.hid hg9; have HS9 := Lib.hid hs9; clear hown9 hg9 hat9 hs9 hA9)
            go_ret
            exact put_end HM.out hAy.out hQy.out hBy.out (Nat.le_of_lt hsz.out) hbe.out HGQ.out HO6.out HG9.out HS9.out hc9 hHIT.out h72 hip9 (by omega)
          · rw [if_neg hcc] at hds
            go_wp2_with (at_builtin; refine wpList_append_ent rfl (.tmp 45) (.tmp 48) rfl wy.heap.size (.slice A6 (i + 1) c6) (i + 1) (flatE (rs.take i) ++ q.cells) rfl HO6.out _ (m - (i)) (c - (i)) (flatE (rs.drop (i))) ?cx hds.out (flatE_one _) (by omega) hbe.out.size ?_; (case cx => rfl); intro v9 w9 hown9 hg9 hat9; obtain ⟨A9, c9, hv9, hc9, hs9, hA9⟩ := own_ent hown9; subst hv9; have HO9 := Lib.hid hown9; have HG9 := Lib.hid hg9; have HS9 := Lib.hid hs9; clear hown9 hg9 hat9 hs9 hA9)
            go_ret
            exact put_end HM.out hAy.out hQy.out hBy.out (Nat.le_of_lt hsz.out) hbe.out HGQ.out HO6.out HG9.out HS9.out hc9 hHIT.out h72 hip9 (by omega)
    · have hpi : i = p := by omega
      subst hpi
      have him : Hid (i = m) := by show _ = _; omega
      have hil : ¬ ((i : Int) < (m : Int)) := by omega
      go_wp2
      go_quiet (fail)
      replace hAr : Hid (Ers (wr.drewN nq) (some ⟨ga, oa, none⟩) rs) := ⟨hAr.out.sl, fun r hr => (hAr.out.each r hr).drewN nq⟩
      replace hQr : Hid (q.In (wr.drewN nq)) := hQr.out.drewN nq
      replace hXr : Hid (Blk (wr.drewN nq) gq 32 q.cells) := hXr.out
      replace hBr : Hid (Below gq w (wr.drewN nq)) := bel_drewN hBr.out nq
      generalize wr.drewN nq = wu at *
      have hx := hXr.out
      have hic : i ≤ c := by omega
      go_wp2
      refine start_ (n := 9) (S := One gq q) (ds := []) #[ff,ff,ff,ff,ff,ff,ff,ff,ff] (by kernel_rfl) rfl rfl (⟨hx.at_ rfl, hx.at_ rfl, hx.at_ rfl, hx.at_ rfl, hx.at_ rfl, hx.at_ rfl⟩) (fun hHeld => ?_)
      replace hAr : Hid (Ers wu.drew (some ⟨ga, oa, none⟩) rs) := ⟨hAr.out.sl, fun r hr => (hAr.out.each r hr).drewN 1⟩
      replace hQr : Hid (q.In wu.drew) := hQr.out.drewN 1
      replace hXr : Hid (Blk wu.drew gq 32 q.cells) := hXr.out
      replace hBr : Hid (Below gq w wu.drew) := hBr.out.drew
      have hY := Lib.hid hHeld
      clear hx hbw
      generalize wu.drew = wy at *
      have hsz : Hid (gq < wy.heap.size) := hXr.out.lt
      have htk : Hid (Sl wy (some ⟨ga, oa, none⟩) (i * 6) (flatE (rs.take i))) := by
        have := hAr.out.sl.take (m := i * 6) (by have := HM.out; omega)
        rw [flatE_take] at this
        exact this
      refine pure_ (i := 1) (N := some 23) (v := ?_) (a' := ?_) #[ff,tt,ff,ff,ff,ff,ff,ff,ff] rfl rfl (by kernel_rfl) (fun _ _ _ h => h) (Or.inl ⟨by rfl, ?_⟩) ?_ ?_; rotate_left; (intro w'; go_simp; with_reducible rfl); rotate_left; (simp only [Act.put, List.setIfInBounds_toArray, List.set_cons_zero, List.set_cons_succ, i64_w, i32_w]; rfl)
      refine pure_ (i := 2) (N := some 24) (v := ?_) (a' := ?_) #[ff,tt,tt,ff,ff,ff,ff,ff,ff] rfl rfl (by kernel_rfl) (fun _ _ _ h => h) (Or.inl ⟨by rfl, ?_⟩) ?_ ?_; rotate_left; (intro w'; go_simp; with_reducible rfl); rotate_left; (simp only [Act.put, List.setIfInBounds_toArray, List.set_cons_zero, List.set_cons_succ, i64_w, i32_w]; rfl)
      refine pure_ (i := 3) (N := some 25) (v := ?_) (a' := ?_) #[ff,tt,tt,tt,ff,ff,ff,ff,ff] rfl rfl (by kernel_rfl) (fun _ _ _ h => h) (Or.inl ⟨by rfl, ?_⟩) ?_ ?_; rotate_left; (intro w'; go_simp; with_reducible rfl); rotate_left; (simp only [Act.put, List.setIfInBounds_toArray, List.set_cons_zero, List.set_cons_succ, i64_w, i32_w]; rfl)
      refine take_ (i := 5) (N := some 27) (v := ?_) (a' := ?_) #[ff,tt,tt,tt,ff,tt,ff,ff,ff] rfl rfl (by kernel_rfl) (fun _ _ _ h => h) (Or.inl ⟨by rfl, ?_⟩) hHeld ?_ ?_; rotate_left; (rintro w' ⟨h0, h1, h2, h3, h4, h5⟩; go_simp; with_reducible rfl); rotate_left; (simp only [Act.put, List.setIfInBounds_toArray, List.set_cons_zero, List.set_cons_succ, i64_w, i32_w]; rfl)
      refine two_ (i := 0) (j := 6) (Ni := some 22) (Nj := some 28) #[tt,tt,tt,tt,ff,tt,ff,ff,ff] #[ff,tt,tt,tt,ff,tt,tt,ff,ff] rfl rfl rfl rfl (by kernel_rfl) (by decide) (by decide) (fun K hK => ?_) (fun K hK => ?_)
      · skip
        have hbe : Hid (Below wy.heap.size wy wy) := Below.refl _ _
        refine Go.Proofs.YtanmgkpgfmkobaaW.PrintLast.value_ (v := .slice (some ⟨wy.heap.size, 0, none⟩) 0 0) (w1 := wy.alloc (.cells #[] 32)) (by rfl) rfl ?_ ?_
        · go_simp
          try rfl
        have hbn : Hid (Below wy.heap.size wy (wy.alloc (.cells #[] 32))) := hbe.out.alloc hbe.out.size _
        have ho22 := Lib.hid (World.ownsRow_made (base := wy.heap.size) (e := 32) (size := 6) wy #[] 0 hbe.out.size (by simp [maxLen]) rfl)
        refine hK.out _ _ (One.bel hY.out hbn.out) (fun hHeld => ?_); clear hK K; refine norm_ (a' := ?_) ?_ ?_; rotate_left; (show Act.put _ (some 22) _ = _; simp only [Act.put, List.setIfInBounds_toArray, List.set_cons_zero, List.set_cons_succ, i64_w, i32_w]; rfl)
        replace hbe := hbn
        clear hbn
        generalize wy.alloc (.cells #[] 32) = w00 at *
        have hl22 : Hid (wy.heap.size < w00.heap.size) := by have := ho22.out.lt _ rfl; exact this.2
        refine two_ (i := 4) (j := 6) (Ni := some 26) (Nj := some 28) #[tt,tt,tt,tt,tt,tt,ff,ff,ff] #[tt,tt,tt,tt,ff,tt,tt,ff,ff] rfl rfl rfl rfl (by kernel_rfl) (by decide) (by decide) (fun K hK => ?_) (fun K hK => ?_)
        · skip
          refine step_append_ent rfl (.tmp 22) (.tmp 25) rfl wy.heap.size (.slice (some ⟨wy.heap.size, 0, none⟩) 0 0) 0 [] rfl ho22.out (some ⟨ga, oa, none⟩) i c (flatE (rs.take i)) rfl (htk.out.below hbe.out) (flatE_one _) (by omega) hbe.out.size ?_
          intro v26 wb ho26 hg26 hat26
          replace ho26 := Lib.hid ho26
          rw [Nat.zero_add, List.nil_append] at ho26
          have hbn : Hid (Below wy.heap.size wy wb) := hbe.out.grown hg26 hbe.out.size (fun k e => (ho22.out.lt k e).1)
          clear hat26 hg26
          refine hK.out _ _ (One.bel hY.out hbn.out) (fun hHeld => ?_); clear hK K; refine norm_ (a' := ?_) ?_ ?_; rotate_left; (show Act.put _ (some 26) _ = _; simp only [Act.put, List.setIfInBounds_toArray, List.set_cons_zero, List.set_cons_succ, i64_w, i32_w]; rfl)
          replace hbe := hbn
          clear hbn
          refine one_ (i := 6) (N := some 28) #[tt,tt,tt,tt,tt,tt,tt,ff,ff] rfl rfl (by kernel_rfl) (by decide) (fun K hK => ?_)
          refine Go.Proofs.YtanmgkpgfmkobaaW.PrintLast.value_ (v := .slice (some ⟨wb.heap.size, 0, none⟩) 1 1) (w1 := wb.alloc (.cells #[.slice q.Ak q.nk q.ck, .int .u64 q.e.v, .int .u8 q.e.m, .int .u8 q.e.u, .int .u64 q.e.x, .slice q.Ad q.nd q.cd] 32)) (by rfl) rfl ?_ ?_
          · go_simp
            try rfl
          have hbn : Hid (Below wy.heap.size wy (wb.alloc (.cells #[.slice q.Ak q.nk q.ck, .int .u64 q.e.v, .int .u8 q.e.m, .int .u8 q.e.u, .int .u64 q.e.x, .slice q.Ad q.nd q.cd] 32))) := hbe.out.alloc hbe.out.size _
          have hs28 : Hid (Blk (wb.alloc (.cells #[.slice q.Ak q.nk q.ck, .int .u64 q.e.v, .int .u8 q.e.m, .int .u8 q.e.u, .int .u64 q.e.x, .slice q.Ad q.nd q.cd] 32)) wb.heap.size 32 q.cells) := Blk.new wb _ _
          have hl28 : Hid (wb.heap.size < (wb.alloc (.cells #[.slice q.Ak q.nk q.ck, .int .u64 q.e.v, .int .u8 q.e.m, .int .u8 q.e.u, .int .u64 q.e.x, .slice q.Ad q.nd q.cd] 32)).heap.size) := hs28.out.lt
          have ho26 := Lib.hid (ho26.out.alloc (.cells #[.slice q.Ak q.nk q.ck, .int .u64 q.e.v, .int .u8 q.e.m, .int .u8 q.e.u, .int .u64 q.e.x, .slice q.Ad q.nd q.cd] 32))
          refine hK.out _ _ (One.bel hY.out hbn.out) (fun hHeld => ?_); clear hK K; refine norm_ (a' := ?_) ?_ ?_; rotate_left; (show Act.put _ (some 28) _ = _; simp only [Act.put, List.setIfInBounds_toArray, List.set_cons_zero, List.set_cons_succ, i64_w, i32_w]; rfl)
          replace hbe := hbn
          clear hbn
          generalize wb.alloc (.cells #[.slice q.Ak q.nk q.ck, .int .u64 q.e.v, .int .u8 q.e.m, .int .u8 q.e.u, .int .u64 q.e.x, .slice q.Ad q.nd q.cd] 32) = w62 at *
          refine one_ (i := 7) (N := some 29) #[tt,tt,tt,tt,tt,tt,tt,tt,ff] rfl rfl (by kernel_rfl) (by decide) (fun K hK => ?_)
          have hq28 : Sl w62 (some ⟨wb.heap.size, 0, none⟩) (1 * 6) q.cells := hs28.out.sl (off := 0) (n := 6) (by show 0 + 6 ≤ 6; omega)
          refine step_append_ent rfl (.tmp 26) (.tmp 28) rfl wy.heap.size v26 i (flatE (rs.take i)) rfl ho26.out (some ⟨wb.heap.size, 0, none⟩) 1 1 q.cells rfl hq28 (cells_one q) (by omega) hbe.out.size ?_
          intro v29 wz ho29 hg29 hat29
          obtain ⟨A6, c6, hv29, hc6, _, hA6⟩ := own_ent ho29
          subst hv29
          have HO6 := Lib.hid ho29
          have hbn : Hid (Below wy.heap.size wy wz) := hbe.out.grown hg29 hbe.out.size (fun k e => (ho26.out.lt k e).1)
          clear ho29 hg29 hat29 hA6 hq28
          refine hK.out _ _ (One.bel hY.out hbn.out) (fun hHeld => ?_); clear hK K; refine norm_ (a' := ?_) ?_ ?_; rotate_left; (show Act.put _ (some 29) _ = _; simp only [Act.put, List.setIfInBounds_toArray, List.set_cons_zero, List.set_cons_succ, i64_w, i32_w]; rfl)
          refine pure_ (i := 8) (N := some 6) (v := ?_) (a' := ?_) #[tt,tt,tt,tt,tt,tt,tt,tt,tt] rfl rfl (by kernel_rfl) (fun _ _ _ h => h) (Or.inl ⟨by rfl, ?_⟩) ?_ ?_; rotate_left; (intro w'; go_simp; with_reducible rfl); rotate_left; (simp only [Act.put, List.setIfInBounds_toArray, List.set_cons_zero, List.set_cons_succ, i64_w, i32_w]; rfl)
          refine done_ (by kernel_rfl) ?_
          replace hbe := hbn
          clear hbn hHeld
          have hAy := hAr
          have hQy := hQr
          have hBy := hBr
          replace hAr := Lib.hid (hAr.out.below hbe.out)
          replace hQr := Lib.hid (hQr.out.below hbe.out)
          replace hXr := Lib.hid (hXr.out.frm (Frm.of_below hbe.out) (by simp))
          replace hBr : Hid (Below gq w wz) := hBr.out.trans (hbe.out.mono (Nat.le_of_lt hsz.out))
          clear htk hY
          have hHJ : Hid (i = if hitE (rs.map ER.e) q.e.k q.e.v then i + 1 else i) := by
            have h9 : hitE (rs.map ER.e) q.e.k q.e.v = false := by
              unfold hitE
              rw [← HPP.out, List.getElem?_eq_none (by rw [List.length_map]; have := HM.out; have := him.out; omega)]
            rw [h9]
            rfl
          go_wp2
          go_quiet (fail)
          replace hAr : Hid (Ers (wz.drewN nq) (some ⟨ga, oa, none⟩) rs) := ⟨hAr.out.sl, fun r hr => (hAr.out.each r hr).drewN nq⟩
          replace hQr : Hid (q.In (wz.drewN nq)) := hQr.out.drewN nq
          replace hBr : Hid (Below gq w (wz.drewN nq)) := bel_drewN hBr.out nq
          replace HO6 : Hid ((wz.drewN nq).ownsRow wy.heap.size 32 6 (.slice A6 (i + 1) c6) (i + 1) (flatE (rs.take i) ++ q.cells)) := HO6.out
          replace hbe : Hid (Below wy.heap.size wy (wz.drewN nq)) := bel_drewN hbe.out nq
          clear hXr
          generalize wz.drewN nq = wv at *
          have hat : i ≤ rs.length := by have := HM.out; omega
          have hds := Lib.hid (drop_sl (c := c) (i := i) hAr.out hat (by have := HM.out; omega))
          rw [HM.out] at hds
          have hHIT : Hid (putR rs q = rs.take i ++ q :: rs.drop (i)) := putR_len rs q i _ HPP.out hHJ.out
          have h71 : ((i : Nat) : Int) ≤ (m : Int) := by have := HM.out; omega
          have h72 : (i : Nat) ≤ m := by have := HM.out; omega
          have h73 : (m : Int) ≤ (c : Int) := by omega
          have hip9 : i ≤ m := by omega
          clear hHJ hat
          by_cases hcc : c = i
          · rw [if_pos hcc] at hds
            go_wp2_with (at_builtin; refine wpList_append_ent rfl (.tmp 45) (.tmp 48) rfl wy.heap.size (.slice A6 (i + 1) c6) (i + 1) (flatE (rs.take i) ++ q.cells) rfl HO6.out _ (m - (i)) 0 (flatE (rs.drop (i))) ?cx hds.out (flatE_one _) (by omega) hbe.out.size ?_; (case cx => rfl); intro v9 w9 hown9 hg9 hat9; obtain ⟨A9, c9, hv9, hc9, hs9, hA9⟩ := own_ent hown9; subst hv9; have HO9 := Lib.hid hown9; have HG9 := Lib.hid hg9; have HS9 := Lib.hid hs9; clear hown9 hg9 hat9 hs9 hA9)
            go_ret
            exact put_end HM.out hAy.out hQy.out hBy.out (Nat.le_of_lt hsz.out) hbe.out HGQ.out HO6.out HG9.out HS9.out hc9 hHIT.out h72 hip9 (by omega)
          · rw [if_neg hcc] at hds
            go_wp2_with (at_builtin; refine wpList_append_ent rfl (.tmp 45) (.tmp 48) rfl wy.heap.size (.slice A6 (i + 1) c6) (i + 1) (flatE (rs.take i) ++ q.cells) rfl HO6.out _ (m - (i)) (c - (i)) (flatE (rs.drop (i))) ?cx hds.out (flatE_one _) (by omega) hbe.out.size ?_; (case cx => rfl); intro v9 w9 hown9 hg9 hat9; obtain ⟨A9, c9, hv9, hc9, hs9, hA9⟩ := own_ent hown9; subst hv9; have HO9 := Lib.hid hown9; have HG9 := Lib.hid hg9; have HS9 := Lib.hid hs9; clear hown9 hg9 hat9 hs9 hA9)
            go_ret
            exact put_end HM.out hAy.out hQy.out hBy.out (Nat.le_of_lt hsz.out) hbe.out HGQ.out HO6.out HG9.out HS9.out hc9 hHIT.out h72 hip9 (by omega)
        · skip
          refine Go.Proofs.YtanmgkpgfmkobaaW.PrintLast.value_ (v := .slice (some ⟨w00.heap.size, 0, none⟩) 1 1) (w1 := w00.alloc (.cells #[.slice q.Ak q.nk q.ck, .int .u64 q.e.v, .int .u8 q.e.m, .int .u8 q.e.u, .int .u64 q.e.x, .slice q.Ad q.nd q.cd] 32)) (by rfl) rfl ?_ ?_
          · go_simp
            try rfl
          have hbn : Hid (Below wy.heap.size wy (w00.alloc (.cells #[.slice q.Ak q.nk q.ck, .int .u64 q.e.v, .int .u8 q.e.m, .int .u8 q.e.u, .int .u64 q.e.x, .slice q.Ad q.nd q.cd] 32))) := hbe.out.alloc hbe.out.size _
          have hs28 : Hid (Blk (w00.alloc (.cells #[.slice q.Ak q.nk q.ck, .int .u64 q.e.v, .int .u8 q.e.m, .int .u8 q.e.u, .int .u64 q.e.x, .slice q.Ad q.nd q.cd] 32)) w00.heap.size 32 q.cells) := Blk.new w00 _ _
          have hl28 : Hid (w00.heap.size < (w00.alloc (.cells #[.slice q.Ak q.nk q.ck, .int .u64 q.e.v, .int .u8 q.e.m, .int .u8 q.e.u, .int .u64 q.e.x, .slice q.Ad q.nd q.cd] 32)).heap.size) := hs28.out.lt
          have ho22 := Lib.hid (ho22.out.alloc (.cells #[.slice q.Ak q.nk q.ck, .int .u64 q.e.v, .int .u8 q.e.m, .int .u8 q.e.u, .int .u64 q.e.x, .slice q.Ad q.nd q.cd] 32))
          have hn28 : Hid (w00.heap.size ≠ wy.heap.size) := by have := hl22.out; show _ ≠ _; omega
          refine hK.out _ _ (One.bel hY.out hbn.out) (fun hHeld => ?_); clear hK K; refine norm_ (a' := ?_) ?_ ?_; rotate_left; (show Act.put _ (some 28) _ = _; simp only [Act.put, List.setIfInBounds_toArray, List.set_cons_zero, List.set_cons_succ, i64_w, i32_w]; rfl)
          replace hbe := hbn
          clear hbn
          generalize w00.alloc (.cells #[.slice q.Ak q.nk q.ck, .int .u64 q.e.v, .int .u8 q.e.m, .int .u8 q.e.u, .int .u64 q.e.x, .slice q.Ad q.nd q.cd] 32) = w61 at *
          refine one_ (i := 4) (N := some 26) #[tt,tt,tt,tt,tt,tt,tt,ff,ff] rfl rfl (by kernel_rfl) (by decide) (fun K hK => ?_)
          refine step_append_ent rfl (.tmp 22) (.tmp 25) rfl wy.heap.size (.slice (some ⟨wy.heap.size, 0, none⟩) 0 0) 0 [] rfl ho22.out (some ⟨ga, oa, none⟩) i c (flatE (rs.take i)) rfl (htk.out.below hbe.out) (flatE_one _) (by omega) hbe.out.size ?_
          intro v26 wb ho26 hg26 hat26
          replace ho26 := Lib.hid ho26
          rw [Nat.zero_add, List.nil_append] at ho26
          have hbn : Hid (Below wy.heap.size wy wb) := hbe.out.grown hg26 hbe.out.size (fun k e => (ho22.out.lt k e).1)
          have hs28 := Lib.hid (hs28.out.frm (Frm.of_grown hg26) (by rw [List.mem_singleton]; exact hn28.out))
          clear hat26 hg26
          refine hK.out _ _ (One.bel hY.out hbn.out) (fun hHeld => ?_); clear hK K; refine norm_ (a' := ?_) ?_ ?_; rotate_left; (show Act.put _ (some 26) _ = _; simp only [Act.put, List.setIfInBounds_toArray, List.set_cons_zero, List.set_cons_succ, i64_w, i32_w]; rfl)
          replace hbe := hbn
          clear hbn
          refine one_ (i := 7) (N := some 29) #[tt,tt,tt,tt,tt,tt,tt,tt,ff] rfl rfl (by kernel_rfl) (by decide) (fun K hK => ?_)
          have hq28 : Sl wb (some ⟨w00.heap.size, 0, none⟩) (1 * 6) q.cells := hs28.out.sl (off := 0) (n := 6) (by show 0 + 6 ≤ 6; omega)
          refine step_append_ent rfl (.tmp 26) (.tmp 28) rfl wy.heap.size v26 i (flatE (rs.take i)) rfl ho26.out (some ⟨w00.heap.size, 0, none⟩) 1 1 q.cells rfl hq28 (cells_one q) (by omega) hbe.out.size ?_
          intro v29 wz ho29 hg29 hat29
          obtain ⟨A6, c6, hv29, hc6, _, hA6⟩ := own_ent ho29
          subst hv29
          have HO6 := Lib.hid ho29
          have hbn : Hid (Below wy.heap.size wy wz) := hbe.out.grown hg29 hbe.out.size (fun k e => (ho26.out.lt k e).1)
          clear ho29 hg29 hat29 hA6 hq28
          refine hK.out _ _ (One.bel hY.out hbn.out) (fun hHeld => ?_); clear hK K; refine norm_ (a' := ?_) ?_ ?_; rotate_left; (show Act.put _ (some 29) _ = _; simp only [Act.put, List.setIfInBounds_toArray, List.set_cons_zero, List.set_cons_succ, i64_w, i32_w]; rfl)
          refine pure_ (i := 8) (N := some 6) (v := ?_) (a' := ?_) #[tt,tt,tt,tt,tt,tt,tt,tt,tt] rfl rfl (by kernel_rfl) (fun _ _ _ h => h) (Or.inl ⟨by rfl, ?_⟩) ?_ ?_; rotate_left; (intro w'; go_simp; with_reducible rfl); rotate_left; (simp only [Act.put, List.setIfInBounds_toArray, List.set_cons_zero, List.set_cons_succ, i64_w, i32_w]; rfl)
          refine done_ (by kernel_rfl) ?_
          replace hbe := hbn
          clear hbn hHeld
          have hAy := hAr
          have hQy := hQr
          have hBy := hBr
          replace hAr := Lib.hid (hAr.out.below hbe.out)
          replace hQr := Lib.hid (hQr.out.below hbe.out)
          replace hXr := Lib.hid (hXr.out.frm (Frm.of_below hbe.out) (by simp))
          replace hBr : Hid (Below gq w wz) := hBr.out.trans (hbe.out.mono (Nat.le_of_lt hsz.out))
          clear htk hY
          have hHJ : Hid (i = if hitE (rs.map ER.e) q.e.k q.e.v then i + 1 else i) := by
            have h9 : hitE (rs.map ER.e) q.e.k q.e.v = false := by
              unfold hitE
              rw [← HPP.out, List.getElem?_eq_none (by rw [List.length_map]; have := HM.out; have := him.out; omega)]
            rw [h9]
            rfl
          go_wp2
          go_quiet (fail)
          replace hAr : Hid (Ers (wz.drewN nq) (some ⟨ga, oa, none⟩) rs) := ⟨hAr.out.sl, fun r hr => (hAr.out.each r hr).drewN nq⟩
          replace hQr : Hid (q.In (wz.drewN nq)) := hQr.out.drewN nq
          replace hBr : Hid (Below gq w (wz.drewN nq)) := bel_drewN hBr.out nq
          replace HO6 : Hid ((wz.drewN nq).ownsRow wy.heap.size 32 6 (.slice A6 (i + 1) c6) (i + 1) (flatE (rs.take i) ++ q.cells)) := HO6.out
          replace hbe : Hid (Below wy.heap.size wy (wz.drewN nq)) := bel_drewN hbe.out nq
          clear hXr
          generalize wz.drewN nq = wv at *
          have hat : i ≤ rs.length := by have := HM.out; omega
          have hds := Lib.hid (drop_sl (c := c) (i := i) hAr.out hat (by have := HM.out; omega))
          rw [HM.out] at hds
          have hHIT : Hid (putR rs q = rs.take i ++ q :: rs.drop (i)) := putR_len rs q i _ HPP.out hHJ.out
          have h71 : ((i : Nat) : Int) ≤ (m : Int) := by have := HM.out; omega
          have h72 : (i : Nat) ≤ m := by have := HM.out; omega
          have h73 : (m : Int) ≤ (c : Int) := by omega
          have hip9 : i ≤ m := by omega
          clear hHJ hat
          by_cases hcc : c = i
          · rw [if_pos hcc] at hds
            go_wp2_with (at_builtin; refine wpList_append_ent rfl (.tmp 45) (.tmp 48) rfl wy.heap.size (.slice A6 (i + 1) c6) (i + 1) (flatE (rs.take i) ++ q.cells) rfl HO6.out _ (m - (i)) 0 (flatE (rs.drop (i))) ?cx hds.out (flatE_one _) (by omega) hbe.out.size ?_; (case cx => rfl); intro v9 w9 hown9 hg9 hat9; obtain ⟨A9, c9, hv9, hc9, hs9, hA9⟩ := own_ent hown9; subst hv9; have HO9 := Lib.hid hown9; have HG9 := Lib.hid hg9; have HS9 := Lib.hid hs9; clear hown9 hg9 hat9 hs9 hA9)
            go_ret
            exact put_end HM.out hAy.out hQy.out hBy.out (Nat.le_of_lt hsz.out) hbe.out HGQ.out HO6.out HG9.out HS9.out hc9 hHIT.out h72 hip9 (by omega)
          · rw [if_neg hcc] at hds
            go_wp2_with (at_builtin; refine wpList_append_ent rfl (.tmp 45) (.tmp 48) rfl wy.heap.size (.slice A6 (i + 1) c6) (i + 1) (flatE (rs.take i) ++ q.cells) rfl HO6.out _ (m - (i)) (c - (i)) (flatE (rs.drop (i))) ?cx hds.out (flatE_one _) (by omega) hbe.out.size ?_; (case cx => rfl); intro v9 w9 hown9 hg9 hat9; obtain ⟨A9, c9, hv9, hc9, hs9, hA9⟩ := own_ent hown9; subst hv9; have HO9 := Lib.hid hown9; have HG9 := Lib.hid hg9; have HS9 := Lib.hid hs9; clear hown9 hg9 hat9 hs9 hA9)
            go_ret
            exact put_end HM.out hAy.out hQy.out hBy.out (Nat.le_of_lt hsz.out) hbe.out HGQ.out HO6.out HG9.out HS9.out hc9 hHIT.out h72 hip9 (by omega)
      · skip
        have hbe : Hid (Below wy.heap.size wy wy) := Below.refl _ _
        refine Go.Proofs.YtanmgkpgfmkobaaW.PrintLast.value_ (v := .slice (some ⟨wy.heap.size, 0, none⟩) 1 1) (w1 := wy.alloc (.cells #[.slice q.Ak q.nk q.ck, .int .u64 q.e.v, .int .u8 q.e.m, .int .u8 q.e.u, .int .u64 q.e.x, .slice q.Ad q.nd q.cd] 32)) (by rfl) rfl ?_ ?_
        · go_simp
          try rfl
        have hbn : Hid (Below wy.heap.size wy (wy.alloc (.cells #[.slice q.Ak q.nk q.ck, .int .u64 q.e.v, .int .u8 q.e.m, .int .u8 q.e.u, .int .u64 q.e.x, .slice q.Ad q.nd q.cd] 32))) := hbe.out.alloc hbe.out.size _
        have hs28 : Hid (Blk (wy.alloc (.cells #[.slice q.Ak q.nk q.ck, .int .u64 q.e.v, .int .u8 q.e.m, .int .u8 q.e.u, .int .u64 q.e.x, .slice q.Ad q.nd q.cd] 32)) wy.heap.size 32 q.cells) := Blk.new wy _ _
        have hl28 : Hid (wy.heap.size < (wy.alloc (.cells #[.slice q.Ak q.nk q.ck, .int .u64 q.e.v, .int .u8 q.e.m, .int .u8 q.e.u, .int .u64 q.e.x, .slice q.Ad q.nd q.cd] 32)).heap.size) := hs28.out.lt
        refine hK.out _ _ (One.bel hY.out hbn.out) (fun hHeld => ?_); clear hK K; refine norm_ (a' := ?_) ?_ ?_; rotate_left; (show Act.put _ (some 28) _ = _; simp only [Act.put, List.setIfInBounds_toArray, List.set_cons_zero, List.set_cons_succ, i64_w, i32_w]; rfl)
        replace hbe := hbn
        clear hbn
        generalize wy.alloc (.cells #[.slice q.Ak q.nk q.ck, .int .u64 q.e.v, .int .u8 q.e.m, .int .u8 q.e.u, .int .u64 q.e.x, .slice q.Ad q.nd q.cd] 32) = w60 at *
        refine one_ (i := 0) (N := some 22) #[tt,tt,tt,tt,ff,tt,tt,ff,ff] rfl rfl (by kernel_rfl) (by decide) (fun K hK => ?_)
        refine Go.Proofs.YtanmgkpgfmkobaaW.PrintLast.value_ (v := .slice (some ⟨w60.heap.size, 0, none⟩) 0 0) (w1 := w60.alloc (.cells #[] 32)) (by rfl) rfl ?_ ?_
        · go_simp
          try rfl
        have hbn : Hid (Below wy.heap.size wy (w60.alloc (.cells #[] 32))) := hbe.out.alloc hbe.out.size _
        have ho22 := Lib.hid (World.ownsRow_made (base := wy.heap.size) (e := 32) (size := 6) w60 #[] 0 hbe.out.size (by simp [maxLen]) rfl)
        have hs28 := Lib.hid (hs28.out.alloc (.cells #[] 32))
        have hn28 : Hid (wy.heap.size ≠ w60.heap.size) := by have := hl28.out; show _ ≠ _; omega
        refine hK.out _ _ (One.bel hY.out hbn.out) (fun hHeld => ?_); clear hK K; refine norm_ (a' := ?_) ?_ ?_; rotate_left; (show Act.put _ (some 22) _ = _; simp only [Act.put, List.setIfInBounds_toArray, List.set_cons_zero, List.set_cons_succ, i64_w, i32_w]; rfl)
        replace hbe := hbn
        clear hbn
        generalize w60.alloc (.cells #[] 32) = w01 at *
        refine one_ (i := 4) (N := some 26) #[tt,tt,tt,tt,tt,tt,tt,ff,ff] rfl rfl (by kernel_rfl) (by decide) (fun K hK => ?_)
        refine step_append_ent rfl (.tmp 22) (.tmp 25) rfl wy.heap.size (.slice (some ⟨w60.heap.size, 0, none⟩) 0 0) 0 [] rfl ho22.out (some ⟨ga, oa, none⟩) i c (flatE (rs.take i)) rfl (htk.out.below hbe.out) (flatE_one _) (by omega) hbe.out.size ?_
        intro v26 wb ho26 hg26 hat26
        replace ho26 := Lib.hid ho26
        rw [Nat.zero_add, List.nil_append] at ho26
        have hbn : Hid (Below wy.heap.size wy wb) := hbe.out.grown hg26 hbe.out.size (fun k e => (ho22.out.lt k e).1)
        have hs28 := Lib.hid (hs28.out.frm (Frm.of_grown hg26) (by rw [List.mem_singleton]; exact hn28.out))
        clear hat26 hg26
        refine hK.out _ _ (One.bel hY.out hbn.out) (fun hHeld => ?_); clear hK K; refine norm_ (a' := ?_) ?_ ?_; rotate_left; (show Act.put _ (some 26) _ = _; simp only [Act.put, List.setIfInBounds_toArray, List.set_cons_zero, List.set_cons_succ, i64_w, i32_w]; rfl)
        replace hbe := hbn
        clear hbn
        refine one_ (i := 7) (N := some 29) #[tt,tt,tt,tt,tt,tt,tt,tt,ff] rfl rfl (by kernel_rfl) (by decide) (fun K hK => ?_)
        have hq28 : Sl wb (some ⟨wy.heap.size, 0, none⟩) (1 * 6) q.cells := hs28.out.sl (off := 0) (n := 6) (by show 0 + 6 ≤ 6; omega)
        refine step_append_ent rfl (.tmp 26) (.tmp 28) rfl wy.heap.size v26 i (flatE (rs.take i)) rfl ho26.out (some ⟨wy.heap.size, 0, none⟩) 1 1 q.cells rfl hq28 (cells_one q) (by omega) hbe.out.size ?_
        intro v29 wz ho29 hg29 hat29
        obtain ⟨A6, c6, hv29, hc6, _, hA6⟩ := own_ent ho29
        subst hv29
        have HO6 := Lib.hid ho29
        have hbn : Hid (Below wy.heap.size wy wz) := hbe.out.grown hg29 hbe.out.size (fun k e => (ho26.out.lt k e).1)
        clear ho29 hg29 hat29 hA6 hq28
        refine hK.out _ _ (One.bel hY.out hbn.out) (fun hHeld => ?_); clear hK K; refine norm_ (a' := ?_) ?_ ?_; rotate_left; (show Act.put _ (some 29) _ = _; simp only [Act.put, List.setIfInBounds_toArray, List.set_cons_zero, List.set_cons_succ, i64_w, i32_w]; rfl)
        refine pure_ (i := 8) (N := some 6) (v := ?_) (a' := ?_) #[tt,tt,tt,tt,tt,tt,tt,tt,tt] rfl rfl (by kernel_rfl) (fun _ _ _ h => h) (Or.inl ⟨by rfl, ?_⟩) ?_ ?_; rotate_left; (intro w'; go_simp; with_reducible rfl); rotate_left; (simp only [Act.put, List.setIfInBounds_toArray, List.set_cons_zero, List.set_cons_succ, i64_w, i32_w]; rfl)
        refine done_ (by kernel_rfl) ?_
        replace hbe := hbn
        clear hbn hHeld
        have hAy := hAr
        have hQy := hQr
        have hBy := hBr
        replace hAr := Lib.hid (hAr.out.below hbe.out)
        replace hQr := Lib.hid (hQr.out.below hbe.out)
        replace hXr := Lib.hid (hXr.out.frm (Frm.of_below hbe.out) (by simp))
        replace hBr : Hid (Below gq w wz) := hBr.out.trans (hbe.out.mono (Nat.le_of_lt hsz.out))
        clear htk hY
        have hHJ : Hid (i = if hitE (rs.map ER.e) q.e.k q.e.v then i + 1 else i) := by
          have h9 : hitE (rs.map ER.e) q.e.k q.e.v = false := by
            unfold hitE
            rw [← HPP.out, List.getElem?_eq_none (by rw [List.length_map]; have := HM.out; have := him.out; omega)]
          rw [h9]
          rfl
        go_wp2
        go_quiet (fail)
        replace hAr : Hid (Ers (wz.drewN nq) (some ⟨ga, oa, none⟩) rs) := ⟨hAr.out.sl, fun r hr => (hAr.out.each r hr).drewN nq⟩
        replace hQr : Hid (q.In (wz.drewN nq)) := hQr.out.drewN nq
        replace hBr : Hid (Below gq w (wz.drewN nq)) := bel_drewN hBr.out nq
        replace HO6 : Hid ((wz.drewN nq).ownsRow wy.heap.size 32 6 (.slice A6 (i + 1) c6) (i + 1) (flatE (rs.take i) ++ q.cells)) := HO6.out
        replace hbe : Hid (Below wy.heap.size wy (wz.drewN nq)) := bel_drewN hbe.out nq
        clear hXr
        generalize wz.drewN nq = wv at *
        have hat : i ≤ rs.length := by have := HM.out; omega
        have hds := Lib.hid (drop_sl (c := c) (i := i) hAr.out hat (by have := HM.out; omega))
        rw [HM.out] at hds
        have hHIT : Hid (putR rs q = rs.take i ++ q :: rs.drop (i)) := putR_len rs q i _ HPP.out hHJ.out
        have h71 : ((i : Nat) : Int) ≤ (m : Int) := by have := HM.out; omega
        have h72 : (i : Nat) ≤ m := by have := HM.out; omega
        have h73 : (m : Int) ≤ (c : Int) := by omega
        have hip9 : i ≤ m := by omega
        clear hHJ hat
        by_cases hcc : c = i
        · rw [if_pos hcc] at hds
          go_wp2_with (at_builtin; refine wpList_append_ent rfl (.tmp 45) (.tmp 48) rfl wy.heap.size (.slice A6 (i + 1) c6) (i + 1) (flatE (rs.take i) ++ q.cells) rfl HO6.out _ (m - (i)) 0 (flatE (rs.drop (i))) ?cx hds.out (flatE_one _) (by omega) hbe.out.size ?_; (case cx => rfl); intro v9 w9 hown9 hg9 hat9; obtain ⟨A9, c9, hv9, hc9, hs9, hA9⟩ := own_ent hown9; subst hv9; have HO9 := Lib.hid hown9; have HG9 := Lib.hid hg9; have HS9 := Lib.hid hs9; clear hown9 hg9 hat9 hs9 hA9)
          go_ret
          exact put_end HM.out hAy.out hQy.out hBy.out (Nat.le_of_lt hsz.out) hbe.out HGQ.out HO6.out HG9.out HS9.out hc9 hHIT.out h72 hip9 (by omega)
        · rw [if_neg hcc] at hds
          go_wp2_with (at_builtin; refine wpList_append_ent rfl (.tmp 45) (.tmp 48) rfl wy.heap.size (.slice A6 (i + 1) c6) (i + 1) (flatE (rs.take i) ++ q.cells) rfl HO6.out _ (m - (i)) (c - (i)) (flatE (rs.drop (i))) ?cx hds.out (flatE_one _) (by omega) hbe.out.size ?_; (case cx => rfl); intro v9 w9 hown9 hg9 hat9; obtain ⟨A9, c9, hv9, hc9, hs9, hA9⟩ := own_ent hown9; subst hv9; have HO9 := Lib.hid hown9; have HG9 := Lib.hid hg9; have HS9 := Lib.hid hs9; clear hown9 hg9 hat9 hs9 hA9)
          go_ret
          exact put_end HM.out hAy.out hQy.out hBy.out (Nat.le_of_lt hsz.out) hbe.out HGQ.out HO6.out HG9.out HS9.out hc9 hHIT.out h72 hip9 (by omega)
end Go.Proofs.Ytanmgkpgfmkobaa
