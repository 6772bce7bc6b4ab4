/- What the guards of laws over lists of entries let in: walked. -/
import Derived.Test.YtegaigpolhdicaaGreatAI
namespace Go.Proofs.YtegaigpolhdicaaGreat
open Go.Proofs.YtegaigpolhdicaaGreatW.PrintLast
open Go.RowKit
set_option linter.unusedVariables false
set_option linter.unusedSimpArgs false
theorem sorted_snoc {l : List Ent} {i : Nat} {a b : Ent} (hs : SortedE (l.take (i + 1))) (ha : l[i]? = some a) (hb : l[i + 1]? = some b) (h : a.ord b = -1) : SortedE (l.take (i + 1 + 1)) := by
  rw [take_snoc l (i + 1) b hb]
  refine List.pairwise_append.2 ⟨hs, List.pairwise_singleton _ _, fun x hx y hy => ?_⟩
  rw [List.mem_singleton] at hy
  subst hy
  rw [take_snoc l i a ha] at hs hx
  rcases List.mem_append.1 hx with h1 | h1
  · exact orderL_lt_trans _ _ _ _ _ _ ((List.pairwise_append.1 hs).2.2 x h1 a (List.mem_singleton.2 rfl)) h
  · rw [List.mem_singleton] at h1
    subst h1
    exact h
def Two2 (ga o o2 : Nat) (r q : ER) (w' : World) : Prop := Six ga o r w' ∧ Six ga o2 q w'
theorem Two2.bel {ga o o2 : Nat} {r q : ER} {w w' : World} (h : Two2 ga o o2 r q w) (hb : Below w.heap.size w w') : Two2 ga o o2 r q w' := ⟨h.1.bel hb, h.2.bel hb⟩
def OrdP (l : List ER) (w : World) (E : Ending) (w' : World) : Prop := ∃ b, E = .returned (.bool b) ∧ (b = true → SortedE (l.map ER.e)) ∧ Below w.heap.size w w'
set_option maxRecDepth 100000 in
set_option maxHeartbeats 4000000 in
theorem isOrdered_any (A : Option Addr) (n c : Nat) (l : List ER) (w : World) (hA : Ers w A l) (hl : l.length = n) (hn : n ≤ 1000000) (hk : ∀ r ∈ l, r.nk ≤ 1000) :
    Calls Tryz.prog 14 #[.slice A n c] w (OrdP l w) := by
  have HA := Lib.hid hA
  have HL := Lib.hid hl
  have HK := Lib.hid hk
  clear hA hl hk
  go_enter Tryz.func14, Tryz.ntmps14
  go_wp2_with fail
  go_loopg [3] (n + 1) (fun f v3 wr => ∃ p : Nat, v3 = .int .i64 ((p : Int) + 1) ∧ p ≤ n ∧ Hid (p + f = n + 1) ∧ Hid (SortedE ((l.map ER.e).take (p + 1))) ∧ Hid (Below w.heap.size w wr))
  case atStart => exact ⟨0, rfl, Nat.zero_le _, by simp [Hid], by
    show SortedE _
    cases l with
    | nil => exact List.Pairwise.nil
    | cons a l => exact List.pairwise_singleton _ _, Below.refl _ _⟩
  case round =>
    obtain ⟨p, rfl, hpn, hf, hso, hbw⟩ := hrel
    by_cases hlt : p + 1 < n
    · obtain ⟨gkO, rfl⟩ : ∃ x, gk = x + 1 := ⟨gk - 1, by have := hf.out; omega⟩
      obtain ⟨r, hr⟩ : ∃ r, l[p]? = some r := ⟨_, List.getElem?_eq_getElem (by have := HL.out; omega)⟩
      obtain ⟨q, hq⟩ : ∃ q, l[p + 1]? = some q := ⟨_, List.getElem?_eq_getElem (by have := HL.out; omega)⟩
      have hAr := HA.out.below hbw.out
      obtain ⟨ga, oa, hAe⟩ := hAr.addr6 (by have := HL.out; omega)
      subst hAe
      have hs1 : Six ga (oa + p * 6) r wr := hAr.six hr
      have hs2 : Six ga (oa + (p + 1) * 6) q wr := hAr.six hq
      have HRQ : Hid (r.In wr ∧ q.In wr) := ⟨hAr.each r (List.mem_of_getElem? hr), hAr.each q (List.mem_of_getElem? hq)⟩
      have hrn := HK.out r (List.mem_of_getElem? hr)
      have hqn := HK.out q (List.mem_of_getElem? hq)
      have HI : Hid ((l.map ER.e)[p]? = some r.e ∧ (l.map ER.e)[p + 1]? = some q.e) := ⟨by rw [List.getElem?_map, hr]; rfl, by rw [List.getElem?_map, hq]; rfl⟩
      have h1 : (p : Int) + 1 < (n : Int) := by omega
      have h2 : (p : Int) < (n : Int) := by omega
      have h3 : ((p : Int) + 1).toNat = p + 1 := by omega
      have h4 : (0 : Int) ≤ (p : Int) + 1 := by omega
      have hpb : (p : Int) ≤ 1000000 := by omega
      have hpb2 : p ≤ 1000000 := by omega
      have HHH := Lib.hid (show orderL r.e.k r.e.v q.e.k q.e.v = -1 ∨ orderL r.e.k r.e.v q.e.k q.e.v = 0 ∨ orderL r.e.k r.e.v q.e.k q.e.v = 1 from orderL_three _ _ _ _)
      clear hAr hr hq
      go_wp2_with fail
      refine start_ (n := 11) (S := Two2 ga (oa + p * 6) (oa + (p + 1) * 6) r q) (ds := []) #[ff,ff,ff,ff,ff,ff,ff,ff,ff,ff,ff] (by kernel_rfl) rfl rfl (⟨hs1, hs2⟩) (fun hHeld => ?_)
      replace HRQ : Hid (r.In wr.drew ∧ q.In wr.drew) := ⟨HRQ.out.1.drewN 1, HRQ.out.2.drewN 1⟩
      replace hbw : Hid (Below w.heap.size w wr.drew) := hbw.out.drew
      clear hs1 hs2
      generalize wr.drew = wd at *
      refine pure_ (i := 0) (N := some 10) (v := ?_) (a' := ?_) #[tt,ff,ff,ff,ff,ff,ff,ff,ff,ff,ff] rfl rfl (by kernel_rfl) (fun _ _ _ h => h) (Or.inl ⟨by rfl, ?_⟩) ?_ ?_; rotate_left; (intro w'; go_simp; with_reducible rfl); rotate_left; (simp only [Act.put, List.setIfInBounds_toArray, List.set_cons_zero, List.set_cons_succ, i64_w, i32_w]; rfl)
      refine pure_ (i := 1) (N := some 11) (v := ?_) (a' := ?_) #[tt,tt,ff,ff,ff,ff,ff,ff,ff,ff,ff] rfl rfl (by kernel_rfl) (fun _ _ _ h => h) (Or.inl ⟨by rfl, ?_⟩) ?_ ?_; rotate_left; (intro w'; go_simp; with_reducible rfl); rotate_left; (simp only [Act.put, List.setIfInBounds_toArray, List.set_cons_zero, List.set_cons_succ, i64_w, i32_w]; rfl)
      refine pure_ (i := 2) (N := some 12) (v := ?_) (a' := ?_) #[tt,tt,tt,ff,ff,ff,ff,ff,ff,ff,ff] rfl rfl (by kernel_rfl) (fun _ _ _ h => h) (Or.inl ⟨by rfl, ?_⟩) ?_ ?_; rotate_left; (intro w'; go_simp; with_reducible rfl); rotate_left; (simp only [Act.put, List.setIfInBounds_toArray, List.set_cons_zero, List.set_cons_succ, i64_w, i32_w]; rfl)
      have hwp : wrap64 (p : Int) = (p : Int) := by unfold wrap64; omega
      rw [hwp]
      clear hwp
      refine pure_ (i := 3) (N := some 13) (v := ?_) (a' := ?_) #[tt,tt,tt,tt,ff,ff,ff,ff,ff,ff,ff] rfl rfl (by kernel_rfl) (fun _ _ _ h => h) (Or.inl ⟨by rfl, ?_⟩) ?_ ?_; rotate_left; (intro w'; go_simp; with_reducible rfl); rotate_left; (simp only [Act.put, List.setIfInBounds_toArray, List.set_cons_zero, List.set_cons_succ, i64_w, i32_w]; rfl)
      refine take_ (i := 4) (N := some 14) (v := ?_) (a' := ?_) #[tt,tt,tt,tt,tt,ff,ff,ff,ff,ff,ff] rfl rfl (by kernel_rfl) (fun _ _ _ h => h) (Or.inl ⟨by rfl, ?_⟩) hHeld ?_ ?_; rotate_left; (rintro w' ⟨⟨h0, h1, h2, h3, h4, h5⟩, h6, h7, h8, h9, h10, h11⟩; go_simp; with_reducible rfl); rotate_left; (simp only [Act.put, List.setIfInBounds_toArray, List.set_cons_zero, List.set_cons_succ, i64_w, i32_w]; rfl)
      refine pure_ (i := 5) (N := some 15) (v := ?_) (a' := ?_) #[tt,tt,tt,tt,tt,tt,ff,ff,ff,ff,ff] rfl rfl (by kernel_rfl) (fun _ _ _ h => h) (Or.inl ⟨by rfl, ?_⟩) ?_ ?_; rotate_left; (intro w'; go_simp; with_reducible rfl); rotate_left; (simp only [Act.put, List.setIfInBounds_toArray, List.set_cons_zero, List.set_cons_succ, i64_w, i32_w]; rfl)
      refine pure_ (i := 6) (N := some 16) (v := ?_) (a' := ?_) #[tt,tt,tt,tt,tt,tt,tt,ff,ff,ff,ff] rfl rfl (by kernel_rfl) (fun _ _ _ h => h) (Or.inl ⟨by rfl, ?_⟩) ?_ ?_; rotate_left; (intro w'; go_simp; with_reducible rfl); rotate_left; (simp only [Act.put, List.setIfInBounds_toArray, List.set_cons_zero, List.set_cons_succ, i64_w, i32_w]; rfl)
      refine pure_ (i := 7) (N := some 17) (v := ?_) (a' := ?_) #[tt,tt,tt,tt,tt,tt,tt,tt,ff,ff,ff] rfl rfl (by kernel_rfl) (fun _ _ _ h => h) (Or.inl ⟨by rfl, ?_⟩) ?_ ?_; rotate_left; (intro w'; go_simp; with_reducible rfl); rotate_left; (simp only [Act.put, List.setIfInBounds_toArray, List.set_cons_zero, List.set_cons_succ, i64_w, i32_w]; rfl)
      refine take_ (i := 8) (N := some 18) (v := ?_) (a' := ?_) #[tt,tt,tt,tt,tt,tt,tt,tt,tt,ff,ff] rfl rfl (by kernel_rfl) (fun _ _ _ h => h) (Or.inl ⟨by rfl, ?_⟩) hHeld ?_ ?_; rotate_left; (rintro w' ⟨⟨h0, h1, h2, h3, h4, h5⟩, h6, h7, h8, h9, h10, h11⟩; go_simp; with_reducible rfl); rotate_left; (simp only [Act.put, List.setIfInBounds_toArray, List.set_cons_zero, List.set_cons_succ, i64_w, i32_w]; rfl)
      refine one_ (i := 9) (N := some 19) #[tt,tt,tt,tt,tt,tt,tt,tt,tt,tt,ff] rfl rfl (by kernel_rfl) (by decide) (fun K hK => ?_); refine goes_ Tryz.func16 (by kernel_rfl) rfl #[.agg #[.slice r.Ak r.nk r.ck, .int .u64 r.e.v, .int .u8 r.e.m, .int .u8 r.e.u, .int .u64 r.e.x, .slice r.Ad r.nd r.cd], .agg #[.slice q.Ak q.nk q.ck, .int .u64 q.e.v, .int .u8 q.e.m, .int .u8 q.e.u, .int .u64 q.e.x, .slice q.Ad q.nd q.cd]] (by rfl) rfl rfl (by (try simp only [List.map_toArray, List.map_cons, List.map_nil]); first | done | rfl) ?_
      refine (orderOf_any r q wd HRQ.out.1 HRQ.out.2 (by omega) (by omega)).mono ?_
      rintro E wx ⟨rfl, hbx⟩; refine ⟨_, rfl, ?_⟩
      refine hK.out _ _ (Two2.bel hHeld hbx) (fun hHeld => ?_); clear hK K; refine norm_ (a' := ?_) ?_ ?_; rotate_left; (show Act.put _ (some 19) _ = _; simp only [Act.put, List.setIfInBounds_toArray, List.set_cons_zero, List.set_cons_succ, i64_w, i32_w]; rfl)
      replace hbw : Hid (Below w.heap.size w wx) := hbw.out.trans (hbx.mono hbw.out.size)
      clear hbx hHeld HRQ
      rcases HHH.out with h9 | h9 | h9
      · have h8 := h9
        rw [h9]
        clear h9
        refine pure_ (i := 10) (N := some 20) (v := ?_) (a' := ?_) #[tt,tt,tt,tt,tt,tt,tt,tt,tt,tt,tt] rfl rfl (by kernel_rfl) (fun _ _ _ h => h) (Or.inl ⟨by rfl, ?_⟩) ?_ ?_; rotate_left; (intro w'; go_simp; with_reducible rfl); rotate_left; (simp only [Act.put, List.setIfInBounds_toArray, List.set_cons_zero, List.set_cons_succ, i64_w, i32_w]; rfl)
        refine done_ (by kernel_rfl) ?_
        have HS := Lib.hid (sorted_snoc hso.out HI.out.1 HI.out.2 h8)
        clear h8
        go_wp2
        go_roundg gkO
        case measure => omega
        case rel => exact ⟨p + 1, by go_num, by omega, by have := hf.out; show _ = _; omega, HS.out, hbw.out⟩
      · have h8 := h9
        rw [h9]
        clear h9
        refine pure_ (i := 10) (N := some 20) (v := ?_) (a' := ?_) #[tt,tt,tt,tt,tt,tt,tt,tt,tt,tt,tt] rfl rfl (by kernel_rfl) (fun _ _ _ h => h) (Or.inl ⟨by rfl, ?_⟩) ?_ ?_; rotate_left; (intro w'; go_simp; with_reducible rfl); rotate_left; (simp only [Act.put, List.setIfInBounds_toArray, List.set_cons_zero, List.set_cons_succ, i64_w, i32_w]; rfl)
        refine done_ (by kernel_rfl) ?_
        clear h8
        go_wp2
        go_returns
        exact ⟨false, rfl, fun h => (by cases h), hbw.out⟩
      · have h8 := h9
        rw [h9]
        clear h9
        refine pure_ (i := 10) (N := some 20) (v := ?_) (a' := ?_) #[tt,tt,tt,tt,tt,tt,tt,tt,tt,tt,tt] rfl rfl (by kernel_rfl) (fun _ _ _ h => h) (Or.inl ⟨by rfl, ?_⟩) ?_ ?_; rotate_left; (intro w'; go_simp; with_reducible rfl); rotate_left; (simp only [Act.put, List.setIfInBounds_toArray, List.set_cons_zero, List.set_cons_succ, i64_w, i32_w]; rfl)
        refine done_ (by kernel_rfl) ?_
        clear h8
        go_wp2
        go_returns
        exact ⟨false, rfl, fun h => (by cases h), hbw.out⟩
    · have hge : ¬ ((p : Int) + 1 < (n : Int)) := by omega
      have hful : SortedE (l.map ER.e) := by
        have h := hso.out
        rwa [List.take_of_length_le (by rw [List.length_map, HL.out]; omega)] at h
      have HF := Lib.hid hful
      clear hful hso
      go_wp2
      go_returns
      exact ⟨true, rfl, fun _ => HF.out, hbw.out⟩
def EOk (l : List ER) : Prop := l.length ≤ 80 ∧ SortedE (l.map ER.e) ∧ ∀ r ∈ l, 1 ≤ r.nk ∧ r.nk ≤ 40 ∧ r.nd ≤ 200
def EntP (ls : List LsR) (w : World) (E : Ending) (w' : World) : Prop := ∃ b, E = .returned (.bool b) ∧ (b = true → ∀ q ∈ ls, EOk q.es) ∧ Below w.heap.size w w'
set_option maxRecDepth 100000 in
set_option maxHeartbeats 8000000 in
theorem entriesOk_any (A : Option Addr) (n c : Nat) (ls : List LsR) (w : World) (hA : Lss w A ls) (hl : ls.length = n) (hn : n ≤ 2147483647) (hk : ∀ q ∈ ls, q.es.length ≤ 2147483647) :
    Calls Tryz.prog 6 #[.slice A n c] w (EntP ls w) := by
  have HA := Lib.hid hA
  have HL := Lib.hid hl
  have HK := Lib.hid hk
  clear hA hl hk
  go_enter Tryz.func6, Tryz.ntmps6
  go_wp2_with fail
  go_loopg [9] n (fun f v9 wr => ∃ i : Nat, v9 = .int .i64 i ∧ i ≤ n ∧ Hid (i + f = n) ∧ Hid (∀ j q, j < i → ls[j]? = some q → EOk q.es) ∧ Hid (Below w.heap.size w wr))
  case atStart => exact ⟨0, rfl, Nat.zero_le _, by simp [Hid], fun j q hj => absurd hj (by omega), Below.refl _ _⟩
  case round =>
    obtain ⟨i, rfl, hin, hf, hok, hbw⟩ := hrel
    by_cases hlt : i < n
    · obtain ⟨gkO, rfl⟩ : ∃ x, gk = x + 1 := ⟨gk - 1, by have := hf.out; omega⟩
      obtain ⟨q, hq⟩ : ∃ q, ls[i]? = some q := ⟨_, List.getElem?_eq_getElem (by have := HL.out; omega)⟩
      have hAr := HA.out.below hbw.out
      have hel : q.es.length ≤ 2147483647 := HK.out q (List.mem_of_getElem? hq)
      have HER : Hid (Ers wr q.A q.es) := (hAr.each q (List.mem_of_getElem? hq)).1
      obtain ⟨gl, ol, e, hcl⟩ := hAr.sl.2 (by have := HL.out; omega)
      subst e
      have b0 : wr.cell? ⟨gl, ol + i, none⟩ = some (.slice q.A q.es.length q.c) := hcl i q.v (by rw [List.getElem?_map, hq]; rfl)
      have HQ := Lib.hid hq
      clear hAr hcl hq
      obtain ⟨qA, qc, es⟩ := q
      replace hel : es.length ≤ 2147483647 := hel
      replace b0 : wr.cell? ⟨gl, ol + i, none⟩ = some (.slice qA es.length qc) := b0
      replace HER : Hid (Ers wr qA es) := HER.out
      have hgk' := hf
      obtain ⟨m, hm⟩ : ∃ m, m = es.length := ⟨_, rfl⟩
      rw [← hm] at b0 hel
      have HM := Lib.hid hm
      clear hm
      obtain ⟨wo, rfl⟩ : ∃ wo : World, wo = wr := ⟨_, rfl⟩
      go_wp2_with fail
      go_loopg [15] m (fun f2 v15 wq => ∃ j : Nat, v15 = .int .i64 j ∧ j ≤ m ∧ Hid (j + f2 = m) ∧ Hid (∀ k r, k < j → es[k]? = some r → 1 ≤ r.nk ∧ r.nk ≤ 40 ∧ r.nd ≤ 200) ∧ Hid (Below wo.heap.size wo wq))
      case atStart => exact ⟨0, rfl, Nat.zero_le _, by simp [Hid], fun j q hj => absurd hj (by omega), Below.refl _ _⟩
      case round =>
        obtain ⟨j, rfl, hjm, hf2, hok2, hbq⟩ := hrel
        have HBT : Hid (Below w.heap.size w wr) := hbw.out.trans (hbq.out.mono hbw.out.size)
        by_cases hlt2 : j < m
        · obtain ⟨gkI, rfl⟩ : ∃ x, gk = x + 1 := ⟨gk - 1, by have := hf2.out; omega⟩
          obtain ⟨r, hr⟩ : ∃ r, es[j]? = some r := ⟨_, List.getElem?_eq_getElem (by have := HM.out; omega)⟩
          have hEr := HER.out.below hbq.out
          obtain ⟨ga, oa, e⟩ := hEr.addr6 (by have := HM.out; omega)
          subst e
          obtain ⟨a0, a1, a2, a3, a4, a5⟩ := hEr.six hr
          have HR := Lib.hid hr
          have HX : Hid (Blk (wr.alloc (boxE r)) wr.heap.size 44 r.cells) := Blk.new wr _ _
          have HB9 : Hid (Below wo.heap.size wo (wr.alloc (boxE r))) := hbq.out.alloc hbq.out.size _
          have HBT9 : Hid (Below w.heap.size w (wr.alloc (boxE r))) := HBT.out.alloc HBT.out.size _
          clear hEr hr hbq HBT
          go_upto_region 7 with fail
          rw [show (Obj.cells #[.slice r.Ak r.nk r.ck, .int .u64 r.e.v, .int .u8 r.e.m, .int .u8 r.e.u, .int .u64 r.e.x, .slice r.Ad r.nd r.cd] 44) = boxE r from rfl]
          generalize wr.alloc (boxE r) = w9 at *
          obtain ⟨g10, hg10⟩ : ∃ x, x = wr.heap.size := ⟨_, rfl⟩
          rw [← hg10] at HX ⊢
          clear hg10 a0 a1 a2 a3 a4 a5
          have y0 := HX.out.at_ (i := 0) rfl
          have y1 := HX.out.at_ (i := 1) rfl
          have y2 := HX.out.at_ (i := 2) rfl
          have y3 := HX.out.at_ (i := 3) rfl
          have y4 := HX.out.at_ (i := 4) rfl
          have y5 := HX.out.at_ (i := 5) rfl
          by_cases c1 : r.nk < 1
          · go_wp2
            go_returns
            exact ⟨false, rfl, fun h => (by cases h), HBT9.out⟩
          by_cases c2 : 40 < r.nk
          · have d1 : decide ((r.nk : Int) < 1) = false := decide_eq_false (by omega)
            go_wp2
            go_returns
            exact ⟨false, rfl, fun h => (by cases h), HBT9.out⟩
          by_cases c3 : 200 < r.nd
          · have d1 : decide ((r.nk : Int) < 1) = false := decide_eq_false (by omega)
            have d2 : decide ((40 : Int) < (r.nk : Int)) = false := decide_eq_false (by omega)
            go_wp2
            go_returns
            exact ⟨false, rfl, fun h => (by cases h), HBT9.out⟩
          have d1 : decide ((r.nk : Int) < 1) = false := decide_eq_false (by omega)
          have d2 : decide ((40 : Int) < (r.nk : Int)) = false := decide_eq_false (by omega)
          have d3 : decide ((200 : Int) < (r.nd : Int)) = false := decide_eq_false (by omega)
          clear d1 d2 d3
          have HNX : Hid (∀ k r', k < j + 1 → es[k]? = some r' → 1 ≤ r'.nk ∧ r'.nk ≤ 40 ∧ r'.nd ≤ 200) := fun k r' hk hr' => by
            by_cases hkj : k = j
            · subst hkj
              have h := HR.out
              rw [hr'] at h
              injection h with h
              subst h
              omega
            · exact hok2.out k r' (by omega) hr'
          clear hok2
          go_wp2
          all_goals (try (exfalso; omega))
          go_roundg gkI
          case measure => omega
          case rel => exact ⟨j + 1, by go_num, by omega, by have := hf2.out; show _ = _; omega, HNX.out, HB9.out⟩
        · have hje : j = m := by omega
          have hge2 : ¬ ((j : Int) < (m : Int)) := by omega
          have HALL : Hid (∀ r ∈ es, 1 ≤ r.nk ∧ r.nk ≤ 40 ∧ r.nd ≤ 200) := fun r hr => by
            obtain ⟨k, hk⟩ := List.mem_iff_getElem?.1 hr
            exact hok2.out k r (by have := (List.getElem?_eq_some_iff.1 hk).1; have := HM.out; omega) hk
          clear hok2 hje
          by_cases c80 : 80 < m
          · go_wp2
            go_returns
            exact ⟨false, rfl, fun h => (by cases h), HBT.out⟩
          · have d80 : decide ((80 : Int) < (m : Int)) = false := decide_eq_false (by omega)
            have hEr := Lib.hid (HER.out.below hbq.out)
            clear hbq HER
            go_wp2_with fail
            refine (isOrdered_any qA m qc es wr hEr.out HM.out.symm (by omega) (fun r hr => by have := HALL.out r hr; omega)).mono ?_
            rintro E w3 ⟨b, rfl, hb, hb3⟩
            have HB3 : Hid (Below w.heap.size w w3) := HBT.out.trans (hb3.mono HBT.out.size)
            have HSO := Lib.hid hb
            clear hb hb3 HBT hEr
            cases b with
            | false =>
              go_wp2
              go_returns
              exact ⟨false, rfl, fun h => (by cases h), HB3.out⟩
            | true =>
              have HNX : Hid (∀ j q, j < i + 1 → ls[j]? = some q → EOk q.es) := fun k q' hk hq' => by
                by_cases hkj : k = i
                · subst hkj
                  have h := HQ.out
                  rw [hq'] at h
                  injection h with h
                  subst h
                  exact ⟨by have := HM.out; show es.length ≤ 80; omega, HSO.out rfl, HALL.out⟩
                · exact hok.out k q' (by omega) hq'
              clear hok HALL
              go_wp2
              go_roundg gkO
              case measure => omega
              case rel => exact ⟨i + 1, by go_num, by omega, by have := hgk'.out; show _ = _; omega, HNX.out, HB3.out⟩
    · have hie : i = n := by omega
      have hge : ¬ ((i : Int) < (n : Int)) := by omega
      have HF : Hid (∀ q ∈ ls, EOk q.es) := fun q hq => by
        obtain ⟨k, hk⟩ := List.mem_iff_getElem?.1 hq
        exact hok.out k q (by have := (List.getElem?_eq_some_iff.1 hk).1; have := HL.out; omega) hk
      clear hok hie
      go_wp2
      go_returns
      exact ⟨true, rfl, fun _ => HF.out, hbw.out⟩
end Go.Proofs.YtegaigpolhdicaaGreat
