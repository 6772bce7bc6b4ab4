/- spec.Merged walked. -/
import Derived.Test.YtegaigpolhdicaaGreatAH
import Derived.Test.YtegaigpolhdicaaGreatPB
namespace Go.Proofs.YtegaigpolhdicaaGreat
open Go.Proofs.YtegaigpolhdicaaGreatW.PrintLast
open Go.RowKit
set_option linter.unusedVariables false
set_option linter.unusedSimpArgs false
theorem made_listM (z : Value) (c : Nat) : madeCells #[z] c = (List.replicate c z).toArray := by
  apply Array.ext
  · simp [madeCells]
  · intro i h1 h2
    simp [madeCells, Nat.mod_one]
theorem make_int (s : Nat) (W : World) (h : s ≤ 1000000) : (Instr.makeSlice 48 (.int .i64 (s : Int)) (.int .i64 (s : Int))).run Tryz.prog W = .ok (.slice (some ⟨W.heap.size, 0, none⟩) s s) (W.alloc (.cells (natC (List.replicate s 0)).toArray 3)) := by
  obtain ⟨i0, hi0, hz0, hz1, hz2⟩ := info_parts infoI
  have := run_make (P := Tryz.prog) W 48 3 i0 (.int .i64 0) Tryz.underlying48 hi0 hz0 .i64 .i64 (s : Int) (s : Int) (by omega) (by omega) (by rw [hz2]; omega) (by omega)
  rw [hz1, Nat.mul_one, Int.toNat_natCast] at this
  rw [this]
  have e : (Value.int .i64 0).cells = #[Value.int .i64 0] := rfl
  rw [e, made_listM]
  unfold natC
  rw [List.map_replicate]
  rfl
def MergP (ls : List LsR) (w : World) (E : Ending) (w' : World) : Prop := ∃ g o c rs, E = .returned (.slice (some ⟨g, o, none⟩) (List.length rs) c) ∧ rs.length ≤ c ∧ Ers w' (some ⟨g, o, none⟩) rs ∧ rs.map ER.e = mergedE (entsOf ls) ∧ (∀ r ∈ rs, ∃ q ∈ ls, r ∈ q.es) ∧ Below w.heap.size w w'
theorem flatE_snoc (l : List ER) (q : ER) : flatE (l ++ [q]) = flatE l ++ q.cells := by
  rw [flatE_append, flatE_cons]
  show _ ++ (q.cells ++ []) = _
  rw [List.append_nil]
theorem cells_oneE (q : ER) : ∀ u ∈ q.cells, u.oneCell' = true := fun u hu => flatE_one [q] u (by rw [flatE_cons]; exact List.mem_append_left _ hu)
theorem one_slE (w : World) (q : ER) : Sl (w.alloc (.cells q.cells.toArray 44)) (some ⟨w.heap.size, 0, none⟩) (1 * 6) q.cells :=
  (Blk.new w 44 q.cells).sl (off := 0) (n := 6) (by show 0 + 6 ≤ 6; omega)
theorem sorted_rest {ls : List LsR} {at_ : List Nat} (h : ∀ q ∈ ls, SortedE (q.es.map ER.e)) : ∀ l ∈ restE ls at_, SortD false l := fun l hl => by
  unfold restE at hl
  obtain ⟨i, hi⟩ := List.getElem?_of_mem hl
  rw [List.getElem?_zipWith] at hi
  cases h1 : ls[i]? with
  | none => rw [h1] at hi; cases hi
  | some q =>
    cases h2 : at_[i]? with
    | none => rw [h1, h2] at hi; cases hi
    | some a =>
      rw [h1, h2] at hi
      have hi' : (q.es.map ER.e).drop a = l := by simpa using hi
      rw [← hi']
      exact (h q (List.mem_of_getElem? h1)).sublist (List.drop_sublist _ _)
/-- What stays the same in all rounds. -/
structure MgW (w : World) (gl ol n : Nat) (ls : List LsR) (wr : World) (gA : Nat) (at_ : List Nat) (rs : List ER) (A3 : Option Addr) (m c3 : Nat) : Prop where
  blk : Blk wr gA 3 (natC at_)
  new : w.heap.size ≤ gA
  len : at_.length = n
  row : wr.ownsRow w.heap.size 44 6 (.slice A3 m c3) m (flatE rs)
  rsl : rs.length = m
  from_ : ∀ r ∈ rs, ∃ q ∈ ls, r ∈ q.es
  bel : Below w.heap.size w wr
  ad : ∃ g o, A3 = some ⟨g, o, none⟩
theorem MgW.below {w wr wx : World} {gl ol n gA m c3 : Nat} {ls : List LsR} {at_ : List Nat} {rs : List ER} {A3 : Option Addr} (h : MgW w gl ol n ls wr gA at_ rs A3 m c3) (hb : Below wr.heap.size wr wx) : MgW w gl ol n ls wx gA at_ rs A3 m c3 :=
  ⟨h.blk.below hb h.blk.lt, h.new, h.len, own_bel h.row hb, h.rsl, h.from_, h.bel.trans (hb.mono h.bel.size), h.ad⟩
theorem MgW.put {w wr : World} {gl ol n gA m c3 k y : Nat} {ls : List LsR} {at_ : List Nat} {rs : List ER} {A3 : Option Addr} (h : MgW w gl ol n ls wr gA at_ rs A3 m c3) : MgW w gl ol n ls (wr.setCell ⟨gA, k, none⟩ (.int .i64 (y : Int))) gA (at_.set k y) rs A3 m c3 := by
  refine ⟨?_, h.new, by rw [List.length_set]; exact h.len, own_frS (S := (· = gA)) h.row ((FrS.refl _ wr).andSet _ _ rfl) (fun b hb e => row_not h.row (e ▸ hb) h.blk (by decide)), h.rsl, h.from_, h.bel.setCell h.new _, h.ad⟩
  have := h.blk.set_ k (.int .i64 (y : Int))
  rwa [natC_set] at this
theorem MgW.in_ {w wr : World} {gl ol n gA m c3 : Nat} {ls : List LsR} {at_ : List Nat} {rs : List ER} {A3 : Option Addr} (h : MgW w gl ol n ls wr gA at_ rs A3 m c3) (hA : Lss w (some ⟨gl, ol, none⟩) ls) {k : Nat} {q : LsR} (hq : ls[k]? = some q) :
    wr.cell? ⟨gl, ol + k, none⟩ = some (.slice q.A q.es.length q.c) ∧ Ers wr q.A q.es := by
  have h1 := hA.below h.bel
  refine ⟨?_, (h1.each q (List.mem_of_getElem? hq)).1⟩
  have := h1.sl.adds k q.v (by rw [List.getElem?_map, hq]; rfl)
  rwa [add_none] at this
theorem MgW.frm8 {w wr wx : World} {gl ol n gA m c3 g8 : Nat} {ls : List LsR} {at_ : List Nat} {rs : List ER} {A3 : Option Addr} (h : MgW w gl ol n ls wr gA at_ rs A3 m c3) (hf : Frm [g8] wr wx) (hg : w.heap.size ≤ g8) (hne : gA ≠ g8) (hr : ∀ x, (Value.slice A3 m c3).ownBlock = some x → x < g8) : MgW w gl ol n ls wx gA at_ rs A3 m c3 :=
  ⟨h.blk.frm hf (by simpa using hne), h.new, h.len, own_frS (S := (· = g8)) h.row (FrS.of_frm hf (fun i hi => by simpa using hi)) (fun b hb e => by have := hr b hb; omega), h.rsl, h.from_, h.bel.trans (hf.below h.bel.size (fun i hi => by rw [List.mem_singleton] at hi; omega)), h.ad⟩
set_option maxRecDepth 100000 in
set_option maxHeartbeats 16000000 in
theorem specMerged_any (gl ol n c : Nat) (ls : List LsR) (w : World) (hA : Lss w (some ⟨gl, ol, none⟩) ls) (hl : ls.length = n) (hn : n ≤ 100) (hne : ∀ q ∈ ls, q.es.length ≤ 80) (hnk : ∀ q ∈ ls, ∀ r ∈ q.es, r.nk ≤ 1000) (hso : ∀ q ∈ ls, SortedE (q.es.map ER.e)) (hbig : (mergedE (entsOf ls)).length ≤ 1000000) :
    Calls Tryz.prog 9 #[.slice (some ⟨gl, ol, none⟩) n c] w (MergP ls w) := by
  have HA := Lib.hid hA
  have HL := Lib.hid hl
  have HNE := Lib.hid hne
  have HNK := Lib.hid hnk
  have HSO := Lib.hid hso
  have HBIG := Lib.hid hbig
  have hmk := make_int n (w.alloc (.cells #[] 44)) (by omega)
  have HM0 : Hid (MgW w gl ol n ls ((w.alloc (.cells #[] 44)).alloc (.cells (natC (List.replicate n 0)).toArray 3)) (w.heap.size + 1) (List.replicate n 0) [] (some ⟨w.heap.size, 0, none⟩) 0 0) := by
    have hs : (w.alloc (.cells #[] 44)).heap.size = w.heap.size + 1 := World.size_alloc _ _
    have h1 : (w.alloc (.cells #[] 44)).ownsRow w.heap.size 44 6 (.slice (some ⟨w.heap.size, 0, none⟩) 0 0) 0 [] := World.ownsRow_made w #[] 0 (Nat.le_refl _) (by simp [maxLen]) rfl
    refine ⟨?_, by omega, List.length_replicate, h1.alloc _, rfl, fun r hr => (by cases hr), ((Below.refl _ _).alloc (Nat.le_refl _) _).alloc (by rw [hs]; omega) _, ⟨_, _, rfl⟩⟩
    have := Blk.new (w.alloc (.cells #[] 44)) 3 (natC (List.replicate n 0))
    rwa [hs] at this
  have hst : entsOf ls = restE ls (List.replicate n 0) := by rw [← hl]; exact (restE_zero ls).symm
  have HST := Lib.hid hst
  clear hA hl hne hnk hso hbig hst
  go_enter Tryz.func9, Tryz.ntmps9
  go_wp2_with fail

  generalize hw0 : (w.alloc (.cells #[] 44)).alloc (.cells (natC (List.replicate n 0)).toArray 3) = w0 at *
  clear hw0 hmk
  obtain ⟨gA, hgA⟩ : ∃ gA, gA = w.heap.size + 1 := ⟨_, rfl⟩
  rw [← hgA] at HM0 ⊢
  clear hgA
  go_wp2_with fail
  go_loopg [3] (mergedE (entsOf ls)).length (fun f v3 wr => ∃ (A3 : Option Addr) (m c3 : Nat) (at_ : List Nat) (rs : List ER), v3 = .slice A3 m c3 ∧ Hid ((mergedE (restE ls at_)).length = f) ∧ Hid (rs.map ER.e ++ mergedE (restE ls at_) = mergedE (entsOf ls)) ∧ Hid (MgW w gl ol n ls wr gA at_ rs A3 m c3))
  case atStart => exact ⟨_, 0, 0, List.replicate n 0, [], rfl, by show _ = _; rw [HST.out], by show _ = _; rw [HST.out]; rfl, HM0⟩
  case round =>
    clear HM0
    obtain ⟨A3, m, c3, at_, rs, rfl, hf, heq, HMW⟩ := hrel
    have HATL : Hid (at_.length = n) := HMW.out.len
    obtain ⟨gkO, hgkO⟩ : ∃ x, x = gk := ⟨_, rfl⟩
    have hgk' := hf
    have hlm : Hid (m ≤ 1000000) := by
      have h1 := congrArg List.length heq.out
      rw [List.length_append, List.length_map, HMW.out.rsl] at h1
      have := HBIG.out
      show m ≤ 1000000
      omega
    obtain ⟨wo, rfl⟩ : ∃ wo : World, wo = wr := ⟨_, rfl⟩
    go_wp2_with fail
    go_loopg [5, 17] n (fun f2 v5 v17 wq => ∃ (k : Nat) (bi : Int), v5 = .int .i64 bi ∧ v17 = .int .i64 k ∧ k ≤ n ∧ Hid (k + f2 = n) ∧ Hid (Bst ls at_ k bi) ∧ Hid (MgW w gl ol n ls wq gA at_ rs A3 m c3))
    case atStart => exact ⟨0, -1, rfl, rfl, Nat.zero_le _, by simp [Hid], Bst.zero, HMW⟩
    case round =>
      clear HMW
      obtain ⟨k, bi, rfl, rfl, hkn, hf2, hbst, HMW⟩ := hrel
      by_cases hk : k < n
      · obtain ⟨q, hq⟩ : ∃ q, ls[k]? = some q := ⟨_, List.getElem?_eq_getElem (by have := HL.out; omega)⟩
        obtain ⟨a, ha⟩ : ∃ a, at_[k]? = some a := ⟨_, List.getElem?_eq_getElem (by have := HMW.out.len; omega)⟩
        have HQ := Lib.hid (And.intro hq ha)
        obtain ⟨hcl, hers⟩ := HMW.out.in_ HA.out hq
        have HERS := Lib.hid hers
        have hc0 : wr.cell? ⟨gA, k, none⟩ = some (.int .i64 (a : Int)) := HMW.out.blk.at_ (natC_at ha)
        have hel : q.es.length ≤ 80 := HNE.out q (List.mem_of_getElem? hq)
        clear hq ha hers
        obtain ⟨gkI, rfl⟩ : ∃ x, gk = x + 1 := ⟨gk - 1, by have := hf2.out; omega⟩
        obtain ⟨wq, rfl⟩ : ∃ wq : World, wq = wr := ⟨_, rfl⟩
        cases hr : q.es[a]? with
        | none =>
          have hal2 : decide (a < q.es.length) = false := by have := List.getElem?_eq_none_iff.1 hr; exact decide_eq_false (by omega)
          have HB2 := Lib.hid (hbst.out.out HQ.out.1 HQ.out.2 hr)
          clear hr
          go_wp2_with fail
          refine start_ (n := 32) (S := fun w' => w'.cell? ⟨gA, k, none⟩ = some (.int .i64 (a : Int))) (ds := []) #[ff,ff,ff,ff,ff,ff,ff,ff,ff,ff,ff,ff,ff,ff,ff,ff,ff,ff,ff,ff,ff,ff,ff,ff,ff,ff,ff,ff,ff,ff,ff,ff] (by kernel_rfl) rfl rfl (hc0) (fun hHeld => ?_)
          have HMd := Lib.hid (HMW.out.below ((Below.refl _ _).drew))
          have HEd : Hid (True) := trivial
          clear HMW hc0
          generalize wq.drew = wd at *
          refine pure_ (i := 0) (N := some 22) (v := ?_) (a' := ?_) #[tt,ff,ff,ff,ff,ff,ff,ff,ff,ff,ff,ff,ff,ff,ff,ff,ff,ff,ff,ff,ff,ff,ff,ff,ff,ff,ff,ff,ff,ff,ff,ff] rfl rfl (by kernel_rfl) (fun _ _ _ h => h) (Or.inl ⟨by rfl, ?_⟩) ?_ ?_; rotate_left; (intro w'; go_simp; with_reducible rfl); rotate_left; (simp only [Act.put, List.setIfInBounds_toArray, List.set_cons_zero, List.set_cons_succ, i64_w, i32_w]; rfl)
          refine pure_ (i := 1) (N := some 23) (v := ?_) (a' := ?_) #[tt,tt,ff,ff,ff,ff,ff,ff,ff,ff,ff,ff,ff,ff,ff,ff,ff,ff,ff,ff,ff,ff,ff,ff,ff,ff,ff,ff,ff,ff,ff,ff] rfl rfl (by kernel_rfl) (fun _ _ _ h => h) (Or.inl ⟨by rfl, ?_⟩) ?_ ?_; rotate_left; (intro w'; go_simp; with_reducible rfl); rotate_left; (simp only [Act.put, List.setIfInBounds_toArray, List.set_cons_zero, List.set_cons_succ, i64_w, i32_w]; rfl)
          refine pure_ (i := 2) (N := some 24) (v := ?_) (a' := ?_) #[tt,tt,tt,ff,ff,ff,ff,ff,ff,ff,ff,ff,ff,ff,ff,ff,ff,ff,ff,ff,ff,ff,ff,ff,ff,ff,ff,ff,ff,ff,ff,ff] rfl rfl (by kernel_rfl) (fun _ _ _ h => h) (Or.inl ⟨by rfl, ?_⟩) ?_ ?_; rotate_left; (intro w'; go_simp; with_reducible rfl); rotate_left; (simp only [Act.put, List.setIfInBounds_toArray, List.set_cons_zero, List.set_cons_succ, i64_w, i32_w]; rfl)
          refine take_ (i := 3) (N := some 25) (v := ?_) (a' := ?_) #[tt,tt,tt,tt,ff,ff,ff,ff,ff,ff,ff,ff,ff,ff,ff,ff,ff,ff,ff,ff,ff,ff,ff,ff,ff,ff,ff,ff,ff,ff,ff,ff] rfl rfl (by kernel_rfl) (fun _ _ _ h => h) (Or.inl ⟨by rfl, ?_⟩) hHeld ?_ ?_; rotate_left; (rintro w' h0; go_simp; with_reducible rfl); rotate_left; (simp only [Act.put, List.setIfInBounds_toArray, List.set_cons_zero, List.set_cons_succ, i64_w, i32_w]; rfl)
          refine pure_ (i := 4) (N := some 26) (v := ?_) (a' := ?_) #[tt,tt,tt,tt,tt,ff,ff,ff,ff,ff,ff,ff,ff,ff,ff,ff,ff,ff,ff,ff,ff,ff,ff,ff,ff,ff,ff,ff,ff,ff,ff,ff] rfl rfl (by kernel_rfl) (fun _ _ _ h => h) (Or.inl ⟨by rfl, ?_⟩) ?_ ?_; rotate_left; (intro w'; go_simp; with_reducible rfl); rotate_left; (simp only [Act.put, List.setIfInBounds_toArray, List.set_cons_zero, List.set_cons_succ, i64_w, i32_w]; rfl)
          refine pure_ (i := 5) (N := some 27) (v := ?_) (a' := ?_) #[tt,tt,tt,tt,tt,tt,ff,ff,ff,ff,ff,ff,ff,ff,ff,ff,ff,ff,ff,ff,ff,ff,ff,ff,ff,ff,ff,ff,ff,ff,ff,ff] rfl rfl (by kernel_rfl) (fun _ _ _ h => h) (Or.inl ⟨by rfl, ?_⟩) ?_ ?_; rotate_left; (intro w'; go_simp; with_reducible rfl); rotate_left; (simp only [Act.put, List.setIfInBounds_toArray, List.set_cons_zero, List.set_cons_succ, i64_w, i32_w]; rfl)
          refine pure_ (i := 6) (N := some 28) (v := ?_) (a' := ?_) #[tt,tt,tt,tt,tt,tt,tt,ff,ff,ff,ff,ff,ff,ff,ff,ff,ff,ff,ff,ff,ff,ff,ff,ff,ff,ff,ff,ff,ff,ff,ff,ff] rfl rfl (by kernel_rfl) (fun _ _ _ h => h) (Or.inl ⟨by rfl, ?_⟩) ?_ ?_; rotate_left; (intro w'; go_simp; with_reducible rfl); rotate_left; (simp only [Act.put, List.setIfInBounds_toArray, List.set_cons_zero, List.set_cons_succ, i64_w, i32_w]; rfl)
          try rw [hal2]
          refine pure_ (i := 7) (N := some 29) (v := ?_) (a' := ?_) #[tt,tt,tt,tt,tt,tt,tt,tt,ff,ff,ff,ff,ff,ff,ff,ff,ff,ff,ff,ff,ff,ff,ff,ff,ff,ff,ff,ff,ff,ff,ff,ff] rfl rfl (by kernel_rfl) (fun _ _ _ h => h) (Or.inl ⟨by rfl, ?_⟩) ?_ ?_; rotate_left; (intro w'; go_simp; with_reducible rfl); rotate_left; (simp only [Act.put, List.setIfInBounds_toArray, List.set_cons_zero, List.set_cons_succ, i64_w, i32_w]; rfl)
          refine pure_ (i := 8) (N := some 30) (v := undef) (a' := ?_) #[tt,tt,tt,tt,tt,tt,tt,tt,tt,ff,ff,ff,ff,ff,ff,ff,ff,ff,ff,ff,ff,ff,ff,ff,ff,ff,ff,ff,ff,ff,ff,ff] rfl rfl (by kernel_rfl) (fun _ _ _ h => h) (Or.inr ⟨by rfl, rfl⟩) ?_ ?_; rotate_left; (simp only [Act.put, List.setIfInBounds_toArray, List.set_cons_zero, List.set_cons_succ, i64_w, i32_w]; rfl)
          refine pure_ (i := 9) (N := some 31) (v := undef) (a' := ?_) #[tt,tt,tt,tt,tt,tt,tt,tt,tt,tt,ff,ff,ff,ff,ff,ff,ff,ff,ff,ff,ff,ff,ff,ff,ff,ff,ff,ff,ff,ff,ff,ff] rfl rfl (by kernel_rfl) (fun _ _ _ h => h) (Or.inr ⟨by rfl, rfl⟩) ?_ ?_; rotate_left; (simp only [Act.put, List.setIfInBounds_toArray, List.set_cons_zero, List.set_cons_succ, i64_w, i32_w]; rfl)
          refine pure_ (i := 10) (N := some 32) (v := undef) (a' := ?_) #[tt,tt,tt,tt,tt,tt,tt,tt,tt,tt,tt,ff,ff,ff,ff,ff,ff,ff,ff,ff,ff,ff,ff,ff,ff,ff,ff,ff,ff,ff,ff,ff] rfl rfl (by kernel_rfl) (fun _ _ _ h => h) (Or.inr ⟨by rfl, rfl⟩) ?_ ?_; rotate_left; (simp only [Act.put, List.setIfInBounds_toArray, List.set_cons_zero, List.set_cons_succ, i64_w, i32_w]; rfl)
          refine pure_ (i := 11) (N := some 33) (v := undef) (a' := ?_) #[tt,tt,tt,tt,tt,tt,tt,tt,tt,tt,tt,tt,ff,ff,ff,ff,ff,ff,ff,ff,ff,ff,ff,ff,ff,ff,ff,ff,ff,ff,ff,ff] rfl rfl (by kernel_rfl) (fun _ _ _ h => h) (Or.inr ⟨by rfl, rfl⟩) ?_ ?_; rotate_left; (simp only [Act.put, List.setIfInBounds_toArray, List.set_cons_zero, List.set_cons_succ, i64_w, i32_w]; rfl)
          refine pure_ (i := 12) (N := some 34) (v := undef) (a' := ?_) #[tt,tt,tt,tt,tt,tt,tt,tt,tt,tt,tt,tt,tt,ff,ff,ff,ff,ff,ff,ff,ff,ff,ff,ff,ff,ff,ff,ff,ff,ff,ff,ff] rfl rfl (by kernel_rfl) (fun _ _ _ h => h) (Or.inr ⟨by rfl, rfl⟩) ?_ ?_; rotate_left; (simp only [Act.put, List.setIfInBounds_toArray, List.set_cons_zero, List.set_cons_succ, i64_w, i32_w]; rfl)
          refine pure_ (i := 13) (N := some 35) (v := undef) (a' := ?_) #[tt,tt,tt,tt,tt,tt,tt,tt,tt,tt,tt,tt,tt,tt,ff,ff,ff,ff,ff,ff,ff,ff,ff,ff,ff,ff,ff,ff,ff,ff,ff,ff] rfl rfl (by kernel_rfl) (fun _ _ _ h => h) (Or.inr ⟨by rfl, rfl⟩) ?_ ?_; rotate_left; (simp only [Act.put, List.setIfInBounds_toArray, List.set_cons_zero, List.set_cons_succ, i64_w, i32_w]; rfl)
          refine pure_ (i := 14) (N := some 36) (v := undef) (a' := ?_) #[tt,tt,tt,tt,tt,tt,tt,tt,tt,tt,tt,tt,tt,tt,tt,ff,ff,ff,ff,ff,ff,ff,ff,ff,ff,ff,ff,ff,ff,ff,ff,ff] rfl rfl (by kernel_rfl) (fun _ _ _ h => h) (Or.inr ⟨by rfl, rfl⟩) ?_ ?_; rotate_left; (simp only [Act.put, List.setIfInBounds_toArray, List.set_cons_zero, List.set_cons_succ, i64_w, i32_w]; rfl)
          refine pure_ (i := 15) (N := some 37) (v := undef) (a' := ?_) #[tt,tt,tt,tt,tt,tt,tt,tt,tt,tt,tt,tt,tt,tt,tt,tt,ff,ff,ff,ff,ff,ff,ff,ff,ff,ff,ff,ff,ff,ff,ff,ff] rfl rfl (by kernel_rfl) (fun _ _ _ h => h) (Or.inr ⟨by rfl, rfl⟩) ?_ ?_; rotate_left; (simp only [Act.put, List.setIfInBounds_toArray, List.set_cons_zero, List.set_cons_succ, i64_w, i32_w]; rfl)
          refine pure_ (i := 16) (N := some 38) (v := undef) (a' := ?_) #[tt,tt,tt,tt,tt,tt,tt,tt,tt,tt,tt,tt,tt,tt,tt,tt,tt,ff,ff,ff,ff,ff,ff,ff,ff,ff,ff,ff,ff,ff,ff,ff] rfl rfl (by kernel_rfl) (fun _ _ _ h => h) (Or.inr ⟨by rfl, rfl⟩) ?_ ?_; rotate_left; (simp only [Act.put, List.setIfInBounds_toArray, List.set_cons_zero, List.set_cons_succ, i64_w, i32_w]; rfl)
          refine pure_ (i := 17) (N := some 39) (v := undef) (a' := ?_) #[tt,tt,tt,tt,tt,tt,tt,tt,tt,tt,tt,tt,tt,tt,tt,tt,tt,tt,ff,ff,ff,ff,ff,ff,ff,ff,ff,ff,ff,ff,ff,ff] rfl rfl (by kernel_rfl) (fun _ _ _ h => h) (Or.inr ⟨by rfl, rfl⟩) ?_ ?_; rotate_left; (simp only [Act.put, List.setIfInBounds_toArray, List.set_cons_zero, List.set_cons_succ, i64_w, i32_w]; rfl)
          refine pure_ (i := 18) (N := some 40) (v := undef) (a' := ?_) #[tt,tt,tt,tt,tt,tt,tt,tt,tt,tt,tt,tt,tt,tt,tt,tt,tt,tt,tt,ff,ff,ff,ff,ff,ff,ff,ff,ff,ff,ff,ff,ff] rfl rfl (by kernel_rfl) (fun _ _ _ h => h) (Or.inr ⟨by rfl, rfl⟩) ?_ ?_; rotate_left; (simp only [Act.put, List.setIfInBounds_toArray, List.set_cons_zero, List.set_cons_succ, i64_w, i32_w]; rfl)
          refine pure_ (i := 19) (N := some 41) (v := undef) (a' := ?_) #[tt,tt,tt,tt,tt,tt,tt,tt,tt,tt,tt,tt,tt,tt,tt,tt,tt,tt,tt,tt,ff,ff,ff,ff,ff,ff,ff,ff,ff,ff,ff,ff] rfl rfl (by kernel_rfl) (fun _ _ _ h => h) (Or.inr ⟨by rfl, rfl⟩) ?_ ?_; rotate_left; (simp only [Act.put, List.setIfInBounds_toArray, List.set_cons_zero, List.set_cons_succ, i64_w, i32_w]; rfl)
          refine pure_ (i := 20) (N := some 42) (v := undef) (a' := ?_) #[tt,tt,tt,tt,tt,tt,tt,tt,tt,tt,tt,tt,tt,tt,tt,tt,tt,tt,tt,tt,tt,ff,ff,ff,ff,ff,ff,ff,ff,ff,ff,ff] rfl rfl (by kernel_rfl) (fun _ _ _ h => h) (Or.inr ⟨by rfl, rfl⟩) ?_ ?_; rotate_left; (simp only [Act.put, List.setIfInBounds_toArray, List.set_cons_zero, List.set_cons_succ, i64_w, i32_w]; rfl)
          refine pure_ (i := 21) (N := some 43) (v := undef) (a' := ?_) #[tt,tt,tt,tt,tt,tt,tt,tt,tt,tt,tt,tt,tt,tt,tt,tt,tt,tt,tt,tt,tt,tt,ff,ff,ff,ff,ff,ff,ff,ff,ff,ff] rfl rfl (by kernel_rfl) (fun _ _ _ h => h) (Or.inr ⟨by rfl, rfl⟩) ?_ ?_; rotate_left; (simp only [Act.put, List.setIfInBounds_toArray, List.set_cons_zero, List.set_cons_succ, i64_w, i32_w]; rfl)
          refine pure_ (i := 22) (N := some 44) (v := undef) (a' := ?_) #[tt,tt,tt,tt,tt,tt,tt,tt,tt,tt,tt,tt,tt,tt,tt,tt,tt,tt,tt,tt,tt,tt,tt,ff,ff,ff,ff,ff,ff,ff,ff,ff] rfl rfl (by kernel_rfl) (fun _ _ _ h => h) (Or.inr ⟨by rfl, rfl⟩) ?_ ?_; rotate_left; (simp only [Act.put, List.setIfInBounds_toArray, List.set_cons_zero, List.set_cons_succ, i64_w, i32_w]; rfl)
          refine pure_ (i := 23) (N := some 45) (v := undef) (a' := ?_) #[tt,tt,tt,tt,tt,tt,tt,tt,tt,tt,tt,tt,tt,tt,tt,tt,tt,tt,tt,tt,tt,tt,tt,tt,ff,ff,ff,ff,ff,ff,ff,ff] rfl rfl (by kernel_rfl) (fun _ _ _ h => h) (Or.inr ⟨by rfl, rfl⟩) ?_ ?_; rotate_left; (simp only [Act.put, List.setIfInBounds_toArray, List.set_cons_zero, List.set_cons_succ, i64_w, i32_w]; rfl)
          refine pure_ (i := 24) (N := some 46) (v := undef) (a' := ?_) #[tt,tt,tt,tt,tt,tt,tt,tt,tt,tt,tt,tt,tt,tt,tt,tt,tt,tt,tt,tt,tt,tt,tt,tt,tt,ff,ff,ff,ff,ff,ff,ff] rfl rfl (by kernel_rfl) (fun _ _ _ h => h) (Or.inr ⟨by rfl, rfl⟩) ?_ ?_; rotate_left; (simp only [Act.put, List.setIfInBounds_toArray, List.set_cons_zero, List.set_cons_succ, i64_w, i32_w]; rfl)
          refine pure_ (i := 25) (N := some 47) (v := undef) (a' := ?_) #[tt,tt,tt,tt,tt,tt,tt,tt,tt,tt,tt,tt,tt,tt,tt,tt,tt,tt,tt,tt,tt,tt,tt,tt,tt,tt,ff,ff,ff,ff,ff,ff] rfl rfl (by kernel_rfl) (fun _ _ _ h => h) (Or.inr ⟨by rfl, rfl⟩) ?_ ?_; rotate_left; (simp only [Act.put, List.setIfInBounds_toArray, List.set_cons_zero, List.set_cons_succ, i64_w, i32_w]; rfl)
          refine pure_ (i := 26) (N := some 48) (v := undef) (a' := ?_) #[tt,tt,tt,tt,tt,tt,tt,tt,tt,tt,tt,tt,tt,tt,tt,tt,tt,tt,tt,tt,tt,tt,tt,tt,tt,tt,tt,ff,ff,ff,ff,ff] rfl rfl (by kernel_rfl) (fun _ _ _ h => h) (Or.inr ⟨by rfl, rfl⟩) ?_ ?_; rotate_left; (simp only [Act.put, List.setIfInBounds_toArray, List.set_cons_zero, List.set_cons_succ, i64_w, i32_w]; rfl)
          refine pure_ (i := 27) (N := some 49) (v := undef) (a' := ?_) #[tt,tt,tt,tt,tt,tt,tt,tt,tt,tt,tt,tt,tt,tt,tt,tt,tt,tt,tt,tt,tt,tt,tt,tt,tt,tt,tt,tt,ff,ff,ff,ff] rfl rfl (by kernel_rfl) (fun _ _ _ h => h) (Or.inr ⟨by rfl, rfl⟩) ?_ ?_; rotate_left; (simp only [Act.put, List.setIfInBounds_toArray, List.set_cons_zero, List.set_cons_succ, i64_w, i32_w]; rfl)
          refine pure_ (i := 28) (N := some 50) (v := undef) (a' := ?_) #[tt,tt,tt,tt,tt,tt,tt,tt,tt,tt,tt,tt,tt,tt,tt,tt,tt,tt,tt,tt,tt,tt,tt,tt,tt,tt,tt,tt,tt,ff,ff,ff] rfl rfl (by kernel_rfl) (fun _ _ _ h => h) (Or.inr ⟨by rfl, rfl⟩) ?_ ?_; rotate_left; (simp only [Act.put, List.setIfInBounds_toArray, List.set_cons_zero, List.set_cons_succ, i64_w, i32_w]; rfl)
          refine pure_ (i := 29) (N := some 51) (v := undef) (a' := ?_) #[tt,tt,tt,tt,tt,tt,tt,tt,tt,tt,tt,tt,tt,tt,tt,tt,tt,tt,tt,tt,tt,tt,tt,tt,tt,tt,tt,tt,tt,tt,ff,ff] rfl rfl (by kernel_rfl) (fun _ _ _ h => h) (Or.inr ⟨by rfl, rfl⟩) ?_ ?_; rotate_left; (simp only [Act.put, List.setIfInBounds_toArray, List.set_cons_zero, List.set_cons_succ, i64_w, i32_w]; rfl)
          refine pure_ (i := 30) (N := some 52) (v := undef) (a' := ?_) #[tt,tt,tt,tt,tt,tt,tt,tt,tt,tt,tt,tt,tt,tt,tt,tt,tt,tt,tt,tt,tt,tt,tt,tt,tt,tt,tt,tt,tt,tt,tt,ff] rfl rfl (by kernel_rfl) (fun _ _ _ h => h) (Or.inr ⟨by rfl, rfl⟩) ?_ ?_; rotate_left; (simp only [Act.put, List.setIfInBounds_toArray, List.set_cons_zero, List.set_cons_succ, i64_w, i32_w]; rfl)
          refine pure_ (i := 31) (N := some 53) (v := ?_) (a' := ?_) #[tt,tt,tt,tt,tt,tt,tt,tt,tt,tt,tt,tt,tt,tt,tt,tt,tt,tt,tt,tt,tt,tt,tt,tt,tt,tt,tt,tt,tt,tt,tt,tt] rfl rfl (by kernel_rfl) (fun _ _ _ h => h) (Or.inl ⟨by rfl, ?_⟩) ?_ ?_; rotate_left; (intro w'; go_simp; with_reducible rfl); rotate_left; (simp only [Act.put, List.setIfInBounds_toArray, List.set_cons_zero, List.set_cons_succ, i64_w, i32_w]; rfl)
          refine done_ (by kernel_rfl) ?_
          clear hal2 hHeld hcl
          go_wp2
          go_roundg gkI
          case measure => omega
          case rel => exact ⟨k + 1, bi, rfl, by go_num, by omega, by have := hf2.out; show _ = _; omega, HB2.out, HMd.out⟩
        | some r =>
          have hal : (a : Int) < (q.es.length : Int) := by have := (List.getElem?_eq_some_iff.1 hr).1; omega
          have HR := Lib.hid hr
          clear hr
          by_cases hbi : bi = -1
          · subst hbi
            have HB2 := Lib.hid (Bst.first hbst.out HQ.out.1 HQ.out.2 HR.out)
            go_wp2_with fail
            refine start_ (n := 32) (S := fun w' => w'.cell? ⟨gA, k, none⟩ = some (.int .i64 (a : Int))) (ds := []) #[ff,ff,ff,ff,ff,ff,ff,ff,ff,ff,ff,ff,ff,ff,ff,ff,ff,ff,ff,ff,ff,ff,ff,ff,ff,ff,ff,ff,ff,ff,ff,ff] (by kernel_rfl) rfl rfl (hc0) (fun hHeld => ?_)
            have HMd := Lib.hid (HMW.out.below ((Below.refl _ _).drew))
            have HEd : Hid (True) := trivial
            clear HMW hc0
            generalize wq.drew = wd at *
            refine pure_ (i := 0) (N := some 22) (v := ?_) (a' := ?_) #[tt,ff,ff,ff,ff,ff,ff,ff,ff,ff,ff,ff,ff,ff,ff,ff,ff,ff,ff,ff,ff,ff,ff,ff,ff,ff,ff,ff,ff,ff,ff,ff] rfl rfl (by kernel_rfl) (fun _ _ _ h => h) (Or.inl ⟨by rfl, ?_⟩) ?_ ?_; rotate_left; (intro w'; go_simp; with_reducible rfl); rotate_left; (simp only [Act.put, List.setIfInBounds_toArray, List.set_cons_zero, List.set_cons_succ, i64_w, i32_w]; rfl)
            refine pure_ (i := 1) (N := some 23) (v := ?_) (a' := ?_) #[tt,tt,ff,ff,ff,ff,ff,ff,ff,ff,ff,ff,ff,ff,ff,ff,ff,ff,ff,ff,ff,ff,ff,ff,ff,ff,ff,ff,ff,ff,ff,ff] rfl rfl (by kernel_rfl) (fun _ _ _ h => h) (Or.inl ⟨by rfl, ?_⟩) ?_ ?_; rotate_left; (intro w'; go_simp; with_reducible rfl); rotate_left; (simp only [Act.put, List.setIfInBounds_toArray, List.set_cons_zero, List.set_cons_succ, i64_w, i32_w]; rfl)
            refine pure_ (i := 2) (N := some 24) (v := ?_) (a' := ?_) #[tt,tt,tt,ff,ff,ff,ff,ff,ff,ff,ff,ff,ff,ff,ff,ff,ff,ff,ff,ff,ff,ff,ff,ff,ff,ff,ff,ff,ff,ff,ff,ff] rfl rfl (by kernel_rfl) (fun _ _ _ h => h) (Or.inl ⟨by rfl, ?_⟩) ?_ ?_; rotate_left; (intro w'; go_simp; with_reducible rfl); rotate_left; (simp only [Act.put, List.setIfInBounds_toArray, List.set_cons_zero, List.set_cons_succ, i64_w, i32_w]; rfl)
            refine take_ (i := 3) (N := some 25) (v := ?_) (a' := ?_) #[tt,tt,tt,tt,ff,ff,ff,ff,ff,ff,ff,ff,ff,ff,ff,ff,ff,ff,ff,ff,ff,ff,ff,ff,ff,ff,ff,ff,ff,ff,ff,ff] rfl rfl (by kernel_rfl) (fun _ _ _ h => h) (Or.inl ⟨by rfl, ?_⟩) hHeld ?_ ?_; rotate_left; (rintro w' h0; go_simp; with_reducible rfl); rotate_left; (simp only [Act.put, List.setIfInBounds_toArray, List.set_cons_zero, List.set_cons_succ, i64_w, i32_w]; rfl)
            refine pure_ (i := 4) (N := some 26) (v := ?_) (a' := ?_) #[tt,tt,tt,tt,tt,ff,ff,ff,ff,ff,ff,ff,ff,ff,ff,ff,ff,ff,ff,ff,ff,ff,ff,ff,ff,ff,ff,ff,ff,ff,ff,ff] rfl rfl (by kernel_rfl) (fun _ _ _ h => h) (Or.inl ⟨by rfl, ?_⟩) ?_ ?_; rotate_left; (intro w'; go_simp; with_reducible rfl); rotate_left; (simp only [Act.put, List.setIfInBounds_toArray, List.set_cons_zero, List.set_cons_succ, i64_w, i32_w]; rfl)
            refine pure_ (i := 5) (N := some 27) (v := ?_) (a' := ?_) #[tt,tt,tt,tt,tt,tt,ff,ff,ff,ff,ff,ff,ff,ff,ff,ff,ff,ff,ff,ff,ff,ff,ff,ff,ff,ff,ff,ff,ff,ff,ff,ff] rfl rfl (by kernel_rfl) (fun _ _ _ h => h) (Or.inl ⟨by rfl, ?_⟩) ?_ ?_; rotate_left; (intro w'; go_simp; with_reducible rfl); rotate_left; (simp only [Act.put, List.setIfInBounds_toArray, List.set_cons_zero, List.set_cons_succ, i64_w, i32_w]; rfl)
            refine pure_ (i := 6) (N := some 28) (v := ?_) (a' := ?_) #[tt,tt,tt,tt,tt,tt,tt,ff,ff,ff,ff,ff,ff,ff,ff,ff,ff,ff,ff,ff,ff,ff,ff,ff,ff,ff,ff,ff,ff,ff,ff,ff] rfl rfl (by kernel_rfl) (fun _ _ _ h => h) (Or.inl ⟨by rfl, ?_⟩) ?_ ?_; rotate_left; (intro w'; go_simp; with_reducible rfl); rotate_left; (simp only [Act.put, List.setIfInBounds_toArray, List.set_cons_zero, List.set_cons_succ, i64_w, i32_w]; rfl)
            refine pure_ (i := 7) (N := some 29) (v := ?_) (a' := ?_) #[tt,tt,tt,tt,tt,tt,tt,tt,ff,ff,ff,ff,ff,ff,ff,ff,ff,ff,ff,ff,ff,ff,ff,ff,ff,ff,ff,ff,ff,ff,ff,ff] rfl rfl (by kernel_rfl) (fun _ _ _ h => h) (Or.inl ⟨by rfl, ?_⟩) ?_ ?_; rotate_left; (intro w'; go_simp; with_reducible rfl); rotate_left; (simp only [Act.put, List.setIfInBounds_toArray, List.set_cons_zero, List.set_cons_succ, i64_w, i32_w]; rfl)
            refine pure_ (i := 8) (N := some 30) (v := ?_) (a' := ?_) #[tt,tt,tt,tt,tt,tt,tt,tt,tt,ff,ff,ff,ff,ff,ff,ff,ff,ff,ff,ff,ff,ff,ff,ff,ff,ff,ff,ff,ff,ff,ff,ff] rfl rfl (by kernel_rfl) (fun _ _ _ h => h) (Or.inl ⟨by rfl, ?_⟩) ?_ ?_; rotate_left; (intro w'; go_simp; with_reducible rfl); rotate_left; (simp only [Act.put, List.setIfInBounds_toArray, List.set_cons_zero, List.set_cons_succ, i64_w, i32_w]; rfl)
            refine pure_ (i := 9) (N := some 31) (v := ?_) (a' := ?_) #[tt,tt,tt,tt,tt,tt,tt,tt,tt,tt,ff,ff,ff,ff,ff,ff,ff,ff,ff,ff,ff,ff,ff,ff,ff,ff,ff,ff,ff,ff,ff,ff] rfl rfl (by kernel_rfl) (fun _ _ _ h => h) (Or.inl ⟨by rfl, ?_⟩) ?_ ?_; rotate_left; (intro w'; go_simp; with_reducible rfl); rotate_left; (simp only [Act.put, List.setIfInBounds_toArray, List.set_cons_zero, List.set_cons_succ, i64_w, i32_w]; rfl)
            refine pure_ (i := 10) (N := some 32) (v := ?_) (a' := ?_) #[tt,tt,tt,tt,tt,tt,tt,tt,tt,tt,tt,ff,ff,ff,ff,ff,ff,ff,ff,ff,ff,ff,ff,ff,ff,ff,ff,ff,ff,ff,ff,ff] rfl rfl (by kernel_rfl) (fun _ _ _ h => h) (Or.inl ⟨by rfl, ?_⟩) ?_ ?_; rotate_left; (intro w'; go_simp; with_reducible rfl); rotate_left; (simp only [Act.put, List.setIfInBounds_toArray, List.set_cons_zero, List.set_cons_succ, i64_w, i32_w]; rfl)
            refine pure_ (i := 11) (N := some 33) (v := undef) (a' := ?_) #[tt,tt,tt,tt,tt,tt,tt,tt,tt,tt,tt,tt,ff,ff,ff,ff,ff,ff,ff,ff,ff,ff,ff,ff,ff,ff,ff,ff,ff,ff,ff,ff] rfl rfl (by kernel_rfl) (fun _ _ _ h => h) (Or.inr ⟨by rfl, rfl⟩) ?_ ?_; rotate_left; (simp only [Act.put, List.setIfInBounds_toArray, List.set_cons_zero, List.set_cons_succ, i64_w, i32_w]; rfl)
            refine pure_ (i := 12) (N := some 34) (v := undef) (a' := ?_) #[tt,tt,tt,tt,tt,tt,tt,tt,tt,tt,tt,tt,tt,ff,ff,ff,ff,ff,ff,ff,ff,ff,ff,ff,ff,ff,ff,ff,ff,ff,ff,ff] rfl rfl (by kernel_rfl) (fun _ _ _ h => h) (Or.inr ⟨by rfl, rfl⟩) ?_ ?_; rotate_left; (simp only [Act.put, List.setIfInBounds_toArray, List.set_cons_zero, List.set_cons_succ, i64_w, i32_w]; rfl)
            refine pure_ (i := 13) (N := some 35) (v := undef) (a' := ?_) #[tt,tt,tt,tt,tt,tt,tt,tt,tt,tt,tt,tt,tt,tt,ff,ff,ff,ff,ff,ff,ff,ff,ff,ff,ff,ff,ff,ff,ff,ff,ff,ff] rfl rfl (by kernel_rfl) (fun _ _ _ h => h) (Or.inr ⟨by rfl, rfl⟩) ?_ ?_; rotate_left; (simp only [Act.put, List.setIfInBounds_toArray, List.set_cons_zero, List.set_cons_succ, i64_w, i32_w]; rfl)
            refine pure_ (i := 14) (N := some 36) (v := undef) (a' := ?_) #[tt,tt,tt,tt,tt,tt,tt,tt,tt,tt,tt,tt,tt,tt,tt,ff,ff,ff,ff,ff,ff,ff,ff,ff,ff,ff,ff,ff,ff,ff,ff,ff] rfl rfl (by kernel_rfl) (fun _ _ _ h => h) (Or.inr ⟨by rfl, rfl⟩) ?_ ?_; rotate_left; (simp only [Act.put, List.setIfInBounds_toArray, List.set_cons_zero, List.set_cons_succ, i64_w, i32_w]; rfl)
            refine pure_ (i := 15) (N := some 37) (v := undef) (a' := ?_) #[tt,tt,tt,tt,tt,tt,tt,tt,tt,tt,tt,tt,tt,tt,tt,tt,ff,ff,ff,ff,ff,ff,ff,ff,ff,ff,ff,ff,ff,ff,ff,ff] rfl rfl (by kernel_rfl) (fun _ _ _ h => h) (Or.inr ⟨by rfl, rfl⟩) ?_ ?_; rotate_left; (simp only [Act.put, List.setIfInBounds_toArray, List.set_cons_zero, List.set_cons_succ, i64_w, i32_w]; rfl)
            refine pure_ (i := 16) (N := some 38) (v := undef) (a' := ?_) #[tt,tt,tt,tt,tt,tt,tt,tt,tt,tt,tt,tt,tt,tt,tt,tt,tt,ff,ff,ff,ff,ff,ff,ff,ff,ff,ff,ff,ff,ff,ff,ff] rfl rfl (by kernel_rfl) (fun _ _ _ h => h) (Or.inr ⟨by rfl, rfl⟩) ?_ ?_; rotate_left; (simp only [Act.put, List.setIfInBounds_toArray, List.set_cons_zero, List.set_cons_succ, i64_w, i32_w]; rfl)
            refine pure_ (i := 17) (N := some 39) (v := undef) (a' := ?_) #[tt,tt,tt,tt,tt,tt,tt,tt,tt,tt,tt,tt,tt,tt,tt,tt,tt,tt,ff,ff,ff,ff,ff,ff,ff,ff,ff,ff,ff,ff,ff,ff] rfl rfl (by kernel_rfl) (fun _ _ _ h => h) (Or.inr ⟨by rfl, rfl⟩) ?_ ?_; rotate_left; (simp only [Act.put, List.setIfInBounds_toArray, List.set_cons_zero, List.set_cons_succ, i64_w, i32_w]; rfl)
            refine pure_ (i := 18) (N := some 40) (v := undef) (a' := ?_) #[tt,tt,tt,tt,tt,tt,tt,tt,tt,tt,tt,tt,tt,tt,tt,tt,tt,tt,tt,ff,ff,ff,ff,ff,ff,ff,ff,ff,ff,ff,ff,ff] rfl rfl (by kernel_rfl) (fun _ _ _ h => h) (Or.inr ⟨by rfl, rfl⟩) ?_ ?_; rotate_left; (simp only [Act.put, List.setIfInBounds_toArray, List.set_cons_zero, List.set_cons_succ, i64_w, i32_w]; rfl)
            refine pure_ (i := 19) (N := some 41) (v := undef) (a' := ?_) #[tt,tt,tt,tt,tt,tt,tt,tt,tt,tt,tt,tt,tt,tt,tt,tt,tt,tt,tt,tt,ff,ff,ff,ff,ff,ff,ff,ff,ff,ff,ff,ff] rfl rfl (by kernel_rfl) (fun _ _ _ h => h) (Or.inr ⟨by rfl, rfl⟩) ?_ ?_; rotate_left; (simp only [Act.put, List.setIfInBounds_toArray, List.set_cons_zero, List.set_cons_succ, i64_w, i32_w]; rfl)
            refine pure_ (i := 20) (N := some 42) (v := undef) (a' := ?_) #[tt,tt,tt,tt,tt,tt,tt,tt,tt,tt,tt,tt,tt,tt,tt,tt,tt,tt,tt,tt,tt,ff,ff,ff,ff,ff,ff,ff,ff,ff,ff,ff] rfl rfl (by kernel_rfl) (fun _ _ _ h => h) (Or.inr ⟨by rfl, rfl⟩) ?_ ?_; rotate_left; (simp only [Act.put, List.setIfInBounds_toArray, List.set_cons_zero, List.set_cons_succ, i64_w, i32_w]; rfl)
            refine pure_ (i := 21) (N := some 43) (v := undef) (a' := ?_) #[tt,tt,tt,tt,tt,tt,tt,tt,tt,tt,tt,tt,tt,tt,tt,tt,tt,tt,tt,tt,tt,tt,ff,ff,ff,ff,ff,ff,ff,ff,ff,ff] rfl rfl (by kernel_rfl) (fun _ _ _ h => h) (Or.inr ⟨by rfl, rfl⟩) ?_ ?_; rotate_left; (simp only [Act.put, List.setIfInBounds_toArray, List.set_cons_zero, List.set_cons_succ, i64_w, i32_w]; rfl)
            refine pure_ (i := 22) (N := some 44) (v := undef) (a' := ?_) #[tt,tt,tt,tt,tt,tt,tt,tt,tt,tt,tt,tt,tt,tt,tt,tt,tt,tt,tt,tt,tt,tt,tt,ff,ff,ff,ff,ff,ff,ff,ff,ff] rfl rfl (by kernel_rfl) (fun _ _ _ h => h) (Or.inr ⟨by rfl, rfl⟩) ?_ ?_; rotate_left; (simp only [Act.put, List.setIfInBounds_toArray, List.set_cons_zero, List.set_cons_succ, i64_w, i32_w]; rfl)
            refine pure_ (i := 23) (N := some 45) (v := undef) (a' := ?_) #[tt,tt,tt,tt,tt,tt,tt,tt,tt,tt,tt,tt,tt,tt,tt,tt,tt,tt,tt,tt,tt,tt,tt,tt,ff,ff,ff,ff,ff,ff,ff,ff] rfl rfl (by kernel_rfl) (fun _ _ _ h => h) (Or.inr ⟨by rfl, rfl⟩) ?_ ?_; rotate_left; (simp only [Act.put, List.setIfInBounds_toArray, List.set_cons_zero, List.set_cons_succ, i64_w, i32_w]; rfl)
            refine pure_ (i := 24) (N := some 46) (v := undef) (a' := ?_) #[tt,tt,tt,tt,tt,tt,tt,tt,tt,tt,tt,tt,tt,tt,tt,tt,tt,tt,tt,tt,tt,tt,tt,tt,tt,ff,ff,ff,ff,ff,ff,ff] rfl rfl (by kernel_rfl) (fun _ _ _ h => h) (Or.inr ⟨by rfl, rfl⟩) ?_ ?_; rotate_left; (simp only [Act.put, List.setIfInBounds_toArray, List.set_cons_zero, List.set_cons_succ, i64_w, i32_w]; rfl)
            refine pure_ (i := 25) (N := some 47) (v := undef) (a' := ?_) #[tt,tt,tt,tt,tt,tt,tt,tt,tt,tt,tt,tt,tt,tt,tt,tt,tt,tt,tt,tt,tt,tt,tt,tt,tt,tt,ff,ff,ff,ff,ff,ff] rfl rfl (by kernel_rfl) (fun _ _ _ h => h) (Or.inr ⟨by rfl, rfl⟩) ?_ ?_; rotate_left; (simp only [Act.put, List.setIfInBounds_toArray, List.set_cons_zero, List.set_cons_succ, i64_w, i32_w]; rfl)
            refine pure_ (i := 26) (N := some 48) (v := undef) (a' := ?_) #[tt,tt,tt,tt,tt,tt,tt,tt,tt,tt,tt,tt,tt,tt,tt,tt,tt,tt,tt,tt,tt,tt,tt,tt,tt,tt,tt,ff,ff,ff,ff,ff] rfl rfl (by kernel_rfl) (fun _ _ _ h => h) (Or.inr ⟨by rfl, rfl⟩) ?_ ?_; rotate_left; (simp only [Act.put, List.setIfInBounds_toArray, List.set_cons_zero, List.set_cons_succ, i64_w, i32_w]; rfl)
            refine pure_ (i := 27) (N := some 49) (v := undef) (a' := ?_) #[tt,tt,tt,tt,tt,tt,tt,tt,tt,tt,tt,tt,tt,tt,tt,tt,tt,tt,tt,tt,tt,tt,tt,tt,tt,tt,tt,tt,ff,ff,ff,ff] rfl rfl (by kernel_rfl) (fun _ _ _ h => h) (Or.inr ⟨by rfl, rfl⟩) ?_ ?_; rotate_left; (simp only [Act.put, List.setIfInBounds_toArray, List.set_cons_zero, List.set_cons_succ, i64_w, i32_w]; rfl)
            refine pure_ (i := 28) (N := some 50) (v := undef) (a' := ?_) #[tt,tt,tt,tt,tt,tt,tt,tt,tt,tt,tt,tt,tt,tt,tt,tt,tt,tt,tt,tt,tt,tt,tt,tt,tt,tt,tt,tt,tt,ff,ff,ff] rfl rfl (by kernel_rfl) (fun _ _ _ h => h) (Or.inr ⟨by rfl, rfl⟩) ?_ ?_; rotate_left; (simp only [Act.put, List.setIfInBounds_toArray, List.set_cons_zero, List.set_cons_succ, i64_w, i32_w]; rfl)
            refine pure_ (i := 29) (N := some 51) (v := undef) (a' := ?_) #[tt,tt,tt,tt,tt,tt,tt,tt,tt,tt,tt,tt,tt,tt,tt,tt,tt,tt,tt,tt,tt,tt,tt,tt,tt,tt,tt,tt,tt,tt,ff,ff] rfl rfl (by kernel_rfl) (fun _ _ _ h => h) (Or.inr ⟨by rfl, rfl⟩) ?_ ?_; rotate_left; (simp only [Act.put, List.setIfInBounds_toArray, List.set_cons_zero, List.set_cons_succ, i64_w, i32_w]; rfl)
            refine pure_ (i := 30) (N := some 52) (v := ?_) (a' := ?_) #[tt,tt,tt,tt,tt,tt,tt,tt,tt,tt,tt,tt,tt,tt,tt,tt,tt,tt,tt,tt,tt,tt,tt,tt,tt,tt,tt,tt,tt,tt,tt,ff] rfl rfl (by kernel_rfl) (fun _ _ _ h => h) (Or.inl ⟨by rfl, ?_⟩) ?_ ?_; rotate_left; (intro w'; go_simp; with_reducible rfl); rotate_left; (simp only [Act.put, List.setIfInBounds_toArray, List.set_cons_zero, List.set_cons_succ, i64_w, i32_w]; rfl)
            refine pure_ (i := 31) (N := some 53) (v := ?_) (a' := ?_) #[tt,tt,tt,tt,tt,tt,tt,tt,tt,tt,tt,tt,tt,tt,tt,tt,tt,tt,tt,tt,tt,tt,tt,tt,tt,tt,tt,tt,tt,tt,tt,tt] rfl rfl (by kernel_rfl) (fun _ _ _ h => h) (Or.inl ⟨by rfl, ?_⟩) ?_ ?_; rotate_left; (intro w'; go_simp; with_reducible rfl); rotate_left; (simp only [Act.put, List.setIfInBounds_toArray, List.set_cons_zero, List.set_cons_succ, i64_w, i32_w]; rfl)
            refine done_ (by kernel_rfl) ?_
            clear hHeld hcl
            go_wp2
            go_roundg gkI
            case measure => omega
            case rel => exact ⟨k + 1, (k : Int), rfl, by go_num, by omega, by have := hf2.out; show _ = _; omega, HB2.out, HMd.out⟩
          · obtain ⟨j, qj, b, rj, hj, hq2, ha2, hr2, hbb, rfl⟩ : ∃ j q a r, j < k ∧ ls[j]? = some q ∧ at_[j]? = some a ∧ q.es[a]? = some r ∧ best ((restE ls at_).take k) = some r.e ∧ bi = (j : Int) := by
              rcases hbst.out with h | h
              · exact absurd h.2 hbi
              · exact h
            obtain ⟨hc2, hersj⟩ := HMW.out.in_ HA.out hq2
            have hc1 : wq.cell? ⟨gA, j, none⟩ = some (.int .i64 (b : Int)) := HMW.out.blk.at_ (natC_at ha2)
            have hbl : (b : Int) < (qj.es.length : Int) := by have := (List.getElem?_eq_some_iff.1 hr2).1; omega
            obtain ⟨gk, ok, hgk⟩ := HERS.out.addr6 (by omega)
            obtain ⟨gj, oj, hgj⟩ := hersj.addr6 (by omega)
            have hq1A : q.A = some ⟨gk, ok, none⟩ := hgk
            have hs1 : Six gk (ok + a * 6) r wq := by have h := HERS.out; rw [hgk] at h; exact h.six HR.out
            have hs2 : Six gj (oj + b * 6) rj wq := by have h := hersj; rw [hgj] at h; exact h.six hr2
            have HRI := Lib.hid (HERS.out.each r (List.mem_of_getElem? HR.out))
            have HRJ := Lib.hid (hersj.each rj (List.mem_of_getElem? hr2))
            have hrn : r.nk ≤ 1000 := HNK.out q (List.mem_of_getElem? HQ.out.1) r (List.mem_of_getElem? HR.out)
            have hrjn : rj.nk ≤ 1000 := HNK.out qj (List.mem_of_getElem? hq2) rj (List.mem_of_getElem? hr2)
            have hjn : ((j : Int)) < (n : Int) := by omega
            have hj0 : decide ((j : Int) < 0) = false := decide_eq_false (by omega)
            have HBJ : Hid (j < k ∧ ls[j]? = some qj ∧ at_[j]? = some b ∧ qj.es[b]? = some rj ∧ best ((restE ls at_).take k) = some rj.e) := ⟨hj, hq2, ha2, hr2, hbb⟩
            have h3 : orderL r.e.k r.e.v rj.e.k rj.e.v = -1 ∨ orderL r.e.k r.e.v rj.e.k rj.e.v = 0 ∨ orderL r.e.k r.e.v rj.e.k rj.e.v = 1 := orderL_three _ _ _ _
            have HHH := Lib.hid h3
            obtain ⟨qA, qc, qes⟩ := q
            obtain ⟨qjA, qjc, qjes⟩ := qj
            replace hq1A : qA = some ⟨gk, ok, none⟩ := hq1A
            replace hgj : qjA = some ⟨gj, oj, none⟩ := hgj
            subst hq1A
            subst hgj
            replace hc2 : wq.cell? ⟨gl, ol + j, none⟩ = some (.slice (some ⟨gj, oj, none⟩) qjes.length qjc) := hc2
            replace hcl : wq.cell? ⟨gl, ol + k, none⟩ = some (.slice (some ⟨gk, ok, none⟩) qes.length qc) := hcl
            replace hal : (a : Int) < (qes.length : Int) := hal
            replace hbl : (b : Int) < (qjes.length : Int) := hbl
            replace hel : qes.length ≤ 80 := hel
            clear hj hq2 ha2 hr2 hbb hersj hgk hbi h3 HERS hbst
            go_wp2_with fail
            refine start_ (n := 32) (S := MgA gA k a gA j b gl ol (.slice (some ⟨gj, oj, none⟩) qjes.length qjc) gk (ok + a * 6) gj (oj + b * 6) r rj) (ds := []) #[ff,ff,ff,ff,ff,ff,ff,ff,ff,ff,ff,ff,ff,ff,ff,ff,ff,ff,ff,ff,ff,ff,ff,ff,ff,ff,ff,ff,ff,ff,ff,ff] (by kernel_rfl) rfl rfl (⟨hc0, hc1, hc2, hs1, hs2⟩) (fun hHeld => ?_)
            have HMd := Lib.hid (HMW.out.below ((Below.refl _ _).drew))
            have HEd : Hid (r.In wq.drew ∧ rj.In wq.drew) := ⟨HRI.out.drewN 1, HRJ.out.drewN 1⟩
            clear HMW HRI HRJ hc0 hc1 hc2 hs1 hs2
            generalize wq.drew = wd at *
            refine pure_ (i := 0) (N := some 22) (v := ?_) (a' := ?_) #[tt,ff,ff,ff,ff,ff,ff,ff,ff,ff,ff,ff,ff,ff,ff,ff,ff,ff,ff,ff,ff,ff,ff,ff,ff,ff,ff,ff,ff,ff,ff,ff] rfl rfl (by kernel_rfl) (fun _ _ _ h => h) (Or.inl ⟨by rfl, ?_⟩) ?_ ?_; rotate_left; (intro w'; go_simp; with_reducible rfl); rotate_left; (simp only [Act.put, List.setIfInBounds_toArray, List.set_cons_zero, List.set_cons_succ, i64_w, i32_w]; rfl)
            refine pure_ (i := 1) (N := some 23) (v := ?_) (a' := ?_) #[tt,tt,ff,ff,ff,ff,ff,ff,ff,ff,ff,ff,ff,ff,ff,ff,ff,ff,ff,ff,ff,ff,ff,ff,ff,ff,ff,ff,ff,ff,ff,ff] rfl rfl (by kernel_rfl) (fun _ _ _ h => h) (Or.inl ⟨by rfl, ?_⟩) ?_ ?_; rotate_left; (intro w'; go_simp; with_reducible rfl); rotate_left; (simp only [Act.put, List.setIfInBounds_toArray, List.set_cons_zero, List.set_cons_succ, i64_w, i32_w]; rfl)
            refine pure_ (i := 2) (N := some 24) (v := ?_) (a' := ?_) #[tt,tt,tt,ff,ff,ff,ff,ff,ff,ff,ff,ff,ff,ff,ff,ff,ff,ff,ff,ff,ff,ff,ff,ff,ff,ff,ff,ff,ff,ff,ff,ff] rfl rfl (by kernel_rfl) (fun _ _ _ h => h) (Or.inl ⟨by rfl, ?_⟩) ?_ ?_; rotate_left; (intro w'; go_simp; with_reducible rfl); rotate_left; (simp only [Act.put, List.setIfInBounds_toArray, List.set_cons_zero, List.set_cons_succ, i64_w, i32_w]; rfl)
            refine take_ (i := 3) (N := some 25) (v := ?_) (a' := ?_) #[tt,tt,tt,tt,ff,ff,ff,ff,ff,ff,ff,ff,ff,ff,ff,ff,ff,ff,ff,ff,ff,ff,ff,ff,ff,ff,ff,ff,ff,ff,ff,ff] rfl rfl (by kernel_rfl) (fun _ _ _ h => h) (Or.inl ⟨by rfl, ?_⟩) hHeld ?_ ?_; rotate_left; (rintro w' ⟨h0, h1, h2, ⟨h3, h4, h5, h6, h7, h8⟩, h9, h10, h11, h12, h13, h14⟩; go_simp; with_reducible rfl); rotate_left; (simp only [Act.put, List.setIfInBounds_toArray, List.set_cons_zero, List.set_cons_succ, i64_w, i32_w]; rfl)
            refine pure_ (i := 4) (N := some 26) (v := ?_) (a' := ?_) #[tt,tt,tt,tt,tt,ff,ff,ff,ff,ff,ff,ff,ff,ff,ff,ff,ff,ff,ff,ff,ff,ff,ff,ff,ff,ff,ff,ff,ff,ff,ff,ff] rfl rfl (by kernel_rfl) (fun _ _ _ h => h) (Or.inl ⟨by rfl, ?_⟩) ?_ ?_; rotate_left; (intro w'; go_simp; with_reducible rfl); rotate_left; (simp only [Act.put, List.setIfInBounds_toArray, List.set_cons_zero, List.set_cons_succ, i64_w, i32_w]; rfl)
            refine pure_ (i := 5) (N := some 27) (v := ?_) (a' := ?_) #[tt,tt,tt,tt,tt,tt,ff,ff,ff,ff,ff,ff,ff,ff,ff,ff,ff,ff,ff,ff,ff,ff,ff,ff,ff,ff,ff,ff,ff,ff,ff,ff] rfl rfl (by kernel_rfl) (fun _ _ _ h => h) (Or.inl ⟨by rfl, ?_⟩) ?_ ?_; rotate_left; (intro w'; go_simp; with_reducible rfl); rotate_left; (simp only [Act.put, List.setIfInBounds_toArray, List.set_cons_zero, List.set_cons_succ, i64_w, i32_w]; rfl)
            refine pure_ (i := 6) (N := some 28) (v := ?_) (a' := ?_) #[tt,tt,tt,tt,tt,tt,tt,ff,ff,ff,ff,ff,ff,ff,ff,ff,ff,ff,ff,ff,ff,ff,ff,ff,ff,ff,ff,ff,ff,ff,ff,ff] rfl rfl (by kernel_rfl) (fun _ _ _ h => h) (Or.inl ⟨by rfl, ?_⟩) ?_ ?_; rotate_left; (intro w'; go_simp; with_reducible rfl); rotate_left; (simp only [Act.put, List.setIfInBounds_toArray, List.set_cons_zero, List.set_cons_succ, i64_w, i32_w]; rfl)
            refine pure_ (i := 7) (N := some 29) (v := ?_) (a' := ?_) #[tt,tt,tt,tt,tt,tt,tt,tt,ff,ff,ff,ff,ff,ff,ff,ff,ff,ff,ff,ff,ff,ff,ff,ff,ff,ff,ff,ff,ff,ff,ff,ff] rfl rfl (by kernel_rfl) (fun _ _ _ h => h) (Or.inl ⟨by rfl, ?_⟩) ?_ ?_; rotate_left; (intro w'; go_simp; with_reducible rfl); rotate_left; (simp only [Act.put, List.setIfInBounds_toArray, List.set_cons_zero, List.set_cons_succ, i64_w, i32_w]; rfl)
            refine pure_ (i := 8) (N := some 30) (v := ?_) (a' := ?_) #[tt,tt,tt,tt,tt,tt,tt,tt,tt,ff,ff,ff,ff,ff,ff,ff,ff,ff,ff,ff,ff,ff,ff,ff,ff,ff,ff,ff,ff,ff,ff,ff] rfl rfl (by kernel_rfl) (fun _ _ _ h => h) (Or.inl ⟨by rfl, ?_⟩) ?_ ?_; rotate_left; (intro w'; go_simp; with_reducible rfl); rotate_left; (simp only [Act.put, List.setIfInBounds_toArray, List.set_cons_zero, List.set_cons_succ, i64_w, i32_w]; rfl)
            refine pure_ (i := 9) (N := some 31) (v := ?_) (a' := ?_) #[tt,tt,tt,tt,tt,tt,tt,tt,tt,tt,ff,ff,ff,ff,ff,ff,ff,ff,ff,ff,ff,ff,ff,ff,ff,ff,ff,ff,ff,ff,ff,ff] rfl rfl (by kernel_rfl) (fun _ _ _ h => h) (Or.inl ⟨by rfl, ?_⟩) ?_ ?_; rotate_left; (intro w'; go_simp; with_reducible rfl); rotate_left; (simp only [Act.put, List.setIfInBounds_toArray, List.set_cons_zero, List.set_cons_succ, i64_w, i32_w]; rfl)
            refine pure_ (i := 10) (N := some 32) (v := ?_) (a' := ?_) #[tt,tt,tt,tt,tt,tt,tt,tt,tt,tt,tt,ff,ff,ff,ff,ff,ff,ff,ff,ff,ff,ff,ff,ff,ff,ff,ff,ff,ff,ff,ff,ff] rfl rfl (by kernel_rfl) (fun _ _ _ h => h) (Or.inl ⟨by rfl, ?_⟩) ?_ ?_; rotate_left; (intro w'; go_simp; with_reducible rfl); rotate_left; (simp only [Act.put, List.setIfInBounds_toArray, List.set_cons_zero, List.set_cons_succ, i64_w, i32_w]; rfl)
            refine pure_ (i := 11) (N := some 33) (v := ?_) (a' := ?_) #[tt,tt,tt,tt,tt,tt,tt,tt,tt,tt,tt,tt,ff,ff,ff,ff,ff,ff,ff,ff,ff,ff,ff,ff,ff,ff,ff,ff,ff,ff,ff,ff] rfl rfl (by kernel_rfl) (fun _ _ _ h => h) (Or.inl ⟨by rfl, ?_⟩) ?_ ?_; rotate_left; (intro w'; go_simp; with_reducible rfl); rotate_left; (simp only [Act.put, List.setIfInBounds_toArray, List.set_cons_zero, List.set_cons_succ, i64_w, i32_w]; rfl)
            refine pure_ (i := 12) (N := some 34) (v := ?_) (a' := ?_) #[tt,tt,tt,tt,tt,tt,tt,tt,tt,tt,tt,tt,tt,ff,ff,ff,ff,ff,ff,ff,ff,ff,ff,ff,ff,ff,ff,ff,ff,ff,ff,ff] rfl rfl (by kernel_rfl) (fun _ _ _ h => h) (Or.inl ⟨by rfl, ?_⟩) ?_ ?_; rotate_left; (intro w'; go_simp; with_reducible rfl); rotate_left; (simp only [Act.put, List.setIfInBounds_toArray, List.set_cons_zero, List.set_cons_succ, i64_w, i32_w]; rfl)
            refine pure_ (i := 13) (N := some 35) (v := ?_) (a' := ?_) #[tt,tt,tt,tt,tt,tt,tt,tt,tt,tt,tt,tt,tt,tt,ff,ff,ff,ff,ff,ff,ff,ff,ff,ff,ff,ff,ff,ff,ff,ff,ff,ff] rfl rfl (by kernel_rfl) (fun _ _ _ h => h) (Or.inl ⟨by rfl, ?_⟩) ?_ ?_; rotate_left; (intro w'; go_simp; with_reducible rfl); rotate_left; (simp only [Act.put, List.setIfInBounds_toArray, List.set_cons_zero, List.set_cons_succ, i64_w, i32_w]; rfl)
            refine pure_ (i := 14) (N := some 36) (v := ?_) (a' := ?_) #[tt,tt,tt,tt,tt,tt,tt,tt,tt,tt,tt,tt,tt,tt,tt,ff,ff,ff,ff,ff,ff,ff,ff,ff,ff,ff,ff,ff,ff,ff,ff,ff] rfl rfl (by kernel_rfl) (fun _ _ _ h => h) (Or.inl ⟨by rfl, ?_⟩) ?_ ?_; rotate_left; (intro w'; go_simp; with_reducible rfl); rotate_left; (simp only [Act.put, List.setIfInBounds_toArray, List.set_cons_zero, List.set_cons_succ, i64_w, i32_w]; rfl)
            refine take_ (i := 15) (N := some 37) (v := ?_) (a' := ?_) #[tt,tt,tt,tt,tt,tt,tt,tt,tt,tt,tt,tt,tt,tt,tt,tt,ff,ff,ff,ff,ff,ff,ff,ff,ff,ff,ff,ff,ff,ff,ff,ff] rfl rfl (by kernel_rfl) (fun _ _ _ h => h) (Or.inl ⟨by rfl, ?_⟩) hHeld ?_ ?_; rotate_left; (rintro w' ⟨h0, h1, h2, ⟨h3, h4, h5, h6, h7, h8⟩, h9, h10, h11, h12, h13, h14⟩; go_simp; with_reducible rfl); rotate_left; (simp only [Act.put, List.setIfInBounds_toArray, List.set_cons_zero, List.set_cons_succ, i64_w, i32_w]; rfl)
            refine pure_ (i := 16) (N := some 38) (v := ?_) (a' := ?_) #[tt,tt,tt,tt,tt,tt,tt,tt,tt,tt,tt,tt,tt,tt,tt,tt,tt,ff,ff,ff,ff,ff,ff,ff,ff,ff,ff,ff,ff,ff,ff,ff] rfl rfl (by kernel_rfl) (fun _ _ _ h => h) (Or.inl ⟨by rfl, ?_⟩) ?_ ?_; rotate_left; (intro w'; go_simp; with_reducible rfl); rotate_left; (simp only [Act.put, List.setIfInBounds_toArray, List.set_cons_zero, List.set_cons_succ, i64_w, i32_w]; rfl)
            refine take_ (i := 17) (N := some 39) (v := ?_) (a' := ?_) #[tt,tt,tt,tt,tt,tt,tt,tt,tt,tt,tt,tt,tt,tt,tt,tt,tt,tt,ff,ff,ff,ff,ff,ff,ff,ff,ff,ff,ff,ff,ff,ff] rfl rfl (by kernel_rfl) (fun _ _ _ h => h) (Or.inl ⟨by rfl, ?_⟩) hHeld ?_ ?_; rotate_left; (rintro w' ⟨h0, h1, h2, ⟨h3, h4, h5, h6, h7, h8⟩, h9, h10, h11, h12, h13, h14⟩; go_simp; with_reducible rfl); rotate_left; (simp only [Act.put, List.setIfInBounds_toArray, List.set_cons_zero, List.set_cons_succ, i64_w, i32_w]; rfl)
            refine pure_ (i := 18) (N := some 40) (v := ?_) (a' := ?_) #[tt,tt,tt,tt,tt,tt,tt,tt,tt,tt,tt,tt,tt,tt,tt,tt,tt,tt,tt,ff,ff,ff,ff,ff,ff,ff,ff,ff,ff,ff,ff,ff] rfl rfl (by kernel_rfl) (fun _ _ _ h => h) (Or.inl ⟨by rfl, ?_⟩) ?_ ?_; rotate_left; (intro w'; go_simp; with_reducible rfl); rotate_left; (simp only [Act.put, List.setIfInBounds_toArray, List.set_cons_zero, List.set_cons_succ, i64_w, i32_w]; rfl)
            refine pure_ (i := 19) (N := some 41) (v := ?_) (a' := ?_) #[tt,tt,tt,tt,tt,tt,tt,tt,tt,tt,tt,tt,tt,tt,tt,tt,tt,tt,tt,tt,ff,ff,ff,ff,ff,ff,ff,ff,ff,ff,ff,ff] rfl rfl (by kernel_rfl) (fun _ _ _ h => h) (Or.inl ⟨by rfl, ?_⟩) ?_ ?_; rotate_left; (intro w'; go_simp; with_reducible rfl); rotate_left; (simp only [Act.put, List.setIfInBounds_toArray, List.set_cons_zero, List.set_cons_succ, i64_w, i32_w]; rfl)
            refine pure_ (i := 20) (N := some 42) (v := ?_) (a' := ?_) #[tt,tt,tt,tt,tt,tt,tt,tt,tt,tt,tt,tt,tt,tt,tt,tt,tt,tt,tt,tt,tt,ff,ff,ff,ff,ff,ff,ff,ff,ff,ff,ff] rfl rfl (by kernel_rfl) (fun _ _ _ h => h) (Or.inl ⟨by rfl, ?_⟩) ?_ ?_; rotate_left; (intro w'; go_simp; with_reducible rfl); rotate_left; (simp only [Act.put, List.setIfInBounds_toArray, List.set_cons_zero, List.set_cons_succ, i64_w, i32_w]; rfl)
            refine take_ (i := 21) (N := some 43) (v := ?_) (a' := ?_) #[tt,tt,tt,tt,tt,tt,tt,tt,tt,tt,tt,tt,tt,tt,tt,tt,tt,tt,tt,tt,tt,tt,ff,ff,ff,ff,ff,ff,ff,ff,ff,ff] rfl rfl (by kernel_rfl) (fun _ _ _ h => h) (Or.inl ⟨by rfl, ?_⟩) hHeld ?_ ?_; rotate_left; (rintro w' ⟨h0, h1, h2, ⟨h3, h4, h5, h6, h7, h8⟩, h9, h10, h11, h12, h13, h14⟩; go_simp; with_reducible rfl); rotate_left; (simp only [Act.put, List.setIfInBounds_toArray, List.set_cons_zero, List.set_cons_succ, i64_w, i32_w]; rfl)
            refine pure_ (i := 22) (N := some 44) (v := ?_) (a' := ?_) #[tt,tt,tt,tt,tt,tt,tt,tt,tt,tt,tt,tt,tt,tt,tt,tt,tt,tt,tt,tt,tt,tt,tt,ff,ff,ff,ff,ff,ff,ff,ff,ff] rfl rfl (by kernel_rfl) (fun _ _ _ h => h) (Or.inl ⟨by rfl, ?_⟩) ?_ ?_; rotate_left; (intro w'; go_simp; with_reducible rfl); rotate_left; (simp only [Act.put, List.setIfInBounds_toArray, List.set_cons_zero, List.set_cons_succ, i64_w, i32_w]; rfl)
            refine pure_ (i := 23) (N := some 45) (v := ?_) (a' := ?_) #[tt,tt,tt,tt,tt,tt,tt,tt,tt,tt,tt,tt,tt,tt,tt,tt,tt,tt,tt,tt,tt,tt,tt,tt,ff,ff,ff,ff,ff,ff,ff,ff] rfl rfl (by kernel_rfl) (fun _ _ _ h => h) (Or.inl ⟨by rfl, ?_⟩) ?_ ?_; rotate_left; (intro w'; go_simp; with_reducible rfl); rotate_left; (simp only [Act.put, List.setIfInBounds_toArray, List.set_cons_zero, List.set_cons_succ, i64_w, i32_w]; rfl)
            refine pure_ (i := 24) (N := some 46) (v := ?_) (a' := ?_) #[tt,tt,tt,tt,tt,tt,tt,tt,tt,tt,tt,tt,tt,tt,tt,tt,tt,tt,tt,tt,tt,tt,tt,tt,tt,ff,ff,ff,ff,ff,ff,ff] rfl rfl (by kernel_rfl) (fun _ _ _ h => h) (Or.inl ⟨by rfl, ?_⟩) ?_ ?_; rotate_left; (intro w'; go_simp; with_reducible rfl); rotate_left; (simp only [Act.put, List.setIfInBounds_toArray, List.set_cons_zero, List.set_cons_succ, i64_w, i32_w]; rfl)
            refine take_ (i := 25) (N := some 47) (v := ?_) (a' := ?_) #[tt,tt,tt,tt,tt,tt,tt,tt,tt,tt,tt,tt,tt,tt,tt,tt,tt,tt,tt,tt,tt,tt,tt,tt,tt,tt,ff,ff,ff,ff,ff,ff] rfl rfl (by kernel_rfl) (fun _ _ _ h => h) (Or.inl ⟨by rfl, ?_⟩) hHeld ?_ ?_; rotate_left; (rintro w' ⟨h0, h1, h2, ⟨h3, h4, h5, h6, h7, h8⟩, h9, h10, h11, h12, h13, h14⟩; go_simp; with_reducible rfl); rotate_left; (simp only [Act.put, List.setIfInBounds_toArray, List.set_cons_zero, List.set_cons_succ, i64_w, i32_w]; rfl)
            refine pure_ (i := 26) (N := some 48) (v := ?_) (a' := ?_) #[tt,tt,tt,tt,tt,tt,tt,tt,tt,tt,tt,tt,tt,tt,tt,tt,tt,tt,tt,tt,tt,tt,tt,tt,tt,tt,tt,ff,ff,ff,ff,ff] rfl rfl (by kernel_rfl) (fun _ _ _ h => h) (Or.inl ⟨by rfl, ?_⟩) ?_ ?_; rotate_left; (intro w'; go_simp; with_reducible rfl); rotate_left; (simp only [Act.put, List.setIfInBounds_toArray, List.set_cons_zero, List.set_cons_succ, i64_w, i32_w]; rfl)
            refine take_ (i := 27) (N := some 49) (v := ?_) (a' := ?_) #[tt,tt,tt,tt,tt,tt,tt,tt,tt,tt,tt,tt,tt,tt,tt,tt,tt,tt,tt,tt,tt,tt,tt,tt,tt,tt,tt,tt,ff,ff,ff,ff] rfl rfl (by kernel_rfl) (fun _ _ _ h => h) (Or.inl ⟨by rfl, ?_⟩) hHeld ?_ ?_; rotate_left; (rintro w' ⟨h0, h1, h2, ⟨h3, h4, h5, h6, h7, h8⟩, h9, h10, h11, h12, h13, h14⟩; go_simp; with_reducible rfl); rotate_left; (simp only [Act.put, List.setIfInBounds_toArray, List.set_cons_zero, List.set_cons_succ, i64_w, i32_w]; rfl)
            refine one_ (i := 28) (N := some 50) #[tt,tt,tt,tt,tt,tt,tt,tt,tt,tt,tt,tt,tt,tt,tt,tt,tt,tt,tt,tt,tt,tt,tt,tt,tt,tt,tt,tt,tt,ff,ff,ff] rfl rfl (by kernel_rfl) (by decide) (fun K hK => ?_); refine goes_ Tryz.func16 (by kernel_rfl) rfl #[.agg #[.slice r.Ak r.nk r.ck, .int .u64 r.e.v, .int .u8 r.e.m, .int .u8 r.e.u, .int .u64 r.e.x, .slice r.Ad r.nd r.cd], .agg #[.slice rj.Ak rj.nk rj.ck, .int .u64 rj.e.v, .int .u8 rj.e.m, .int .u8 rj.e.u, .int .u64 rj.e.x, .slice rj.Ad rj.nd rj.cd]] (by rfl) rfl rfl (by (try simp only [List.map_toArray, List.map_cons, List.map_nil]); first | done | rfl) ?_
            refine (orderOf_any r rj wd HEd.out.1 HEd.out.2 (by omega) (by omega)).mono ?_
            rintro E wx ⟨rfl, hbx⟩; refine ⟨_, rfl, ?_⟩
            refine hK.out _ _ (MgA.bel hHeld hbx) (fun hHeld => ?_); clear hK K; refine norm_ (a' := ?_) ?_ ?_; rotate_left; (show Act.put _ (some 50) _ = _; simp only [Act.put, List.setIfInBounds_toArray, List.set_cons_zero, List.set_cons_succ, i64_w, i32_w]; rfl)
            replace HMd := Lib.hid (HMd.out.below hbx)
            clear hbx hHeld HEd
            rcases HHH.out with h3 | h3 | h3
            · have h4 := h3
              have HB2 := Lib.hid (Bst.less (j := j) (q' := ⟨some ⟨gj, oj, none⟩, qjc, qjes⟩) (a' := b) HBJ.out.2.2.2.2 HQ.out.1 HQ.out.2 HR.out (by show orderL _ _ _ _ < 0; rw [h4]; decide))
              rw [h3]
              clear h3 h4
              refine pure_ (i := 29) (N := some 51) (v := ?_) (a' := ?_) #[tt,tt,tt,tt,tt,tt,tt,tt,tt,tt,tt,tt,tt,tt,tt,tt,tt,tt,tt,tt,tt,tt,tt,tt,tt,tt,tt,tt,tt,tt,ff,ff] rfl rfl (by kernel_rfl) (fun _ _ _ h => h) (Or.inl ⟨by rfl, ?_⟩) ?_ ?_; rotate_left; (intro w'; go_simp; with_reducible rfl); rotate_left; (simp only [Act.put, List.setIfInBounds_toArray, List.set_cons_zero, List.set_cons_succ, i64_w, i32_w]; rfl)
              refine pure_ (i := 30) (N := some 52) (v := ?_) (a' := ?_) #[tt,tt,tt,tt,tt,tt,tt,tt,tt,tt,tt,tt,tt,tt,tt,tt,tt,tt,tt,tt,tt,tt,tt,tt,tt,tt,tt,tt,tt,tt,tt,ff] rfl rfl (by kernel_rfl) (fun _ _ _ h => h) (Or.inl ⟨by rfl, ?_⟩) ?_ ?_; rotate_left; (intro w'; go_simp; with_reducible rfl); rotate_left; (simp only [Act.put, List.setIfInBounds_toArray, List.set_cons_zero, List.set_cons_succ, i64_w, i32_w]; rfl)
              refine pure_ (i := 31) (N := some 53) (v := ?_) (a' := ?_) #[tt,tt,tt,tt,tt,tt,tt,tt,tt,tt,tt,tt,tt,tt,tt,tt,tt,tt,tt,tt,tt,tt,tt,tt,tt,tt,tt,tt,tt,tt,tt,tt] rfl rfl (by kernel_rfl) (fun _ _ _ h => h) (Or.inl ⟨by rfl, ?_⟩) ?_ ?_; rotate_left; (intro w'; go_simp; with_reducible rfl); rotate_left; (simp only [Act.put, List.setIfInBounds_toArray, List.set_cons_zero, List.set_cons_succ, i64_w, i32_w]; rfl)
              refine done_ (by kernel_rfl) ?_
              go_wp2
              go_roundg gkI
              case measure => omega
              case rel => exact ⟨k + 1, (k : Int), rfl, by go_num, by omega, by have := hf2.out; show _ = _; omega, HB2.out, HMd.out⟩
            · have h4 := h3
              have HB2 := Lib.hid (Bst.more HBJ.out.1 HBJ.out.2.1 HBJ.out.2.2.1 HBJ.out.2.2.2.1 HBJ.out.2.2.2.2 HQ.out.1 HQ.out.2 HR.out (by show ¬ orderL _ _ _ _ < 0; rw [h4]; decide))
              rw [h3]
              clear h3 h4
              refine pure_ (i := 29) (N := some 51) (v := ?_) (a' := ?_) #[tt,tt,tt,tt,tt,tt,tt,tt,tt,tt,tt,tt,tt,tt,tt,tt,tt,tt,tt,tt,tt,tt,tt,tt,tt,tt,tt,tt,tt,tt,ff,ff] rfl rfl (by kernel_rfl) (fun _ _ _ h => h) (Or.inl ⟨by rfl, ?_⟩) ?_ ?_; rotate_left; (intro w'; go_simp; with_reducible rfl); rotate_left; (simp only [Act.put, List.setIfInBounds_toArray, List.set_cons_zero, List.set_cons_succ, i64_w, i32_w]; rfl)
              refine pure_ (i := 30) (N := some 52) (v := ?_) (a' := ?_) #[tt,tt,tt,tt,tt,tt,tt,tt,tt,tt,tt,tt,tt,tt,tt,tt,tt,tt,tt,tt,tt,tt,tt,tt,tt,tt,tt,tt,tt,tt,tt,ff] rfl rfl (by kernel_rfl) (fun _ _ _ h => h) (Or.inl ⟨by rfl, ?_⟩) ?_ ?_; rotate_left; (intro w'; go_simp; with_reducible rfl); rotate_left; (simp only [Act.put, List.setIfInBounds_toArray, List.set_cons_zero, List.set_cons_succ, i64_w, i32_w]; rfl)
              refine pure_ (i := 31) (N := some 53) (v := ?_) (a' := ?_) #[tt,tt,tt,tt,tt,tt,tt,tt,tt,tt,tt,tt,tt,tt,tt,tt,tt,tt,tt,tt,tt,tt,tt,tt,tt,tt,tt,tt,tt,tt,tt,tt] rfl rfl (by kernel_rfl) (fun _ _ _ h => h) (Or.inl ⟨by rfl, ?_⟩) ?_ ?_; rotate_left; (intro w'; go_simp; with_reducible rfl); rotate_left; (simp only [Act.put, List.setIfInBounds_toArray, List.set_cons_zero, List.set_cons_succ, i64_w, i32_w]; rfl)
              refine done_ (by kernel_rfl) ?_
              go_wp2
              go_roundg gkI
              case measure => omega
              case rel => exact ⟨k + 1, (j : Int), rfl, by go_num, by omega, by have := hf2.out; show _ = _; omega, HB2.out, HMd.out⟩
            · have h4 := h3
              have HB2 := Lib.hid (Bst.more HBJ.out.1 HBJ.out.2.1 HBJ.out.2.2.1 HBJ.out.2.2.2.1 HBJ.out.2.2.2.2 HQ.out.1 HQ.out.2 HR.out (by show ¬ orderL _ _ _ _ < 0; rw [h4]; decide))
              rw [h3]
              clear h3 h4
              refine pure_ (i := 29) (N := some 51) (v := ?_) (a' := ?_) #[tt,tt,tt,tt,tt,tt,tt,tt,tt,tt,tt,tt,tt,tt,tt,tt,tt,tt,tt,tt,tt,tt,tt,tt,tt,tt,tt,tt,tt,tt,ff,ff] rfl rfl (by kernel_rfl) (fun _ _ _ h => h) (Or.inl ⟨by rfl, ?_⟩) ?_ ?_; rotate_left; (intro w'; go_simp; with_reducible rfl); rotate_left; (simp only [Act.put, List.setIfInBounds_toArray, List.set_cons_zero, List.set_cons_succ, i64_w, i32_w]; rfl)
              refine pure_ (i := 30) (N := some 52) (v := ?_) (a' := ?_) #[tt,tt,tt,tt,tt,tt,tt,tt,tt,tt,tt,tt,tt,tt,tt,tt,tt,tt,tt,tt,tt,tt,tt,tt,tt,tt,tt,tt,tt,tt,tt,ff] rfl rfl (by kernel_rfl) (fun _ _ _ h => h) (Or.inl ⟨by rfl, ?_⟩) ?_ ?_; rotate_left; (intro w'; go_simp; with_reducible rfl); rotate_left; (simp only [Act.put, List.setIfInBounds_toArray, List.set_cons_zero, List.set_cons_succ, i64_w, i32_w]; rfl)
              refine pure_ (i := 31) (N := some 53) (v := ?_) (a' := ?_) #[tt,tt,tt,tt,tt,tt,tt,tt,tt,tt,tt,tt,tt,tt,tt,tt,tt,tt,tt,tt,tt,tt,tt,tt,tt,tt,tt,tt,tt,tt,tt,tt] rfl rfl (by kernel_rfl) (fun _ _ _ h => h) (Or.inl ⟨by rfl, ?_⟩) ?_ ?_; rotate_left; (intro w'; go_simp; with_reducible rfl); rotate_left; (simp only [Act.put, List.setIfInBounds_toArray, List.set_cons_zero, List.set_cons_succ, i64_w, i32_w]; rfl)
              refine done_ (by kernel_rfl) ?_
              go_wp2
              go_roundg gkI
              case measure => omega
              case rel => exact ⟨k + 1, (j : Int), rfl, by go_num, by omega, by have := hf2.out; show _ = _; omega, HB2.out, HMd.out⟩
      · have hkE : k = n := by omega
        have hge : ¬ ((k : Int) < (n : Int)) := by omega
        have hfull : (restE ls at_).take k = restE ls at_ := List.take_of_length_le (by unfold restE; rw [List.length_zipWith, HL.out, HATL.out]; omega)
        have hBB := hbst.out
        unfold Bst at hBB
        rw [hfull] at hBB
        have hstep := mergedE_step (sorted_rest (at_ := at_) HSO.out)
        clear hfull hbst hkE
        rcases hBB with ⟨hb, rfl⟩ | ⟨j, qj, b, rb, hj, hq2, ha2, hr2, hbb, rfl⟩
        · have hEQ : Hid (rs.map ER.e = mergedE (entsOf ls)) := by have h := heq.out; rw [(hstep.1 hb).1, List.append_nil] at h; exact h
          clear hstep hb heq
          have HFIN : Hid (MergP ls w (.returned (.slice A3 m c3)) wr) := by
            obtain ⟨g, o, rfl⟩ := HMW.out.ad
            obtain ⟨A9, c9, hv9, hc9, hs9, _⟩ := own_ent HMW.out.row
            injection hv9 with h1 h2 h3
            subst h1
            subst h3
            refine ⟨g, o, c3, rs, by rw [HMW.out.rsl], by rw [HMW.out.rsl]; exact hc9, ⟨by rw [HMW.out.rsl]; exact hs9, fun r hr => ?_⟩, hEQ.out, HMW.out.from_, HMW.out.bel⟩
            obtain ⟨q, hq, hrq⟩ := HMW.out.from_ r hr
            exact ((HA.out.each q hq).1.each r hrq).below HMW.out.bel
          clear HMW
          go_wp2
          go_returns
          exact HFIN.out
        · have hst2 := hstep.2 rb.e hbb
          rw [← restE_bump] at hst2
          have hlen := congrArg List.length hst2
          rw [List.length_cons, hgk'.out] at hlen
          have HLEN := Lib.hid hlen
          have HST2 := Lib.hid hst2
          have hRB : Hid (rb.In w) := (HA.out.each qj (List.mem_of_getElem? hq2)).1.each rb (List.mem_of_getElem? hr2)
          have HBI := hRB
          have HFROM : Hid (∃ q ∈ ls, rb ∈ q.es) := ⟨qj, List.mem_of_getElem? hq2, List.mem_of_getElem? hr2⟩
          obtain ⟨hc2, hersj⟩ := HMW.out.in_ HA.out hq2
          have hc1 : wr.cell? ⟨gA, j, none⟩ = some (.int .i64 (b : Int)) := HMW.out.blk.at_ (natC_at ha2)
          have hbl : (b : Int) < (qj.es.length : Int) := by have := (List.getElem?_eq_some_iff.1 hr2).1; omega
          obtain ⟨gj, oj, hgj⟩ := hersj.addr6 (by omega)
          have hs2 : Six gj (oj + b * 6) rb wr := by have h := hersj; rw [hgj] at h; exact h.six hr2
          have hrjn : rb.nk ≤ 1000 := HNK.out qj (List.mem_of_getElem? hq2) rb (List.mem_of_getElem? hr2)
          have hqjl : qj.es.length ≤ 80 := HNE.out qj (List.mem_of_getElem? hq2)
          have hjn : ((j : Int)) < (n : Int) := by omega
          have hj0 : ¬ ((j : Int) < 0) := by omega
          obtain ⟨qjA, qjc, qjes⟩ := qj
          replace hgj : qjA = some ⟨gj, oj, none⟩ := hgj
          subst hgj
          replace hc2 : wr.cell? ⟨gl, ol + j, none⟩ = some (.slice (some ⟨gj, oj, none⟩) qjes.length qjc) := hc2
          replace hbl : (b : Int) < (qjes.length : Int) := hbl
          replace hqjl : qjes.length ≤ 80 := hqjl
          clear hstep hst2 hlen hq2 ha2 hr2 hbb hersj hj
          obtain ⟨wq, rfl⟩ : ∃ wq : World, wq = wr := ⟨_, rfl⟩
          go_wp2_with fail
          refine start_ (n := 12) (S := MgC gA j b gl ol (.slice (some ⟨gj, oj, none⟩) qjes.length qjc) gj (oj + b * 6) rb) (ds := [11]) #[ff,ff,ff,ff,ff,ff,ff,ff,ff,ff,ff,ff] (by kernel_rfl) rfl rfl (⟨hc1, hc2, hs2⟩) (fun hHeld => ?_)
          have HMd := Lib.hid (HMW.out.below ((Below.refl _ _).drew))
          clear HMW hc1 hc2 hs2
          generalize wq.drew = wd at *
          refine pure_ (i := 0) (N := some 59) (v := ?_) (a' := ?_) #[tt,ff,ff,ff,ff,ff,ff,ff,ff,ff,ff,ff] rfl rfl (by kernel_rfl) (fun _ _ _ h => h) (Or.inl ⟨by rfl, ?_⟩) ?_ ?_; rotate_left; (intro w'; go_simp; with_reducible rfl); rotate_left; (simp only [Act.put, List.setIfInBounds_toArray, List.set_cons_zero, List.set_cons_succ, i64_w, i32_w]; rfl)
          refine pure_ (i := 1) (N := some 60) (v := ?_) (a' := ?_) #[tt,tt,ff,ff,ff,ff,ff,ff,ff,ff,ff,ff] rfl rfl (by kernel_rfl) (fun _ _ _ h => h) (Or.inl ⟨by rfl, ?_⟩) ?_ ?_; rotate_left; (intro w'; go_simp; with_reducible rfl); rotate_left; (simp only [Act.put, List.setIfInBounds_toArray, List.set_cons_zero, List.set_cons_succ, i64_w, i32_w]; rfl)
          refine pure_ (i := 2) (N := some 61) (v := ?_) (a' := ?_) #[tt,tt,tt,ff,ff,ff,ff,ff,ff,ff,ff,ff] rfl rfl (by kernel_rfl) (fun _ _ _ h => h) (Or.inl ⟨by rfl, ?_⟩) ?_ ?_; rotate_left; (intro w'; go_simp; with_reducible rfl); rotate_left; (simp only [Act.put, List.setIfInBounds_toArray, List.set_cons_zero, List.set_cons_succ, i64_w, i32_w]; rfl)
          refine take_ (i := 3) (N := some 62) (v := ?_) (a' := ?_) #[tt,tt,tt,tt,ff,ff,ff,ff,ff,ff,ff,ff] rfl rfl (by kernel_rfl) (fun _ _ _ h => h) (Or.inl ⟨by rfl, ?_⟩) hHeld ?_ ?_; rotate_left; (rintro w' ⟨h1, h2, h9, h10, h11, h12, h13, h14⟩; go_simp; with_reducible rfl); rotate_left; (simp only [Act.put, List.setIfInBounds_toArray, List.set_cons_zero, List.set_cons_succ, i64_w, i32_w]; rfl)
          refine pure_ (i := 4) (N := some 63) (v := ?_) (a' := ?_) #[tt,tt,tt,tt,tt,ff,ff,ff,ff,ff,ff,ff] rfl rfl (by kernel_rfl) (fun _ _ _ h => h) (Or.inl ⟨by rfl, ?_⟩) ?_ ?_; rotate_left; (intro w'; go_simp; with_reducible rfl); rotate_left; (simp only [Act.put, List.setIfInBounds_toArray, List.set_cons_zero, List.set_cons_succ, i64_w, i32_w]; rfl)
          refine pure_ (i := 5) (N := some 64) (v := ?_) (a' := ?_) #[tt,tt,tt,tt,tt,tt,ff,ff,ff,ff,ff,ff] rfl rfl (by kernel_rfl) (fun _ _ _ h => h) (Or.inl ⟨by rfl, ?_⟩) ?_ ?_; rotate_left; (intro w'; go_simp; with_reducible rfl); rotate_left; (simp only [Act.put, List.setIfInBounds_toArray, List.set_cons_zero, List.set_cons_succ, i64_w, i32_w]; rfl)
          refine pure_ (i := 6) (N := some 65) (v := ?_) (a' := ?_) #[tt,tt,tt,tt,tt,tt,tt,ff,ff,ff,ff,ff] rfl rfl (by kernel_rfl) (fun _ _ _ h => h) (Or.inl ⟨by rfl, ?_⟩) ?_ ?_; rotate_left; (intro w'; go_simp; with_reducible rfl); rotate_left; (simp only [Act.put, List.setIfInBounds_toArray, List.set_cons_zero, List.set_cons_succ, i64_w, i32_w]; rfl)
          refine take_ (i := 7) (N := some 66) (v := ?_) (a' := ?_) #[tt,tt,tt,tt,tt,tt,tt,tt,ff,ff,ff,ff] rfl rfl (by kernel_rfl) (fun _ _ _ h => h) (Or.inl ⟨by rfl, ?_⟩) hHeld ?_ ?_; rotate_left; (rintro w' ⟨h1, h2, h9, h10, h11, h12, h13, h14⟩; go_simp; with_reducible rfl); rotate_left; (simp only [Act.put, List.setIfInBounds_toArray, List.set_cons_zero, List.set_cons_succ, i64_w, i32_w]; rfl)
          refine pure_ (i := 8) (N := some 67) (v := ?_) (a' := ?_) #[tt,tt,tt,tt,tt,tt,tt,tt,tt,ff,ff,ff] rfl rfl (by kernel_rfl) (fun _ _ _ h => h) (Or.inl ⟨by rfl, ?_⟩) ?_ ?_; rotate_left; (intro w'; go_simp; with_reducible rfl); rotate_left; (simp only [Act.put, List.setIfInBounds_toArray, List.set_cons_zero, List.set_cons_succ, i64_w, i32_w]; rfl)
          refine take_ (i := 9) (N := some 68) (v := ?_) (a' := ?_) #[tt,tt,tt,tt,tt,tt,tt,tt,tt,tt,ff,ff] rfl rfl (by kernel_rfl) (fun _ _ _ h => h) (Or.inl ⟨by rfl, ?_⟩) hHeld ?_ ?_; rotate_left; (rintro w' ⟨h1, h2, h9, h10, h11, h12, h13, h14⟩; go_simp; with_reducible rfl); rotate_left; (simp only [Act.put, List.setIfInBounds_toArray, List.set_cons_zero, List.set_cons_succ, i64_w, i32_w]; rfl)
          refine one_ (i := 10) (N := some 8) #[tt,tt,tt,tt,tt,tt,tt,tt,tt,tt,tt,ff] rfl rfl (by kernel_rfl) (by decide) (fun K hK => ?_)
          refine value_ (v := .pointer (some ⟨wd.heap.size, 0, none⟩)) (w1 := wd.alloc (.cells #[.slice none 0 0, .int .u64 0, .int .u8 0, .int .u8 0, .int .u64 0, .slice none 0 0] 44)) (by rfl) rfl ?_ ?_
          · go_simp
            try rfl
          have HX0 : Hid (Blk (wd.alloc (.cells #[.slice none 0 0, .int .u64 0, .int .u8 0, .int .u8 0, .int .u64 0, .slice none 0 0] 44)) wd.heap.size 44 [.slice none 0 0, .int .u64 0, .int .u8 0, .int .u8 0, .int .u64 0, .slice none 0 0]) := Blk.new wd _ _
          have HM0 := Lib.hid (HMd.out.below ((Below.refl _ _).alloc (Nat.le_refl _) (.cells #[.slice none 0 0, .int .u64 0, .int .u8 0, .int .u8 0, .int .u64 0, .slice none 0 0] 44)))
          have HG8 : Hid (gA < wd.heap.size ∧ w.heap.size ≤ wd.heap.size) := ⟨HMd.out.blk.lt, HMd.out.bel.size⟩
          have HRO : Hid (∀ x, (Value.slice A3 m c3).ownBlock = some x → x < wd.heap.size) := fun x hx => (HMd.out.row.lt x hx).2
          refine hK.out _ _ (MgC.bel hHeld ((Below.refl _ _).alloc (Nat.le_refl _) _)) (fun hHeld => ?_); clear hK K; refine norm_ (a' := ?_) ?_ ?_; rotate_left; (show Act.put _ (some 8) _ = _; simp only [Act.put, List.setIfInBounds_toArray, List.set_cons_zero, List.set_cons_succ, i64_w, i32_w]; rfl)
          clear HMd hHeld
          generalize wd.alloc (.cells #[.slice none 0 0, .int .u64 0, .int .u8 0, .int .u8 0, .int .u64 0, .slice none 0 0] 44) = w8 at *
          generalize wd.heap.size = g8 at *
          have r0 := HX0.out.at_ (i := 0) rfl
          have r1 := HX0.out.at_ (i := 1) rfl
          have r2 := HX0.out.at_ (i := 2) rfl
          have r3 := HX0.out.at_ (i := 3) rfl
          have r4 := HX0.out.at_ (i := 4) rfl
          have r5 := HX0.out.at_ (i := 5) rfl
          have z0 := HX0.out.frozen 0
          have z1 := HX0.out.frozen 1
          have z2 := HX0.out.frozen 2
          have z3 := HX0.out.frozen 3
          have z4 := HX0.out.frozen 4
          have z5 := HX0.out.frozen 5
          refine last_ (i := 11) (N := none) #[tt,tt,tt,tt,tt,tt,tt,tt,tt,tt,tt,tt] rfl rfl (by kernel_rfl) (by decide) (fun K hK => ?_)
          refine skip_ (w1 := (((((w8.setCell ⟨g8, 0, none⟩ (.slice rb.Ak rb.nk rb.ck)).setCell ⟨g8, 1, none⟩ (.int .u64 rb.e.v)).setCell ⟨g8, 2, none⟩ (.int .u8 rb.e.m)).setCell ⟨g8, 3, none⟩ (.int .u8 rb.e.u)).setCell ⟨g8, 4, none⟩ (.int .u64 rb.e.x)).setCell ⟨g8, 5, none⟩ (.slice rb.Ad rb.nd rb.cd)) (by rfl) rfl ?_ ?_
          · simp [go_sem, r0, r1, r2, r3, r4, r5, z0, z1, z2, z3, z4, z5]
          refine hK.out _ _ ?_; clear hK K
          refine done_ (by kernel_rfl) ?_
          have HX8 : Hid (Blk ((((((w8.setCell ⟨g8, 0, none⟩ (.slice rb.Ak rb.nk rb.ck)).setCell ⟨g8, 1, none⟩ (.int .u64 rb.e.v)).setCell ⟨g8, 2, none⟩ (.int .u8 rb.e.m)).setCell ⟨g8, 3, none⟩ (.int .u8 rb.e.u)).setCell ⟨g8, 4, none⟩ (.int .u64 rb.e.x)).setCell ⟨g8, 5, none⟩ (.slice rb.Ad rb.nd rb.cd)) g8 44 rb.cells) := (((((HX0.out.set_ 0 _).set_ 1 _).set_ 2 _).set_ 3 _).set_ 4 _).set_ 5 _
          have hf8 := frm6 w8 g8 (.slice rb.Ak rb.nk rb.ck) (.int .u64 rb.e.v) (.int .u8 rb.e.m) (.int .u8 rb.e.u) (.int .u64 rb.e.x) (.slice rb.Ad rb.nd rb.cd)
          have HMW : Hid (MgW w gl ol n ls ((((((w8.setCell ⟨g8, 0, none⟩ (.slice rb.Ak rb.nk rb.ck)).setCell ⟨g8, 1, none⟩ (.int .u64 rb.e.v)).setCell ⟨g8, 2, none⟩ (.int .u8 rb.e.m)).setCell ⟨g8, 3, none⟩ (.int .u8 rb.e.u)).setCell ⟨g8, 4, none⟩ (.int .u64 rb.e.x)).setCell ⟨g8, 5, none⟩ (.slice rb.Ad rb.nd rb.cd)) gA at_ rs A3 m c3) := HM0.out.frm8 hf8 HG8.out.2 (by have := HG8.out; omega) HRO.out
          clear r0 r1 r2 r3 r4 r5 z0 z1 z2 z3 z4 z5 HX0 HM0 hf8
          generalize (((((w8.setCell ⟨g8, 0, none⟩ (.slice rb.Ak rb.nk rb.ck)).setCell ⟨g8, 1, none⟩ (.int .u64 rb.e.v)).setCell ⟨g8, 2, none⟩ (.int .u8 rb.e.m)).setCell ⟨g8, 3, none⟩ (.int .u8 rb.e.u)).setCell ⟨g8, 4, none⟩ (.int .u64 rb.e.x)).setCell ⟨g8, 5, none⟩ (.slice rb.Ad rb.nd rb.cd) = wp at *
          go_wp2_with fail
          go_loopg [71] n (fun f2 v71 wq => ∃ (k : Nat), v71 = .int .i64 k ∧ k ≤ n ∧ Hid (k + f2 = n) ∧ Hid (Blk wq g8 44 rb.cells) ∧ Hid (MgW w gl ol n ls wq gA (mixL (bumpN rb.e ls at_) at_ k) rs A3 m c3))
          case atStart => exact ⟨0, rfl, Nat.zero_le _, by simp [Hid], HX8, by rw [mixL_zero]; exact HMW⟩
          case round =>
            clear HMW HX8
            obtain ⟨k, rfl, hkn, hf2, HX8, HMW⟩ := hrel
            by_cases hk : k < n
            · obtain ⟨q, hq⟩ : ∃ q, ls[k]? = some q := ⟨_, List.getElem?_eq_getElem (by have := HL.out; omega)⟩
              obtain ⟨a, ha⟩ : ∃ a, at_[k]? = some a := ⟨_, List.getElem?_eq_getElem (by have := HATL.out; omega)⟩
              have hbl : (bumpN rb.e ls at_).length = n := by rw [bumpN_len (by rw [HATL.out, HL.out]), HL.out]
              have hmx : (mixL (bumpN rb.e ls at_) at_ k)[k]? = some a := by rw [mixL_at (by omega)]; exact ha
              have hbk := bumpN_at (e := rb.e) hq ha
              have hlen2 : (bumpN rb.e ls at_).length = at_.length := by rw [hbl, HATL.out]
              obtain ⟨hcl, hers⟩ := HMW.out.in_ HA.out hq
              have HERS := Lib.hid hers
              have hc0 : wr.cell? ⟨gA, k, none⟩ = some (.int .i64 (a : Int)) := HMW.out.blk.at_ (natC_at hmx)
              have hel : q.es.length ≤ 80 := HNE.out q (List.mem_of_getElem? hq)
              have HQ := Lib.hid (And.intro hq ha)
              obtain ⟨gkI, rfl⟩ : ∃ x, gk = x + 1 := ⟨gk - 1, by have := hf2.out; omega⟩
              obtain ⟨wq, rfl⟩ : ∃ wq : World, wq = wr := ⟨_, rfl⟩
              clear hers hq
              cases hr : q.es[a]? with
              | none =>
                have hal2 : decide (a < q.es.length) = false := by have := List.getElem?_eq_none_iff.1 hr; exact decide_eq_false (by omega)
                rw [bumpA_none hr] at hbk
                have HMX := Lib.hid (mixL_same hlen2 hbk ha)
                clear hr hbk ha hmx hbl hlen2
                go_wp2_with fail
                refine start_ (n := 19) (S := fun w' => w'.cell? ⟨gA, k, none⟩ = some (.int .i64 (a : Int))) (ds := []) #[ff,ff,ff,ff,ff,ff,ff,ff,ff,ff,ff,ff,ff,ff,ff,ff,ff,ff,ff] (by kernel_rfl) rfl rfl (hc0) (fun hHeld => ?_)
                have HMd := Lib.hid (HMW.out.below ((Below.refl _ _).drew))
                have HXd : Hid (Blk wq.drew g8 44 rb.cells) := HX8.out.drew
                have HEd : Hid (True) := trivial
                clear HMW HX8 hc0
                generalize wq.drew = wd at *
                refine pure_ (i := 0) (N := some 76) (v := ?_) (a' := ?_) #[tt,ff,ff,ff,ff,ff,ff,ff,ff,ff,ff,ff,ff,ff,ff,ff,ff,ff,ff] rfl rfl (by kernel_rfl) (fun _ _ _ h => h) (Or.inl ⟨by rfl, ?_⟩) ?_ ?_; rotate_left; (intro w'; go_simp; with_reducible rfl); rotate_left; (simp only [Act.put, List.setIfInBounds_toArray, List.set_cons_zero, List.set_cons_succ, i64_w, i32_w]; rfl)
                refine pure_ (i := 1) (N := some 77) (v := ?_) (a' := ?_) #[tt,tt,ff,ff,ff,ff,ff,ff,ff,ff,ff,ff,ff,ff,ff,ff,ff,ff,ff] rfl rfl (by kernel_rfl) (fun _ _ _ h => h) (Or.inl ⟨by rfl, ?_⟩) ?_ ?_; rotate_left; (intro w'; go_simp; with_reducible rfl); rotate_left; (simp only [Act.put, List.setIfInBounds_toArray, List.set_cons_zero, List.set_cons_succ, i64_w, i32_w]; rfl)
                refine pure_ (i := 2) (N := some 78) (v := ?_) (a' := ?_) #[tt,tt,tt,ff,ff,ff,ff,ff,ff,ff,ff,ff,ff,ff,ff,ff,ff,ff,ff] rfl rfl (by kernel_rfl) (fun _ _ _ h => h) (Or.inl ⟨by rfl, ?_⟩) ?_ ?_; rotate_left; (intro w'; go_simp; with_reducible rfl); rotate_left; (simp only [Act.put, List.setIfInBounds_toArray, List.set_cons_zero, List.set_cons_succ, i64_w, i32_w]; rfl)
                refine take_ (i := 3) (N := some 79) (v := ?_) (a' := ?_) #[tt,tt,tt,tt,ff,ff,ff,ff,ff,ff,ff,ff,ff,ff,ff,ff,ff,ff,ff] rfl rfl (by kernel_rfl) (fun _ _ _ h => h) (Or.inl ⟨by rfl, ?_⟩) hHeld ?_ ?_; rotate_left; (rintro w' h0; go_simp; with_reducible rfl); rotate_left; (simp only [Act.put, List.setIfInBounds_toArray, List.set_cons_zero, List.set_cons_succ, i64_w, i32_w]; rfl)
                refine pure_ (i := 4) (N := some 80) (v := ?_) (a' := ?_) #[tt,tt,tt,tt,tt,ff,ff,ff,ff,ff,ff,ff,ff,ff,ff,ff,ff,ff,ff] rfl rfl (by kernel_rfl) (fun _ _ _ h => h) (Or.inl ⟨by rfl, ?_⟩) ?_ ?_; rotate_left; (intro w'; go_simp; with_reducible rfl); rotate_left; (simp only [Act.put, List.setIfInBounds_toArray, List.set_cons_zero, List.set_cons_succ, i64_w, i32_w]; rfl)
                refine pure_ (i := 5) (N := some 81) (v := ?_) (a' := ?_) #[tt,tt,tt,tt,tt,tt,ff,ff,ff,ff,ff,ff,ff,ff,ff,ff,ff,ff,ff] rfl rfl (by kernel_rfl) (fun _ _ _ h => h) (Or.inl ⟨by rfl, ?_⟩) ?_ ?_; rotate_left; (intro w'; go_simp; with_reducible rfl); rotate_left; (simp only [Act.put, List.setIfInBounds_toArray, List.set_cons_zero, List.set_cons_succ, i64_w, i32_w]; rfl)
                refine pure_ (i := 6) (N := some 82) (v := ?_) (a' := ?_) #[tt,tt,tt,tt,tt,tt,tt,ff,ff,ff,ff,ff,ff,ff,ff,ff,ff,ff,ff] rfl rfl (by kernel_rfl) (fun _ _ _ h => h) (Or.inl ⟨by rfl, ?_⟩) ?_ ?_; rotate_left; (intro w'; go_simp; with_reducible rfl); rotate_left; (simp only [Act.put, List.setIfInBounds_toArray, List.set_cons_zero, List.set_cons_succ, i64_w, i32_w]; rfl)
                try rw [hal2]
                refine pure_ (i := 7) (N := some 83) (v := ?_) (a' := ?_) #[tt,tt,tt,tt,tt,tt,tt,tt,ff,ff,ff,ff,ff,ff,ff,ff,ff,ff,ff] rfl rfl (by kernel_rfl) (fun _ _ _ h => h) (Or.inl ⟨by rfl, ?_⟩) ?_ ?_; rotate_left; (intro w'; go_simp; with_reducible rfl); rotate_left; (simp only [Act.put, List.setIfInBounds_toArray, List.set_cons_zero, List.set_cons_succ, i64_w, i32_w]; rfl)
                refine pure_ (i := 8) (N := some 84) (v := undef) (a' := ?_) #[tt,tt,tt,tt,tt,tt,tt,tt,tt,ff,ff,ff,ff,ff,ff,ff,ff,ff,ff] rfl rfl (by kernel_rfl) (fun _ _ _ h => h) (Or.inr ⟨by rfl, rfl⟩) ?_ ?_; rotate_left; (simp only [Act.put, List.setIfInBounds_toArray, List.set_cons_zero, List.set_cons_succ, i64_w, i32_w]; rfl)
                refine pure_ (i := 9) (N := some 85) (v := undef) (a' := ?_) #[tt,tt,tt,tt,tt,tt,tt,tt,tt,tt,ff,ff,ff,ff,ff,ff,ff,ff,ff] rfl rfl (by kernel_rfl) (fun _ _ _ h => h) (Or.inr ⟨by rfl, rfl⟩) ?_ ?_; rotate_left; (simp only [Act.put, List.setIfInBounds_toArray, List.set_cons_zero, List.set_cons_succ, i64_w, i32_w]; rfl)
                refine pure_ (i := 10) (N := some 86) (v := undef) (a' := ?_) #[tt,tt,tt,tt,tt,tt,tt,tt,tt,tt,tt,ff,ff,ff,ff,ff,ff,ff,ff] rfl rfl (by kernel_rfl) (fun _ _ _ h => h) (Or.inr ⟨by rfl, rfl⟩) ?_ ?_; rotate_left; (simp only [Act.put, List.setIfInBounds_toArray, List.set_cons_zero, List.set_cons_succ, i64_w, i32_w]; rfl)
                refine pure_ (i := 11) (N := some 87) (v := undef) (a' := ?_) #[tt,tt,tt,tt,tt,tt,tt,tt,tt,tt,tt,tt,ff,ff,ff,ff,ff,ff,ff] rfl rfl (by kernel_rfl) (fun _ _ _ h => h) (Or.inr ⟨by rfl, rfl⟩) ?_ ?_; rotate_left; (simp only [Act.put, List.setIfInBounds_toArray, List.set_cons_zero, List.set_cons_succ, i64_w, i32_w]; rfl)
                refine pure_ (i := 12) (N := some 88) (v := undef) (a' := ?_) #[tt,tt,tt,tt,tt,tt,tt,tt,tt,tt,tt,tt,tt,ff,ff,ff,ff,ff,ff] rfl rfl (by kernel_rfl) (fun _ _ _ h => h) (Or.inr ⟨by rfl, rfl⟩) ?_ ?_; rotate_left; (simp only [Act.put, List.setIfInBounds_toArray, List.set_cons_zero, List.set_cons_succ, i64_w, i32_w]; rfl)
                refine pure_ (i := 13) (N := some 89) (v := undef) (a' := ?_) #[tt,tt,tt,tt,tt,tt,tt,tt,tt,tt,tt,tt,tt,tt,ff,ff,ff,ff,ff] rfl rfl (by kernel_rfl) (fun _ _ _ h => h) (Or.inr ⟨by rfl, rfl⟩) ?_ ?_; rotate_left; (simp only [Act.put, List.setIfInBounds_toArray, List.set_cons_zero, List.set_cons_succ, i64_w, i32_w]; rfl)
                refine pure_ (i := 14) (N := some 90) (v := undef) (a' := ?_) #[tt,tt,tt,tt,tt,tt,tt,tt,tt,tt,tt,tt,tt,tt,tt,ff,ff,ff,ff] rfl rfl (by kernel_rfl) (fun _ _ _ h => h) (Or.inr ⟨by rfl, rfl⟩) ?_ ?_; rotate_left; (simp only [Act.put, List.setIfInBounds_toArray, List.set_cons_zero, List.set_cons_succ, i64_w, i32_w]; rfl)
                refine pure_ (i := 15) (N := some 91) (v := undef) (a' := ?_) #[tt,tt,tt,tt,tt,tt,tt,tt,tt,tt,tt,tt,tt,tt,tt,tt,ff,ff,ff] rfl rfl (by kernel_rfl) (fun _ _ _ h => h) (Or.inr ⟨by rfl, rfl⟩) ?_ ?_; rotate_left; (simp only [Act.put, List.setIfInBounds_toArray, List.set_cons_zero, List.set_cons_succ, i64_w, i32_w]; rfl)
                refine pure_ (i := 16) (N := some 92) (v := undef) (a' := ?_) #[tt,tt,tt,tt,tt,tt,tt,tt,tt,tt,tt,tt,tt,tt,tt,tt,tt,ff,ff] rfl rfl (by kernel_rfl) (fun _ _ _ h => h) (Or.inr ⟨by rfl, rfl⟩) ?_ ?_; rotate_left; (simp only [Act.put, List.setIfInBounds_toArray, List.set_cons_zero, List.set_cons_succ, i64_w, i32_w]; rfl)
                refine pure_ (i := 17) (N := some 93) (v := undef) (a' := ?_) #[tt,tt,tt,tt,tt,tt,tt,tt,tt,tt,tt,tt,tt,tt,tt,tt,tt,tt,ff] rfl rfl (by kernel_rfl) (fun _ _ _ h => h) (Or.inr ⟨by rfl, rfl⟩) ?_ ?_; rotate_left; (simp only [Act.put, List.setIfInBounds_toArray, List.set_cons_zero, List.set_cons_succ, i64_w, i32_w]; rfl)
                refine pure_ (i := 18) (N := some 94) (v := ?_) (a' := ?_) #[tt,tt,tt,tt,tt,tt,tt,tt,tt,tt,tt,tt,tt,tt,tt,tt,tt,tt,tt] rfl rfl (by kernel_rfl) (fun _ _ _ h => h) (Or.inl ⟨by rfl, ?_⟩) ?_ ?_; rotate_left; (intro w'; go_simp; with_reducible rfl); rotate_left; (simp only [Act.put, List.setIfInBounds_toArray, List.set_cons_zero, List.set_cons_succ, i64_w, i32_w]; rfl)
                refine done_ (by kernel_rfl) ?_
                rw [HMX.out] at HMd
                clear hal2 hHeld hcl
                go_wp2
                go_roundg gkI
                case measure => omega
                case rel => exact ⟨k + 1, by go_num, by omega, by have := hf2.out; show _ = _; omega, HXd.out, HMd.out⟩
              | some r =>
                have hal : (a : Int) < (q.es.length : Int) := by have := (List.getElem?_eq_some_iff.1 hr).1; omega
                rw [bumpA_some hr] at hbk
                obtain ⟨gk, ok, hgk⟩ := HERS.out.addr6 (by omega)
                have hs1 : Six gk (ok + a * 6) r wq := by have h := HERS.out; rw [hgk] at h; exact h.six hr
                have hs8 : One g8 rb wq := ⟨HX8.out.at_ rfl, HX8.out.at_ rfl, HX8.out.at_ rfl, HX8.out.at_ rfl, HX8.out.at_ rfl, HX8.out.at_ rfl⟩
                have HRI := Lib.hid (HERS.out.each r (List.mem_of_getElem? hr))
                have HRB := Lib.hid (HBI.out.below HMW.out.bel)
                have hrn : r.nk ≤ 1000 := HNK.out q (List.mem_of_getElem? HQ.out.1) r (List.mem_of_getElem? hr)
                have HHH := Lib.hid (show orderL r.e.k r.e.v rb.e.k rb.e.v = -1 ∨ orderL r.e.k r.e.v rb.e.k rb.e.v = 0 ∨ orderL r.e.k r.e.v rb.e.k rb.e.v = 1 from orderL_three _ _ _ _)
                have HBK := Lib.hid hbk
                have HHA := Lib.hid (And.intro ha (And.intro hlen2 hbl))
                obtain ⟨qA, qc, qes⟩ := q
                replace hgk : qA = some ⟨gk, ok, none⟩ := hgk
                subst hgk
                replace hcl : wq.cell? ⟨gl, ol + k, none⟩ = some (.slice (some ⟨gk, ok, none⟩) qes.length qc) := hcl
                replace hal : (a : Int) < (qes.length : Int) := hal
                replace hel : qes.length ≤ 80 := hel
                clear hr hbk ha hmx hbl hlen2 HERS
                go_wp2_with fail
                refine start_ (n := 19) (S := MgB gA k a gk (ok + a * 6) g8 r rb) (ds := []) #[ff,ff,ff,ff,ff,ff,ff,ff,ff,ff,ff,ff,ff,ff,ff,ff,ff,ff,ff] (by kernel_rfl) rfl rfl (⟨hc0, hs1, hs8⟩) (fun hHeld => ?_)
                have HMd := Lib.hid (HMW.out.below ((Below.refl _ _).drew))
                have HXd : Hid (Blk wq.drew g8 44 rb.cells) := HX8.out.drew
                have HEd : Hid (r.In wq.drew ∧ rb.In wq.drew) := ⟨HRI.out.drewN 1, HRB.out.drewN 1⟩
                clear HMW HX8 HRI HRB hc0 hs1 hs8
                generalize wq.drew = wd at *
                refine pure_ (i := 0) (N := some 76) (v := ?_) (a' := ?_) #[tt,ff,ff,ff,ff,ff,ff,ff,ff,ff,ff,ff,ff,ff,ff,ff,ff,ff,ff] rfl rfl (by kernel_rfl) (fun _ _ _ h => h) (Or.inl ⟨by rfl, ?_⟩) ?_ ?_; rotate_left; (intro w'; go_simp; with_reducible rfl); rotate_left; (simp only [Act.put, List.setIfInBounds_toArray, List.set_cons_zero, List.set_cons_succ, i64_w, i32_w]; rfl)
                refine pure_ (i := 1) (N := some 77) (v := ?_) (a' := ?_) #[tt,tt,ff,ff,ff,ff,ff,ff,ff,ff,ff,ff,ff,ff,ff,ff,ff,ff,ff] rfl rfl (by kernel_rfl) (fun _ _ _ h => h) (Or.inl ⟨by rfl, ?_⟩) ?_ ?_; rotate_left; (intro w'; go_simp; with_reducible rfl); rotate_left; (simp only [Act.put, List.setIfInBounds_toArray, List.set_cons_zero, List.set_cons_succ, i64_w, i32_w]; rfl)
                refine pure_ (i := 2) (N := some 78) (v := ?_) (a' := ?_) #[tt,tt,tt,ff,ff,ff,ff,ff,ff,ff,ff,ff,ff,ff,ff,ff,ff,ff,ff] rfl rfl (by kernel_rfl) (fun _ _ _ h => h) (Or.inl ⟨by rfl, ?_⟩) ?_ ?_; rotate_left; (intro w'; go_simp; with_reducible rfl); rotate_left; (simp only [Act.put, List.setIfInBounds_toArray, List.set_cons_zero, List.set_cons_succ, i64_w, i32_w]; rfl)
                refine take_ (i := 3) (N := some 79) (v := ?_) (a' := ?_) #[tt,tt,tt,tt,ff,ff,ff,ff,ff,ff,ff,ff,ff,ff,ff,ff,ff,ff,ff] rfl rfl (by kernel_rfl) (fun _ _ _ h => h) (Or.inl ⟨by rfl, ?_⟩) hHeld ?_ ?_; rotate_left; (rintro w' ⟨h0, ⟨h3, h4, h5, h6, h7, h8⟩, h9, h10, h11, h12, h13, h14⟩; go_simp; with_reducible rfl); rotate_left; (simp only [Act.put, List.setIfInBounds_toArray, List.set_cons_zero, List.set_cons_succ, i64_w, i32_w]; rfl)
                refine pure_ (i := 4) (N := some 80) (v := ?_) (a' := ?_) #[tt,tt,tt,tt,tt,ff,ff,ff,ff,ff,ff,ff,ff,ff,ff,ff,ff,ff,ff] rfl rfl (by kernel_rfl) (fun _ _ _ h => h) (Or.inl ⟨by rfl, ?_⟩) ?_ ?_; rotate_left; (intro w'; go_simp; with_reducible rfl); rotate_left; (simp only [Act.put, List.setIfInBounds_toArray, List.set_cons_zero, List.set_cons_succ, i64_w, i32_w]; rfl)
                refine pure_ (i := 5) (N := some 81) (v := ?_) (a' := ?_) #[tt,tt,tt,tt,tt,tt,ff,ff,ff,ff,ff,ff,ff,ff,ff,ff,ff,ff,ff] rfl rfl (by kernel_rfl) (fun _ _ _ h => h) (Or.inl ⟨by rfl, ?_⟩) ?_ ?_; rotate_left; (intro w'; go_simp; with_reducible rfl); rotate_left; (simp only [Act.put, List.setIfInBounds_toArray, List.set_cons_zero, List.set_cons_succ, i64_w, i32_w]; rfl)
                refine pure_ (i := 6) (N := some 82) (v := ?_) (a' := ?_) #[tt,tt,tt,tt,tt,tt,tt,ff,ff,ff,ff,ff,ff,ff,ff,ff,ff,ff,ff] rfl rfl (by kernel_rfl) (fun _ _ _ h => h) (Or.inl ⟨by rfl, ?_⟩) ?_ ?_; rotate_left; (intro w'; go_simp; with_reducible rfl); rotate_left; (simp only [Act.put, List.setIfInBounds_toArray, List.set_cons_zero, List.set_cons_succ, i64_w, i32_w]; rfl)
                refine pure_ (i := 7) (N := some 83) (v := ?_) (a' := ?_) #[tt,tt,tt,tt,tt,tt,tt,tt,ff,ff,ff,ff,ff,ff,ff,ff,ff,ff,ff] rfl rfl (by kernel_rfl) (fun _ _ _ h => h) (Or.inl ⟨by rfl, ?_⟩) ?_ ?_; rotate_left; (intro w'; go_simp; with_reducible rfl); rotate_left; (simp only [Act.put, List.setIfInBounds_toArray, List.set_cons_zero, List.set_cons_succ, i64_w, i32_w]; rfl)
                refine pure_ (i := 8) (N := some 84) (v := ?_) (a' := ?_) #[tt,tt,tt,tt,tt,tt,tt,tt,tt,ff,ff,ff,ff,ff,ff,ff,ff,ff,ff] rfl rfl (by kernel_rfl) (fun _ _ _ h => h) (Or.inl ⟨by rfl, ?_⟩) ?_ ?_; rotate_left; (intro w'; go_simp; with_reducible rfl); rotate_left; (simp only [Act.put, List.setIfInBounds_toArray, List.set_cons_zero, List.set_cons_succ, i64_w, i32_w]; rfl)
                refine pure_ (i := 9) (N := some 85) (v := ?_) (a' := ?_) #[tt,tt,tt,tt,tt,tt,tt,tt,tt,tt,ff,ff,ff,ff,ff,ff,ff,ff,ff] rfl rfl (by kernel_rfl) (fun _ _ _ h => h) (Or.inl ⟨by rfl, ?_⟩) ?_ ?_; rotate_left; (intro w'; go_simp; with_reducible rfl); rotate_left; (simp only [Act.put, List.setIfInBounds_toArray, List.set_cons_zero, List.set_cons_succ, i64_w, i32_w]; rfl)
                refine pure_ (i := 10) (N := some 86) (v := ?_) (a' := ?_) #[tt,tt,tt,tt,tt,tt,tt,tt,tt,tt,tt,ff,ff,ff,ff,ff,ff,ff,ff] rfl rfl (by kernel_rfl) (fun _ _ _ h => h) (Or.inl ⟨by rfl, ?_⟩) ?_ ?_; rotate_left; (intro w'; go_simp; with_reducible rfl); rotate_left; (simp only [Act.put, List.setIfInBounds_toArray, List.set_cons_zero, List.set_cons_succ, i64_w, i32_w]; rfl)
                refine pure_ (i := 11) (N := some 87) (v := ?_) (a' := ?_) #[tt,tt,tt,tt,tt,tt,tt,tt,tt,tt,tt,tt,ff,ff,ff,ff,ff,ff,ff] rfl rfl (by kernel_rfl) (fun _ _ _ h => h) (Or.inl ⟨by rfl, ?_⟩) ?_ ?_; rotate_left; (intro w'; go_simp; with_reducible rfl); rotate_left; (simp only [Act.put, List.setIfInBounds_toArray, List.set_cons_zero, List.set_cons_succ, i64_w, i32_w]; rfl)
                refine take_ (i := 12) (N := some 88) (v := ?_) (a' := ?_) #[tt,tt,tt,tt,tt,tt,tt,tt,tt,tt,tt,tt,tt,ff,ff,ff,ff,ff,ff] rfl rfl (by kernel_rfl) (fun _ _ _ h => h) (Or.inl ⟨by rfl, ?_⟩) hHeld ?_ ?_; rotate_left; (rintro w' ⟨h0, ⟨h3, h4, h5, h6, h7, h8⟩, h9, h10, h11, h12, h13, h14⟩; go_simp; with_reducible rfl); rotate_left; (simp only [Act.put, List.setIfInBounds_toArray, List.set_cons_zero, List.set_cons_succ, i64_w, i32_w]; rfl)
                refine pure_ (i := 13) (N := some 89) (v := ?_) (a' := ?_) #[tt,tt,tt,tt,tt,tt,tt,tt,tt,tt,tt,tt,tt,tt,ff,ff,ff,ff,ff] rfl rfl (by kernel_rfl) (fun _ _ _ h => h) (Or.inl ⟨by rfl, ?_⟩) ?_ ?_; rotate_left; (intro w'; go_simp; with_reducible rfl); rotate_left; (simp only [Act.put, List.setIfInBounds_toArray, List.set_cons_zero, List.set_cons_succ, i64_w, i32_w]; rfl)
                refine take_ (i := 14) (N := some 90) (v := ?_) (a' := ?_) #[tt,tt,tt,tt,tt,tt,tt,tt,tt,tt,tt,tt,tt,tt,tt,ff,ff,ff,ff] rfl rfl (by kernel_rfl) (fun _ _ _ h => h) (Or.inl ⟨by rfl, ?_⟩) hHeld ?_ ?_; rotate_left; (rintro w' ⟨h0, ⟨h3, h4, h5, h6, h7, h8⟩, h9, h10, h11, h12, h13, h14⟩; go_simp; with_reducible rfl); rotate_left; (simp only [Act.put, List.setIfInBounds_toArray, List.set_cons_zero, List.set_cons_succ, i64_w, i32_w]; rfl)
                refine take_ (i := 15) (N := some 91) (v := ?_) (a' := ?_) #[tt,tt,tt,tt,tt,tt,tt,tt,tt,tt,tt,tt,tt,tt,tt,tt,ff,ff,ff] rfl rfl (by kernel_rfl) (fun _ _ _ h => h) (Or.inl ⟨by rfl, ?_⟩) hHeld ?_ ?_; rotate_left; (rintro w' ⟨h0, ⟨h3, h4, h5, h6, h7, h8⟩, h9, h10, h11, h12, h13, h14⟩; go_simp; with_reducible rfl); rotate_left; (simp only [Act.put, List.setIfInBounds_toArray, List.set_cons_zero, List.set_cons_succ, i64_w, i32_w]; rfl)
                refine one_ (i := 16) (N := some 92) #[tt,tt,tt,tt,tt,tt,tt,tt,tt,tt,tt,tt,tt,tt,tt,tt,tt,ff,ff] rfl rfl (by kernel_rfl) (by decide) (fun K hK => ?_); refine goes_ Tryz.func16 (by kernel_rfl) rfl #[.agg #[.slice r.Ak r.nk r.ck, .int .u64 r.e.v, .int .u8 r.e.m, .int .u8 r.e.u, .int .u64 r.e.x, .slice r.Ad r.nd r.cd], .agg #[.slice rb.Ak rb.nk rb.ck, .int .u64 rb.e.v, .int .u8 rb.e.m, .int .u8 rb.e.u, .int .u64 rb.e.x, .slice rb.Ad rb.nd rb.cd]] (by rfl) rfl rfl (by (try simp only [List.map_toArray, List.map_cons, List.map_nil]); first | done | rfl) ?_
                refine (orderOf_any r rb wd HEd.out.1 HEd.out.2 (by omega) (by omega)).mono ?_
                rintro E wx ⟨rfl, hbx⟩; refine ⟨_, rfl, ?_⟩
                refine hK.out _ _ (MgB.bel hHeld hbx) (fun hHeld => ?_); clear hK K; refine norm_ (a' := ?_) ?_ ?_; rotate_left; (show Act.put _ (some 92) _ = _; simp only [Act.put, List.setIfInBounds_toArray, List.set_cons_zero, List.set_cons_succ, i64_w, i32_w]; rfl)
                replace HMd := Lib.hid (HMd.out.below hbx)
                replace HXd := Lib.hid (HXd.out.below hbx HXd.out.lt)
                clear hbx HEd
                rcases HHH.out with h3 | h3 | h3
                · have h4 := h3
                  have HMX := Lib.hid (mixL_same HHA.out.2.1 (by have h := HBK.out; rw [if_neg (show ¬ r.e.ord rb.e = 0 by show ¬ orderL _ _ _ _ = 0; rw [h4]; decide)] at h; exact h) HHA.out.1)
                  rw [h3]
                  clear h3 h4
                  refine pure_ (i := 17) (N := some 93) (v := ?_) (a' := ?_) #[tt,tt,tt,tt,tt,tt,tt,tt,tt,tt,tt,tt,tt,tt,tt,tt,tt,tt,ff] rfl rfl (by kernel_rfl) (fun _ _ _ h => h) (Or.inl ⟨by rfl, ?_⟩) ?_ ?_; rotate_left; (intro w'; go_simp; with_reducible rfl); rotate_left; (simp only [Act.put, List.setIfInBounds_toArray, List.set_cons_zero, List.set_cons_succ, i64_w, i32_w]; rfl)
                  refine pure_ (i := 18) (N := some 94) (v := ?_) (a' := ?_) #[tt,tt,tt,tt,tt,tt,tt,tt,tt,tt,tt,tt,tt,tt,tt,tt,tt,tt,tt] rfl rfl (by kernel_rfl) (fun _ _ _ h => h) (Or.inl ⟨by rfl, ?_⟩) ?_ ?_; rotate_left; (intro w'; go_simp; with_reducible rfl); rotate_left; (simp only [Act.put, List.setIfInBounds_toArray, List.set_cons_zero, List.set_cons_succ, i64_w, i32_w]; rfl)
                  refine done_ (by kernel_rfl) ?_
                  rw [HMX.out] at HMd
                  clear hHeld
                  go_wp2
                  go_roundg gkI
                  case measure => omega
                  case rel => exact ⟨k + 1, by go_num, by omega, by have := hf2.out; show _ = _; omega, HXd.out, HMd.out⟩
                · have h4 := h3
                  have HMX := Lib.hid (mixL_set HHA.out.2.1 (by have h := HBK.out; rw [if_pos (show r.e.ord rb.e = 0 from h4)] at h; exact h))
                  rw [h3]
                  clear h3 h4
                  refine pure_ (i := 17) (N := some 93) (v := ?_) (a' := ?_) #[tt,tt,tt,tt,tt,tt,tt,tt,tt,tt,tt,tt,tt,tt,tt,tt,tt,tt,ff] rfl rfl (by kernel_rfl) (fun _ _ _ h => h) (Or.inl ⟨by rfl, ?_⟩) ?_ ?_; rotate_left; (intro w'; go_simp; with_reducible rfl); rotate_left; (simp only [Act.put, List.setIfInBounds_toArray, List.set_cons_zero, List.set_cons_succ, i64_w, i32_w]; rfl)
                  refine pure_ (i := 18) (N := some 94) (v := ?_) (a' := ?_) #[tt,tt,tt,tt,tt,tt,tt,tt,tt,tt,tt,tt,tt,tt,tt,tt,tt,tt,tt] rfl rfl (by kernel_rfl) (fun _ _ _ h => h) (Or.inl ⟨by rfl, ?_⟩) ?_ ?_; rotate_left; (intro w'; go_simp; with_reducible rfl); rotate_left; (simp only [Act.put, List.setIfInBounds_toArray, List.set_cons_zero, List.set_cons_succ, i64_w, i32_w]; rfl)
                  refine done_ (by kernel_rfl) ?_
                  have hz0 := HMd.out.blk.frozen k
                  have hc9 : wx.cell? ⟨gA, k, none⟩ = some (.int .i64 (a : Int)) := hHeld.1
                  have hai : (a : Int) ≤ 80 := by omega
                  clear hHeld
                  go_wp2_with fail
                  have HMP := Lib.hid (HMd.out.put (k := k) (y := a + 1))
                  rw [HMX.out] at HMP
                  go_wp2
                  go_roundg gkI
                  case measure => omega
                  case rel => exact ⟨k + 1, by go_num, by omega, by have := hf2.out; show _ = _; omega, HXd.out.far (by have := HG8.out; show g8 ≠ gA; omega) _, HMP.out⟩
                · have h4 := h3
                  have HMX := Lib.hid (mixL_same HHA.out.2.1 (by have h := HBK.out; rw [if_neg (show ¬ r.e.ord rb.e = 0 by show ¬ orderL _ _ _ _ = 0; rw [h4]; decide)] at h; exact h) HHA.out.1)
                  rw [h3]
                  clear h3 h4
                  refine pure_ (i := 17) (N := some 93) (v := ?_) (a' := ?_) #[tt,tt,tt,tt,tt,tt,tt,tt,tt,tt,tt,tt,tt,tt,tt,tt,tt,tt,ff] rfl rfl (by kernel_rfl) (fun _ _ _ h => h) (Or.inl ⟨by rfl, ?_⟩) ?_ ?_; rotate_left; (intro w'; go_simp; with_reducible rfl); rotate_left; (simp only [Act.put, List.setIfInBounds_toArray, List.set_cons_zero, List.set_cons_succ, i64_w, i32_w]; rfl)
                  refine pure_ (i := 18) (N := some 94) (v := ?_) (a' := ?_) #[tt,tt,tt,tt,tt,tt,tt,tt,tt,tt,tt,tt,tt,tt,tt,tt,tt,tt,tt] rfl rfl (by kernel_rfl) (fun _ _ _ h => h) (Or.inl ⟨by rfl, ?_⟩) ?_ ?_; rotate_left; (intro w'; go_simp; with_reducible rfl); rotate_left; (simp only [Act.put, List.setIfInBounds_toArray, List.set_cons_zero, List.set_cons_succ, i64_w, i32_w]; rfl)
                  refine done_ (by kernel_rfl) ?_
                  rw [HMX.out] at HMd
                  clear hHeld
                  go_wp2
                  go_roundg gkI
                  case measure => omega
                  case rel => exact ⟨k + 1, by go_num, by omega, by have := hf2.out; show _ = _; omega, HXd.out, HMd.out⟩
            · have hkE : k = n := by omega
              have hge2 : ¬ ((k : Int) < (n : Int)) := by omega
              have hmixn : mixL (bumpN rb.e ls at_) at_ k = bumpN rb.e ls at_ := by rw [hkE]; exact mixL_end (by rw [bumpN_len (by rw [HATL.out, HL.out]), HL.out]) HATL.out
              rw [hmixn] at HMW
              clear hmixn hkE
              have y0 := HX8.out.at_ (i := 0) rfl
              have y1 := HX8.out.at_ (i := 1) rfl
              have y2 := HX8.out.at_ (i := 2) rfl
              have y3 := HX8.out.at_ (i := 3) rfl
              have y4 := HX8.out.at_ (i := 4) rfl
              have y5 := HX8.out.at_ (i := 5) rfl
              obtain ⟨wy, rfl⟩ : ∃ wy : World, wy = wr := ⟨_, rfl⟩
              have HMA := Lib.hid (HMW.out.below ((Below.refl _ _).alloc (Nat.le_refl _) (.cells rb.cells.toArray 44)))
              go_wp2_with (at_builtin; refine wpList_append_ent rfl (.tmp 102) (.tmp 104) rfl w.heap.size (.slice A3 m c3) m (flatE rs) rfl HMA.out.row _ 1 1 rb.cells rfl (one_slE wy rb) (cells_oneE rb) (by have := hlm.out; omega) ?cx ?_; (case cx => exact HMA.out.bel.size); intro v80 w3 ho3 hg3 hat3; obtain ⟨A4, c4, hv3, hc4, hs3, hA3⟩ := own_ent ho3; subst hv3; have HO3 := Lib.hid ho3; have HG3 := Lib.hid hg3; clear ho3 hg3 hat3 hs3 hA3)
              go_roundg (mergedE (restE ls (bumpN rb.e ls at_))).length
              case measure => have := HLEN.out; omega
              case rel =>
                refine ⟨A4, m + 1, c4, bumpN rb.e ls at_, rs ++ [rb], rfl, rfl, ?_, ?_⟩
                · show _ = _
                  rw [List.map_append, List.append_assoc, ← heq.out, HST2.out]
                  rfl
                · refine ⟨HMA.out.blk.grown HG3.out (fun e => row_not HMA.out.row e.symm HMA.out.blk (by decide)), HMA.out.new, HMA.out.len, ?_, ?_, ?_, HMA.out.bel.grown HG3.out HMA.out.bel.size (fun k' e => (HMA.out.row.lt k' e).1), ?_⟩
                  · rw [flatE_snoc]
                    exact HO3.out
                  · rw [List.length_append, HMA.out.rsl]
                    rfl
                  · intro r hr
                    rcases List.mem_append.1 hr with h | h
                    · exact HMA.out.from_ r h
                    · rw [List.mem_singleton] at h
                      subst h
                      exact HFROM.out
                  · rcases HO3.out.2 with ⟨h, h2⟩ | ⟨g, cap, cur, h, _⟩
                    · omega
                    · injection h with h
                      exact ⟨g, 0, h⟩
end Go.Proofs.YtegaigpolhdicaaGreat
