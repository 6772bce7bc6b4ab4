/- Texts that this claim shares with others, put together: HS HT HU. -/
import Derived.Test.YtpfmmbhbmdbmeaaGreatDoorHQ
import Derived.Test.YtpfmmbhbmdbmeaaGreatDoorHR
import Derived.Test.YtpfmmbhbmdbmeaaGreatDoorLL
import Derived.Test.YtpfmmbhbmdbmeaaGreatDoorG0
section
/- What is handed on of a log of units: the plain law. -/
namespace Go.Proofs.YtpfmmbhbmdbmeaaGreatDoor
open Go.RowKit Go.Proofs.YtpfmmbhbmdbmeaaGreatDoorQ.Ext
set_option linter.unusedVariables false
set_option linter.unusedSimpArgs false
open YtpfmmbhbmdbmeaaGreatDoorQ.QL (UOk UOk2 ROk wfR wr endR dec dec_some txnK bitsB WU szR posR totR cutU repP rb posR_len posR_fst totR_app)
theorem bitsC : ∀ n : Fin 256, (Go.bits .and .u8 (Go.bits .andNot .u8 (n.val : Int) 192) 64 = 0 ∧ Go.bits .and .u8 (Go.bits .andNot .u8 (n.val : Int) 192) 128 = 0) ∧ Go.bits .and .u8 (Go.bits .or .u8 (Go.bits .andNot .u8 (n.val : Int) 192) 64) 64 = 64 := by decide +kernel
theorem bitsD (x : Int) (h0 : 0 ≤ x) (h1 : x ≤ 255) : (Go.bits .and .u8 (Go.bits .andNot .u8 x 192) 64 = 0 ∧ Go.bits .and .u8 (Go.bits .andNot .u8 x 192) 128 = 0) ∧ Go.bits .and .u8 (Go.bits .or .u8 (Go.bits .andNot .u8 x 192) 64) 64 = 64 := by
  have := bitsC ⟨x.toNat, by omega⟩
  simp only at this
  rw [Int.toNat_of_nonneg h0] at this
  exact this
/-- The records of a unit, as they are read. -/
def GU (u : UnS) : List LK := if u.f1 = true then u.f0.map (fun r => (lrR (wr u r), Kn.txn u.f2.toNat)) ++ (if u.f3 = true then [] else [(lrR (endR u), Kn.fin u.f2.toNat)]) else u.f0.map (fun r => (lrR (wr u r), Kn.one))
theorem GU_fst (u : UnS) (h : u.f1 = false → u.f3 = false ∨ True) : (GU u).map (·.1) = (WU u).map lrR := by
  unfold GU WU
  cases h1 : u.f1
  · simp [h1]
  · cases h3 : u.f3
    · simp [h1, h3]
    · simp [h1, h3]
theorem lr_ok (u : UnS) (r : RecS) (hw : wfR r) (hr : ROk r) (h2 : 1 ≤ u.f2) (h3 : u.f2 ≤ 1000000) : (lrR (wr u r)).Ok ∧ (u.f1 = false → KnOk (lrR (wr u r)) .one) ∧ (u.f1 = true → KnOk (lrR (wr u r)) (.txn u.f2.toNat)) := by
  obtain ⟨w1, w2, w3, w4, w5⟩ := hw
  obtain ⟨r1, r2, r3⟩ := hr
  have m1 := wf8 w4
  have m2 := wf8 w5
  have m3 := wf64 w3
  have hb := bitsB r.f3 m1.1 m1.2
  have hd := bitsD r.f3 m1.1 m1.2
  have b1 := Byt.of_wf w1
  have b2 := Byt.of_wf w2
  have hkl : (keyB r.f0 u.f2).length = r.f0.length + 8 := keyB_len _ _
  unfold wr
  cases h1 : u.f1
  · rw [if_neg (by simp)]
    exact ⟨⟨by show 1 ≤ r.f0.length; omega, by show r.f0.length ≤ 60; omega, by show r.f1.length ≤ 1000; omega, m3, hb.1, m2, b1, b2⟩, (fun _ => hd.1), (fun h => by cases h)⟩
  · rw [if_pos rfl]
    exact ⟨⟨by show 1 ≤ (keyB r.f0 u.f2).length; omega, by show (keyB r.f0 u.f2).length ≤ 60; omega, by show r.f1.length ≤ 1000; omega, m3, hb.2, m2, bytKey b1 (by omega) (show _ ≤ _ by omega), b2⟩, (fun h => by cases h), fun _ => ⟨hd.2, ⟨r.f0, r1, by rw [Int.toNat_of_nonneg (by omega)]; rfl⟩, by omega, by omega⟩⟩
theorem end_ok (u : UnS) (h2 : 1 ≤ u.f2) (h3 : u.f2 ≤ 1000000) : (lrR (endR u)).Ok ∧ KnOk (lrR (endR u)) (.fin u.f2.toNat) := by
  obtain ⟨d1, d2, d3, d4, _⟩ := dec_some u.f2 h2 h3
  have hkl : (keyB txnK u.f2).length = 11 + 8 := keyB_len _ _
  refine ⟨⟨by show 1 ≤ (keyB txnK u.f2).length; omega, by show (keyB txnK u.f2).length ≤ 60; omega, by show (dec u.f2).length ≤ 1000; omega, ⟨by show (0 : Int) ≤ 0; omega, by show (0 : Int) ≤ _; omega⟩, ⟨by show (0 : Int) ≤ 128; omega, by show (128 : Int) ≤ 255; omega⟩, ⟨by show (0 : Int) ≤ 0; omega, by show (0 : Int) ≤ 255; omega⟩, bytKey ?_ (by omega) (show _ ≤ _ by omega), fun x hx => by have := d3 x hx; omega⟩, ⟨show Go.bits .and .u8 (128 : Int) 64 = 0 by decide +kernel, show Go.bits .and .u8 (128 : Int) 128 = 128 by decide +kernel, d1, d3, d4, by omega, by omega⟩⟩
  intro x hx
  have : ∀ x ∈ ([33, 98, 97, 100, 103, 101, 114, 33, 116, 120, 110] : List Int), 0 ≤ x ∧ x ≤ 255 := by decide
  exact this x hx
theorem GU_ok (u : UnS) (hu : UOk u) (hw : ∀ r ∈ u.f0, wfR r) : ∀ x ∈ GU u, x.1.Ok ∧ KnOk x.1 x.2 := by
  obtain ⟨_, _, h2, h3, h4⟩ := hu
  intro x hx
  unfold GU at hx
  split at hx
  · rename_i h1
    rcases List.mem_append.1 hx with hx | hx
    · obtain ⟨r, hr, rfl⟩ := List.mem_map.1 hx
      have := lr_ok u r (hw r hr) (h4 r hr) h2 h3
      exact ⟨this.1, this.2.2 h1⟩
    · split at hx
      · cases hx
      · rw [List.mem_singleton] at hx; subst hx; exact end_ok u h2 h3
  · rename_i h1
    obtain ⟨r, hr, rfl⟩ := List.mem_map.1 hx
    have := lr_ok u r (hw r hr) (h4 r hr) h2 h3
    exact ⟨this.1, this.2.1 (by simpa using h1)⟩
/-- The bytes of records. -/
def bys (G : List LK) : List Int := (G.map (fun x => x.1.by_)).flatten
theorem bys_cons (x : LK) (G : List LK) : bys (x :: G) = x.1.by_ ++ bys G := rfl
theorem bys_app (G H : List LK) : bys (G ++ H) = bys G ++ bys H := by unfold bys; rw [List.map_append, List.flatten_append]
def fit : Nat → Nat → List LK → List LK
  | _, _, [] => []
  | p, n, x :: gs => if p + x.1.size ≤ n then x :: fit (p + x.1.size) n gs else []
theorem fit_take : ∀ (gs : List LK) (p n : Nat), ∃ j, fit p n gs = gs.take j
  | [], _, _ => ⟨0, rfl⟩
  | x :: gs, p, n => by
    unfold fit
    split
    · obtain ⟨j, h⟩ := fit_take gs (p + x.1.size) n
      exact ⟨j + 1, by rw [h]; rfl⟩
    · exact ⟨0, rfl⟩
theorem WB_take : ∀ (gs : List LK) (lc j : Nat), WB lc gs → WB lc (gs.take j)
  | [], _, j, _ => by rw [List.take_nil]; trivial
  | x :: gs, _, 0, _ => trivial
  | (r, .one) :: gs, lc, j + 1, h => ⟨h.1, WB_take gs _ j h.2⟩
  | (r, .txn ts) :: gs, lc, j + 1, h => ⟨h.1, WB_take gs _ j h.2⟩
  | (r, .fin ts) :: gs, lc, j + 1, h => ⟨h.1, WB_take gs _ j h.2⟩
theorem wb_txn (f : RecS → LR) (ts : Nat) (tl : List LK) : ∀ (l : List RecS) (lc : Nat), l ≠ [] → (lc = 0 ∨ lc = ts) → WB ts tl → WB lc (l.map (fun r => (f r, Kn.txn ts)) ++ tl)
  | [], _, h, _, _ => absurd rfl h
  | [r], lc, _, h, ht => ⟨h, ht⟩
  | r :: r2 :: l, lc, _, h, ht => ⟨h, wb_txn f ts tl (r2 :: l) ts (by simp) (.inr rfl) ht⟩
theorem wb_units : ∀ (us : List UnS), (∀ j u, us[j]? = some u → UOk2 us.length j u) → WB 0 (us.flatMap GU) := by
  intro us
  induction us with
  | nil => intro _; trivial
  | cons u us ih =>
    intro h
    have h0 := h 0 u rfl
    have hne : u.f0 ≠ [] := fun e => by have := h0.1.1; rw [e] at this; exact absurd this (by simp)
    have ih' := ih (fun j x hx => by
      have := h (j + 1) x hx
      exact ⟨this.1, this.2.1, fun h3 => by have := this.2.2 h3; rw [List.length_cons] at this; omega⟩)
    rw [List.flatMap_cons]
    unfold GU
    split
    · split
      · rename_i h1 h3
        have hl := h0.2.2 h3
        obtain rfl : us = [] := List.eq_nil_of_length_eq_zero (by rw [List.length_cons] at hl; omega)
        rw [List.append_assoc]
        exact wb_txn _ _ _ u.f0 0 hne (.inl rfl) trivial
      · rw [List.append_assoc]
        exact wb_txn _ _ _ u.f0 0 hne (.inl rfl) ⟨rfl, ih'⟩
    · rename_i h1
      obtain ⟨hl, _⟩ := h0.2.1 (by simpa using h1)
      obtain ⟨r, hr⟩ : ∃ r, u.f0 = [r] := List.length_eq_one_iff.1 hl
      rw [hr]
      exact ⟨rfl, ih'⟩
end Go.Proofs.YtpfmmbhbmdbmeaaGreatDoor
end
section
/- What stands in a log that is cut off, or of which a byte is changed; what is handed on of it. -/
namespace Go.Proofs.YtpfmmbhbmdbmeaaGreatDoor
open Go.RowKit Go.Proofs.YtpfmmbhbmdbmeaaGreatDoorQ.Ext
set_option linter.unusedVariables false
set_option linter.unusedSimpArgs false
open YtpfmmbhbmdbmeaaGreatDoorQ.QL (UOk UOk2 ROk wfR wr endR dec dec_some txnK bitsB WU szR posR totR cutU repP rb posR_len posR_fst totR_app)
/-- A record's bytes: its head and what stands behind it. -/
def LR.tl (r : LR) : List Int := r.k ++ (r.d ++ be32 (crcOut (recP r.m r.u r.e r.k r.d)))
theorem LR.by_eq (r : LR) : r.by_ = r.hd ++ r.tl := by
  unfold LR.by_ LR.hd LR.tl recB recP
  simp [List.append_assoc]
theorem LR.tl_len (r : LR) : r.tl.length = r.k.length + r.d.length + 4 := by
  unfold LR.tl
  rw [List.length_append, List.length_append]
  show _ + (_ + 4) = _
  omega
theorem lin_end : Lin [] [] := .stop [] 1 0 0 0 0 false (.inr ⟨rfl, 0, by have := (headB_len ((1 : Nat) : Int) ((0 : Nat) : Int) 0 0 0 (by omega) (by omega)).1; omega, rfl⟩) (Nat.le_refl _) (by omega) (by omega) ⟨by omega, by omega⟩ (fun h => by cases h.1)
/-- A log that is cut off. -/
theorem lin_cut : ∀ (G : List LK), (∀ x ∈ G, x.1.Ok ∧ KnOk x.1 x.2) → ∀ (p n : Nat), p ≤ n → Lin ((bys G).take (n - p)) (fit p n G)
  | [], _, p, n, _ => by
    show Lin (List.take _ []) []
    rw [List.take_nil]
    exact lin_end
  | (r, kn) :: gs, hG, p, n, hp => by
    have hx : r.Ok ∧ KnOk r kn := hG _ (List.mem_cons_self ..)
    have hbl := LR.by_len hx.1
    have hhd := LR.hd_len hx.1
    have htl := LR.tl_len r
    have hsz : r.size = r.hd.length + (r.k.length + r.d.length) + 4 := rfl
    rw [bys_cons]
    unfold fit
    show Lin ((r.by_ ++ bys gs).take (n - p)) (if p + r.size ≤ n then (r, kn) :: fit (p + r.size) n gs else [])
    split
    · rename_i hfit
      have e : (r.by_ ++ bys gs).take (n - p) = r.by_ ++ (bys gs).take (n - (p + r.size)) := by
        rw [List.take_append, List.take_of_length_le (by omega), hbl]
        congr 2
        omega
      rw [e]
      exact .more _ _ r kn hx.1 hx.2 (lin_cut gs (fun y hy => hG y (List.mem_cons_of_mem _ hy)) (p + r.size) n hfit)
    · rename_i hfit
      obtain ⟨j, hj⟩ : ∃ j, n - p = j := ⟨_, rfl⟩
      have e : (r.by_ ++ bys gs).take (n - p) = r.by_.take j := by rw [hj, List.take_append_of_le_length (by omega)]
      rw [e, LR.by_eq]
      rcases Nat.lt_or_ge j r.hd.length with hlt | hge
      · rw [List.take_append_of_le_length (by omega)]
        exact .stop _ r.k.length r.d.length r.e r.m r.u false (.inr ⟨rfl, j, hlt, rfl⟩) hx.1.k1 hx.1.k2 hx.1.d1 hx.1.e1 (fun h => by cases h.1)
      · have e2 : (r.hd ++ r.tl).take j = r.hd ++ r.tl.take (j - r.hd.length) := by rw [List.take_append, List.take_of_length_le hge]
        rw [e2]
        refine .stop _ r.k.length r.d.length r.e r.m r.u true (.inl ⟨rfl, _, rfl⟩) hx.1.k1 hx.1.k2 hx.1.d1 hx.1.e1 (fun h => ?_)
        have h2 := h.2.1
        have e3 : (r.hd ++ r.tl.take (j - r.hd.length)).drop (headB (r.k.length : Nat) (r.d.length : Nat) r.e r.m r.u).length = r.tl.take (j - r.hd.length) := List.drop_left
        rw [e3, List.length_take] at h2
        omega
theorem un32_set (x : Int) (hx : 0 ≤ x ∧ x ≤ 4294967295) (i : Nat) (y o : Int) (ho : (be32 x)[i]? = some o) (hy : 0 ≤ y ∧ y ≤ 255) (h : un32L ((be32 x).set i y) = x) : y = o := by
  have hi : i < 4 := (List.getElem?_eq_some_iff.1 ho).1
  have e : ∀ a b c d : Int, un32L [a, b, c, d] = un32 a b c d := fun _ _ _ _ => rfl
  have eb : be32 x = [x / 65536 / 256, x / 65536 % 256, x % 65536 / 256, x % 65536 % 256] := rfl
  rw [eb] at ho h
  have key : i = 0 ∨ i = 1 ∨ i = 2 ∨ i = 3 := by omega
  rcases key with rfl | rfl | rfl | rfl
  · simp only [List.getElem?_cons_zero, Option.some.injEq, List.set_cons_zero] at ho h
    rw [e] at h
    unfold un32 un16 at h
    omega
  · simp only [List.getElem?_cons_zero, List.getElem?_cons_succ, Option.some.injEq, List.set_cons_zero, List.set_cons_succ] at ho h
    rw [e] at h
    unfold un32 un16 at h
    omega
  · simp only [List.getElem?_cons_zero, List.getElem?_cons_succ, Option.some.injEq, List.set_cons_zero, List.set_cons_succ] at ho h
    rw [e] at h
    unfold un32 un16 at h
    omega
  · simp only [List.getElem?_cons_zero, List.getElem?_cons_succ, Option.some.injEq, List.set_cons_zero, List.set_cons_succ] at ho h
    rw [e] at h
    unfold un32 un16 at h
    omega
/-- A record of which a byte behind its head is another one is none. -/
theorem bad_rec (r : LR) (hr : r.Ok) (a : Nat) (o y : Int) (ho : r.tl[a]? = some o) (hy : 0 ≤ y ∧ y ≤ 255) (hne : y ≠ o) (Z : List Int) : Lin (r.hd ++ (r.tl.set a y ++ Z)) [] := by
  refine .stop _ r.k.length r.d.length r.e r.m r.u true (.inl ⟨rfl, _, rfl⟩) hr.k1 hr.k2 hr.d1 hr.e1 (fun h => ?_)
  have e3 : (r.hd ++ (r.tl.set a y ++ Z)).drop (headB (r.k.length : Nat) (r.d.length : Nat) r.e r.m r.u).length = r.tl.set a y ++ Z := List.drop_left
  have h3 := h.2.2
  rw [e3] at h3
  have hal : a < r.tl.length := (List.getElem?_eq_some_iff.1 ho).1
  rw [LR.tl_len] at hal
  have hkd : (r.k ++ r.d).length = r.k.length + r.d.length := List.length_append
  have hP : Byt (recP r.m r.u r.e r.k r.d) := (headB_byt _ _ _ _ _ (by omega) (by have := hr.k2; omega) (by omega) (by have := hr.d1; omega) hr.e1.1 hr.e1.2 hr.m1 hr.u1).append (hr.kb.append hr.db)
  have hin := crcOut_in _ hP
  have h4 : (be32 (crcOut (recP r.m r.u r.e r.k r.d))).length = 4 := rfl
  have etl : r.tl = (r.k ++ r.d) ++ be32 (crcOut (recP r.m r.u r.e r.k r.d)) := by unfold LR.tl; rw [List.append_assoc]
  rcases Nat.lt_or_ge a (r.k.length + r.d.length) with hlt | hge
  · have es : r.tl.set a y = (r.k ++ r.d).set a y ++ be32 (crcOut (recP r.m r.u r.e r.k r.d)) := by rw [etl, List.set_append_left _ _ (by omega)]
    have hsl : ((r.k ++ r.d).set a y).length = r.k.length + r.d.length := by rw [List.length_set, hkd]
    rw [es, List.append_assoc, List.drop_left' hsl, List.take_left' h4, List.take_left' hsl] at h3
    have h5 : un32L (be32 (crcOut (recP r.m r.u r.e r.k r.d))) = crcOut (recP r.m r.u r.e r.k r.d) := un32_be _ hin
    rw [h5] at h3
    have e6 : headB (r.k.length : Nat) (r.d.length : Nat) r.e r.m r.u ++ (r.k ++ r.d).set a y = (recP r.m r.u r.e r.k r.d).set (r.hd.length + a) y := by
      show r.hd ++ _ = (r.hd ++ (r.k ++ r.d)).set _ y
      rw [show (r.hd ++ (r.k ++ r.d)).set (r.hd.length + a) y = r.hd ++ (r.k ++ r.d).set (r.hd.length + a - r.hd.length) y from List.set_append_right _ _ (Nat.le_add_right _ _), Nat.add_sub_cancel_left]
    rw [e6] at h3
    have hoi : (recP r.m r.u r.e r.k r.d)[r.hd.length + a]? = some o := by
      show (r.hd ++ (r.k ++ r.d))[r.hd.length + a]? = _
      rw [List.getElem?_append_right (by omega), Nat.add_sub_cancel_left]
      rw [etl, List.getElem?_append_left (by omega)] at ho
      exact ho
    exact hne (crcOut_set _ hP _ o y hoi hy h3.symm)
  · have es : r.tl.set a y = (r.k ++ r.d) ++ (be32 (crcOut (recP r.m r.u r.e r.k r.d))).set (a - (r.k.length + r.d.length)) y := by rw [etl, List.set_append_right _ _ (by omega), hkd]
    rw [es, List.append_assoc, List.drop_left' hkd, List.take_left' (by rw [List.length_set]; exact h4), List.take_left' hkd] at h3
    have e6 : headB (r.k.length : Nat) (r.d.length : Nat) r.e r.m r.u ++ (r.k ++ r.d) = recP r.m r.u r.e r.k r.d := rfl
    rw [e6] at h3
    have hoi : (be32 (crcOut (recP r.m r.u r.e r.k r.d)))[a - (r.k.length + r.d.length)]? = some o := by
      rw [etl, List.getElem?_append_right (by omega), hkd] at ho
      exact ho
    exact hne (un32_set _ hin _ y o hoi hy h3)
theorem lin_app : ∀ (G : List LK) (Y : List Int), (∀ x ∈ G, x.1.Ok ∧ KnOk x.1 x.2) → Lin Y [] → Lin (bys G ++ Y) G
  | [], Y, _, h => h
  | (r, kn) :: gs, Y, hG, h => by
    rw [bys_cons, List.append_assoc]
    have hx := hG _ (List.mem_cons_self ..)
    exact .more _ _ r kn hx.1 hx.2 (lin_app gs Y (fun y hy => hG y (List.mem_cons_of_mem _ hy)) h)
theorem fit_app : ∀ (G : List LK), (∀ x ∈ G, x.1.Ok ∧ KnOk x.1 x.2) → ∀ (x : LK) (H : List LK) (p n : Nat), p + (bys G).length ≤ n → n < p + (bys G).length + x.1.size → fit p n (G ++ x :: H) = G
  | [], _, x, H, p, n, h1, h2 => by
    show fit p n (x :: H) = []
    unfold fit
    rw [if_neg (by have : (bys []).length = 0 := rfl; omega)]
  | y :: gs, hG, x, H, p, n, h1, h2 => by
    have hl := LR.by_len (hG y (List.mem_cons_self ..)).1
    rw [bys_cons, List.length_append, hl] at h1 h2
    show fit p n (y :: (gs ++ x :: H)) = _
    unfold fit
    rw [if_pos (by omega), fit_app gs (fun z hz => hG z (List.mem_cons_of_mem _ hz)) x H (p + y.1.size) n (by omega) (by omega)]
end Go.Proofs.YtpfmmbhbmdbmeaaGreatDoor
end
section
/- What is handed on of a log of units is what should be. -/
namespace Go.Proofs.YtpfmmbhbmdbmeaaGreatDoor
open Go.RowKit Go.Proofs.YtpfmmbhbmdbmeaaGreatDoorQ.Ext
set_option linter.unusedVariables false
set_option linter.unusedSimpArgs false
open YtpfmmbhbmdbmeaaGreatDoorQ.QL (UOk UOk2 ROk wfR wr endR dec dec_some txnK bitsB WU szR posR totR cutU repP rb posR_len posR_fst totR_app)
theorem size_lr (r : RecS) (h : (lrR r).Ok) : (lrR r).size = szR r := by rw [← LR.by_len h]; rfl
def posL : Nat → List LR → List (LR × Nat)
  | _, [] => []
  | p, r :: l => (r, p) :: posL (p + r.size) l
def sumL : List LR → Nat
  | [] => 0
  | r :: l => r.size + sumL l
theorem posR_map : ∀ (l : List RecS) (p : Nat), (∀ r ∈ l, (lrR r).Ok) → (posR p l).map (fun x => (lrR x.1, x.2)) = posL p (l.map lrR)
  | [], _, _ => rfl
  | r :: l, p, h => by
    show (lrR r, p) :: (posR (p + szR r) l).map _ = (lrR r, p) :: posL (p + (lrR r).size) (l.map lrR)
    rw [posR_map l _ (fun x hx => h x (List.mem_cons_of_mem _ hx)), size_lr r (h r (List.mem_cons_self ..))]
theorem totR_map : ∀ (l : List RecS), (∀ r ∈ l, (lrR r).Ok) → totR l = sumL (l.map lrR)
  | [], _ => rfl
  | r :: l, h => by
    show szR r + totR l = (lrR r).size + sumL (l.map lrR)
    rw [totR_map l (fun x hx => h x (List.mem_cons_of_mem _ hx)), size_lr r (h r (List.mem_cons_self ..))]
theorem posR_app : ∀ (l k : List RecS) (p : Nat), posR p (l ++ k) = posR p l ++ posR (p + totR l) k
  | [], k, p => rfl
  | r :: l, k, p => by
    show (r, p) :: posR (p + szR r) (l ++ k) = (r, p) :: (posR (p + szR r) l ++ posR (p + (szR r + totR l)) k)
    rw [posR_app l k (p + szR r), Nat.add_assoc]
theorem runO_txn (ts : Nat) (tl : List LK) : ∀ (l : List LR) (p : Nat) (pd : List (LR × Nat)), runO p pd (l.map (fun r => (r, Kn.txn ts)) ++ tl) = runO (p + sumL l) (pd ++ posL p l) tl
  | [], p, pd => by show runO p pd tl = runO (p + 0) (pd ++ []) tl; rw [List.append_nil, Nat.add_zero]
  | r :: l, p, pd => by
    show runO (p + r.size) (pd ++ [(r, p)]) (l.map (fun r => (r, Kn.txn ts)) ++ tl) = runO (p + (r.size + sumL l)) (pd ++ ((r, p) :: posL (p + r.size) l)) tl
    rw [runO_txn ts tl l, List.append_assoc, Nat.add_assoc]
    rfl
theorem runE_txn (ts : Nat) (tl : List LK) : ∀ (l : List LR) (p ve : Nat), runE p ve (l.map (fun r => (r, Kn.txn ts)) ++ tl) = runE (p + sumL l) ve tl
  | [], p, ve => by show runE p ve tl = runE (p + 0) ve tl; rw [Nat.add_zero]
  | r :: l, p, ve => by
    show runE (p + r.size) ve (l.map (fun r => (r, Kn.txn ts)) ++ tl) = runE (p + (r.size + sumL l)) ve tl
    rw [runE_txn ts tl l, Nat.add_assoc]
theorem run_only (ts : Nat) (l : List LR) (p ve : Nat) : runO p [] (l.map (fun r => (r, Kn.txn ts))) = [] ∧ runE p ve (l.map (fun r => (r, Kn.txn ts))) = ve := by
  have h1 := runO_txn ts [] l p []
  have h2 := runE_txn ts [] l p ve
  rw [List.append_nil] at h1 h2
  exact ⟨h1, h2⟩
theorem fit_txn (ts : Nat) (tl : List LK) : ∀ (l : List LR) (p n : Nat), (p + sumL l ≤ n ∧ fit p n (l.map (fun r => (r, Kn.txn ts)) ++ tl) = l.map (fun r => (r, Kn.txn ts)) ++ fit (p + sumL l) n tl) ∨ (n < p + sumL l ∧ ∃ j, fit p n (l.map (fun r => (r, Kn.txn ts)) ++ tl) = (l.take j).map (fun r => (r, Kn.txn ts)))
  | [], p, n => by
    rcases Nat.lt_or_ge n p with h | h
    · refine .inr ⟨h, 0, ?_⟩
      show fit p n tl = []
      cases tl with
      | nil => rfl
      | cons x tl =>
        unfold fit
        rw [if_neg (by omega)]
    · exact .inl ⟨h, rfl⟩
  | r :: l, p, n => by
    have e : fit p n ((r :: l).map (fun r => (r, Kn.txn ts)) ++ tl) = if p + r.size ≤ n then (r, Kn.txn ts) :: fit (p + r.size) n (l.map (fun r => (r, Kn.txn ts)) ++ tl) else [] := rfl
    have es : sumL (r :: l) = r.size + sumL l := rfl
    rw [e, es]
    split
    · rcases fit_txn ts tl l (p + r.size) n with ⟨h1, h2⟩ | ⟨h1, j, h2⟩
      · refine .inl ⟨by omega, ?_⟩
        rw [h2, ← Nat.add_assoc]
        rfl
      · exact .inr ⟨by omega, j + 1, by rw [h2]; rfl⟩
    · exact .inr ⟨by omega, 0, rfl⟩
theorem rep_run (n : Nat) : ∀ (us : List UnS), (∀ j u, us[j]? = some u → UOk2 us.length j u) → (∀ u ∈ us, ∀ r ∈ u.f0, wfR r) → ∀ (p en : Nat), runO p [] (fit p n (us.flatMap GU)) = (repP (n : Int) p en us).1.map (fun x => (lrR x.1, x.2)) ∧ runE p en (fit p n (us.flatMap GU)) = (repP (n : Int) p en us).2 := by
  intro us
  induction us with
  | nil => intro _ _ p en; exact ⟨rfl, rfl⟩
  | cons u us ih =>
    intro h hw p en
    have h0 := h 0 u rfl
    have hwu := hw u (List.mem_cons_self ..)
    have ih' := ih (fun j x hx => by
      have := h (j + 1) x hx
      exact ⟨this.1, this.2.1, fun h3 => by have := this.2.2 h3; rw [List.length_cons] at this; omega⟩) (fun x hx => hw x (List.mem_cons_of_mem _ hx))
    obtain ⟨⟨u1, u2, u3, u4, u5⟩, k1, k2⟩ := h0
    rw [List.flatMap_cons]
    cases f1 : u.f1
    · obtain ⟨hl, f3⟩ := k1 f1
      obtain ⟨r, hr⟩ : ∃ r, u.f0 = [r] := List.length_eq_one_iff.1 hl
      have eg : GU u = [(lrR (wr u r), Kn.one)] := by unfold GU; rw [f1, hr]; rfl
      have ew : WU u = [wr u r] := by unfold WU; rw [f1, hr]; rfl
      have hok := lr_ok u r (hwu r (by rw [hr]; exact List.mem_cons_self ..)) (u5 r (by rw [hr]; exact List.mem_cons_self ..)) u3 u4
      have hsz := size_lr _ hok.1
      have et : totR (WU u) = szR (wr u r) := by rw [ew]; show szR _ + 0 = _; exact Nat.add_zero _
      rw [eg]
      have ef : fit p n ([(lrR (wr u r), Kn.one)] ++ us.flatMap GU) = if p + (lrR (wr u r)).size ≤ n then (lrR (wr u r), Kn.one) :: fit (p + (lrR (wr u r)).size) n (us.flatMap GU) else [] := rfl
      rw [ef, hsz, repP, et, f3]
      by_cases hc : p + szR (wr u r) ≤ n
      · rw [if_pos hc, if_neg (by simp; omega)]
        obtain ⟨i1, i2⟩ := ih' (p + szR (wr u r)) (p + szR (wr u r))
        have eo : ∀ G, runO p [] ((lrR (wr u r), Kn.one) :: G) = (lrR (wr u r), p) :: runO (p + (lrR (wr u r)).size) [] G := fun _ => rfl
        have ee : ∀ G, runE p en ((lrR (wr u r), Kn.one) :: G) = runE (p + (lrR (wr u r)).size) (p + (lrR (wr u r)).size) G := fun _ => rfl
        refine ⟨?_, ?_⟩
        · rw [eo, hsz, i1, List.map_append]
          have ec : cutU u (WU u).length = 1 := by unfold cutU; rw [f1, ew]; rfl
          rw [ec, ew]
          rfl
        · rw [ee, hsz, i2]
      · rw [if_neg hc, if_pos (.inl (by omega))]
        exact ⟨rfl, rfl⟩
    · obtain ⟨l, hll⟩ : ∃ l, u.f0.map (fun r => lrR (wr u r)) = l := ⟨_, rfl⟩
      have em : u.f0.map (fun r => (lrR (wr u r), Kn.txn u.f2.toNat)) = l.map (fun r => (r, Kn.txn u.f2.toNat)) := by rw [← hll, List.map_map]; rfl
      have hok1 : ∀ r ∈ u.f0.map (wr u), (lrR r).Ok := fun r hr => by
        obtain ⟨x, hx, rfl⟩ := List.mem_map.1 hr
        exact (lr_ok u x (hwu x hx) (u5 x hx) u3 u4).1
      have el : (u.f0.map (wr u)).map lrR = l := by rw [← hll, List.map_map]; rfl
      have et1 : totR (u.f0.map (wr u)) = sumL l := by rw [totR_map _ hok1, el]
      cases f3 : u.f3
      · have eg : GU u = l.map (fun r => (r, Kn.txn u.f2.toNat)) ++ [(lrR (endR u), Kn.fin u.f2.toNat)] := by unfold GU; rw [f1, f3, em]; rfl
        have ew : WU u = u.f0.map (wr u) ++ [endR u] := by unfold WU; rw [f1, f3]; rfl
        have hse := size_lr _ (end_ok u u3 u4).1
        have et : totR (WU u) = sumL l + szR (endR u) := by rw [ew, totR_app, et1]; show _ + (szR _ + 0) = _; rw [Nat.add_zero]
        have ec : cutU u (WU u).length = (u.f0.map (wr u)).length := by unfold cutU; rw [f1, ew, List.length_append]; simp
        have ep : (posR p (WU u)).take (cutU u (WU u).length) = posR p (u.f0.map (wr u)) := by rw [ec, ew, posR_app, List.take_left' (posR_len _ _)]
        rw [eg, List.append_assoc, repP, et, ep, f3]
        rcases fit_txn u.f2.toNat ([(lrR (endR u), Kn.fin u.f2.toNat)] ++ us.flatMap GU) l p n with ⟨h1, h2⟩ | ⟨h1, j, h2⟩
        · rw [h2]
          have ef : fit (p + sumL l) n ([(lrR (endR u), Kn.fin u.f2.toNat)] ++ us.flatMap GU) = if p + sumL l + (lrR (endR u)).size ≤ n then (lrR (endR u), Kn.fin u.f2.toNat) :: fit (p + sumL l + (lrR (endR u)).size) n (us.flatMap GU) else [] := rfl
          rw [ef, hse]
          by_cases hc : p + sumL l + szR (endR u) ≤ n
          · rw [if_pos hc, if_neg (by simp; omega), runO_txn, runE_txn, List.nil_append]
            obtain ⟨i1, i2⟩ := ih' (p + sumL l + szR (endR u)) (p + sumL l + szR (endR u))
            have eo : ∀ (pd : List (LR × Nat)) (G : List LK), runO (p + sumL l) pd ((lrR (endR u), Kn.fin u.f2.toNat) :: G) = pd ++ runO (p + sumL l + (lrR (endR u)).size) [] G := fun _ _ => rfl
            have ee : ∀ G, runE (p + sumL l) en ((lrR (endR u), Kn.fin u.f2.toNat) :: G) = runE (p + sumL l + (lrR (endR u)).size) (p + sumL l + (lrR (endR u)).size) G := fun _ => rfl
            refine ⟨?_, ?_⟩
            · rw [eo, hse, i1, List.map_append, posR_map _ _ hok1, el, Nat.add_assoc]
            · rw [ee, hse, i2, Nat.add_assoc]
          · rw [if_neg hc, List.append_nil, if_pos (.inl (by omega))]
            exact run_only _ l p en
        · rw [h2, if_pos (.inl (by omega))]
          exact run_only _ (l.take j) p en
      · have hl := k2 f3
        obtain rfl : us = [] := List.eq_nil_of_length_eq_zero (by rw [List.length_cons] at hl; omega)
        have eg : GU u = l.map (fun r => (r, Kn.txn u.f2.toNat)) := by unfold GU; rw [f1, f3, em]; exact List.append_nil _
        rw [eg, repP, if_pos (.inr f3)]
        rcases fit_txn u.f2.toNat [] l p n with ⟨h1, h2⟩ | ⟨h1, j, h2⟩
        · show runO p [] (fit p n (_ ++ [])) = _ ∧ runE p en (fit p n (_ ++ [])) = _
          rw [h2]
          have ef : fit (p + sumL l) n [] = [] := rfl
          rw [ef, List.append_nil]
          exact run_only _ l p en
        · show runO p [] (fit p n (_ ++ [])) = _ ∧ runE p en (fit p n (_ ++ [])) = _
          rw [h2]
          exact run_only _ (l.take j) p en
end Go.Proofs.YtpfmmbhbmdbmeaaGreatDoor
end
