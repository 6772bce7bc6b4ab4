/- The law of a log of which a byte is changed: its walk. -/
import Derived.Test.YtpfmmbhbmdbmeaaGreatDoorHV
import Derived.Test.YtpfmmbhbmdbmeaaGreatDoorPB
import Derived.Test.YtpfmmbhbmdbmeaaGreatDoorQL6
import Derived.Deep.RegionHeld3
import Derived.Deep.DeepCutAuto
namespace Go.Proofs.YtpfmmbhbmdbmeaaGreatDoor
open Go.RowKit Go.Proofs.YtpfmmbhbmdbmeaaGreatDoorW.PrintWords Go.Proofs.YtpfmmbhbmdbmeaaGreatDoorW.PrintLast Go.Proofs.YtpfmmbhbmdbmeaaGreatDoorW.PrintMore Go.Proofs.YtpfmmbhbmdbmeaaGreatDoorQ.Ext
set_option linter.unusedVariables false
set_option linter.unusedSimpArgs false
open YtpfmmbhbmdbmeaaGreatDoorQ.QL (UOk UOk2 ROk RGood wfR wr endR WU szR posR totR cutU repP rb rb_len flat_len mxU written_WU logRecs_WU logOf_some fits11_k units_k2)
theorem bys_of {H : List LK} {M : List RecS} (h : H.map (·.1) = M.map lrR) : bys H = (M.map rb).flatten := by
  unfold bys
  have h2 : H.map (fun x => x.1.by_) = (H.map (·.1)).map LR.by_ := by rw [List.map_map]; rfl
  rw [h2, h, List.map_map]
  rfl
theorem set_right (p q : List Int) (k : Nat) (v : Int) : (p ++ q).set (p.length + k) v = p ++ q.set k v := by
  rw [List.set_append_right _ _ (Nat.le_add_right _ _), Nat.add_sub_cancel_left]
theorem get_right (p q : List Int) (k : Nat) : (p ++ q)[p.length + k]? = q[k]? := by
  rw [List.getElem?_append_right (Nat.le_add_right _ _), Nat.add_sub_cancel_left]
/-- Where a byte of a record lies in a log. -/
theorem LogU.split {us : List UnS} {B : List Int} (h : LogU us B) {L : List RecS} (hL : us.flatMap WU = L) {j : Nat} {r : RecS} (hr : L[j]? = some r) : ∃ (G1 G2 : List LK) (x : LK), us.flatMap GU = G1 ++ x :: G2 ∧ x.1 = lrR r ∧ bys G1 = ((L.take j).map rb).flatten ∧ B = List.replicate 20 0 ++ (bys G1 ++ ((lrR r).hd ++ ((lrR r).tl ++ bys G2))) ∧ (∀ y ∈ G1, y.1.Ok ∧ KnOk y.1 y.2) ∧ (lrR r).Ok := by
  have hG : (us.flatMap GU).map (·.1) = L.map lrR := by
    rw [← hL, List.map_flatMap, List.map_flatMap]
    congr 1
    funext u
    exact GU_fst u (fun _ => .inr trivial)
  have h1 : ((us.flatMap GU).map (·.1))[j]? = some (lrR r) := by rw [hG, List.getElem?_map, hr]; rfl
  rw [List.getElem?_map, Option.map_eq_some_iff] at h1
  obtain ⟨x, hx, hxe⟩ := h1
  have hlt : j < (us.flatMap GU).length := (List.getElem?_eq_some_iff.1 hx).1
  have hsp : us.flatMap GU = (us.flatMap GU).take j ++ x :: (us.flatMap GU).drop (j + 1) := by
    have e := (List.take_append_drop j (us.flatMap GU)).symm
    rw [List.drop_eq_getElem_cons hlt, (List.getElem?_eq_some_iff.1 hx).2] at e
    exact e
  refine ⟨_, _, x, hsp, hxe, bys_of (by rw [List.map_take, hG, List.map_take]), ?_, fun y hy => h.ok y (List.mem_of_mem_take hy), ?_⟩
  · have e := h.eq
    rw [hsp, bys_app, bys_cons, hxe, LR.by_eq, List.append_assoc] at e
    exact e
  · have := (h.ok x (List.mem_of_getElem? hx)).1
    rw [hxe] at this
    exact this
theorem LogU.broken {us : List UnS} {B : List Int} (h : LogU us B) {L : List RecS} (hL : us.flatMap WU = L) {j : Nat} {r : RecS} (hr : L[j]? = some r) (fr a : Nat) (hf : fr = 20 + ((L.take j).map rb).flatten.length) (ha : (lrR r).hd.length + a < szR r) :
    fr + (lrR r).hd.length + a < B.length ∧ ∀ o y, B[fr + (lrR r).hd.length + a]? = some o → (0 ≤ y ∧ y ≤ 255) → y ≠ o → Lin ((B.set (fr + (lrR r).hd.length + a) y).drop 20) (fit 20 (fr + (lrR r).hd.length + a) (us.flatMap GU)) ∧ WB 0 (fit 20 (fr + (lrR r).hd.length + a) (us.flatMap GU)) := by
  obtain ⟨G1, G2, x, hsp, hxe, hb1, hB, hok1, hok⟩ := h.split hL hr
  have hsz := size_lr r hok
  have hs2 : (lrR r).size = (lrR r).hd.length + ((lrR r).k.length + (lrR r).d.length) + 4 := rfl
  have htl := LR.tl_len (lrR r)
  have eP : fr + (lrR r).hd.length + a = (List.replicate 20 (0 : Int)).length + ((bys G1).length + ((lrR r).hd.length + a)) := by rw [hf, ← hb1, List.length_replicate]; omega
  have hal : a < (lrR r).tl.length := by omega
  have hfit : fit 20 (fr + (lrR r).hd.length + a) (us.flatMap GU) = G1 := by
    rw [hsp]
    refine fit_app G1 hok1 x G2 20 _ ?_ ?_
    · rw [eP, List.length_replicate]; omega
    · rw [eP, List.length_replicate, hxe, hsz]; omega
  refine ⟨?_, fun o y ho hy hne => ?_⟩
  · rw [eP, hB, List.length_append, List.length_append, List.length_append, List.length_append]; omega
  · rw [eP, hB, get_right, get_right, get_right, List.getElem?_append_left hal] at ho
    have hs : B.set (fr + (lrR r).hd.length + a) y = List.replicate 20 0 ++ (bys G1 ++ ((lrR r).hd ++ ((lrR r).tl.set a y ++ bys G2))) := by
      rw [eP, hB, set_right, set_right, set_right, List.set_append_left _ _ hal]
    rw [hfit, hs, List.drop_left' (by simp)]
    refine ⟨lin_app G1 _ hok1 (bad_rec (lrR r) hok a o y ho hy hne _), ?_⟩
    obtain ⟨k, e⟩ := fit_take (us.flatMap GU) 20 (fr + (lrR r).hd.length + a)
    rw [hfit] at e
    rw [e]
    exact WB_take _ _ _ h.wb
/-- A byte of an own row, set. -/
theorem sl_own_set {w : World} {base e n : Nat} {g c : Nat} {xs : List Value} (h : w.ownsRow base e 1 (.slice (some ⟨g, 0, none⟩) n c) n xs) (i : Nat) (u : Value) : Sl (w.setCell ⟨g, i, none⟩ u) (some ⟨g, 0, none⟩) n (xs.set i u) := by
  have hs := own_slX h
  rw [Nat.mul_one] at hs
  refine ⟨by rw [List.length_set]; exact hs.1, fun hn => ⟨g, 0, rfl, fun j v hv => ?_⟩⟩
  obtain ⟨g', o', e2, hc⟩ := hs.2 hn
  obtain ⟨rfl, rfl⟩ : g = g' ∧ 0 = o' := by injection e2 with e2; injection e2 with a b; exact ⟨a, b⟩
  rw [Nat.zero_add]
  by_cases hj : j = i
  · subst hj
    have hjl : j < xs.length := by
      have := (List.getElem?_eq_some_iff.1 hv).1
      rwa [List.length_set] at this
    rw [List.getElem?_set_self hjl] at hv
    have h0 := hc j _ (List.getElem?_eq_getElem hjl)
    rw [Nat.zero_add] at h0
    exact (World.cell?_setCell_same _ _ u h0).trans hv
  · rw [List.getElem?_set_ne (Ne.symm hj)] at hv
    have h0 := hc j v hv
    rw [Nat.zero_add] at h0
    refine Eq.trans (World.cell?_setCell_other _ _ _ u (fun h => hj ?_)) h0
    injection h with _ h _
    exact h.symm
end Go.Proofs.YtpfmmbhbmdbmeaaGreatDoor
