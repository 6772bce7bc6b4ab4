/- Records and their places, in the print's words. -/
import Derived.Test.YtpfmmbhbmdbmeaaGreatDoorHJ
import Derived.Test.YtpfmmbhbmdbmeaaGreatDoorQL0
namespace Go.Proofs.YtpfmmbhbmdbmeaaGreatDoor
open Go.RowKit Go.Proofs.YtpfmmbhbmdbmeaaGreatDoorW.PrintWords Go.Proofs.YtpfmmbhbmdbmeaaGreatDoorW.PrintLast Go.Proofs.YtpfmmbhbmdbmeaaGreatDoorW.PrintMore Go.Proofs.YtpfmmbhbmdbmeaaGreatDoorQ.Ext
set_option linter.unusedVariables false
set_option linter.unusedSimpArgs false
abbrev RecS := YtpfmmbhbmdbmeaaGreatDoorQ.QL.S31
abbrev SpS := YtpfmmbhbmdbmeaaGreatDoorQ.QL.S60
abbrev UnS := YtpfmmbhbmdbmeaaGreatDoorQ.QL.S45
abbrev kRec := YtpfmmbhbmdbmeaaGreatDoorQ.QL.k31
abbrev kSp := YtpfmmbhbmdbmeaaGreatDoorQ.QL.k60
abbrev kUn := YtpfmmbhbmdbmeaaGreatDoorQ.QL.k45
def RR.s (r : RR) : RecS := ⟨r.key, r.dat, r.e, r.m, r.u⟩
def sp3S (p : Sp3) : SpS := ⟨p.1, p.2.1, p.2.2⟩
theorem flatRR_len (l : List RR) : (flatRR l).length = l.length * 5 := by
  induction l with
  | nil => rfl
  | cons r l ih =>
    show (r.cells ++ flatRR l).length = _
    rw [List.length_append, ih, List.length_cons]
    show 5 + _ = _
    omega
theorem flatRR_at : ∀ (l : List RR) (i j : Nat) (r : RR), l[i]? = some r → j < 5 → (flatRR l)[i * 5 + j]? = r.cells[j]?
  | [], i, j, r, h, _ => by simp at h
  | x :: l, 0, j, r, h, hj => by
    rw [List.getElem?_cons_zero] at h
    injection h with h
    subst h
    show (x.cells ++ flatRR l)[0 * 5 + j]? = _
    rw [Nat.zero_mul, Nat.zero_add, List.getElem?_append_left hj]
  | x :: l, i + 1, j, r, h, hj => by
    rw [List.getElem?_cons_succ] at h
    show (x.cells ++ flatRR l)[(i + 1) * 5 + j]? = _
    rw [List.getElem?_append_right (by show 5 ≤ _; omega), ← flatRR_at l i j r h hj]
    congr 1
    show (i + 1) * 5 + j - 5 = _
    omega
theorem flatSp_at3 : ∀ (l : List Sp3) (i j : Nat) (p : Sp3), l[i]? = some p → j < 3 → (flatSp l)[i * 3 + j]? = (spC p)[j]?
  | [], i, j, r, h, _ => by simp at h
  | x :: l, 0, j, r, h, hj => by
    rw [List.getElem?_cons_zero] at h
    injection h with h
    subst h
    show (spC x ++ flatSp l)[0 * 3 + j]? = _
    rw [Nat.zero_mul, Nat.zero_add, List.getElem?_append_left hj]
  | x :: l, i + 1, j, r, h, hj => by
    rw [List.getElem?_cons_succ] at h
    show (spC x ++ flatSp l)[(i + 1) * 3 + j]? = _
    rw [List.getElem?_append_right (by show 3 ≤ _; omega), ← flatSp_at3 l i j r h hj]
    congr 1
    show (i + 1) * 3 + j - 3 = _
    omega
theorem RR.k {w : World} {r : RR} (h : r.In w) (hb : r.nk ≤ 1000000 ∧ r.nd ≤ 1000000) : kRec.K w r.s r.cells := by
  have e0 := RR.nk_eq h
  have e1 := RR.nd_eq h
  have g0 : Kd.C (Kd.int .u8) w r.Ak r.key.length r.key := by rw [e0]; exact C_of_sl h.key (by omega)
  have g1 : Kd.C (Kd.int .u8) w r.Ad r.dat.length r.dat := by rw [e1]; exact C_of_sl h.dat (by omega)
  have hk := YtpfmmbhbmdbmeaaGreatDoorQ.QL.k31_mk w r.s (A0 := r.Ak) (c0 := r.ck) (by show r.key.length ≤ _; rw [e0]; exact h.hk) g0 (A1 := r.Ad) (c1 := r.cd) (by show r.dat.length ≤ _; rw [e1]; exact h.hd) g1
  unfold RR.cells
  rw [← e0, ← e1]
  exact hk
theorem C_of_rr {w : World} {A : Option Addr} {n : Nat} {rs : List RR} (h : Sl w A (n * 5) (flatRR rs)) (hl : rs.length = n) (hi : ∀ r ∈ rs, r.In w) (hb : ∀ r ∈ rs, r.nk ≤ 1000000 ∧ r.nd ≤ 1000000) (hn : n ≤ 1000000000) : Kd.C kRec w A n (rs.map RR.s) := by
  refine ⟨by rw [List.length_map]; exact hl, by omega, fun h0 => ?_⟩
  obtain ⟨g, o, rfl, hc⟩ := h.2 (by omega)
  refine ⟨⟨g, o, none⟩, rfl, fun j p hj => ?_⟩
  rw [List.getElem?_map, Option.map_eq_some_iff] at hj
  obtain ⟨r, hr, rfl⟩ := hj
  have hm := List.mem_of_getElem? hr
  refine ⟨r.cells, rfl, RR.k (hi r hm) (hb r hm), fun i u hu => ?_⟩
  have h5 : i < 5 := (List.getElem?_eq_some_iff.1 hu).1
  have := hc (j * 5 + i) u (by rw [flatRR_at rs j i r hr h5]; exact hu)
  rw [add_none]
  exact this
theorem C_of_sp {w : World} {A : Option Addr} {n : Nat} {ps : List Sp3} (h : Sl w A (n * 3) (flatSp ps)) (hl : ps.length = n) (hn : n ≤ 1000000000) : Kd.C kSp w A n (ps.map sp3S) := by
  refine ⟨by rw [List.length_map]; exact hl, by omega, fun h0 => ?_⟩
  obtain ⟨g, o, rfl, hc⟩ := h.2 (by omega)
  refine ⟨⟨g, o, none⟩, rfl, fun j p hj => ?_⟩
  rw [List.getElem?_map, Option.map_eq_some_iff] at hj
  obtain ⟨r, hr, rfl⟩ := hj
  refine ⟨spC r, rfl, YtpfmmbhbmdbmeaaGreatDoorQ.QL.k60_mk w (sp3S r), fun i u hu => ?_⟩
  have h3 : i < 3 := (List.getElem?_eq_some_iff.1 hu).1
  have := hc (j * 3 + i) u (by rw [flatSp_at3 ps j i r hr h3]; exact hu)
  rw [add_none]
  exact this
/-- Records that are read: as they lie, and as long as their blocks stay. -/
theorem rr_of_F {W : World} {ok : Nat → Prop} {A : Option Addr} {n : Nat} {xs : List RecS} (h : Kd.F kRec W ok A n xs) : ∃ rs : List RR, rs.map RR.s = xs ∧ Sl W A (n * 5) (flatRR rs) ∧ ∀ r ∈ rs, ∀ X : List Nat, (∀ k, ok k → k < W.heap.size → k ∉ X) → Stab X W r.In := by
  obtain ⟨hl, hm, hc⟩ := Kd.F_rows h
  rcases Nat.eq_zero_or_pos n with h0 | h0
  · subst h0
    obtain rfl := List.eq_nil_of_length_eq_zero hl
    exact ⟨[], rfl, ⟨rfl, fun h => absurd h (by omega)⟩, fun r hr => by cases hr⟩
  obtain ⟨ad, rfl, hcc⟩ := hc h0
  have ex : ∀ (j : Nat) (hj : j < xs.length), ∃ r : RR, r.s = xs[j] ∧ (∀ i u, r.cells[i]? = some u → W.cell? (ad.add (j * 5 + i)) = some u) ∧ ∀ X : List Nat, (∀ k, ok k → k < W.heap.size → k ∉ X) → Stab X W r.In := fun j hj => by
    obtain ⟨c, _, hk, hcell⟩ := hcc j xs[j] (List.getElem?_eq_getElem hj)
    obtain ⟨A0, c0, A1, c1, rfl, l0, g0, l1, g1⟩ := YtpfmmbhbmdbmeaaGreatDoorQ.QL.k31_openF hk
    refine ⟨⟨A0, xs[j].f0.length, c0, A1, xs[j].f1.length, c1, xs[j].f0, xs[j].f1, xs[j].f2, xs[j].f3, xs[j].f4⟩, rfl, hcell, fun X hX W2 hs => ⟨sl_of_C (g0 W2 (fun k hk hlt => hs k hlt (hX k hk hlt))), sl_of_C (g1 W2 (fun k hk hlt => hs k hlt (hX k hk hlt))), l0, l1⟩⟩
  have ex2 : ∀ j : Fin xs.length, ∃ r : RR, r.s = xs[j.1] ∧ (∀ i u, r.cells[i]? = some u → W.cell? (ad.add (j.1 * 5 + i)) = some u) ∧ ∀ X : List Nat, (∀ k, ok k → k < W.heap.size → k ∉ X) → Stab X W r.In := fun j => ex j.1 j.2
  let f : Fin xs.length → RR := fun j => Classical.choose (ex2 j)
  have hf : ∀ j, (f j).s = xs[j.1] ∧ (∀ i u, (f j).cells[i]? = some u → W.cell? (ad.add (j.1 * 5 + i)) = some u) ∧ ∀ X : List Nat, (∀ k, ok k → k < W.heap.size → k ∉ X) → Stab X W (f j).In := fun j => Classical.choose_spec (ex2 j)
  have hget : ∀ j (hj : j < xs.length), (List.ofFn f)[j]? = some (f ⟨j, hj⟩) := fun j hj => by
    rw [List.getElem?_ofFn, dif_pos hj]
  have hp : ad = ⟨ad.block, ad.off, none⟩ := by
    have h1 := (hf ⟨0, by omega⟩).2.1 0 _ rfl
    have e0 : ad.add (0 * 5 + 0) = ad := by unfold Addr.add; simp
    rw [e0] at h1
    exact plain_at h1
  refine ⟨List.ofFn f, List.ext_getElem (by simp) (fun i h1 h2 => ?_), ⟨by rw [flatRR_len, List.length_ofFn, hl], fun _ => ⟨ad.block, ad.off, by rw [← hp], fun j u hu => ?_⟩⟩, fun r hr => ?_⟩
  · rw [List.getElem_map, List.getElem_ofFn]
    exact (hf ⟨i, h2⟩).1
  · have hj : j < xs.length * 5 := by have := (List.getElem?_eq_some_iff.1 hu).1; rw [flatRR_len, List.length_ofFn] at this; exact this
    have hq : j / 5 < xs.length := by omega
    have e1 : j / 5 * 5 + j % 5 = j := by omega
    have h1 := flatRR_at (List.ofFn f) (j / 5) (j % 5) _ (hget _ hq) (by omega)
    rw [e1] at h1
    have h2 := (hf ⟨j / 5, hq⟩).2.1 (j % 5) u (by rw [← h1]; exact hu)
    rw [hp, add_none] at h2
    simp only [e1] at h2
    exact h2
  · obtain ⟨j, rfl⟩ := List.mem_ofFn.1 hr
    exact (hf j).2.2
end Go.Proofs.YtpfmmbhbmdbmeaaGreatDoor
