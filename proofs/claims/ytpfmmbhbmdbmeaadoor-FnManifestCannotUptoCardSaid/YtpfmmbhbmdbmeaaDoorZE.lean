/- The bytes of a manifest, whole. -/
import Derived.Test.YtpfmmbhbmdbmeaaDoorZA
namespace Go.Proofs.YtpfmmbhbmdbmeaaDoor
open Go.RowKit
set_option linter.unusedVariables false
set_option linter.unusedSimpArgs false
theorem take_snocZ {α : Type} (ls : List α) (i : Nat) (l : α) (h : ls[i]? = some l) : ls.take (i + 1) = ls.take i ++ [l] := by
  rw [List.take_add_one, h]
  rfl
theorem manB_snoc (m : Int) (ls : List (List Chg)) (i : Nat) (l : List Chg) (h : ls[i]? = some l) : manB m (ls.take (i + 1)) = manB m (ls.take i) ++ setB l := by
  unfold manB
  rw [take_snocZ ls i l h, List.flatMap_append, List.flatMap_singleton, List.append_assoc]
theorem take_flat_le (ls : List (List Chg)) (i : Nat) : (ls.take i).flatten.length ≤ ls.flatten.length := by
  have h : ls.flatten = (ls.take i).flatten ++ (ls.drop i).flatten := by rw [← List.flatten_append, List.take_append_drop]
  rw [h, List.length_append]
  omega
theorem manB_le (m : Int) (ls : List (List Chg)) : (manB m ls).length ≤ 8 + 8 * ls.length + 77 * ls.flatten.length := by
  have h := setsB_le ls
  unfold manB
  rw [List.length_append]
  have : (headM m).length = 8 := rfl
  omega
set_option maxRecDepth 100000 in
set_option maxHeartbeats 4000000 in
theorem bytesOf_any (mark : Int) (A : Option Addr) (m c : Nat) (ls : List (List Chg)) (w : World) (h0 : 0 ≤ mark) (h1 : mark ≤ 65535) (h : Sets w A m ls) (hm : m ≤ 1000) (hN : ls.flatten.length ≤ 1000) (hok : ∀ x ∈ ls.flatten, Chg.ok x) :
    Calls Tryd.prog 11 #[.int .u16 mark, .slice A m c] w (Made w 5 (nums .u8 (manB mark ls))) := by
  have H := Lib.hid h
  have HN := Lib.hid hN
  have HK := Lib.hid hok
  clear h hN hok
  go_enter Tryd.func11, Tryd.ntmps11
  go_wp2_with fail
  refine (head_any mark w h0 h1).mono ?_
  intro E w1 hE
  obtain ⟨A1, c1, rfl, hc1, hs1, hb1, ho1⟩ := hE.sv
  clear hE ho1
  go_wp2_with fail
  refine (own_any A1 _ c1 (headM mark) w1 hs1.out (by show 8 ≤ _; omega)).mono ?_
  intro E w2 hE
  obtain ⟨A2, c2, rfl, hc2, hs2, hb2, ho2⟩ := hE.sv
  have HU2 : Hid (Below w.heap.size w w2) := hb1.out.trans (hb2.out.mono hb1.out.size)
  have HO2 : Hid (w2.ownsRow w.heap.size 5 1 (.slice A2 (headM mark).length c2) (headM mark).length (nums .u8 (manB mark (ls.take 0)))) := by
    have h := own_weaken' ho2.out hb1.out.size
    have e : manB mark (ls.take 0) = headM mark := by unfold manB; simp
    rw [e]
    exact h
  clear hE hs2 hb2 ho2 hs1 hb1
  generalize (headM mark).length = k0 at *
  go_wp2_with fail
  go_loopg [5, 13] m (fun f v5 v13 wr => ∃ (i k c5 : Nat) (A5 : Option Addr), v5 = .slice A5 k c5 ∧ v13 = .int .i64 i ∧ i ≤ m ∧ Hid (i + f = m) ∧ Hid (wr.ownsRow w.heap.size 5 1 (.slice A5 k c5) k (nums .u8 (manB mark (ls.take i)))) ∧ Hid (Below w.heap.size w wr))
  case atStart => exact ⟨0, k0, c2, A2, rfl, rfl, Nat.zero_le _, Nat.zero_add _, HO2.out, HU2.out⟩
  case round =>
    obtain ⟨i, k, c5, A5, rfl, rfl, him, hf, hO, hU⟩ := hrel
    have HKL : Hid (k = (manB mark (ls.take i)).length) := by have h := hO.out.1; rw [nums_length, Nat.mul_one] at h; exact h.symm
    have HKB : Hid (k ≤ 100000) := by
      have h1 := manB_le mark (ls.take i)
      have h2 := take_flat_le ls i
      have h3 := HN.out
      have h4 : (ls.take i).length ≤ m := by rw [List.length_take, H.out.1]; exact Nat.min_le_right _ _
      have := HKL.out
      show _ ≤ _
      omega
    by_cases hlt : i < m
    · obtain ⟨ga, oa, l, B, cB, hAe, hl, hcl, hsl⟩ := (H.out.below hU.out).2 i hlt
      subst hAe
      have HSL := Lib.hid hsl
      have HLI := Lib.hid hl
      have HLK : Hid (∀ x ∈ l, Chg.ok x) := fun x hx => HK.out x (List.mem_flatten.2 ⟨l, List.mem_of_getElem? hl, hx⟩)
      have HLL : Hid (l.length ≤ 1000) := by
        obtain ⟨a, b, hab⟩ := List.append_of_mem (List.mem_of_getElem? hl)
        have h1 := HN.out
        rw [hab, List.flatten_append, List.flatten_cons, List.length_append, List.length_append] at h1
        show _ ≤ _
        omega
      obtain ⟨gkO, rfl⟩ : ∃ q, gk = q + 1 := ⟨gk - 1, by have := hf.out; omega⟩
      clear hl hsl
      go_wp2_with fail
      refine (givenChanges_any B l.length cB l wr HSL.out (by have := HLL.out; omega)).mono ?_
      rintro E wg ⟨vg, gs, rfl, hog, hpg, hbg⟩
      obtain ⟨Ag, cg, rfl, hcg, hsg⟩ := own_sl hog
      have HSG := Lib.hid hsg
      have HPG := Lib.hid hpg
      have HBG := Lib.hid hbg
      have HOG := Lib.hid (own_keep hO.out hbg)
      have HUG : Hid (Below w.heap.size w wg) := hU.out.trans (hbg.mono hU.out.size)
      clear hog hpg hbg hsg
      go_wp2_with fail
      refine (appendSet_any w.heap.size k c5 l.length cg _ A5 Ag _ gs l wg HOG.out HUG.out.size HSG.out HPG.out HLK.out HLL.out (by have := HKB.out; omega)).mono ?_
      rintro E w4 ⟨v4, rfl, ho4, hb4⟩
      obtain ⟨A4, c4, rfl, hc4, hs4⟩ := own_sl ho4
      have HU4 : Hid (Below w.heap.size w w4) := HUG.out.trans hb4
      have HS4 := Lib.hid hs4
      have HL4 : Hid ((manB mark (ls.take i) ++ setB l).length ≤ 200000) := by
        have h1 := setB_le l
        have h2 := HKL.out
        have h3 := HKB.out
        have h4 := HLL.out
        show _ ≤ _
        rw [List.length_append]
        omega
      clear ho4 hb4 hs4 HOG HSG HPG HBG HUG HSL
      generalize hbig : manB mark (ls.take i) ++ setB l = big at *
      have HBIG := Lib.hid hbig
      clear hbig
      go_wp2_with fail
      refine (own_any A4 _ c4 _ w4 HS4.out (by have := HL4.out; omega)).mono ?_
      intro E w5 hE
      obtain ⟨A6, c6, rfl, hc6, hs6, hb6, ho6⟩ := hE.sv
      have HO6 := Lib.hid (own_weaken' ho6.out HU4.out.size)
      have HU6 : Hid (Below w.heap.size w w5) := HU4.out.trans (hb6.out.mono HU4.out.size)
      clear hE hs6 hb6 ho6 HU4 HS4
      go_wp2
      go_roundg gkO
      case measure => omega
      case rel => exact ⟨i + 1, _, c6, A6, rfl, by go_num, by omega, by have := hf.out; show _ = _; omega, by rw [manB_snoc mark ls i l HLI.out, HBIG.out]; exact HO6.out, HU6.out⟩
    · have hie : i = m := by omega
      subst hie
      have hge : ¬ ((i : Int) < (i : Int)) := by omega
      go_wp2
      go_ret
      refine ⟨_, rfl, ?_, hU.out⟩
      have h := hO.out
      rw [List.take_of_length_le (by rw [H.out.1]; exact Nat.le_refl _)] at h HKL
      rw [nums_length, ← HKL.out]
      exact h
end Go.Proofs.YtpfmmbhbmdbmeaaDoor
