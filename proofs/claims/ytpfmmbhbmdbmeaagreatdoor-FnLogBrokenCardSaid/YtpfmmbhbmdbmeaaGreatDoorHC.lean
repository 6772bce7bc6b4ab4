/- A number of as few bytes as it needs, of a reader that hashes. -/
import Derived.Test.YtpfmmbhbmdbmeaaGreatDoorHB
namespace Go.Proofs.YtpfmmbhbmdbmeaaGreatDoor
open Go.RowKit
set_option linter.unusedVariables false
set_option linter.unusedSimpArgs false
attribute [local go_sem] eqErr
def UvP (gt gb gc n c at' : Nat) (A : Option Addr) (l h : List Int) (R : Int × Int) (ae au : Addr) (w : World) (E : Ending) (w' : World) : Prop :=
  (∃ j : Nat, 0 < j ∧ R.2 = (j : Int) ∧ E = .returned (.tuple #[.int .u64 R.1, .nilIface]) ∧ HrS w' gt gb gc n c (at' + j) A l (h ++ (l.drop at').take j) ∧ Frm [gt, gb, gc] w w') ∨
  (R = (0, 0) ∧ ∃ y e, E = .returned (.tuple #[.int .u64 y, .iface 169 (.pointer (some e))]) ∧ (e = ae ∨ e = au) ∧ Frm [gt, gb, gc] w w')
set_option maxRecDepth 100000 in
theorem readUv_any (gt gb gc n c at' : Nat) (A : Option Addr) (l h : List Int) (ae au : Addr) (w : World) (r : HrS w gt gb gc n c at' A l h) (hneg : 0 ≤ (uvarL (l.drop at') 0 0).2) (hten : (uvarL (l.drop at') 0 0) = (0, 0) → (l.drop at').length < 10) (hh : h.length + 10 ≤ 1000000)
    (hV : w.cell? ⟨0, 0, none⟩ = some (.iface 169 (.pointer (some ae)))) (hU : w.cell? ⟨1, 0, none⟩ = some (.iface 169 (.pointer (some au)))) (hG : 8 ≤ gt ∧ 8 ≤ gb ∧ 8 ≤ gc) :
    Calls Tryz.prog 74 #[.pointer (some ⟨gt, 0, none⟩)] w (UvP gt gb gc n c at' A l h (uvarL (l.drop at') 0 0) ae au w) := by
  have R0 := Lib.hid r
  have HV := Lib.hid hV
  have HU := Lib.hid hU
  have HGN : Hid (∀ i ∈ [gt, gb, gc], 8 ≤ i) := fun i hi => by simp only [List.mem_cons, List.not_mem_nil, or_false] at hi; rcases hi with rfl | rfl | rfl <;> omega
  have hln : l.length = n := by have := r.sl.1; rwa [nums_length] at this
  obtain ⟨R, hR⟩ : ∃ R, R = uvarL (l.drop at') 0 0 := ⟨_, rfl⟩
  have HR := Lib.hid hR
  rw [← hR] at hneg hten ⊢
  have HTN := Lib.hid hten
  have HNG := Lib.hid hneg
  have HBY := Lib.hid r.byt
  have hat := r.le
  clear hR r hV hU hneg hten
  go_enter Tryz.func74, Tryz.ntmps74
  go_wp2_with fail
  go_loopg [4, 5, 6] 10 (fun q v4 v5 v6 wr => ∃ (i : Nat) (x : Int), v4 = .int .u64 x ∧ v5 = .int .u64 (7 * (i : Int)) ∧ v6 = .int .i64 i ∧ i ≤ 10 ∧ Hid (i + q = 10) ∧ Hid (at' + i ≤ n) ∧ Hid (i < 10 → 0 ≤ x ∧ x < 2 ^ (7 * i)) ∧ Hid (R = uvarL ((l.drop at').drop i) i x) ∧ Hid (HrS wr gt gb gc n c (at' + i) A l (h ++ (l.drop at').take i)) ∧ Hid (Frm [gt, gb, gc] w wr))
  case atStart => exact ⟨0, 0, rfl, rfl, rfl, by omega, by simp [Hid], hat, by simp [Hid], HR.out, by rw [List.take_zero, List.append_nil]; exact R0.out, Frm.refl _ _⟩
  case round =>
    obtain ⟨i, x, rfl, rfl, rfl, hi10, hq, hin, hx, hr, hrd, hfr⟩ := hrel
    clear R0
    by_cases h1 : at' + i < n
    · obtain ⟨b, hb⟩ : ∃ b, l[at' + i]? = some b := ⟨_, List.getElem?_eq_getElem (by omega)⟩
      have hlb : (l.drop at')[i]? = some b := by rw [List.getElem?_drop]; exact hb
      have hbb := HBY.out b (List.mem_of_getElem? hb)
      obtain ⟨hb0, hb1⟩ := hbb
      have HLB := Lib.hid hlb
      have HB0 := Lib.hid hb
      clear hlb hb
      by_cases h10 : i = 10
      · exfalso
        subst h10
        have hd := uvarL_ten _ _ _ _ HLB.out hr.out
        have := HNG.out
        rw [hd] at this
        exact absurd this (by decide)
      · have hi9 : i ≤ 9 := by omega
        have hlen : (h ++ (l.drop at').take i).length + 1 ≤ 1000000 := by rw [List.length_append, List.length_take]; omega
        have htk : (h ++ (l.drop at').take i) ++ [b] = h ++ (l.drop at').take (i + 1) := by
          rw [List.append_assoc, List.take_add_one, HLB.out]
          rfl
        have HTK := Lib.hid htk
        clear htk h10
        go_wp2_with fail
        refine (hashByte_some gt gb gc n c (at' + i) A l _ b wr hrd.out h1 HB0.out hlen).mono ?_
        rintro E w2 ⟨rfl, hr2, hf2⟩
        rw [HTK.out] at hr2
        have HR2 := Lib.hid hr2
        have HF2 : Hid (Frm [gt, gb, gc] w w2) := hfr.out.trans hf2 (fun k hk => .inl hk)
        clear hr2 hf2 hrd hfr hlen
        by_cases hlt : b < 128
        · by_cases h9 : i = 9
          · subst h9
            have hd := uvarL_at _ _ _ _ _ HLB.out hr.out
            by_cases hb9 : 1 < b
            · exfalso
              rw [if_neg (by omega), if_pos hlt, if_pos ⟨rfl, hb9⟩] at hd
              have := HNG.out
              rw [hd] at this
              exact absurd this (by decide)
            · rw [if_neg (by omega), if_pos hlt, if_neg (by omega)] at hd
              have HDD := Lib.hid hd
              clear hd
              go_wp2
              go_ret2
              have e := or_shl 9 x b (by omega) (hx.out (by omega)) hb0 (by omega) (by omega)
              rw [p63, wrapU64 _ (by omega) (by omega)] at e
              refine .inl ⟨10, by omega, by rw [HDD.out]; rfl, ?_, HR2.out, HF2.out⟩
              rw [HDD.out, p63, ← e]
              rfl
          · have h9b : ((i : Int) == 9) = false := by simp; omega
            have hd := uvarL_at _ _ _ _ _ HLB.out hr.out
            rw [if_neg (by omega), if_pos hlt, if_neg (by omega)] at hd
            have HDD := Lib.hid hd
            have H9 := Lib.hid h9
            clear h9 hd
            go_wp2
            go_ret2
            refine .inl ⟨i + 1, by omega, by rw [HDD.out]; show (i : Int) + 1 = _; omega, ?_, HR2.out, HF2.out⟩
            rw [HDD.out, ← or_shl i x b (by omega) (hx.out (by omega)) hb0 (by omega) (by have := H9.out; omega)]
            rfl
        · go_wp2
          rw [and127 b hb0 hb1]
          cases gk with
          | zero => exact absurd hq.out (by omega)
          | succ k1 =>
            go_roundg k1
            case measure => omega
            case rel =>
              refine ⟨i + 1, _, rfl, by go_num, by go_num, by omega, by have := hq.out; show _ = _; omega, by show _ ≤ _; omega, ?_, ?_, HR2.out, HF2.out⟩
              · intro h10
                rw [or_shl i x (b % 128) (by omega) (hx.out (by omega)) (by omega) (by omega) (by omega)]
                exact next_bound i x (b % 128) (by omega) (hx.out (by omega)) (by omega) (by omega)
              · have hd := uvarL_at _ _ _ _ _ HLB.out hr.out
                rw [if_neg (by omega), if_neg (by omega)] at hd
                show _ = _
                rw [hd]
                by_cases h9 : i = 9
                · subst h9; exact uvarL_any _ _ _
                · rw [or_shl i x (b % 128) (by omega) (hx.out (by omega)) (by omega) (by omega) (by omega)]
    · have hie : at' + i = n := by have := hin.out; omega
      have hR0 : R = (0, 0) := by
        rw [hr.out, List.drop_eq_nil_of_le (by rw [List.length_drop]; omega)]
        rfl
      have HR0 := Lib.hid hR0
      have HVr : Hid (wr.cell? ⟨0, 0, none⟩ = some (.iface 169 (.pointer (some ae)))) := cell_frm HV.out hfr.out (fun hx => absurd (HGN.out _ hx) (by decide))
      have HUr : Hid (wr.cell? ⟨1, 0, none⟩ = some (.iface 169 (.pointer (some au)))) := cell_frm HU.out hfr.out (fun hx => absurd (HGN.out _ hx) (by decide))
      by_cases h10 : i = 10
      · exfalso
        have h := HTN.out HR0.out
        rw [List.length_drop] at h
        omega
      · have hi9 : i ≤ 9 := by omega
        clear h10 hR0
        go_wp2_with fail
        refine (hashByte_end gt gb gc n c (at' + i) A l _ _ _ wr hrd.out hie HVr.out).mono ?_
        rintro E w2 ⟨rfl, hf2⟩
        have HF2 : Hid (Frm [gt, gb, gc] w w2) := hfr.out.trans hf2 (fun k hk => by cases hk)
        have v1 := cell_frm HVr.out hf2 (by simp)
        have v2 := cell_frm HUr.out hf2 (by simp)
        clear hf2 hfr hrd
        by_cases h0 : i = 0
        · subst h0
          go_wp2
          go_ret2
          exact .inr ⟨HR0.out, _, ae, rfl, .inl rfl, HF2.out⟩
        · have h0b : (0 : Int) < (i : Int) := by omega
          clear h0
          go_wp2
          go_ret2
          exact .inr ⟨HR0.out, _, au, rfl, .inr rfl, HF2.out⟩
end Go.Proofs.YtpfmmbhbmdbmeaaGreatDoor
