/- The head of a record, of a reader that hashes. -/
import Derived.Test.YtpfmmbhbmdbmeaaGreatDoorHC
import Derived.Test.YtpfmmbhbmdbmeaaGreatDoorGB
namespace Go.Proofs.YtpfmmbhbmdbmeaaGreatDoor
open Go.RowKit
set_option linter.unusedVariables false
set_option linter.unusedSimpArgs false
attribute [local go_sem] eqErr
/-- X begins with all of F, or is only a part of it. -/
def Pre (X F : List Int) (b : Bool) : Prop := (b = true ∧ ∃ rest, X = F ++ rest) ∨ (b = false ∧ ∃ j, j < F.length ∧ X = F.take j)
theorem pre_cons {X F : List Int} {x : Int} {b : Bool} (h : Pre X (x :: F) b) (hF : b = false → X ≠ [] → 0 < F.length) : (X = [] ∧ b = false) ∨ (∃ X', X = x :: X' ∧ Pre X' F b) := by
  rcases h with ⟨rfl, rest, rfl⟩ | ⟨rfl, j, hj, rfl⟩
  · exact .inr ⟨_, rfl, .inl ⟨rfl, rest, rfl⟩⟩
  · cases j with
    | zero => exact .inl ⟨rfl, rfl⟩
    | succ j => exact .inr ⟨_, rfl, .inr ⟨rfl, j, by rw [List.length_cons] at hj; omega, rfl⟩⟩
theorem pre_vint {X F : List Int} {v : Int} {b : Bool} (h : Pre X (vint 9 v ++ F) b) (h0 : 0 ≤ v) (h1 : v ≤ 18446744073709551615) :
    (b = false ∧ uvarL X 0 0 = (0, 0) ∧ X.length < 10) ∨ (uvarL X 0 0 = (v, ((vint 9 v).length : Int)) ∧ 0 < (vint 9 v).length ∧ X.take (vint 9 v).length = vint 9 v ∧ ((b = true ∧ ∃ rest, X.drop (vint 9 v).length = F ++ rest) ∨ (b = false ∧ ∃ j, j < F.length ∧ X.drop (vint 9 v).length = F.take j))) := by
  have hl := vint_len 9 v
  have hpos : 0 < (vint 9 v).length := by omega
  rcases h with ⟨rfl, rest, rfl⟩ | ⟨rfl, j, hj, rfl⟩
  · right
    rw [List.append_assoc]
    exact ⟨uvar_back v _ h0 h1, hpos, List.take_left, .inl ⟨rfl, rest, List.drop_left⟩⟩
  · rcases Nat.lt_or_ge j (vint 9 v).length with hlt | hge
    · left
      have e : (vint 9 v ++ F).take j = (vint 9 v).take j := by rw [List.take_append, Nat.sub_eq_zero_of_le (by omega), List.take_zero, List.append_nil]
      rw [e]
      exact ⟨rfl, uvar_short v j h0 h1 hlt, by rw [List.length_take]; omega⟩
    · right
      have e : (vint 9 v ++ F).take j = vint 9 v ++ F.take (j - (vint 9 v).length) := by rw [List.take_append, List.take_of_length_le hge]
      rw [e]
      rw [List.length_append] at hj
      exact ⟨uvar_back v _ h0 h1, hpos, List.take_left, .inr ⟨rfl, j - (vint 9 v).length, by omega, List.drop_left⟩⟩
structure DfS (w wr : World) (gt gb gc gh n c at' : Nat) (A : Option Addr) (l h : List Int) (vs : List Value) : Prop where
  r : HrS wr gt gb gc n c at' A l h
  hd : Blk wr gh 99 vs
  f : Frm [gt, gb, gc, gh] w wr
  n1 : gh ≠ gt ∧ gh ≠ gb ∧ gh ≠ gc
  ap : ∀ g o, A = some ⟨g, o, none⟩ → 0 < n → g ≠ gh
theorem DfS.read {w wr w2 : World} {gt gb gc gh n c at' at2 : Nat} {A : Option Addr} {l h h2 : List Int} {vs : List Value} (s : DfS w wr gt gb gc gh n c at' A l h vs) (hf : Frm [gt, gb, gc] wr w2) (hr : HrS w2 gt gb gc n c at2 A l h2) : DfS w w2 gt gb gc gh n c at2 A l h2 vs :=
  ⟨hr, s.hd.frm hf (by simp only [List.mem_cons, List.not_mem_nil, or_false, not_or]; exact s.n1), s.f.trans hf (fun i hi => .inl (by simp only [List.mem_cons, List.not_mem_nil, or_false] at hi ⊢; rcases hi with hi | hi | hi <;> simp [hi])), s.n1, s.ap⟩
theorem DfS.put {w wr : World} {gt gb gc gh n c at' : Nat} {A : Option Addr} {l h : List Int} {vs : List Value} (s : DfS w wr gt gb gc gh n c at' A l h vs) (i : Nat) (v : Value) : DfS w (wr.setCell ⟨gh, i, none⟩ v) gt gb gc gh n c at' A l h (vs.set i v) := by
  have hf : Frm [gh] wr (wr.setCell ⟨gh, i, none⟩ v) := Frm.set wr ⟨gh, i, none⟩ _
  have one : ∀ {x : Nat}, x ∈ [gh] → x = gh := fun hx => List.mem_singleton.1 hx
  exact ⟨s.r.frm hf (fun hx => s.n1.1 (one hx).symm) (fun hx => s.n1.2.1 (one hx).symm) (fun hx => s.n1.2.2 (one hx).symm) (fun g o e h0 hx => s.ap g o e h0 (one hx)), s.hd.set_ i v, s.f.trans hf (fun i hi => by rw [List.mem_singleton] at hi; subst hi; exact .inl (by simp)), s.n1, s.ap⟩
def DfP (gt gb gc gh n c at' : Nat) (A : Option Addr) (l : List Int) (k d e m u : Int) (ae au : Addr) (b : Bool) (w : World) (E : Ending) (w' : World) : Prop :=
  (b = true ∧ E = .returned (.tuple #[.int .i64 (headB k d e m u).length, .nilIface]) ∧ DfS w w' gt gb gc gh n c (at' + (headB k d e m u).length) A l (headB k d e m u) [.int .u32 k, .int .u32 d, .int .u64 e, .int .u8 m, .int .u8 u]) ∨
  (b = false ∧ (∃ y : Addr, E = .returned (.tuple #[.int .i64 0, .iface 169 (.pointer (some y))]) ∧ (y = ae ∨ y = au)) ∧ Frm [gt, gb, gc, gh] w w')
set_option maxRecDepth 100000 in
set_option maxHeartbeats 4000000 in
theorem decodeFrom_any (gt gb gc gh n c at' : Nat) (A : Option Addr) (l : List Int) (k d e m u : Int) (ae au : Addr) (b : Bool) (w : World) (r : HrS w gt gb gc n c at' A l []) (hh : Blk w gh 99 [.int .u32 0, .int .u32 0, .int .u64 0, .int .u8 0, .int .u8 0])
    (hp : Pre (l.drop at') (headB k d e m u) b) (hk : 0 ≤ k ∧ k ≤ 4294967295) (hd : 0 ≤ d ∧ d ≤ 4294967295) (he : 0 ≤ e ∧ e ≤ 18446744073709551615)
    (hV : w.cell? ⟨0, 0, none⟩ = some (.iface 169 (.pointer (some ae)))) (hU : w.cell? ⟨1, 0, none⟩ = some (.iface 169 (.pointer (some au)))) (hG : 8 ≤ gt ∧ 8 ≤ gb ∧ 8 ≤ gc ∧ 8 ≤ gh)
    (hn1 : gh ≠ gt ∧ gh ≠ gb ∧ gh ≠ gc) (hap : ∀ g o, A = some ⟨g, o, none⟩ → 0 < n → g ≠ gh) :
    Calls Tryz.prog 60 #[.pointer (some ⟨gh, 0, none⟩), .pointer (some ⟨gt, 0, none⟩)] w (DfP gt gb gc gh n c at' A l k d e m u ae au b w) := by
  have HGN : Hid (∀ i ∈ [gt, gb, gc, gh], 8 ≤ i) := fun i hi => by simp only [List.mem_cons, List.not_mem_nil, or_false] at hi; rcases hi with rfl | rfl | rfl | rfl <;> omega
  have hln : l.length = n := by have := r.sl.1; rwa [nums_length] at this
  have hle := r.le
  have S0 : Hid (DfS w w gt gb gc gh n c at' A l [] [.int .u32 0, .int .u32 0, .int .u64 0, .int .u8 0, .int .u8 0]) := ⟨r, hh, Frm.refl _ _, hn1, hap⟩
  have HV := Lib.hid hV
  have HU := Lib.hid hU
  have hp' : Pre (l.drop at') (m :: u :: (vint 9 k ++ (vint 9 d ++ (vint 9 e ++ [])))) b := by rw [List.append_nil]; exact hp
  have HHB : Hid (headB k d e m u = m :: u :: (vint 9 k ++ (vint 9 d ++ vint 9 e))) := rfl
  clear r hh hV hU hp
  have hvl1 := vint_len 9 k
  have p3 := S0.out.hd.at_ (i := 3) rfl
  have z3 := S0.out.hd.frozen 3
  go_enter Tryz.func60, Tryz.ntmps60
  rcases pre_cons hp' (fun _ _ => by rw [List.length_cons]; omega) with ⟨hX, rfl⟩ | ⟨X1, hX, hp1⟩
  · have hat : at' = n := by have := congrArg List.length hX; rw [List.length_drop, List.length_nil] at this; omega
    clear hp' hX
    go_wp2_with fail
    refine (hashByte_end gt gb gc n c at' A l [] _ _ w S0.out.r hat HV.out).mono ?_
    rintro E w2 ⟨rfl, hf2⟩
    have S2 := Lib.hid (S0.out.read (hf2.mono (fun i hi => by cases hi)) (S0.out.r.frm hf2 (by simp) (by simp) (by simp) (fun _ _ _ _ hx => by cases hx)))
    clear p3 z3 hf2
    have p3 := S2.out.hd.at_ (i := 3) rfl
    have z3 := S2.out.hd.frozen 3
    have S3 := Lib.hid (S2.out.put 3 (.int .u8 0))
    go_wp2
    go_ret2
    exact .inr ⟨rfl, ⟨ae, rfl, .inl rfl⟩, S3.out.f⟩
  clear hp'
  have hlt1 : at' < n := by have := congrArg List.length hX; rw [List.length_drop, List.length_cons] at this; omega
  have hx1 : l[at']? = some m := by have := congrArg (fun q => q[0]?) hX; simp only [List.getElem?_drop, Nat.add_zero] at this; simpa using this
  have hd1 : l.drop (at' + 1) = X1 := by rw [← List.drop_drop, hX]; rfl
  have HX1 := Lib.hid hx1
  have HD1 := Lib.hid hd1
  clear hX hx1 hd1
  go_wp2_with fail
  refine (hashByte_some gt gb gc n c at' A l [] m w S0.out.r hlt1 HX1.out (by simp)).mono ?_
  rintro E w2 ⟨rfl, hr2, hf2⟩
  have S2 := Lib.hid (S0.out.read hf2 hr2)
  clear p3 z3 hf2 hr2 S0
  have p3 := S2.out.hd.at_ (i := 3) rfl
  have z3 := S2.out.hd.frozen 3
  have S3 := Lib.hid (S2.out.put 3 (.int .u8 m))
  have p4 := S3.out.hd.at_ (i := 4) rfl
  have z4 := S3.out.hd.frozen 4
  go_wp2_with fail
  clear S2 p3 z3
  generalize w2.setCell ⟨gh, 3, none⟩ (.int .u8 m) = w3 at *
  rcases pre_cons hp1 (fun _ _ => by rw [List.length_append]; omega) with ⟨hX, rfl⟩ | ⟨X2, hX, hp2⟩
  · have hat : at' + 1 = n := by have := congrArg List.length (HD1.out.trans hX); rw [List.length_drop, List.length_nil] at this; omega
    have HV3 := Lib.hid (cell_frm HV.out S3.out.f (fun hx => absurd (HGN.out _ hx) (by decide)))
    clear hp1 hX p4 z4
    refine (hashByte_end gt gb gc n c (at' + 1) A l _ _ _ w3 S3.out.r hat HV3.out).mono ?_
    rintro E w4 ⟨rfl, hf4⟩
    have S4 := Lib.hid (S3.out.read (hf4.mono (fun i hi => by cases hi)) (S3.out.r.frm hf4 (by simp) (by simp) (by simp) (fun _ _ _ _ hx => by cases hx)))
    clear hf4
    have p4 := S4.out.hd.at_ (i := 4) rfl
    have z4 := S4.out.hd.frozen 4
    have S5 := Lib.hid (S4.out.put 4 (.int .u8 0))
    go_wp2
    go_ret2
    exact .inr ⟨rfl, ⟨ae, rfl, .inl rfl⟩, S5.out.f⟩
  have hlt2 : at' + 1 < n := by have := congrArg List.length (HD1.out.trans hX); rw [List.length_drop, List.length_cons] at this; omega
  have hx2 : l[at' + 1]? = some u := by have := congrArg (fun q => q[0]?) (HD1.out.trans hX); simp only [List.getElem?_drop, Nat.add_zero] at this; simpa using this
  have hd2 : l.drop (at' + 1 + 1) = X2 := by rw [← List.drop_drop, HD1.out, hX]; rfl
  have HX2 := Lib.hid hx2
  have HD2 := Lib.hid hd2
  clear hp1 hX hx2 hd2 p4 z4
  refine (hashByte_some gt gb gc n c (at' + 1) A l _ u w3 S3.out.r hlt2 HX2.out (by simp)).mono ?_
  rintro E w4 ⟨rfl, hr4, hf4⟩
  have S4 := Lib.hid (S3.out.read hf4 hr4)
  clear hf4 hr4 S3
  have p4 := S4.out.hd.at_ (i := 4) rfl
  have z4 := S4.out.hd.frozen 4
  have S5 := Lib.hid (S4.out.put 4 (.int .u8 u))
  go_wp2_with fail
  clear S4 p4 z4
  generalize w4.setCell ⟨gh, 4, none⟩ (.int .u8 u) = w5 at *
  have hk0 := hk.1
  have hk1 := hk.2
  have hd0 := hd.1
  have hd1 := hd.2
  have HL0 : Hid (([] ++ [m] ++ [u] : List Int).length = 2) := rfl
  generalize hAT0 : at' + 1 + 1 = at0 at *
  have HAT0 := Lib.hid hAT0
  clear hAT0
  generalize hHH0 : ([] ++ [m] ++ [u] : List Int) = h0 at *
  have HHH0 := Lib.hid hHH0
  clear hHH0
  have HV1 := Lib.hid (cell_frm HV.out S5.out.f (fun hx => absurd (HGN.out _ hx) (by decide)))
  have HU1 := Lib.hid (cell_frm HU.out S5.out.f (fun hx => absurd (HGN.out _ hx) (by decide)))
  have hvl1v := vint_len 9 k
  rcases pre_vint (F := vint 9 d ++ (vint 9 e ++ [])) hp2 hk0 (by omega) with ⟨rfl, huv, hten⟩ | ⟨huv, hpos, htk, hp3⟩
  · rw [← HD2.out] at huv hten
    have HUV := Lib.hid huv
    have HTN := Lib.hid hten
    clear huv hten hp2
    refine (readUv_any gt gb gc n c at0 A l h0 ae au w5 S5.out.r (by rw [HUV.out]; exact Int.le_refl _) (fun _ => HTN.out) (by have := HL0.out; omega) HV1.out HU1.out ⟨hG.1, hG.2.1, hG.2.2.1⟩).mono ?_
    intro E we hE
    rw [HUV.out] at hE
    rcases hE with ⟨j, hj, hj2, _⟩ | ⟨_, y, ee, rfl, hor, hfe⟩
    · exfalso
      have : (0 : Int) = (j : Int) := hj2
      omega
    have HFE : Hid (Frm [gt, gb, gc, gh] w we) := S5.out.f.trans hfe (fun i hi => .inl (by simp only [List.mem_cons, List.not_mem_nil, or_false] at hi ⊢; rcases hi with hi | hi | hi <;> simp [hi]))
    clear hfe
    go_wp2
    go_ret2
    exact .inr ⟨rfl, ⟨ee, rfl, hor⟩, HFE.out⟩
  rw [← HD2.out] at huv htk hp3
  have HUV := Lib.hid huv
  have HTK := Lib.hid htk
  have HPS := Lib.hid hpos
  have hd3 : l.drop (at0 + (vint 9 k).length) = (l.drop at0).drop (vint 9 k).length := by rw [List.drop_drop]
  rw [← hd3] at hp3
  clear huv htk hpos hp2 hd3
  refine (readUv_any gt gb gc n c at0 A l h0 ae au w5 S5.out.r (by rw [HUV.out]; exact Int.natCast_nonneg _) (fun h => by rw [HUV.out] at h; injection h with _ h; have := HPS.out; omega) (by have := HL0.out; omega) HV1.out HU1.out ⟨hG.1, hG.2.1, hG.2.2.1⟩).mono ?_
  intro E wf hE
  rw [HUV.out] at hE
  rcases hE with ⟨j, hj, hj2, hE, hrf, hff⟩ | ⟨h00, _⟩
  case inr =>
    exfalso
    injection h00 with _ h00
    have := HPS.out
    omega
  subst hE
  have hjl : j = (vint 9 k).length := by have : ((vint 9 k).length : Int) = (j : Int) := hj2; omega
  subst hjl
  rw [HTK.out] at hrf
  have T1 := Lib.hid (S5.out.read hff hrf)
  clear hj hj2 hrf hff HUV HTK HPS
  have c1 := T1.out.hd.at_ (i := 0) rfl
  have y1 := T1.out.hd.frozen 0
  have U1 := Lib.hid (T1.out.put 0 (.int .u32 k))
  go_wp2_with fail
  clear T1 c1 y1 HV1 HU1
  generalize wf.setCell ⟨gh, 0, none⟩ (.int .u32 k) = wn1 at *
  have HL1 : Hid ((h0 ++ vint 9 k).length ≤ 12) := by have := HL0.out; show _ ≤ _; rw [List.length_append]; omega
  generalize hAT1 : at0 + (vint 9 k).length = at1 at *
  have HAT1 := Lib.hid hAT1
  clear hAT1
  generalize hHH1 : h0 ++ vint 9 k = h1 at *
  have HHH1 := Lib.hid hHH1
  clear hHH1
  have HV2 := Lib.hid (cell_frm HV.out U1.out.f (fun hx => absurd (HGN.out _ hx) (by decide)))
  have HU2 := Lib.hid (cell_frm HU.out U1.out.f (fun hx => absurd (HGN.out _ hx) (by decide)))
  have hvl2v := vint_len 9 d
  rcases pre_vint (F := vint 9 e ++ []) hp3 hd0 (by omega) with ⟨rfl, huv, hten⟩ | ⟨huv, hpos, htk, hp4⟩
  · skip
    have HUV := Lib.hid huv
    have HTN := Lib.hid hten
    clear huv hten hp3
    refine (readUv_any gt gb gc n c at1 A l h1 ae au wn1 U1.out.r (by rw [HUV.out]; exact Int.le_refl _) (fun _ => HTN.out) (by have := HL1.out; omega) HV2.out HU2.out ⟨hG.1, hG.2.1, hG.2.2.1⟩).mono ?_
    intro E we hE
    rw [HUV.out] at hE
    rcases hE with ⟨j, hj, hj2, _⟩ | ⟨_, y, ee, rfl, hor, hfe⟩
    · exfalso
      have : (0 : Int) = (j : Int) := hj2
      omega
    have HFE : Hid (Frm [gt, gb, gc, gh] w we) := U1.out.f.trans hfe (fun i hi => .inl (by simp only [List.mem_cons, List.not_mem_nil, or_false] at hi ⊢; rcases hi with hi | hi | hi <;> simp [hi]))
    clear hfe
    go_wp2
    go_ret2
    exact .inr ⟨rfl, ⟨ee, rfl, hor⟩, HFE.out⟩
  have HUV := Lib.hid huv
  have HTK := Lib.hid htk
  have HPS := Lib.hid hpos
  have hd4 : l.drop (at1 + (vint 9 d).length) = (l.drop at1).drop (vint 9 d).length := by rw [List.drop_drop]
  rw [← hd4] at hp4
  clear huv htk hpos hp3 hd4
  refine (readUv_any gt gb gc n c at1 A l h1 ae au wn1 U1.out.r (by rw [HUV.out]; exact Int.natCast_nonneg _) (fun h => by rw [HUV.out] at h; injection h with _ h; have := HPS.out; omega) (by have := HL1.out; omega) HV2.out HU2.out ⟨hG.1, hG.2.1, hG.2.2.1⟩).mono ?_
  intro E wf hE
  rw [HUV.out] at hE
  rcases hE with ⟨j, hj, hj2, hE, hrf, hff⟩ | ⟨h00, _⟩
  case inr =>
    exfalso
    injection h00 with _ h00
    have := HPS.out
    omega
  subst hE
  have hjl : j = (vint 9 d).length := by have : ((vint 9 d).length : Int) = (j : Int) := hj2; omega
  subst hjl
  rw [HTK.out] at hrf
  have T2 := Lib.hid (U1.out.read hff hrf)
  clear hj hj2 hrf hff HUV HTK HPS
  have c2 := T2.out.hd.at_ (i := 1) rfl
  have y2 := T2.out.hd.frozen 1
  have U2 := Lib.hid (T2.out.put 1 (.int .u32 d))
  go_wp2_with fail
  clear T2 c2 y2 HV2 HU2
  generalize wf.setCell ⟨gh, 1, none⟩ (.int .u32 d) = wn2 at *
  have HL2 : Hid ((h1 ++ vint 9 d).length ≤ 22) := by have := HL1.out; show _ ≤ _; rw [List.length_append]; omega
  generalize hAT2 : at1 + (vint 9 d).length = at2 at *
  have HAT2 := Lib.hid hAT2
  clear hAT2
  generalize hHH2 : h1 ++ vint 9 d = h2 at *
  have HHH2 := Lib.hid hHH2
  clear hHH2
  have HV3 := Lib.hid (cell_frm HV.out U2.out.f (fun hx => absurd (HGN.out _ hx) (by decide)))
  have HU3 := Lib.hid (cell_frm HU.out U2.out.f (fun hx => absurd (HGN.out _ hx) (by decide)))
  have hvl3v := vint_len 9 e
  rcases pre_vint (F := []) hp4 he.1 he.2 with ⟨rfl, huv, hten⟩ | ⟨huv, hpos, htk, hp5⟩
  · skip
    have HUV := Lib.hid huv
    have HTN := Lib.hid hten
    clear huv hten hp4
    refine (readUv_any gt gb gc n c at2 A l h2 ae au wn2 U2.out.r (by rw [HUV.out]; exact Int.le_refl _) (fun _ => HTN.out) (by have := HL2.out; omega) HV3.out HU3.out ⟨hG.1, hG.2.1, hG.2.2.1⟩).mono ?_
    intro E we hE
    rw [HUV.out] at hE
    rcases hE with ⟨j, hj, hj2, _⟩ | ⟨_, y, ee, rfl, hor, hfe⟩
    · exfalso
      have : (0 : Int) = (j : Int) := hj2
      omega
    have HFE : Hid (Frm [gt, gb, gc, gh] w we) := U2.out.f.trans hfe (fun i hi => .inl (by simp only [List.mem_cons, List.not_mem_nil, or_false] at hi ⊢; rcases hi with hi | hi | hi <;> simp [hi]))
    have HBE := Lib.hid (U2.out.hd.frm hfe (by simp only [List.mem_cons, List.not_mem_nil, or_false, not_or]; exact hn1))
    have ce := HBE.out.at_ (i := 2) rfl
    have ye := HBE.out.frozen 2
    have HFX : Hid (Frm [gt, gb, gc, gh] w (we.setCell ⟨gh, 2, none⟩ (.int .u64 y))) := HFE.out.andSet _ _ (.inl (by simp))
    clear hfe
    go_wp2
    go_ret2
    exact .inr ⟨rfl, ⟨ee, rfl, hor⟩, HFX.out⟩
  have HUV := Lib.hid huv
  have HTK := Lib.hid htk
  have HPS := Lib.hid hpos
  have hd5 : l.drop (at2 + (vint 9 e).length) = (l.drop at2).drop (vint 9 e).length := by rw [List.drop_drop]
  rw [← hd5] at hp5
  clear huv htk hpos hp4 hd5
  refine (readUv_any gt gb gc n c at2 A l h2 ae au wn2 U2.out.r (by rw [HUV.out]; exact Int.natCast_nonneg _) (fun h => by rw [HUV.out] at h; injection h with _ h; have := HPS.out; omega) (by have := HL2.out; omega) HV3.out HU3.out ⟨hG.1, hG.2.1, hG.2.2.1⟩).mono ?_
  intro E wf hE
  rw [HUV.out] at hE
  rcases hE with ⟨j, hj, hj2, hE, hrf, hff⟩ | ⟨h00, _⟩
  case inr =>
    exfalso
    injection h00 with _ h00
    have := HPS.out
    omega
  subst hE
  have hjl : j = (vint 9 e).length := by have : ((vint 9 e).length : Int) = (j : Int) := hj2; omega
  subst hjl
  rw [HTK.out] at hrf
  have T3 := Lib.hid (U2.out.read hff hrf)
  clear hj hj2 hrf hff HUV HTK HPS
  have c3 := T3.out.hd.at_ (i := 2) rfl
  have y3 := T3.out.hd.frozen 2
  have U3 := Lib.hid (T3.out.put 2 (.int .u64 e))
  have hbt : b = true := by
    rcases hp5 with ⟨rfl, _⟩ | ⟨_, j, hj, _⟩
    · rfl
    · exact absurd hj (Nat.not_lt_zero _)
  clear hp5
  have HHF : Hid (h2 ++ vint 9 e = headB k d e m u) := by
    show _ = _
    rw [← HHH2.out, ← HHH1.out, ← HHH0.out, HHB.out]
    simp
  have HAF : Hid (at2 + (vint 9 e).length = at' + (headB k d e m u).length) := by
    have h1 := HAT0.out
    have h2 := HAT1.out
    have h3 := HAT2.out
    show _ = _
    rw [HHB.out]
    simp only [List.length_cons, List.length_append]
    omega
  have HUF : Hid (DfS w (wf.setCell ⟨gh, 2, none⟩ (.int .u64 e)) gt gb gc gh n c (at' + (headB k d e m u).length) A l (headB k d e m u) [.int .u32 k, .int .u32 d, .int .u64 e, .int .u8 m, .int .u8 u]) := by
    have h := U3.out
    rw [HHF.out, HAF.out] at h
    exact h
  have t9 := HUF.out.r.t.at_ (i := 2) rfl
  go_wp2
  go_ret2
  exact .inl ⟨hbt, rfl, HUF.out⟩
end Go.Proofs.YtpfmmbhbmdbmeaaGreatDoor
