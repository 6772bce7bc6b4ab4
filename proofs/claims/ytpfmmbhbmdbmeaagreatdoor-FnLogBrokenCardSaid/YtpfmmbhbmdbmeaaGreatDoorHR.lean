/- What a log hands on is what it should. -/
import Derived.Test.YtpfmmbhbmdbmeaaGreatDoorHP
import Derived.Test.YtpfmmbhbmdbmeaaGreatDoorLL
import Derived.Test.YtpfmmbhbmdbmeaaGreatDoorQL7
namespace Go.Proofs.YtpfmmbhbmdbmeaaGreatDoorQ.QL
open Go.RowKit Go.Proofs.YtpfmmbhbmdbmeaaGreatDoorQ.Ext
set_option linter.unusedVariables false
theorem sameRec_refl (x : RecS) (h : x.f0.length ≤ 1000000 ∧ x.f1.length ≤ 1000000) : spec_SameRec.f x.f0 x.f1 x.f2 x.f3 x.f4 x.f0 x.f1 x.f2 x.f3 x.f4 = some true := by
  unfold spec_SameRec.f
  rw [spec_SameBytes.f, if_pos ⟨by omega, by omega⟩, Option.bind_some, if_pos (by simp), spec_SameBytes.f, if_pos ⟨by omega, by omega⟩, Option.bind_some, if_pos (by simp), if_pos rfl, if_pos rfl]
  simp
theorem sameRecs_refl (l : List RecS) (hl : l.length ≤ 1000000) (h : ∀ x ∈ l, x.f0.length ≤ 1000000 ∧ x.f1.length ≤ 1000000) (k : Nat) (hk : l.length < k) : spec_SameRecs.f k l l = some true := by
  have key : ∀ d i k, i + d = l.length → d < k → spec_SameRecs.l0 k l l (l.length : Int) (i : Int) = some true := by
    intro d
    induction d with
    | zero =>
      intro i k hi hk
      obtain ⟨k, rfl⟩ : ∃ n, k = n + 1 := ⟨k - 1, by omega⟩
      rw [spec_SameRecs.l0, if_neg (by omega)]
    | succ d ih =>
      intro i k hi hk
      obtain ⟨k, rfl⟩ : ∃ n, k = n + 1 := ⟨k - 1, by omega⟩
      rw [spec_SameRecs.l0, if_pos (by omega), if_pos (by omega), if_pos (by omega), if_pos (by omega), rdR l i (by omega), sameRec_refl _ (h _ (List.getElem_mem _)), Option.bind_some, if_pos rfl, w64 i (by omega)]
      exact ih (i + 1) k (by omega) (by omega)
  unfold spec_SameRecs.f
  rw [if_pos rfl]
  exact key l.length 0 k (by omega) hk
theorem sameSpots_refl (l : List S60) (hl : l.length ≤ 1000000) (k : Nat) (hk : l.length < k) : spec_SameSpots.f k l l = some true := by
  have key : ∀ d i k, i + d = l.length → d < k → spec_SameSpots.l0 k l l (l.length : Int) (i : Int) = some true := by
    intro d
    induction d with
    | zero =>
      intro i k hi hk
      obtain ⟨k, rfl⟩ : ∃ n, k = n + 1 := ⟨k - 1, by omega⟩
      rw [spec_SameSpots.l0, if_neg (by omega)]
    | succ d ih =>
      intro i k hi hk
      obtain ⟨k, rfl⟩ : ∃ n, k = n + 1 := ⟨k - 1, by omega⟩
      rw [spec_SameSpots.l0, if_pos (by omega), if_pos (by omega), if_pos (by omega), if_pos (by omega), if_neg (by simp), w64 i (by omega)]
      exact ih (i + 1) k (by omega) (by omega)
  unfold spec_SameSpots.f
  rw [if_pos rfl]
  exact key l.length 0 k (by omega) hk
end Go.Proofs.YtpfmmbhbmdbmeaaGreatDoorQ.QL
namespace Go.Proofs.YtpfmmbhbmdbmeaaGreatDoor
open Go.RowKit Go.Proofs.YtpfmmbhbmdbmeaaGreatDoorW.PrintWords Go.Proofs.YtpfmmbhbmdbmeaaGreatDoorQ.Ext
set_option linter.unusedVariables false
set_option linter.unusedSimpArgs false
def lrR (x : RecS) : LR := ⟨x.f0, x.f1, x.f2, x.f3, x.f4⟩
theorem lrR_inj : ∀ (l k : List RecS), l.map lrR = k.map lrR → l = k
  | [], [], _ => rfl
  | [], b :: k, h => by cases h
  | a :: l, [], h => by cases h
  | a :: l, b :: k, h => by
    rw [List.map_cons, List.map_cons] at h
    injection h with h1 h2
    have e : a = b := by
      cases a
      cases b
      unfold lrR at h1
      injection h1 with h1 h2 h3 h4 h5
      subst h1 h2 h3 h4 h5
      rfl
    rw [e, lrR_inj l k h2]
/-- What is compared lies there. -/
structure Due (vR vS : Value) (rs : List RR) (sp : List Sp3) (w : World) : Prop where
  rr : w.ownsRow 0 31 5 vR rs.length (flatRR rs)
  ss : w.ownsRow 0 60 3 vS sp.length (flatSp sp)
  ins : ∀ r ∈ rs, r.In w
set_option maxRecDepth 100000 in
set_option maxHeartbeats 4000000 in
theorem replays_any (n c : Nat) (A : Option Addr) (l : List Int) (fid : Int) (gs0 : List LK) (ae au at2 : Addr) (vR vS : Value) (rs : List RR) (sp : List Sp3) (en : Nat) (w : World)
    (hsl : Sl w A n (nums .u8 l)) (hbyt : Byt l) (hc : n ≤ c) (hn : n ≤ 900000) (h20 : 20 ≤ n) (hlin : Lin (l.drop 20) gs0) (hwb : WB 0 gs0) (hZ : ErrZ w ae au at2)
    (hd : Due vR vS rs sp w) (h1 : rs.map RR.lr = (runO 20 [] gs0).map (·.1)) (h2 : sp = (runO 20 [] gs0).map (sp3 fid)) (h3 : en = runE 20 20 gs0) :
    Calls Tryz.prog 14 #[.slice A n c, .int .u32 fid, vR, vS, .int .i64 (en : Nat)] w (fun E w' => E = .returned (.bool true) ∧ Below w.heap.size w w') := by
  have hlen : l.length = n := by have := hsl.1; rwa [nums_length] at this
  have hG := (lin_bound hlin 20 20 (Nat.le_refl _)).2
  rw [List.length_drop] at hG
  have hO := runO_len gs0 20 []
  rw [List.length_nil] at hO
  have hrsl : rs.length = (runO 20 [] gs0).length := by have := congrArg List.length h1; rwa [List.length_map, List.length_map] at this
  have hspl : sp.length = (runO 20 [] gs0).length := by rw [h2, List.length_map]
  have hkb : ∀ (rs' : List RR) (w' : World), (∀ r ∈ rs', r.In w') → rs'.map RR.lr = (runO 20 [] gs0).map (·.1) → ∀ r ∈ rs', r.nk ≤ 1000000 ∧ r.nd ≤ 1000000 := fun rs' w' hin hm r hr => by
    have h1 : r.lr ∈ rs'.map RR.lr := List.mem_map_of_mem hr
    rw [hm] at h1
    obtain ⟨x, hx, e⟩ := List.mem_map.1 h1
    have h2 := runO_ok LR.Ok gs0 20 [] (lin_ok hlin) (fun y hy => by cases hy) x hx
    rw [e] at h2
    have a1 : r.key.length ≤ 60 := h2.k2
    have a2 : r.dat.length ≤ 1000 := h2.d1
    rw [RR.nk_eq (hin r hr)] at a1
    rw [RR.nd_eq (hin r hr)] at a2
    exact ⟨by omega, by omega⟩
  have HKB := Lib.hid hkb
  have HB : Hid (rs.length ≤ 900000 ∧ sp.length ≤ 900000) := ⟨by omega, by omega⟩
  have HSL := Lib.hid hsl
  have HBY := Lib.hid hbyt
  have HLI := Lib.hid hlin
  have HWB := Lib.hid hwb
  have HZ := Lib.hid hZ
  have HD := Lib.hid hd
  have H1 := Lib.hid h1
  have H2 := Lib.hid h2
  have H3 := Lib.hid h3
  obtain ⟨AR, cR, eR, hcR, _, _⟩ := own_slT hd.rr
  obtain ⟨AS, cS, eS, hcS, _, _⟩ := own_slT hd.ss
  subst eR eS
  clear hsl hbyt hlin hwb hZ hd h1 h2 h3 hkb hlen hG hO hrsl hspl
  go_enter Tryz.func14, Tryz.ntmps14
  go_wp2_with fail
  refine Calls.mono (implReplay_any n c A l fid gs0 ae au at2 w HSL.out HBY.out hc hn h20 HLI.out HWB.out HZ.out) ?_
  rintro E w1 ⟨vL, vQ, rs1, ps1, rfl, hb, hol, hoq, hin, hm, hq⟩
  rw [← H3.out]
  obtain ⟨A1, c1, e1, hc1, _, _⟩ := own_slT hol
  obtain ⟨A2, c2, e2, hc2, _, _⟩ := own_slT hoq
  subst e1 e2
  have hpe : ps1 = sp := by rw [hq, H2.out]
  subst hpe
  have hse : rs1.map RR.s = rs.map RR.s := lrR_inj _ _ (by rw [List.map_map, List.map_map]; exact hm.trans H1.out.symm)
  have hle : rs1.length = rs.length := by have := congrArg List.length hse; rwa [List.length_map, List.length_map] at this
  have HDR1 : Hid (Kd.C kRec w1 A1 rs.length (rs.map RR.s)) := by
    have h := C_of_rr (own_slX hol) rfl hin (HKB.out rs1 w1 hin hm) (by have := HB.out.1; omega)
    rw [hse, hle] at h
    exact h
  have HDR2 : Hid (Kd.C kRec w1 AR rs.length (rs.map RR.s)) := by
    have h := C_of_rr ((own_slX HD.out.rr).below hb) rfl (fun r hr => (HD.out.ins r hr).below hb) (HKB.out rs w HD.out.ins H1.out) (by have := HB.out.1; omega)
    exact h
  have HDS1 := Lib.hid (C_of_sp (own_slX hoq) rfl (by have := HB.out.2; omega))
  have HDS2 := Lib.hid (C_of_sp ((own_slX HD.out.ss).below hb) rfl (by have := HB.out.2; omega))
  have HBB := Lib.hid hb
  have HNK : Hid (∀ x ∈ rs.map RR.s, x.f0.length ≤ 1000000 ∧ x.f1.length ≤ 1000000) := fun x hx => by
    obtain ⟨r, hr, rfl⟩ := List.mem_map.1 hx
    have := HKB.out rs w HD.out.ins H1.out r hr
    have e1 := RR.nk_eq (HD.out.ins r hr)
    have e2 := RR.nd_eq (HD.out.ins r hr)
    exact ⟨by show r.key.length ≤ _; omega, by show r.dat.length ≤ _; omega⟩
  rw [hle] at hc1 ⊢
  clear hb hol hoq hin hm hq hse hle HSL HBY HLI HWB HZ HD HKB
  go_wp2_with fail
  have e1 : rs.length = (rs.map RR.s).length := by rw [List.length_map]
  have hcall := YtpfmmbhbmdbmeaaGreatDoorQ.QL.spec_SameRecs.calls (rs.length + 1) A1 c1 (rs.map RR.s) AR cR (rs.map RR.s) true w1 (by rw [← e1]; exact HDR1.out) (by rw [← e1]; exact hc1) (by rw [← e1]; exact HDR2.out) (by rw [← e1]; exact hcR) (YtpfmmbhbmdbmeaaGreatDoorQ.QL.sameRecs_refl _ (by rw [← e1]; have := HB.out.1; omega) HNK.out _ (by rw [← e1]; omega))
  rw [← e1] at hcall
  refine Calls.mono hcall ?_
  rintro E w2 ⟨rfl, hb2⟩
  have HDS3 := Lib.hid (Kd.C_below HDS1.out hb2)
  have HDS4 := Lib.hid (Kd.C_below HDS2.out hb2)
  have HB2 := Lib.hid (HBB.out.trans (hb2.mono HBB.out.size))
  clear hcall hb2 e1 HDR1 HDR2 HDS1 HDS2
  go_wp2_with fail
  have e2 : ps1.length = (ps1.map sp3S).length := by rw [List.length_map]
  have hcall := YtpfmmbhbmdbmeaaGreatDoorQ.QL.spec_SameSpots.calls (ps1.length + 1) A2 c2 (ps1.map sp3S) AS cS (ps1.map sp3S) true w2 (by rw [← e2]; exact HDS3.out) (by rw [← e2]; exact hc2) (by rw [← e2]; exact HDS4.out) (by rw [← e2]; exact hcS) (YtpfmmbhbmdbmeaaGreatDoorQ.QL.sameSpots_refl _ (by rw [← e2]; have := HB.out.2; omega) _ (by rw [← e2]; omega))
  rw [← e2] at hcall
  refine Calls.mono hcall ?_
  rintro E w3 ⟨rfl, hb3⟩
  have HB3 := Lib.hid (HB2.out.trans (hb3.mono HB2.out.size))
  clear hcall hb3 e2 HDS3 HDS4
  go_wp2
  go_ret
  exact ⟨rfl, HB3.out⟩
end Go.Proofs.YtpfmmbhbmdbmeaaGreatDoor
