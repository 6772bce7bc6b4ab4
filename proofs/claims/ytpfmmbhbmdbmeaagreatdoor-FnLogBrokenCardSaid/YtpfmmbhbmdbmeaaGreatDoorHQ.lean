/- What should be handed on of a log of units. -/
import Derived.Test.YtpfmmbhbmdbmeaaGreatDoorHP
import Derived.Test.YtpfmmbhbmdbmeaaGreatDoorLL
import Derived.Test.YtpfmmbhbmdbmeaaGreatDoorQL5
import Derived.Test.YtpfmmbhbmdbmeaaGreatDoorQL6
import Derived.BigRegion
import Derived.Deep.DeepCutAuto
import Derived.Deep.CutBlock
namespace Go.Proofs.YtpfmmbhbmdbmeaaGreatDoor
open Go.RowKit Go.Proofs.YtpfmmbhbmdbmeaaGreatDoorW.PrintWords Go.Proofs.YtpfmmbhbmdbmeaaGreatDoorW.PrintLast Go.Proofs.YtpfmmbhbmdbmeaaGreatDoorW.PrintMore Go.Proofs.YtpfmmbhbmdbmeaaGreatDoorQ.Ext
set_option linter.unusedVariables false
set_option linter.unusedSimpArgs false
open YtpfmmbhbmdbmeaaGreatDoorQ.QL (RGood WU szR posR totR cutU repP rb posR_len posR_at totR_app totR_le)
def spoF (fid : Int) (x : RecS × Nat) : Sp3 := (fid, (szR x.1 : Int), (x.2 : Int))
theorem Sl.take_ {w : World} {A : Option Addr} {n m : Nat} {xs : List Value} (h : Sl w A n xs) (hm : m ≤ n) : Sl w A m (xs.take m) :=
  ⟨by rw [List.length_take, h.1]; omega, fun h0 => by
    obtain ⟨g, o, e, hc⟩ := h.2 (by omega)
    exact ⟨g, o, e, fun j u hu => hc j u (by rw [List.getElem?_take] at hu; split at hu; exact hu; cases hu)⟩⟩
theorem flatRR_take : ∀ (l : List RR) (m : Nat), (flatRR l).take (m * 5) = flatRR (l.take m)
  | [], m => by simp [flatRR]
  | r :: l, 0 => by simp [flatRR]
  | r :: l, m + 1 => by
    show (r.cells ++ flatRR l).take ((m + 1) * 5) = r.cells ++ flatRR (l.take m)
    rw [List.take_append, List.take_of_length_le (by show 5 ≤ _; omega), ← flatRR_take l m]
    congr 2
    show (m + 1) * 5 - 5 = _
    omega
theorem flatSp_take : ∀ (l : List Sp3) (m : Nat), (flatSp l).take (m * 3) = flatSp (l.take m)
  | [], m => by simp [flatSp]
  | r :: l, 0 => by simp [flatSp]
  | r :: l, m + 1 => by
    show (spC r ++ flatSp l).take ((m + 1) * 3) = spC r ++ flatSp (l.take m)
    rw [List.take_append, List.take_of_length_le (by show 3 ≤ _; omega), ← flatSp_take l m]
    congr 2
    show (m + 1) * 3 - 3 = _
    omega
theorem flatSp_one (l : List Sp3) : ∀ u ∈ flatSp l, u.oneCell' = true := fun u hu => by
  obtain ⟨p, _, h⟩ := List.mem_flatMap.1 hu
  exact spC_one p u h
theorem flatRR_one (l : List RR) : ∀ u ∈ flatRR l, u.oneCell' = true := fun u hu => by
  obtain ⟨p, _, h⟩ := List.mem_flatMap.1 hu
  exact RR.one p u h
/-- A unit as it lies. -/
theorem unit_at {w : World} {A : Option Addr} {n : Nat} {us : List UnS} (h : Kd.C kUn w A n us) {i : Nat} {x : UnS} (hx : us[i]? = some x) : ∃ g o A0 c0, A = some ⟨g, o, none⟩ ∧ w.cell? ⟨g, o + i * 4, none⟩ = some (.slice A0 x.f0.length c0) ∧ w.cell? ⟨g, o + i * 4 + 1, none⟩ = some (.bool x.f1) ∧ w.cell? ⟨g, o + i * 4 + 2, none⟩ = some (.int .u64 x.f2) ∧ w.cell? ⟨g, o + i * 4 + 3, none⟩ = some (.bool x.f3) ∧ x.f0.length ≤ c0 ∧ Kd.C kRec w A0 x.f0.length x.f0 := by
  have hlt : i < us.length := (List.getElem?_eq_some_iff.1 hx).1
  have hl := h.1
  obtain ⟨ad, cs, e, _, hK, hcell⟩ := Kd.C_get h x (i : Int) (by omega) (by omega)
  rw [Int.toNat_natCast] at hK hcell
  have e2 : us.getD i x = x := by rw [List.getD_eq_getElem?_getD, hx]; rfl
  rw [e2] at hK
  obtain ⟨A0, c0, rfl, l0, g0⟩ := YtpfmmbhbmdbmeaaGreatDoorQ.QL.k45_open hK
  have h0 : w.cell? (ad.add (i * 4 + 0)) = _ := hcell 0 _ rfl
  have h1 : w.cell? (ad.add (i * 4 + 1)) = _ := hcell 1 _ rfl
  have h2 : w.cell? (ad.add (i * 4 + 2)) = _ := hcell 2 _ rfl
  have h3 : w.cell? (ad.add (i * 4 + 3)) = _ := hcell 3 _ rfl
  have hp : ad = ⟨ad.block, ad.off, none⟩ := by
    obtain ⟨ad', cs', e', _, hK', hcell'⟩ := Kd.C_get h x 0 (by omega) (by omega)
    obtain ⟨A0', c0', rfl, _, _⟩ := YtpfmmbhbmdbmeaaGreatDoorQ.QL.k45_open hK'
    rw [e] at e'
    injection e' with e'
    subst e'
    have h4 : w.cell? (ad.add (Int.toNat 0 * 4 + 0)) = _ := hcell' 0 _ rfl
    have e5 : ad.add (Int.toNat 0 * 4 + 0) = ad := by unfold Addr.add; simp
    rw [e5] at h4
    exact plain_at h4
  rw [hp, add_none] at h0 h1 h2 h3
  exact ⟨ad.block, ad.off, A0, c0, by rw [← hp]; exact e, h0, by rw [Nat.add_assoc]; exact h1, by rw [Nat.add_assoc]; exact h2, by rw [Nat.add_assoc]; exact h3, l0, g0⟩
/-- What is handed back. -/
def RepS (fid right : Int) (us : List UnS) (w : World) (E : Ending) (w' : World) : Prop :=
  ∃ vR vS rs sp, E = .returned (.tuple #[vR, vS, .int .i64 ((repP right 20 20 us).2 : Nat)]) ∧ Below w.heap.size w w' ∧ w'.ownsRow w.heap.size 31 5 vR rs.length (flatRR rs) ∧ w'.ownsRow w.heap.size 60 3 vS sp.length (flatSp sp) ∧ (∀ r ∈ rs, r.In w') ∧ rs.map RR.s = (repP right 20 20 us).1.map (·.1) ∧ sp = (repP right 20 20 us).1.map (spoF fid)
/-- While a unit's records are gone through. -/
structure RpS (w : World) (fid : Int) (at' : Nat) (x : UnS) (gU : Nat) (A0 : Option Addr) (c0 : Nat) (A6 : Option Addr) (ms rs : List RR) (sp : List Sp3) (v9 v10 v15 : Value) (j : Nat) (wk : World) : Prop where
  bw : Below w.heap.size w wk
  ir : IR w.heap.size (v9.ownBlock.toList ++ (v10.ownBlock.toList ++ v15.ownBlock.toList)) v9 rs wk
  spr : wk.ownsRow w.heap.size 60 3 v10 sp.length (flatSp sp)
  ow : wk.ownsRow w.heap.size 60 3 v15 j (flatSp (((posR at' (WU x)).take j).map (spoF fid)))
  bu : Blk wk gU 45 [.slice A0 x.f0.length c0, .bool x.f1, .int .u64 x.f2, .bool x.f3]
  st : ∀ r ∈ ms, Stab (v9.ownBlock.toList ++ (v10.ownBlock.toList ++ v15.ownBlock.toList)) wk r.In
  sl : Stab (v9.ownBlock.toList ++ (v10.ownBlock.toList ++ v15.ownBlock.toList)) wk (fun W => Sl W A6 ((WU x).length * 5) (flatRR ms))
  ap : (∀ k ∈ v10.ownBlock.toList, k < gU) ∧ ∀ k ∈ v15.ownBlock.toList, gU ≤ k
section
variable {w : World} {fid : Int} {at' : Nat} {x : UnS} {gU : Nat} {A0 : Option Addr} {c0 : Nat} {A6 : Option Addr} {ms rs : List RR} {sp : List Sp3} {v9 v10 v15 v15' : Value} {j : Nat} {wk wk' : World}
theorem RpS.frm0 (h : RpS w fid at' x gU A0 c0 A6 ms rs sp v9 v10 v15 j wk) (hf : Frm [] wk wk') : RpS w fid at' x gU A0 c0 A6 ms rs sp v9 v10 v15 j wk' :=
  ⟨h.bw.trans (hf.below h.bw.size (fun i hi => by cases hi)), h.ir.frm0 hf, own_frmT h.spr hf (fun k hk => by cases hk), own_frmT h.ow hf (fun k hk => by cases hk), h.bu.frm hf (by simp), fun r hr => (h.st r hr).frm hf (fun k hk => by cases hk) (fun k hk _ => hk), h.sl.frm hf (fun k hk => by cases hk) (fun k hk _ => hk), h.ap⟩
theorem RpS.app (h : RpS w fid at' x gU A0 c0 A6 ms rs sp v9 v10 v15 j wk) (hf : Frm v15.ownBlock.toList wk wk') (ho : wk'.ownsRow w.heap.size 60 3 v15' (j + 1) (flatSp (((posR at' (WU x)).take (j + 1)).map (spoF fid)))) (hat : ∀ k ∈ v15'.ownBlock.toList, k ∈ v15.ownBlock.toList ∨ wk.heap.size ≤ k) : RpS w fid at' x gU A0 c0 A6 ms rs sp v9 v10 v15' (j + 1) wk' := by
  have h1 : ∀ k ∈ v15.ownBlock.toList, k < wk.heap.size → k ∈ v9.ownBlock.toList ++ (v10.ownBlock.toList ++ v15.ownBlock.toList) := fun k hk _ => List.mem_append_right _ (List.mem_append_right _ hk)
  have h2 : ∀ k ∈ v9.ownBlock.toList ++ (v10.ownBlock.toList ++ v15'.ownBlock.toList), k < wk.heap.size → k ∈ v9.ownBlock.toList ++ (v10.ownBlock.toList ++ v15.ownBlock.toList) := fun k hk hlt => by
    rcases List.mem_append.1 hk with hk | hk
    · exact List.mem_append_left _ hk
    · rcases List.mem_append.1 hk with hk | hk
      · exact List.mem_append_right _ (List.mem_append_left _ hk)
      · rcases hat k hk with hk | hk
        · exact List.mem_append_right _ (List.mem_append_right _ hk)
        · omega
  have hlt := h.bu.lt
  exact ⟨h.bw.trans (hf.below h.bw.size (fun i hi => by obtain ⟨_, _, h⟩ := own_blkT h.ow hi; exact h)), h.ir.step hf (fun k hk _ => by obtain ⟨cs, h, _⟩ := own_blkT h.ow hk; exact ⟨_, _, h, by decide⟩) h1 h2, own_frmL h.spr hf (fun k hk hm => by have := h.ap.1 k hk; have := h.ap.2 k hm; omega), ho, h.bu.frm hf (own_neT h.ow h.bu (by decide)), fun r hr => (h.st r hr).frm hf h1 h2, h.sl.frm hf h1 h2, h.ap.1, fun k hk => by
    rcases hat k hk with hk | hk
    · exact h.ap.2 k hk
    · omega⟩
end
def WOk (k : Nat) (u : UnS) : Prop := YtpfmmbhbmdbmeaaGreatDoorQ.QL.spec_Unit_written.f k u.f0 u.f1 u.f2 u.f3 = some (WU u) ∧ (WU u).length ≤ 11 ∧ 1 ≤ (WU u).length ∧ ∀ r ∈ WU u, RGood r
set_option maxRecDepth 100000 in
set_option maxHeartbeats 8000000 in
theorem specReplayed_any (k n c : Nat) (A : Option Addr) (us : List UnS) (fid right : Int) (w : World) (hU : Kd.C kUn w A n us) (hc : n ≤ c) (hn : us.length ≤ 20) (hW : ∀ u ∈ us, WOk k u) :
    Calls Tryz.prog 13 #[.slice A n c, .int .u32 fid, .int .i64 right] w (RepS fid right us w) := by
  obtain rfl : us.length = n := hU.1
  have HU := Lib.hid hU
  have HW := Lib.hid hW
  clear hU hW
  obtain ⟨T, hT⟩ : ∃ x, repP right 20 20 us = x := ⟨_, rfl⟩
  have HT := Lib.hid hT
  clear hT
  go_enter Tryz.func13, Tryz.ntmps13
  go_wp2_with fail
  have HIR0 : Hid (IR w.heap.size ((Value.slice (some ⟨w.heap.size, 0, none⟩) 0 0).ownBlock.toList ++ (Value.slice (some ⟨w.heap.size + 1, 0, none⟩) 0 0).ownBlock.toList) (.slice (some ⟨w.heap.size, 0, none⟩) 0 0) [] ((w.alloc (.cells #[] 31)).alloc (.cells #[] 60))) := ⟨(own_lit0 w w.heap.size 31 5 (Nat.le_refl _)).alloc _, fun r hr => by cases hr⟩
  have HSP0 : Hid (((w.alloc (.cells #[] 31)).alloc (.cells #[] 60)).ownsRow w.heap.size 60 3 (.slice (some ⟨w.heap.size + 1, 0, none⟩) 0 0) 0 []) := by
    have h := own_lit0 (w.alloc (.cells #[] 31)) w.heap.size 60 3 (by rw [World.size_alloc]; omega)
    rw [World.size_alloc] at h
    exact h
  have HBW0 : Hid (Below w.heap.size w ((w.alloc (.cells #[] 31)).alloc (.cells #[] 60))) := ((Frm.alloc w _).andAlloc _).below (Nat.le_refl _) (fun i hi => by cases hi)
  generalize (w.alloc (.cells #[] 31)).alloc (.cells #[] 60) = wz at *
  generalize hvR : Value.slice (some ⟨w.heap.size, 0, none⟩) 0 0 = vR at *
  generalize hvS : Value.slice (some ⟨w.heap.size + 1, 0, none⟩) 0 0 = vS at *
  clear hvR hvS
  go_loopg [9, 10, 11, 12, 24] us.length (fun f v9 v10 v11 v12 v24 wr => ∃ (i at' en : Nat) (rs : List RR) (sp : List Sp3), v24 = .int .i64 i ∧ v11 = .int .i64 en ∧ v12 = .int .i64 at' ∧ i ≤ us.length ∧ Hid (i + f = us.length) ∧ Hid (Below w.heap.size w wr) ∧ Hid (IR w.heap.size (v9.ownBlock.toList ++ v10.ownBlock.toList) v9 rs wr) ∧ Hid (wr.ownsRow w.heap.size 60 3 v10 sp.length (flatSp sp)) ∧ Hid (rs.map RR.s ++ (repP right at' en (us.drop i)).1.map (·.1) = T.1.map (·.1) ∧ sp ++ (repP right at' en (us.drop i)).1.map (spoF fid) = T.1.map (spoF fid) ∧ (repP right at' en (us.drop i)).2 = T.2) ∧ Hid (at' ≤ 20 + i * 22286 ∧ en ≤ at' ∧ rs.length ≤ 11 * i ∧ sp.length = rs.length))
  case atStart => exact ⟨0, 20, 20, [], [], rfl, rfl, rfl, Nat.zero_le _, Nat.zero_add _, HBW0, HIR0, HSP0, ⟨by rw [List.drop_zero, HT.out]; rfl, by rw [List.drop_zero, HT.out]; rfl, by rw [List.drop_zero, HT.out]⟩, ⟨by omega, by omega, by simp, rfl⟩⟩
  case round =>
    clear HIR0 HSP0 HBW0
    obtain ⟨i, at', en, rs, sp, rfl, rfl, rfl, hil, hif, HBW, HIR, HSP, HAC, HNU⟩ := hrel
    rcases Nat.lt_or_ge i us.length with hlt | hge
    · obtain ⟨gkO, rfl⟩ : ∃ q, gk = q + 1 := ⟨gk - 1, by have := hif.out; omega⟩
      obtain ⟨x, hx⟩ : ∃ e, us[i]? = some e := ⟨us[i], List.getElem?_eq_getElem hlt⟩
      obtain ⟨g, o, A0, c0, hA, e0, e1, e2, e3, hc0, hF0⟩ := unit_at HU.out hx
      have hwk := HW.out x (List.mem_of_getElem? hx)
      replace e0 := (HBW.out.cell (World.block_lt_of_cell? w _ e0)).trans e0
      replace e1 := (HBW.out.cell (World.block_lt_of_cell? w _ e1)).trans e1
      replace e2 := (HBW.out.cell (World.block_lt_of_cell? w _ e2)).trans e2
      replace e3 := (HBW.out.cell (World.block_lt_of_cell? w _ e3)).trans e3
      have HF0 := Lib.hid (Kd.F_below (Kd.C_F YtpfmmbhbmdbmeaaGreatDoorQ.QL.k31_heap hF0) HBW.out)
      have HX := Lib.hid hx
      have HWK := Lib.hid hwk
      have hib : i ≤ 20 := by omega
      clear hx hwk hF0
      subst hA
      go_wp2_with fail
      obtain ⟨gU, hgU⟩ : ∃ z, wr.heap.size = z := ⟨_, rfl⟩
      have HBU : Hid (Blk ((wr.alloc (.cells #[.slice A0 x.f0.length c0, .bool x.f1, .int .u64 x.f2, .bool x.f3] 45)).alloc (.cells #[] 60)) gU 45 [.slice A0 x.f0.length c0, .bool x.f1, .int .u64 x.f2, .bool x.f3]) := by
        have h := (Blk.new wr 45 [.slice A0 x.f0.length c0, .bool x.f1, .int .u64 x.f2, .bool x.f3]).alloc (.cells #[] 60)
        rw [hgU] at h
        exact h
      have HOW : Hid (((wr.alloc (.cells #[.slice A0 x.f0.length c0, .bool x.f1, .int .u64 x.f2, .bool x.f3] 45)).alloc (.cells #[] 60)).ownsRow w.heap.size 60 3 (.slice (some ⟨gU + 1, 0, none⟩) 0 0) 0 []) := by
        have h := own_lit0 (wr.alloc (.cells #[.slice A0 x.f0.length c0, .bool x.f1, .int .u64 x.f2, .bool x.f3] 45)) w.heap.size 60 3 (by rw [World.size_alloc]; have := HBW.out.size; omega)
        rw [World.size_alloc, hgU] at h
        exact h
      have HFA : Hid (Frm [] wr ((wr.alloc (.cells #[.slice A0 x.f0.length c0, .bool x.f1, .int .u64 x.f2, .bool x.f3] 45)).alloc (.cells #[] 60))) := (Frm.alloc wr _).andAlloc _
      rw [hgU]
      have HGU := Lib.hid hgU
      clear hgU e0 e1 e2 e3
      generalize (wr.alloc (.cells #[.slice A0 x.f0.length c0, .bool x.f1, .int .u64 x.f2, .bool x.f3] 45)).alloc (.cells #[] 60) = wA at *
      generalize hvO : Value.slice (some ⟨gU + 1, 0, none⟩) 0 0 = vO at *
      have HVO : Hid (∀ k ∈ vO.ownBlock.toList, gU ≤ k) := fun k hk => by rw [← hvO] at hk; simp only [Value.ownBlock, Option.toList_some, List.mem_singleton] at hk; omega
      clear hvO
      refine Calls.mono (YtpfmmbhbmdbmeaaGreatDoorQ.QL.spec_Unit_written.calls k (fun k => k < w.heap.size) A0 c0 x.f0 x.f1 x.f2 x.f3 (WU x) wA (Kd.V_mk hc0 (Kd.F_below HF0.out (HFA.out.below (Nat.le_refl _) (fun i hi => by cases hi)))) HWK.out.1) ?_
      rintro E wB ⟨v16, rfl, hN, hbB⟩
      have hbase := Kd.N_base hN
      obtain ⟨A6, c6, e6⟩ := Kd.V_slice (Kd.N_V (base' := 0) hN)
      subst e6
      obtain ⟨_, hc6, hf6⟩ := Kd.V_at (Kd.N_V (base' := 0) hN)
      obtain ⟨ms, hms, hsm, hst⟩ := rr_of_F hf6
      have hX : ∀ k ∈ u9.ownBlock.toList ++ (u10.ownBlock.toList ++ vO.ownBlock.toList), w.heap.size ≤ k ∧ k < wA.heap.size := fun k hk => by
        have := HFA.out.size
        rcases List.mem_append.1 hk with hk | hk
        · obtain ⟨_, h1, h2⟩ := own_blkT HIR.out.own hk; exact ⟨h2, by have := h1.lt; omega⟩
        · rcases List.mem_append.1 hk with hk | hk
          · obtain ⟨_, h1, h2⟩ := own_blkT HSP.out hk; exact ⟨h2, by have := h1.lt; omega⟩
          · obtain ⟨_, h1, h2⟩ := own_blkT HOW.out hk; exact ⟨h2, h1.lt⟩
      have hFB : Frm [] wr wB := HFA.out.andBelow hbB
      have hFB2 : Frm [] wA wB := Frm.of_below hbB
      have HRP : Hid (RpS w fid at' x gU A0 c0 A6 ms rs sp u9 u10 vO 0 wB) := ⟨HBW.out.trans (hFB.below HBW.out.size (fun i hi => by cases hi)), HIR.out.step hFB (fun k hk => by cases hk) (fun k hk => by cases hk) (fun k hk hlt => by
          rcases List.mem_append.1 hk with hk | hk
          · exact List.mem_append_left _ hk
          · rcases List.mem_append.1 hk with hk | hk
            · exact List.mem_append_right _ hk
            · have := HVO.out k hk; have := HGU.out; omega), own_frmT HSP.out hFB (fun k hk => by cases hk), own_frmT HOW.out hFB2 (fun k hk => by cases hk), HBU.out.frm hFB2 (by simp), fun r hr => hst r hr _ (fun k hk hlt hm => by have := hX k hm; rcases hk with hk | hk <;> omega), stab_sl hsm (fun g o e h0 hm => by have h1 := hX g hm; have h2 := hbase g (by rw [e]; rfl); omega), fun k hk => by obtain ⟨_, h1, _⟩ := own_blkT HSP.out hk; have := h1.lt; have := HGU.out; omega, HVO.out⟩
      have hmsl : ms.length = (WU x).length := by have := congrArg List.length hms; rwa [List.length_map] at this
      have HMS := Lib.hid hms
      have HML := Lib.hid hmsl
      have hL1 : (WU x).length ≤ 11 := HWK.out.2.1
      have hL2 : 1 ≤ (WU x).length := HWK.out.2.2.1
      clear hN hbB hbase hf6 hms hmsl hsm hst hX hFB hFB2 HBU HOW HFA HVO HF0 HBW HIR HSP
      go_wp2_with fail
      go_loopg [12, 15, 33] (WU x).length (fun f v12 v15 v33 wk => ∃ (j : Nat), v33 = .int .i64 j ∧ v12 = .int .i64 ((at' + totR ((WU x).take j) : Nat) : Int) ∧ j ≤ (WU x).length ∧ Hid (j + f = (WU x).length) ∧ Hid (RpS w fid at' x gU A0 c0 A6 ms rs sp u9 u10 v15 j wk))
      case atStart => exact ⟨0, rfl, rfl, Nat.zero_le _, Nat.zero_add _, HRP⟩
      case round =>
        clear HRP
        obtain ⟨j, rfl, rfl, hjl, hjf, HRP⟩ := hrel
        rcases Nat.lt_or_ge j (WU x).length with hjt | hjg
        · obtain ⟨gkI, rfl⟩ : ∃ q, gk = q + 1 := ⟨gk - 1, by have := hjf.out; omega⟩
          obtain ⟨r, hr⟩ : ∃ e, ms[j]? = some e := ⟨ms[j]'(by rw [HML.out]; exact hjt), List.getElem?_eq_getElem _⟩
          have hrw : (WU x)[j]? = some r.s := by rw [← HMS.out, List.getElem?_map, hr]; rfl
          have hgood := HWK.out.2.2.2 _ (List.mem_of_getElem? hrw)
          have hin := (HRP.out.st r (List.mem_of_getElem? hr)).now
          obtain ⟨g6, o6, hA6, hcell⟩ := HRP.out.sl.now.2 (by omega)
          subst hA6
          obtain ⟨tt, htt⟩ : ∃ z, totR ((WU x).take j) = z := ⟨_, rfl⟩
          have htb : tt ≤ 22286 := by
            have h1 := totR_le ((WU x).take j) (fun r hr => HWK.out.2.2.2 r (List.mem_of_mem_take hr))
            rw [List.length_take] at h1
            omega
          rw [htt]
          obtain ⟨sz, hsz⟩ : ∃ z, (rb r.s).length = z := ⟨_, rfl⟩
          have hszb : sz ≤ 2026 := by rw [← hsz]; exact YtpfmmbhbmdbmeaaGreatDoorQ.QL.rb_len hgood
          have hatb : at' ≤ 500000 := by have := HNU.out.1; omega
          have HRW := Lib.hid hrw
          have HGO := Lib.hid hgood
          have HSZ := Lib.hid hsz
          have HTT := Lib.hid htt
          clear hrw hgood hsz htt
          obtain ⟨rAk, rnk, rck, rAd, rnd, rcd, rk, rd, re, rm, ru⟩ := r
          obtain rfl : rk.length = rnk := RR.nk_eq hin
          obtain rfl : rd.length = rnd := RR.nd_eq hin
          have e0 := hcell (j * 5 + 0) _ (flatRR_at ms j 0 _ hr (by omega))
          have e1 := hcell (j * 5 + 1) _ (flatRR_at ms j 1 _ hr (by omega))
          have e2 := hcell (j * 5 + 2) _ (flatRR_at ms j 2 _ hr (by omega))
          have e3 := hcell (j * 5 + 3) _ (flatRR_at ms j 3 _ hr (by omega))
          have e4 := hcell (j * 5 + 4) _ (flatRR_at ms j 4 _ hr (by omega))
          simp only [Nat.add_zero, ← Nat.add_assoc] at e0 e1 e2 e3 e4
          have HI := Lib.hid hin
          clear hr hin hcell
          go_wp2_with fail
          have HRA := Lib.hid (HRP.out.frm0 (Frm.alloc wr (.cells #[.slice rAk rk.length rck, .slice rAd rd.length rcd, .int .u64 re, .int .u8 rm, .int .u8 ru] 31)))
          have HIA := Lib.hid (HI.out.below (w' := wr.alloc (.cells #[.slice rAk rk.length rck, .slice rAd rd.length rcd, .int .u64 re, .int .u8 rm, .int .u8 ru] 31)) ((Frm.alloc wr _).below (Nat.le_refl _) (fun i hi => by cases hi)))
          clear e0 e1 e2 e3 e4 HRP HI
          generalize wr.alloc (.cells #[.slice rAk rk.length rck, .slice rAd rd.length rcd, .int .u64 re, .int .u8 rm, .int .u8 ru] 31) = wa at *
          refine Calls.mono (YtpfmmbhbmdbmeaaGreatDoorQ.QL.spec_RecBytes.calls (fun _ => True) rAk rck rk (fun _ => True) rAd rcd rd re rm ru (rb ⟨rk, rd, re, rm, ru⟩) wa (Kd.V_mk HIA.out.hk (Kd.F_mono (Kd.C_F (Kd.heap_int .u8) (C_of_sl HIA.out.key (by have := HGO.out.1; show rk.length ≤ _; have : rk.length ≤ 1000 := HGO.out.1; omega))) (fun _ _ => trivial))) (Kd.V_mk HIA.out.hd (Kd.F_mono (Kd.C_F (Kd.heap_int .u8) (C_of_sl HIA.out.dat (by have : rd.length ≤ 1000 := HGO.out.2.1; omega))) (fun _ _ => trivial))) (YtpfmmbhbmdbmeaaGreatDoorQ.QL.specRec_some ⟨rk, rd, re, rm, ru⟩ HGO.out)) ?_
          rintro E wb ⟨v0, rfl, hr0, hbb⟩
          obtain ⟨B0, d0, ev0, hd0, hs0, hn0⟩ := own_slT (own_of_R hr0)
          have hsz2 : (rb ⟨rk, rd, re, rm, ru⟩).length = sz := HSZ.out
          rw [hsz2] at ev0
          subst ev0
          have HRB := Lib.hid (HRA.out.frm0 (Frm.of_below hbb))
          clear hr0 hbb hd0 hs0 hn0 hsz2 HRA HIA
          go_wp2_with (at_builtin; refine wpList_appT rfl (.tmp 40) (.tmp 47) 37 60 rfl _ 3 12 Tryz.underlying37 infoSpot rfl (by omega) (by omega) w.heap.size u15 j _ rfl (HRB.out.ow.alloc _) _ 1 1 (spC (fid, (sz : Int), (at' : Int) + (tt : Int))) rfl (blkSl5 _ _ 3 rfl) (spC_one _) (by omega) ?cx ?_; (case cx => rw [World.size_alloc]; have := HRB.out.bw.size; omega); intro v48 w4 ho4 hg4 hat4; obtain ⟨A4, c4, hv4, _, _, _⟩ := own_slT ho4; subst hv4; have HF4 := Lib.hid (frm_appT _ hg4); have HO4 := Lib.hid ho4; have HAT4 := Lib.hid hat4; clear ho4 hg4 hat4)
          have ho5 := HO4.out
          rw [flatSp_snoc] at ho5
          have t1 : ((posR at' (WU x)).take (j + 1)).map (spoF fid) = ((posR at' (WU x)).take j).map (spoF fid) ++ [(fid, (sz : Int), (at' : Int) + (tt : Int))] := by
            rw [List.take_add_one, posR_at _ _ _ _ HRW.out, HTT.out, List.map_append]
            congr 1
            show [(fid, ((rb _).length : Int), ((at' + tt : Nat) : Int))] = _
            rw [show ((rb (RR.s ⟨rAk, rk.length, rck, rAd, rd.length, rcd, rk, rd, re, rm, ru⟩)).length) = sz from HSZ.out, Int.natCast_add]
          rw [← t1] at ho5
          have HR5 := Lib.hid (HRB.out.app HF4.out ho5 (fun k hk => at_new HAT4.out hk (by rw [World.size_alloc]; omega)))
          clear ho5 t1 HO4 HF4 HAT4 HRB
          go_roundg gkI
          case measure => omega
          case rel =>
            have t2 : totR ((WU x).take (j + 1)) = tt + sz := by
              rw [List.take_add_one, HRW.out, totR_app, HTT.out]
              show tt + (szR _ + 0) = _
              have : szR (RR.s ⟨rAk, rk.length, rck, rAd, rd.length, rcd, rk, rd, re, rm, ru⟩) = sz := HSZ.out
              omega
            exact ⟨j + 1, by go_num, by rw [t2]; congr 1; omega, hjt, by have := hjf.out; show _ = _; omega, HR5⟩
        · obtain rfl : j = (WU x).length := by omega
          rw [List.take_length]
          obtain ⟨tot, htot⟩ : ∃ z, totR (WU x) = z := ⟨_, rfl⟩
          have htb : tot ≤ 22286 := by
            have h1 := totR_le (WU x) HWK.out.2.2.2
            omega
          have hatb : at' ≤ 500000 := by have := HNU.out.1; omega
          rw [htot]
          obtain ⟨A5, c5, e5, hc5, hs5, _⟩ := own_slT HRP.out.ow
          subst e5
          have b3 := HRP.out.bu.at_ (i := 3) rfl
          have hdr : us.drop i = x :: us.drop (i + 1) := by
            obtain ⟨h1, h2⟩ := List.getElem?_eq_some_iff.1 HX.out
            rw [List.drop_eq_getElem_cons h1, h2]
          have hac := HAC.out
          rw [hdr] at hac
          have hrp : ∀ rest, repP right at' en (x :: rest) = if ((at' + tot : Nat) : Int) > right ∨ x.f3 = true then ([], en) else ((posR at' (WU x)).take (cutU x (WU x).length) ++ (repP right (at' + tot) (at' + tot) rest).1, (repP right (at' + tot) (at' + tot) rest).2) := fun rest => by rw [repP, htot]
          rw [hrp] at hac
          have hfin : (((at' + tot : Nat) : Int) > right ∨ x.f3 = true) → RepS fid right us w (.returned (.tuple #[u9, u10, .int .i64 en])) wr := fun hcnd => by
            rw [if_pos hcnd] at hac
            obtain ⟨a1, a2, a3⟩ := hac
            rw [List.map_nil, List.append_nil] at a1 a2
            have a3 : en = T.2 := a3
            exact ⟨u9, u10, rs, sp, by rw [HT.out, a3], HRP.out.bw, HRP.out.ir.own, HRP.out.spr, HRP.out.ir.now, by rw [HT.out]; exact a1, by rw [HT.out]; exact a2⟩
          have HFIN := Lib.hid hfin
          have HACC := Lib.hid hac
          have HS5 := Lib.hid hs5
          have HTO := Lib.hid htot
          clear hfin hac hrp hdr hs5 htot HAC
          by_cases hgt : right < (at' : Int) + (tot : Int)
          · go_wp2
            refine bodyPost_ret (v := .tuple #[u9, u10, .int .i64 en]) (by simp [results, Tryz.results13, go_sem]) rfl ?_
            exact HFIN.out (.inl (by omega))
          · cases hx3 : x.f3
            · have HNC : Hid (¬ (((at' + tot : Nat) : Int) > right ∨ x.f3 = true)) := fun h => by
                rcases h with h | h
                · omega
                · rw [hx3] at h; cases h
              rw [hx3] at b3
              have b1 := HRP.out.bu.at_ (i := 1) rfl
              go_upto_if 65 with fail
              go_cut [15, 16] (fun v15 v16 wz => v15 = .slice A5 (cutU x (WU x).length) c5 ∧ v16 = .slice A6 (cutU x (WU x).length) c6 ∧ Hid (Frm [] wr wz))
              case first =>
                cases hx1 : x.f1
                · have hm : cutU x (WU x).length = (WU x).length := by unfold cutU; rw [hx1]; rfl
                  go_wp2_with fail
                  go_meet
                  exact ⟨by rw [hm], by rw [hm], Frm.refl _ _⟩
                · have hm : cutU x (WU x).length = (WU x).length - 1 := by unfold cutU; rw [hx1]; rfl
                  go_wp2_with fail
                  go_region
                  all_goals (
                    go_wp2_with fail
                    go_meet
                    exact ⟨by rw [hm], by rw [hm], (Frm.refl [] wr).drew⟩)
              case rest =>
                obtain ⟨rfl, rfl, HFz⟩ := hcut
                have HRz := Lib.hid (HRP.out.frm0 HFz.out)
                clear HRP HFz b3 b1
                obtain ⟨m, hm⟩ : ∃ z, cutU x (WU x).length = z := ⟨_, rfl⟩
                have hml : m ≤ (WU x).length := by rw [← hm]; unfold cutU; split <;> omega
                rw [hm]
                have hac := HACC.out
                rw [if_neg HNC.out, hm] at hac
                have HAD := Lib.hid hac
                clear hm hac HACC HFIN HNC
                have hsl : Sl wc A6 (m * 5) (flatRR (ms.take m)) := by
                  rw [← flatRR_take]
                  exact HRz.out.sl.now.take_ (Nat.mul_le_mul_right _ hml)
                have HSL := Lib.hid hsl
                clear hsl
                have hrsn : rs.length ≤ 300 ∧ sp.length ≤ 300 := by have := HNU.out; omega
                go_wp2_with (at_builtin; first | (refine wpList_appT rfl (.tmp 76) (.tmp 77) 25 31 rfl _ 5 64 Tryz.underlying25 infoIRec rfl (by omega) (by omega) w.heap.size u9 rs.length (flatRR rs) rfl HRz.out.ir.own A6 m c6 (flatRR (ms.take m)) rfl HSL.out (flatRR_one _) (by omega) HRz.out.bw.size ?_; intro v78 w4 ho4 hg4 hat4; obtain ⟨A7, c7, hv7, _, _, _⟩ := own_slT ho4; subst hv7; have HF4 := Lib.hid (frm_rowT hg4); have HO4 := Lib.hid ho4; have HAT4 := Lib.hid hat4; have HSP4 := Lib.hid (own_frmT HRz.out.spr HF4.out (fun k hk _ => by obtain ⟨cs, h, _⟩ := own_blkT HRz.out.ir.own hk; exact ⟨_, _, h, by decide⟩)); have HSO4 := Lib.hid ((own_slX (own_frmT HRz.out.ow HF4.out (fun k hk _ => by obtain ⟨cs, h, _⟩ := own_blkT HRz.out.ir.own hk; exact ⟨_, _, h, by decide⟩))).take_ (Nat.mul_le_mul_right 3 hml)); have HBS4 : Hid (w.heap.size ≤ w4.heap.size) := Nat.le_trans HRz.out.bw.size HF4.out.size; clear ho4 hg4 hat4) | (refine wpList_appT rfl (.tmp 79) (.tmp 80) 37 60 rfl _ 3 12 Tryz.underlying37 infoSpot rfl (by omega) (by omega) w.heap.size u10 sp.length (flatSp sp) rfl HSP4.out A5 m c5 _ rfl HSO4.out (by rw [flatSp_take]; exact flatSp_one _) (by omega) HBS4.out ?_; intro v81 w5 ho5 hg5 hat5; obtain ⟨A8, c8, hv8, _, _, _⟩ := own_slT ho5; subst hv8; have HF5 := Lib.hid (frm_rowT hg5); have HO5 := Lib.hid ho5; have HAT5 := Lib.hid hat5; clear ho5 hg5 hat5))
                have hmt : (ms.take m).length = m := by rw [List.length_take, HML.out]; omega
                have HIR4 : Hid (IR w.heap.size ((Value.slice A7 (rs.length + m) c7).ownBlock.toList ++ u10.ownBlock.toList) (.slice A7 (rs.length + m) c7) (rs ++ ms.take m) w4) := HRz.out.ir.app (by rw [hmt]; exact HO4.out) HF4.out (fun k hk => List.mem_append_left _ hk) (fun k hk hlt => by
                  rcases List.mem_append.1 hk with hk | hk
                  · rcases at_new HAT4.out hk (Nat.le_refl _) with h | h
                    · exact List.mem_append_left _ h
                    · omega
                  · exact List.mem_append_right _ (List.mem_append_left _ hk)) (fun r hr => HRz.out.st r (List.mem_of_mem_take hr))
                have HIR5 : Hid (IR w.heap.size ((Value.slice A7 (rs.length + m) c7).ownBlock.toList ++ (Value.slice A8 (sp.length + m) c8).ownBlock.toList) (.slice A7 (rs.length + m) c7) (rs ++ ms.take m) w5) := HIR4.out.step HF5.out (fun k hk _ => by obtain ⟨cs, h, _⟩ := own_blkT HSP4.out hk; exact ⟨_, _, h, by decide⟩) (fun k hk _ => List.mem_append_right _ hk) (fun k hk hlt => by
                  rcases List.mem_append.1 hk with hk | hk
                  · exact List.mem_append_left _ hk
                  · rcases at_new HAT5.out hk (Nat.le_refl _) with h | h
                    · exact List.mem_append_right _ h
                    · omega)
                have HBW5 : Hid (Below w.heap.size w w5) := (HRz.out.bw.trans (HF4.out.below HRz.out.bw.size (fun k hk => by obtain ⟨_, _, h⟩ := own_blkT HRz.out.ir.own hk; exact h))).trans (HF5.out.below HBS4.out (fun k hk => by obtain ⟨_, _, h⟩ := own_blkT HSP4.out hk; exact h))
                have hms2 : (ms.take m).map RR.s = (WU x).take m := by rw [List.map_take, HMS.out]
                have hpt : (posR at' (WU x)).take (WU x).length = posR at' (WU x) := List.take_of_length_le (by rw [posR_len]; exact Nat.le_refl _)
                have ho5 := HO5.out
                rw [flatSp_take, hpt, ← List.map_take] at ho5
                have hsl5 : ((posR at' (WU x)).take m).length = m := by rw [List.length_take, posR_len]; omega
                have HO6 : Hid (w5.ownsRow w.heap.size 60 3 (.slice A8 (sp.length + m) c8) (sp ++ ((posR at' (WU x)).take m).map (spoF fid)).length (flatSp (sp ++ ((posR at' (WU x)).take m).map (spoF fid)))) := by
                  rw [List.length_append, List.length_map, hsl5]
                  have e : flatSp (sp ++ ((posR at' (WU x)).take m).map (spoF fid)) = flatSp sp ++ flatSp (((posR at' (WU x)).take m).map (spoF fid)) := by simp [flatSp]
                  rw [e]
                  exact ho5
                have HMT := Lib.hid hmt
                have HM2 := Lib.hid hms2
                have HL5 := Lib.hid hsl5
                clear ho5 hpt hmt hms2 hsl5
                go_roundg gkO
                case measure => omega
                case rel =>
                  obtain ⟨a1, a2, a3⟩ := HAD.out
                  have a1 : rs.map RR.s ++ ((posR at' (WU x)).take m ++ (repP right (at' + tot) (at' + tot) (us.drop (i + 1))).1).map (·.1) = T.1.map (·.1) := a1
                  have a2 : sp ++ ((posR at' (WU x)).take m ++ (repP right (at' + tot) (at' + tot) (us.drop (i + 1))).1).map (spoF fid) = T.1.map (spoF fid) := a2
                  have a3 : (repP right (at' + tot) (at' + tot) (us.drop (i + 1))).2 = T.2 := a3
                  refine ⟨i + 1, at' + tot, at' + tot, rs ++ ms.take m, sp ++ ((posR at' (WU x)).take m).map (spoF fid), by go_num, by go_num, by go_num, hlt, ?_, HBW5, HIR5, HO6, ⟨?_, ?_, a3⟩, ⟨?_, Nat.le_refl _, ?_, ?_⟩⟩
                  · have := hif.out; show _ = _; omega
                  · rw [← a1, List.map_append, HM2.out, List.append_assoc, List.map_append, List.map_take, YtpfmmbhbmdbmeaaGreatDoorQ.QL.posR_fst]
                  · rw [← a2, List.append_assoc, List.map_append]
                  · have := HNU.out.1; omega
                  · have := HNU.out.2.2.1; have := HMT.out; rw [List.length_append]; omega
                  · have := HNU.out.2.2.2; have := HMT.out; have := HL5.out; rw [List.length_append, List.length_append, List.length_map]; omega
            · rw [hx3] at b3
              go_wp2
              refine bodyPost_ret (v := .tuple #[u9, u10, .int .i64 en]) (by simp [results, Tryz.results13, go_sem]) rfl ?_
              exact HFIN.out (.inr hx3)
    · obtain rfl : i = us.length := by omega
      go_wp2
      have hac := HAC.out
      rw [List.drop_length] at hac
      obtain ⟨a1, a2, a3⟩ := hac
      have a1 : rs.map RR.s ++ [] = T.1.map (·.1) := a1
      have a2 : sp ++ [] = T.1.map (spoF fid) := a2
      have a3 : en = T.2 := a3
      rw [List.append_nil] at a1 a2
      refine bodyPost_ret (v := .tuple #[u9, u10, .int .i64 en]) (by simp [results, Tryz.results13, go_sem]) rfl ?_
      exact ⟨u9, u10, rs, sp, by rw [HT.out, a3], HBW.out, HIR.out.own, HSP.out, HIR.out.now, by rw [HT.out]; exact a1, by rw [HT.out]; exact a2⟩
end Go.Proofs.YtpfmmbhbmdbmeaaGreatDoor
