/- A log, replayed through the thin package. -/
import Derived.Test.YtpfmmbhbmdbmeaaGreatDoorHN
import Derived.Test.YtpfmmbhbmdbmeaaGreatDoorHO
import Derived.Deep.Onto
import Derived.Test.YtpfmmbhbmdbmeaaGreatDoorQL7
namespace Go.Proofs.YtpfmmbhbmdbmeaaGreatDoor
open Go.RowKit Go.Proofs.YtpfmmbhbmdbmeaaGreatDoorW.PrintWords Go.Proofs.YtpfmmbhbmdbmeaaGreatDoorQ.Ext
set_option linter.unusedVariables false
set_option linter.unusedSimpArgs false
/-- Records in a row of one's own. -/
structure IR (B : Nat) (X : List Nat) (v : Value) (rs : List RR) (w : World) : Prop where
  own : w.ownsRow B 31 5 v rs.length (flatRR rs)
  st : ∀ r ∈ rs, Stab X w r.In
section
variable {B : Nat} {X Y L : List Nat} {v v' : Value} {rs ms : List RR} {w w' : World}
theorem IR.step (h : IR B X v rs w) (hf : Frm L w w') (hT : ∀ k ∈ L, k < w.heap.size → ∃ t cs, Blk w k t cs ∧ t ≠ 31) (h1 : ∀ k ∈ L, k < w.heap.size → k ∈ X) (h2 : ∀ k ∈ Y, k < w.heap.size → k ∈ X) : IR B Y v rs w' := ⟨own_frmT h.own hf hT, fun r hr => (h.st r hr).frm hf h1 h2⟩
theorem IR.frm0 (h : IR B X v rs w) (hf : Frm [] w w') : IR B X v rs w' := h.step hf (fun k hk => by cases hk) (fun k hk => by cases hk) (fun k hk _ => hk)
theorem IR.app (h : IR B X v rs w) (ho : w'.ownsRow B 31 5 v' (rs.length + ms.length) (flatRR rs ++ flatRR ms)) (hf : Frm v.ownBlock.toList w w') (h1 : ∀ k ∈ v.ownBlock.toList, k ∈ X) (h2 : ∀ k ∈ Y, k < w.heap.size → k ∈ X) (hr : ∀ r ∈ ms, Stab X w r.In) : IR B Y v' (rs ++ ms) w' := by
  refine ⟨?_, fun r hm => ?_⟩
  · rw [List.length_append]
    have e : flatRR (rs ++ ms) = flatRR rs ++ flatRR ms := by simp [flatRR]
    rw [e]
    exact ho
  · rcases List.mem_append.1 hm with h0 | h0
    · exact (h.st r h0).frm hf (fun k hk _ => h1 k hk) h2
    · exact (hr r h0).frm hf (fun k hk _ => h1 k hk) h2
theorem IR.now (h : IR B X v rs w) : ∀ r ∈ rs, r.In w := fun r hr => (h.st r hr).now
end
theorem at_new {w w' : World} {k : Nat} {v v' : Value} (h : v'.ownBlock = v.ownBlock ∨ v'.ownBlock = some w'.heap.size) (hk : k ∈ v'.ownBlock.toList) (hle : w.heap.size ≤ w'.heap.size) : k ∈ v.ownBlock.toList ∨ w.heap.size ≤ k := by
  rcases h with h | h
  · rw [h] at hk; exact .inl hk
  · rw [h] at hk
    simp only [Option.toList_some, List.mem_singleton] at hk
    exact .inr (by omega)
theorem lin_bound : ∀ {Y : List Int} {gs : List LK}, Lin Y gs → ∀ p ve, ve ≤ p → runE p ve gs ≤ p + Y.length ∧ gs.length ≤ Y.length := by
  intro Y gs h
  induction h with
  | stop Y _ _ _ _ _ _ _ _ _ _ _ _ => intro p ve hv; exact ⟨by show ve ≤ _; omega, Nat.zero_le _⟩
  | more Y gs r kn h1 h2 h ih =>
    intro p ve hv
    have e := LR.by_len h1
    have h5 : 5 ≤ r.size := by have := (LR.hd_len h1).1; unfold LR.size; omega
    rw [List.length_append, e, List.length_cons]
    have h3 := ih (p + r.size) (p + r.size) (Nat.le_refl _)
    have h4 := ih (p + r.size) ve (by omega)
    refine ⟨?_, by omega⟩
    cases kn with
    | one => show runE (p + r.size) (p + r.size) gs ≤ _; omega
    | txn ts => show runE (p + r.size) ve gs ≤ _; omega
    | fin ts => show runE (p + r.size) (p + r.size) gs ≤ _; omega
theorem runO_len : ∀ (gs : List LK) (p : Nat) (pd : List (LR × Nat)), (runO p pd gs).length ≤ pd.length + gs.length
  | [], _, _ => Nat.zero_le _
  | (r, .one) :: gs, p, pd => by have := runO_len gs (p + r.size) pd; show (_ :: _).length ≤ _; rw [List.length_cons, List.length_cons]; omega
  | (r, .txn ts) :: gs, p, pd => by have := runO_len gs (p + r.size) (pd ++ [(r, p)]); rw [List.length_append, List.length_singleton] at this; show (runO (p + r.size) (pd ++ [(r, p)]) gs).length ≤ _; rw [List.length_cons]; omega
  | (r, .fin ts) :: gs, p, pd => by have := runO_len gs (p + r.size) []; show (pd ++ _).length ≤ _; rw [List.length_append, List.length_cons]; rw [List.length_nil] at this; omega
theorem lin_ok : ∀ {Y : List Int} {gs : List LK}, Lin Y gs → ∀ x ∈ gs, x.1.Ok := by
  intro Y gs h
  induction h with
  | stop => intro x hx; cases hx
  | more Y gs r kn h1 h2 h ih =>
    intro x hx
    rcases List.mem_cons.1 hx with rfl | hx
    · exact h1
    · exact ih x hx
theorem runO_ok (P : LR → Prop) : ∀ (gs : List LK) (p : Nat) (pd : List (LR × Nat)), (∀ x ∈ gs, P x.1) → (∀ x ∈ pd, P x.1) → ∀ x ∈ runO p pd gs, P x.1
  | [], _, _, _, _, x, hx => by cases hx
  | (r, .one) :: gs, p, pd, h1, h2, x, hx => by
    rcases List.mem_cons.1 (show x ∈ (r, p) :: runO (p + r.size) pd gs from hx) with rfl | hx
    · exact h1 _ (List.mem_cons_self ..)
    · exact runO_ok P gs _ _ (fun y hy => h1 y (List.mem_cons_of_mem _ hy)) h2 x hx
  | (r, .txn ts) :: gs, p, pd, h1, h2, x, hx => runO_ok P gs (p + r.size) (pd ++ [(r, p)]) (fun y hy => h1 y (List.mem_cons_of_mem _ hy)) (fun y hy => by
      rcases List.mem_append.1 hy with hy | hy
      · exact h2 y hy
      · rw [List.mem_singleton] at hy; subst hy; exact h1 _ (List.mem_cons_self ..)) x hx
  | (r, .fin ts) :: gs, p, pd, h1, h2, x, hx => by
    rcases List.mem_append.1 (show x ∈ pd ++ runO (p + r.size) [] gs from hx) with hx | hx
    · exact h2 x hx
    · exact runO_ok P gs _ _ (fun y hy => h1 y (List.mem_cons_of_mem _ hy)) (fun y hy => by cases hy) x hx
theorem own_lit0 (w : World) (B e s : Nat) (hB : B ≤ w.heap.size) : (w.alloc (.cells #[] e)).ownsRow B e s (.slice (some ⟨w.heap.size, 0, none⟩) 0 0) 0 [] := World.ownsRow_lit w #[] 0 hB (by simp [maxLen]) (by simp)
theorem blkSl6 {w : World} {o : Obj} (t : Nat) (cs : List Value) (n : Nat) (hn : cs.length = n) : Sl ((w.alloc o).alloc (.cells cs.toArray t)) (some ⟨w.heap.size + 1, 0, none⟩) n cs := by
  have h := blkSl5 (w := w.alloc o) t cs n hn
  rw [World.size_alloc] at h
  exact h
theorem RR.In.below {w w' : World} {r : RR} (h : r.In w) (hb : Below w.heap.size w w') : r.In w' := ⟨h.key.below hb, h.dat.below hb, h.hk, h.hd⟩
/-- What a replay hands back. -/
def RepI (fid : Int) (gs0 : List LK) (w : World) (E : Ending) (w' : World) : Prop :=
  ∃ vL vQ rs ps, E = .returned (.tuple #[vL, vQ, .int .i64 (runE 20 20 gs0 : Nat), .bool true]) ∧ Below w.heap.size w w' ∧ w'.ownsRow w.heap.size 31 5 vL rs.length (flatRR rs) ∧ w'.ownsRow w.heap.size 60 3 vQ ps.length (flatSp ps) ∧ (∀ r ∈ rs, r.In w') ∧ rs.map RR.lr = (runO 20 [] gs0).map (·.1) ∧ ps = (runO 20 [] gs0).map (sp3 fid)
theorem infoIRec : (Tryz.prog.info? 31).map (fun i => (i.zero, i.size, i.bytes)) = some (some (.agg #[.slice none 0 0, .slice none 0 0, .int .u64 0, .int .u8 0, .int .u8 0]), 5, 64) := by kernel_rfl
theorem infoSpot : (Tryz.prog.info? 60).map (fun i => (i.zero, i.size, i.bytes)) = some (some (.agg #[.int .u32 0, .int .u32 0, .int .u32 0]), 3, 12) := by kernel_rfl
set_option maxRecDepth 100000 in
set_option maxHeartbeats 8000000 in
theorem implReplay_any (n c : Nat) (A : Option Addr) (l : List Int) (fid : Int) (gs0 : List LK) (ae au at2 : Addr) (w : World)
    (hsl : Sl w A n (nums .u8 l)) (hbyt : Byt l) (hc : n ≤ c) (hn : n ≤ 900000) (h20 : 20 ≤ n) (hlin : Lin (l.drop 20) gs0) (hwb : WB 0 gs0) (hZ : ErrZ w ae au at2) :
    Calls Tryz.prog 25 #[.slice A n c, .int .u32 fid] w (RepI fid gs0 w) := by
  have hlen : l.length = n := by have := hsl.1; rwa [nums_length] at this
  obtain ⟨hE, hG⟩ := lin_bound hlin 20 20 (Nat.le_refl _)
  rw [List.length_drop] at hE hG
  obtain ⟨eN, heN⟩ : ∃ x, runE 20 20 gs0 = x := ⟨_, rfl⟩
  rw [heN] at hE
  have hEB : eN ≤ 900000 := by omega
  have HEN := Lib.hid heN
  have HOL : Hid ((runO 20 [] gs0).length ≤ 900000) := by have := runO_len gs0 20 []; rw [List.length_nil] at this; show _ ≤ _; omega
  have HSL := Lib.hid hsl
  have HBY := Lib.hid hbyt
  have HLI := Lib.hid hlin
  have HWB := Lib.hid hwb
  have HZ := Lib.hid hZ
  clear hsl hbyt hlin hwb hZ heN hE hG hlen
  go_enter Tryz.func25, Tryz.ntmps25
  go_wp2_with fail
  refine Calls.mono (own_any A n c l w HSL.out (by omega)) ?_
  rintro E w1 ⟨v1, rfl, ho1, hb1⟩
  rw [HSL.out.1] at ho1
  obtain ⟨A1, c1, e1, hc1, hs1, _⟩ := own_slT ho1
  rw [Nat.mul_one] at hs1
  subst e1
  have HS1 := Lib.hid hs1
  have HB1 := Lib.hid hb1
  clear hs1 hb1 ho1
  go_wp2_with fail
  refine Calls.mono (logReplay_any n c1 A1 l fid gs0 ae au at2 w1 HS1.out HBY.out hc1 hn h20 HLI.out HWB.out (HZ.out.below HB1.out)) ?_
  rintro E w2 ⟨vL, vQ, outs, ops, rfl, hb2, hol, hoq, hin, hom, hop⟩
  obtain ⟨A2, c2, e2, hc2, hs2, _⟩ := own_slT hol
  obtain ⟨A3, c3, e3, hc3, hs3, _⟩ := own_slT hoq
  subst e2 e3
  have HS2 := Lib.hid hs2
  have HS3 := Lib.hid hs3
  have HIN := Lib.hid hin
  have HOM := Lib.hid hom
  have HOP := Lib.hid hop
  have hrb : ∀ r ∈ outs, r.key.length ≤ 60 ∧ r.dat.length ≤ 1000 := fun r hr => by
    have h1 : r.lr ∈ outs.map RR.lr := List.mem_map_of_mem hr
    rw [hom] at h1
    obtain ⟨x, hx, e⟩ := List.mem_map.1 h1
    have h2 := runO_ok LR.Ok gs0 20 [] (lin_ok HLI.out) (fun y hy => by cases hy) x hx
    rw [e] at h2
    exact ⟨h2.k2, h2.d1⟩
  have HRB := Lib.hid hrb
  clear hrb
  have HB2 := Lib.hid (HB1.out.trans (hb2.mono HB1.out.size))
  have holn : outs.length = (runO 20 [] gs0).length := by have := congrArg List.length hom; rwa [List.length_map, List.length_map] at this
  have hopn : ops.length = (runO 20 [] gs0).length := by rw [hop, List.length_map]
  have hob : outs.length ≤ 900000 ∧ ops.length ≤ 900000 := ⟨by rw [holn]; exact HOL.out, by rw [hopn]; exact HOL.out⟩
  have HOB := Lib.hid hob
  rw [HEN.out]
  clear hb2 hol hoq hin hom hop hs2 hs3 holn hopn hob HS1 HB1 HSL HBY HLI HWB HZ
  go_wp2_with fail
  have HIR0 : Hid (IR w2.heap.size ((Value.slice (some ⟨w2.heap.size, 0, none⟩) 0 0).ownBlock.toList ++ (Value.slice (some ⟨w2.heap.size + 1, 0, none⟩) 0 0).ownBlock.toList) (.slice (some ⟨w2.heap.size, 0, none⟩) 0 0) [] ((w2.alloc (.cells #[] 31)).alloc (.cells #[] 60))) := ⟨(own_lit0 w2 w2.heap.size 31 5 (Nat.le_refl _)).alloc _, fun r hr => by cases hr⟩
  have HSP0 : Hid (((w2.alloc (.cells #[] 31)).alloc (.cells #[] 60)).ownsRow w2.heap.size 60 3 (.slice (some ⟨w2.heap.size + 1, 0, none⟩) 0 0) 0 []) := by
    have h := own_lit0 (w2.alloc (.cells #[] 31)) w2.heap.size 60 3 (by rw [World.size_alloc]; omega)
    rw [World.size_alloc] at h
    exact h
  have HBW0 : Hid (Below w2.heap.size w2 ((w2.alloc (.cells #[] 31)).alloc (.cells #[] 60))) := ((Frm.alloc w2 _).andAlloc _).below (Nat.le_refl _) (fun i hi => by cases hi)
  generalize (w2.alloc (.cells #[] 31)).alloc (.cells #[] 60) = wz at *
  generalize hvR : Value.slice (some ⟨w2.heap.size, 0, none⟩) 0 0 = vR at *
  generalize hvS : Value.slice (some ⟨w2.heap.size + 1, 0, none⟩) 0 0 = vS at *
  clear hvR hvS
  go_loopg [12, 31] outs.length (fun f v12 v31 wr => ∃ (i : Nat) (rs : List RR), v31 = .int .i64 i ∧ i ≤ outs.length ∧ Hid (i + f = outs.length) ∧ Hid (Below w2.heap.size w2 wr) ∧ Hid (IR w2.heap.size (v12.ownBlock.toList ++ vS.ownBlock.toList) v12 rs wr) ∧ Hid (wr.ownsRow w2.heap.size 60 3 vS 0 []) ∧ Hid (rs.map RR.lr = (outs.take i).map RR.lr ∧ rs.length = i))
  case atStart => exact ⟨0, [], rfl, Nat.zero_le _, Nat.zero_add _, HBW0, HIR0, HSP0, ⟨rfl, rfl⟩⟩
  case round =>
    clear HIR0 HSP0 HBW0
    obtain ⟨i, rs, rfl, hil, hif, HBW, HIR, HSP, HRS⟩ := hrel
    rcases Nat.lt_or_ge i outs.length with hlt | hge
    · obtain ⟨gkO, rfl⟩ : ∃ q, gk = q + 1 := ⟨gk - 1, by have := hif.out; omega⟩
      obtain ⟨r, hr⟩ : ∃ e, outs[i]? = some e := ⟨outs[i], List.getElem?_eq_getElem hlt⟩
      have hin := (HIN.out r (List.mem_of_getElem? hr)).below HBW.out
      have hrb := HRB.out r (List.mem_of_getElem? hr)
      obtain ⟨g2, o2, hA2, hcell⟩ := (HS2.out.below HBW.out).2 (by omega)
      subst hA2
      obtain ⟨rAk, rnk, rck, rAd, rnd, rcd, rk, rd, re, rm, ru⟩ := r
      obtain rfl : rk.length = rnk := RR.nk_eq hin
      obtain rfl : rd.length = rnd := RR.nd_eq hin
      have e0 := hcell (i * 5 + 0) _ (flatRR_at outs i 0 _ hr (by omega))
      have e1 := hcell (i * 5 + 1) _ (flatRR_at outs i 1 _ hr (by omega))
      have e2 := hcell (i * 5 + 2) _ (flatRR_at outs i 2 _ hr (by omega))
      have e3 := hcell (i * 5 + 3) _ (flatRR_at outs i 3 _ hr (by omega))
      have e4 := hcell (i * 5 + 4) _ (flatRR_at outs i 4 _ hr (by omega))
      simp only [Nat.add_zero, ← Nat.add_assoc] at e0 e1 e2 e3 e4
      have HR := Lib.hid hr
      have HI := Lib.hid hin
      have HRL := Lib.hid hrb
      have hib : i ≤ 900000 := by have := HOB.out.1; omega
      clear hr hin hrb hcell
      go_wp2_with fail
      have HWA : Hid (Frm [] wr (wr.alloc (.cells #[.slice rAk rk.length rck, .slice rAd rd.length rcd, .int .u64 re, .int .u8 rm, .int .u8 ru] 51))) := Frm.alloc wr _
      generalize wr.alloc (.cells #[.slice rAk rk.length rck, .slice rAd rd.length rcd, .int .u64 re, .int .u8 rm, .int .u8 ru] 51) = wa at *
      have HIA := Lib.hid (HI.out.below (HWA.out.below (Nat.le_refl _) (fun i hi => by cases hi)))
      refine Calls.mono (YtpfmmbhbmdbmeaaGreatDoorQ.QL.impl_recOf.calls rAk rck rk rAd rcd rd re rm ru rk rd re rm ru wa (C_of_sl HIA.out.key (by have := HRL.out; omega)) HIA.out.hk (C_of_sl HIA.out.dat (by have := HRL.out; omega)) HIA.out.hd (by unfold YtpfmmbhbmdbmeaaGreatDoorQ.QL.impl_recOf.f impl_own.f; rw [if_pos (by have := HRL.out; omega), if_pos (by have := HRL.out; omega)]; rfl)) ?_
      rintro E wb ⟨v0, v1, rfl, hr0, hr1, hbb⟩
      obtain ⟨B0, d0, ev0, hd0, hs0, hn0⟩ := own_slT (own_of_R hr0)
      obtain ⟨B1, d1, ev1, hd1, hs1, hn1⟩ := own_slT (own_of_R hr1)
      rw [Nat.mul_one] at hs0 hs1
      subst ev0 ev1
      have HWB := Lib.hid (HWA.out.andBelow hbb)
      have HIRb := Lib.hid (HIR.out.frm0 HWB.out)
      have hst : Stab (u12.ownBlock.toList ++ vS.ownBlock.toList) wb (RR.In ⟨B0, rk.length, d0, B1, rd.length, d1, rk, rd, re, rm, ru⟩) := by
        have hX : ∀ k ∈ u12.ownBlock.toList ++ vS.ownBlock.toList, k < wr.heap.size := fun k hk => by
          rcases List.mem_append.1 hk with hk | hk
          · exact (own_blkT HIR.out.own hk).choose_spec.1.lt
          · exact (own_blkT HSP.out hk).choose_spec.1.lt
        have hsz := HWA.out.size
        exact ((stab_sl hs0 (fun g o e _ hm => by have h1 := (hn0 g o e).1; have h2 := hX g hm; omega)).and (stab_sl hs1 (fun g o e _ hm => by have h1 := (hn1 g o e).1; have h2 := hX g hm; omega))).imp (fun W h => ⟨h.1, h.2, hd0, hd1⟩)
      have HST := Lib.hid hst
      have HSPb := Lib.hid (own_frmT HSP.out HWB.out (fun k hk => by cases hk))
      have HBWb := Lib.hid (HBW.out.trans (HWB.out.below HBW.out.size (fun i hi => by cases hi)))
      clear hst hr0 hr1 hbb hs0 hs1 hn0 hn1 e0 e1 e2 e3 e4 HWA HIA HI HIR HSP HBW HWB
      go_wp2_with (at_builtin; refine wpList_appT rfl (.tmp 35) (.tmp 38) 25 31 rfl _ 5 64 Tryz.underlying25 infoIRec rfl (by omega) (by omega) w2.heap.size u12 rs.length (flatRR rs) rfl (HIRb.out.own.alloc _) _ 1 1 (RR.cells ⟨B0, rk.length, d0, B1, rd.length, d1, rk, rd, re, rm, ru⟩) rfl (blkSl5 _ _ 5 rfl) (RR.one _) (by have := HRS.out.2; omega) ?cx ?_; (case cx => rw [World.size_alloc]; have := HBWb.out.size; omega); intro v39 w4 ho4 hg4 hat4; obtain ⟨A4, c4, hv4, _, _, _⟩ := own_slT ho4; subst hv4; have HF4 := Lib.hid (frm_appT _ hg4); have HO4 := Lib.hid ho4; have HAT4 := Lib.hid hat4; clear ho4 hg4 hat4)
      have hnew : ∀ k ∈ (Value.slice A4 (rs.length + 1) c4).ownBlock.toList ++ vS.ownBlock.toList, k < wb.heap.size → k ∈ u12.ownBlock.toList ++ vS.ownBlock.toList := fun k hk hlt => by
        rcases List.mem_append.1 hk with hk | hk
        · rcases at_new HAT4.out hk (by rw [World.size_alloc]; omega : wb.heap.size ≤ _) with h | h
          · exact List.mem_append_left _ h
          · omega
        · exact List.mem_append_right _ hk
      have HIR4 := Lib.hid (HIRb.out.app (ms := [⟨B0, rk.length, d0, B1, rd.length, d1, rk, rd, re, rm, ru⟩]) (by have h := HO4.out; simpa [flatRR] using h) HF4.out (fun k hk => List.mem_append_left _ hk) hnew (fun r hr => by rw [List.mem_singleton] at hr; subst hr; exact HST.out))
      have HSP4 := Lib.hid (own_frmT HSPb.out HF4.out (fun k hk _ => by obtain ⟨cs, h, _⟩ := own_blkT HIRb.out.own hk; exact ⟨_, _, h, by decide⟩))
      have HBW4 := Lib.hid (HBWb.out.trans (HF4.out.below HBWb.out.size (fun k hk => by obtain ⟨_, _, h⟩ := own_blkT HIRb.out.own hk; exact h)))
      clear hnew
      go_roundg gkO
      case measure => omega
      case rel =>
        refine ⟨i + 1, rs ++ [⟨B0, rk.length, d0, B1, rd.length, d1, rk, rd, re, rm, ru⟩], by go_num, hlt, ?_, HBW4, HIR4, HSP4, ⟨?_, ?_⟩⟩
        · have := hif.out; show _ = _; omega
        · rw [List.take_add_one, HR.out, List.map_append, List.map_append, HRS.out.1]; rfl
        · rw [List.length_append, HRS.out.2]; rfl
    · obtain rfl : i = outs.length := by omega
      have hrs : rs.map RR.lr = (runO 20 [] gs0).map (·.1) := by rw [HRS.out.1, List.take_length]; exact HOM.out
      have HRM := Lib.hid hrs
      clear hrs
      go_wp2_with fail
      go_loopg [13, 43] ops.length (fun f v13 v43 wk => ∃ (j : Nat), v43 = .int .i64 j ∧ j ≤ ops.length ∧ Hid (j + f = ops.length) ∧ Hid (Below w2.heap.size w2 wk) ∧ Hid (IR w2.heap.size (u12.ownBlock.toList ++ v13.ownBlock.toList) u12 rs wk) ∧ Hid (wk.ownsRow w2.heap.size 60 3 v13 j (flatSp (ops.take j))))
      case atStart => exact ⟨0, rfl, Nat.zero_le _, Nat.zero_add _, HBW, HIR, HSP⟩
      case round =>
        clear HBW HIR HSP
        obtain ⟨j, rfl, hjl, hjf, HBW, HIR, HSP⟩ := hrel
        rcases Nat.lt_or_ge j ops.length with hlt | hge
        · obtain ⟨gkI, rfl⟩ : ∃ q, gk = q + 1 := ⟨gk - 1, by have := hjf.out; omega⟩
          obtain ⟨p, hp⟩ : ∃ e, ops[j]? = some e := ⟨ops[j], List.getElem?_eq_getElem hlt⟩
          obtain ⟨g3, o3, hA3, hcell⟩ := (HS3.out.below HBW.out).2 (by omega)
          subst hA3
          have e0 := hcell (j * 3 + 0) _ (flatSp_at3 ops j 0 _ hp (by omega))
          have e1 := hcell (j * 3 + 1) _ (flatSp_at3 ops j 1 _ hp (by omega))
          have e2 := hcell (j * 3 + 2) _ (flatSp_at3 ops j 2 _ hp (by omega))
          simp only [Nat.add_zero, ← Nat.add_assoc] at e0 e1 e2
          have HP := Lib.hid hp
          have hjb : j ≤ 900000 := by have := HOB.out.2; omega
          clear hp hcell
          go_wp2_with (at_builtin; refine wpList_appT rfl (.tmp 47) (.tmp 55) 37 60 rfl _ 3 12 Tryz.underlying37 infoSpot rfl (by omega) (by omega) w2.heap.size u13 j (flatSp (ops.take j)) rfl ((HSP.out.alloc _).alloc _) _ 1 1 (spC p) rfl (blkSl6 _ _ 3 rfl) (spC_one p) (by omega) ?cx ?_; (case cx => rw [World.size_alloc, World.size_alloc]; have := HBW.out.size; omega); intro v56 w4 ho4 hg4 hat4; obtain ⟨A4, c4, hv4, _, _, _⟩ := own_slT ho4; subst hv4; have HF4 := Lib.hid (((Frm.alloc wr _).mono (l2 := u13.ownBlock.toList) (fun i hi => by cases hi)).trans (frm_appT _ hg4) (fun i hi => .inl hi)); have HO4 := Lib.hid ho4; have HAT4 := Lib.hid hat4; clear ho4 hg4 hat4)
          have hnew : ∀ k ∈ u12.ownBlock.toList ++ (Value.slice A4 (j + 1) c4).ownBlock.toList, k < wr.heap.size → k ∈ u12.ownBlock.toList ++ u13.ownBlock.toList := fun k hk hlt => by
            rcases List.mem_append.1 hk with hk | hk
            · exact List.mem_append_left _ hk
            · rcases at_new HAT4.out hk (by rw [World.size_alloc, World.size_alloc]; omega : wr.heap.size ≤ _) with h | h
              · exact List.mem_append_right _ h
              · omega
          have HIR4 := Lib.hid (HIR.out.step (Y := u12.ownBlock.toList ++ (Value.slice A4 (j + 1) c4).ownBlock.toList) HF4.out (fun k hk _ => by obtain ⟨cs, h, _⟩ := own_blkT HSP.out hk; exact ⟨_, _, h, by decide⟩) (fun k hk _ => List.mem_append_right _ hk) hnew)
          have HBW4 := Lib.hid (HBW.out.trans (HF4.out.below HBW.out.size (fun k hk => by obtain ⟨_, _, h⟩ := own_blkT HSP.out hk; exact h)))
          have ho5 := HO4.out
          rw [flatSp_snoc] at ho5
          have t1 : ops.take (j + 1) = ops.take j ++ [p] := by rw [List.take_add_one, HP.out]; rfl
          rw [← t1] at ho5
          have HO5 := Lib.hid ho5
          clear hnew ho5 t1
          go_roundg gkI
          case measure => omega
          case rel => exact ⟨j + 1, by go_num, hlt, by have := hjf.out; show _ = _; omega, HBW4, HIR4, HO5⟩
        · obtain rfl : j = ops.length := by omega
          have h5 := HSP.out
          rw [List.take_length] at h5
          have HS5 := Lib.hid h5
          clear h5
          go_wp2
          refine bodyPost_ret (v := .tuple #[u12, u13, .int .i64 eN, .bool true]) (by simp [results, Tryz.results25, go_sem]) rfl ?_
          exact ⟨u12, u13, rs, ops, by rw [HEN.out], HB2.out.trans (HBW.out.mono HB2.out.size), HIR.out.own.mono HB2.out.size, HS5.out.mono HB2.out.size, HIR.out.now, HRM.out, HOP.out⟩
end Go.Proofs.YtpfmmbhbmdbmeaaGreatDoor
