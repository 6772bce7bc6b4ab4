/- Texts that this claim shares with others, put together: K1 K2 K3 K4. -/
import Derived.Test.YtegaigpolhdicaaGreatGJ
import Derived.Handy
import Derived.Deep.DeepCutAuto
import Derived.Deep.CutBlock
import Derived.Lib.SlBytesConst
section
/- The iterator of one direction over a skip list. -/
namespace Go.Proofs.YtegaigpolhdicaaGreat
open Go.RowKit
set_option linter.unusedVariables false
set_option linter.unusedSimpArgs false
end Go.Proofs.YtegaigpolhdicaaGreat
end
section
/- impl.placeOf of an iterator of one direction over a skip list. -/
namespace Go.Proofs.YtegaigpolhdicaaGreat
open Go.RowKit
set_option linter.unusedVariables false
set_option linter.unusedSimpArgs false
def PofP (pl : Bool × Ent) (w : World) (E : Ending) (w' : World) : Prop := ∃ p : PR, E = .returned (.agg p.cells.toArray) ∧ p.pl = pl ∧ PlB w.heap.size w' p ∧ Below w.heap.size w w'
theorem put7 {w w' : World} {b : Nat} (h : Below b w w') (v0 v1 v2 v3 v4 v5 v6 : Value) : Below b w (((((((w'.setCell ⟨b, 0, none⟩ v0).setCell ⟨b, 1, none⟩ v1).setCell ⟨b, 2, none⟩ v2).setCell ⟨b, 3, none⟩ v3).setCell ⟨b, 4, none⟩ v4).setCell ⟨b, 5, none⟩ v5).setCell ⟨b, 6, none⟩ v6) :=
  ((((((h.setCell (Nat.le_refl _) _).setCell (Nat.le_refl _) _).setCell (Nat.le_refl _) _).setCell (Nat.le_refl _) _).setCell (Nat.le_refl _) _).setCell (Nat.le_refl _) _).setCell (Nat.le_refl _) _
theorem frm7 (w : World) (b : Nat) (v0 v1 v2 v3 v4 v5 v6 : Value) : Frm [b] w (((((((w.setCell ⟨b, 0, none⟩ v0).setCell ⟨b, 1, none⟩ v1).setCell ⟨b, 2, none⟩ v2).setCell ⟨b, 3, none⟩ v3).setCell ⟨b, 4, none⟩ v4).setCell ⟨b, 5, none⟩ v5).setCell ⟨b, 6, none⟩ v6) :=
  (((((((Frm.refl [b] w).andSet _ _ (.inl (by simp))).andSet _ _ (.inl (by simp))).andSet _ _ (.inl (by simp))).andSet _ _ (.inl (by simp))).andSet _ _ (.inl (by simp))).andSet _ _ (.inl (by simp))).andSet _ _ (.inl (by simp))
end Go.Proofs.YtegaigpolhdicaaGreat
end
section
/- impl.run: an iterator of one direction takes steps. -/
namespace Go.Proofs.YtegaigpolhdicaaGreat
open Go.RowKit
set_option linter.unusedVariables false
set_option linter.unusedSimpArgs false
/-- A step of one direction as one of both. -/
def kap (back : Bool) (kd : Int) : Int := if kd = 0 then (bif back then 1 else 0) else if kd = 2 then (bif back then 5 else 4) else if kd = 1 then (bif back then 3 else 2) else 9
def uniE (back : Bool) (s : StE) : StE := ⟨kap back s.kind, s.k, s.v⟩
theorem mu0 {l : List Ent} {a b v : Int} {k : List Int} {back : Bool} (h : moveE l a (uniE back ⟨0, k, v⟩) = some b) : b = bif back then (l.length : Int) - 1 else ((0 : Nat) : Int) := by
  cases back
  · exact mv0 h
  · exact mv1 h
theorem mu1 {l : List Ent} {a b v : Int} {k : List Int} {back : Bool} (h : moveE l a (uniE back ⟨1, k, v⟩) = some b) : 0 ≤ a ∧ a < l.length ∧ b = bif back then a - 1 else a + 1 := by
  cases back
  · exact mv2 h
  · exact mv3 h
theorem mu2 {l : List Ent} {a b v : Int} {k : List Int} {back : Bool} (h : moveE l a (uniE back ⟨2, k, v⟩) = some b) : b = bif back then backE l k v else ((posE l k v : Nat) : Int) := by
  cases back
  · exact mv4 h
  · exact mv5 h
theorem kap_no (back : Bool) {kd : Int} (k0 : ¬ kd = 0) (k1 : ¬ kd = 1) (k2 : ¬ kd = 2) : kap back kd = 9 := by
  unfold kap
  rw [if_neg k0, if_neg k2, if_neg k1]
theorem muNo {l : List Ent} {a b v kd : Int} {k : List Int} {back : Bool} (h : moveE l a (uniE back ⟨kd, k, v⟩) = some b) (k0 : ¬ kd = 0) (k1 : ¬ kd = 1) (k2 : ¬ kd = 2) : False := by
  unfold uniE at h
  rw [show kap back (StE.mk kd k v).kind = 9 from kap_no back k0 k1 k2] at h
  exact mvNo h (by decide) (by decide) (by decide) (by decide) (by decide) (by decide)
theorem PlB.mono {B C : Nat} {w : World} {p : PR} (h : PlB C w p) (hB : B ≤ C) : PlB B w p := ⟨h.in_, fun b o e hn => ⟨Nat.le_trans hB (h.key b o e hn).1, (h.key b o e hn).2⟩, fun b o e hn => ⟨Nat.le_trans hB (h.dat b o e hn).1, (h.dat b o e hn).2⟩⟩
end Go.Proofs.YtegaigpolhdicaaGreat
end
section
/- spec.Walk: the places behind each step of one direction. -/
namespace Go.Proofs.YtegaigpolhdicaaGreat
open Go.RowKit
set_option linter.unusedVariables false
set_option linter.unusedSimpArgs false
def WalkQ (rs : List ER) (S : List StE) (w : World) (E : Ending) (w' : World) : Prop := Below w.heap.size w w' ∧ ((walkE (rs.map ER.e) (-1) S = none ∧ E = .returned (.tuple #[.slice none 0 0, .bool false])) ∨
  ∃ ats A c ps, walkE (rs.map ER.e) (-1) S = some ats ∧ E = .returned (.tuple #[.slice A ps.length c, .bool true]) ∧ Prs w' A ps ∧ ps.map PR.pl = ats.map (plE (rs.map ER.e)) ∧ ps.length ≤ c)
theorem mo0 (l : List Ent) (a v : Int) (k : List Int) : moveE l a (uniE false ⟨0, k, v⟩) = some 0 := rfl
theorem mo0b (l : List Ent) (a v : Int) (k : List Int) : moveE l a (uniE true ⟨0, k, v⟩) = some ((l.length : Int) - 1) := rfl
theorem mo2 (l : List Ent) (a v : Int) (k : List Int) : moveE l a (uniE false ⟨2, k, v⟩) = some ((posE l k v : Nat) : Int) := rfl
theorem mo2b (l : List Ent) (a v : Int) (k : List Int) : moveE l a (uniE true ⟨2, k, v⟩) = some (backE l k v) := rfl
theorem mo1 {l : List Ent} {a v : Int} {k : List Int} (h0 : 0 ≤ a) (h1 : a < l.length) : moveE l a (uniE false ⟨1, k, v⟩) = some (a + 1) := by
  show moveE l a ⟨2, k, v⟩ = _
  simp [moveE, h0, h1]
theorem mo1b {l : List Ent} {a v : Int} {k : List Int} (h0 : 0 ≤ a) (h1 : a < l.length) : moveE l a (uniE true ⟨1, k, v⟩) = some (a - 1) := by
  show moveE l a ⟨3, k, v⟩ = _
  simp [moveE, h0, h1]
theorem mo1n {l : List Ent} {a v : Int} {k : List Int} {back : Bool} (h : ¬ (0 ≤ a ∧ a < l.length)) : moveE l a (uniE back ⟨1, k, v⟩) = none := by
  cases hm : moveE l a (uniE back ⟨1, k, v⟩) with
  | none => rfl
  | some b => exact absurd ⟨(mu1 hm).1, (mu1 hm).2.1⟩ h
theorem moN {l : List Ent} {a v kd : Int} {k : List Int} {back : Bool} (k0 : ¬ kd = 0) (k1 : ¬ kd = 1) (k2 : ¬ kd = 2) : moveE l a (uniE back ⟨kd, k, v⟩) = none := by
  cases hm : moveE l a (uniE back ⟨kd, k, v⟩) with
  | none => rfl
  | some b => exact (muNo hm k0 k1 k2).elim
set_option maxRecDepth 100000 in
set_option maxHeartbeats 4000000 in
theorem walk_any (ga oa m c ns cs : Nat) (AS : Option Addr) (back : Bool) (rs : List ER) (ss : List SR) (w : World) (hm : rs.length = m) (hm2 : m ≤ 4000000000) (hso : SortedE (rs.map ER.e)) (hA : Ers w (some ⟨ga, oa, none⟩) rs) (hS : Srs w AS ss) (hsl : ss.length = ns) (hns : ns ≤ 4000000000)
    (hl : ∀ r ∈ rs, r.nk ≤ 4000000000) (hsk : ∀ s ∈ ss, s.nk ≤ 4000000000) :
    Calls Tryz.prog 8 #[.slice (some ⟨ga, oa, none⟩) m c, .bool back, .slice AS ns cs] w (WalkQ rs (ss.map fun s => uniE back s.s) w) := by
  have HA := Lib.hid hA
  have HS := Lib.hid hS
  have HL := Lib.hid (And.intro hl hsk)
  have HM := Lib.hid (And.intro hm hsl)
  have HSO := Lib.hid hso
  clear hA hS hl hsk hm hsl hso
  go_enter Tryz.func8, Tryz.ntmps8
  go_wp2
  go_loopg [8, 9, 16] ns (fun f v8 v9 v16 wr => ∃ (i c6 : Nat) (a : Int) (A6 : Option Addr) (ps : List PR) (ats : List Int), v8 = .slice A6 i c6 ∧ v9 = .int .i64 a ∧ v16 = .int .i64 i ∧ i ≤ ns ∧ -1 ≤ a ∧ a ≤ m ∧ Hid (i + f = ns) ∧ Hid (wr.ownsRow w.heap.size 47 7 (.slice A6 i c6) i (flatP ps)) ∧ Hid (ps.length = i)
    ∧ Hid (ps.map PR.pl = ats.map (plE (rs.map ER.e))) ∧ Hid (walkE (rs.map ER.e) (-1) (ss.map fun s => uniE back s.s) = (walkE (rs.map ER.e) a ((ss.map fun s => uniE back s.s).drop i)).map fun m => ats ++ m) ∧ Hid (∀ p ∈ ps, p.r ∈ rs ∨ p.r = zeroR) ∧ Hid (Below w.heap.size w wr))
  case atStart =>
    refine ⟨0, 0, -1, _, [], [], rfl, rfl, rfl, Nat.zero_le _, Int.le_refl _, by omega, by simp [Hid], World.ownsRow_made w #[] 0 (Nat.le_refl _) (by simp [maxLen]) rfl, rfl, rfl, ?_, fun p hp => (by cases hp), (Below.refl _ _).alloc (Nat.le_refl _) _⟩
    show _ = (walkE _ _ _).map _
    simp
  case round =>
    obtain ⟨i, c6, a, A6, ps, ats, rfl, rfl, rfl, hin, ha0, ha1, hf, hO, hpl, hmap, hwk, hsub, hbw⟩ := hrel
    by_cases hlt : i < ns
    · obtain ⟨q, hq⟩ : ∃ q, ss[i]? = some q := ⟨_, List.getElem?_eq_getElem (by have := HM.out.2; omega)⟩
      have HQ := Lib.hid hq
      have hSr := HS.out.below hbw.out
      obtain ⟨gs, os, hAe⟩ := hSr.addr (by have := HM.out.2; omega)
      subst hAe
      have ca : ∀ j v, q.cells[j]? = some v → wr.cell? ⟨gs, os + i * 3 + j, none⟩ = some v := fun j v hj => hSr.at_ hq hj
      have b0 := ca 0 _ rfl
      have b1 := ca 1 _ rfl
      have b2 := ca 2 _ rfl
      rw [Nat.add_zero] at b0
      have HQI := Lib.hid (hSr.each q (List.mem_of_getElem? hq))
      have HQN := Lib.hid (HL.out.2 q (List.mem_of_getElem? hq))
      clear hSr hq ca
      obtain ⟨KS, nk, ck, ⟨kd, k, v⟩⟩ := q
      replace HQI : Hid (Sl wr KS nk (nums .u8 k)) := HQI.out.key
      replace HQN : Hid (nk ≤ 4000000000) := HQN.out
      replace HQ : Hid (ss[i]? = some ⟨KS, nk, ck, ⟨kd, k, v⟩⟩) := HQ.out
      replace b0 : wr.cell? ⟨gs, os + i * 3, none⟩ = some (.int .i64 kd) := b0
      replace b1 : wr.cell? ⟨gs, os + i * 3 + 1, none⟩ = some (.slice KS nk ck) := b1
      replace b2 : wr.cell? ⟨gs, os + i * 3 + 2, none⟩ = some (.int .u64 v) := b2
      have HST : Hid ((ss.map fun s => uniE back s.s)[i]? = some (uniE back ⟨kd, k, v⟩)) := by show _ = _; rw [List.getElem?_map, HQ.out]; rfl
      have HX : Hid (Blk (wr.alloc (.cells #[.int .i64 kd, .slice KS nk ck, .int .u64 v] 39)) wr.heap.size 39 [.int .i64 kd, .slice KS nk ck, .int .u64 v]) := Blk.new wr _ _
      have HB9 : Hid (Below wr.heap.size wr (wr.alloc (.cells #[.int .i64 kd, .slice KS nk ck, .int .u64 v] 39))) := (Below.refl _ _).alloc (Nat.le_refl _) _
      go_upto_block 2 with fail
      generalize wr.alloc (.cells #[.int .i64 kd, .slice KS nk ck, .int .u64 v] 39) = w9 at *
      generalize hg9 : wr.heap.size = g9 at *
      have HG9 := Lib.hid hg9
      clear hg9 b0 b1 b2 HQ
      have hr5 : Hid (∀ r ∈ rs, r.nk ≤ 4000000000) := HL.out.1
      have HSZ : Hid (g9 ≤ w9.heap.size) := by have := HB9.out.size; have := HX.out.lt; show _ ≤ _; omega
      have HBW : Hid (Below w.heap.size w w9) := hbw.out.trans (HB9.out.mono (by rw [← HG9.out]; exact hbw.out.size))
      have HAx : Hid (Ers w9 (some ⟨ga, oa, none⟩) rs) := HA.out.below HBW.out
      have HKx : Hid (Sl w9 KS nk (nums .u8 k)) := HQI.out.below (by have := HB9.out; rwa [← HG9.out] at this)
      have HLE : Hid ((rs.map ER.e).length = m) := by show _ = _; rw [List.length_map, HM.out.1]
      have y0 := HX.out.at_ (i := 0) rfl
      have y1 := HX.out.at_ (i := 1) rfl
      have y2 := HX.out.at_ (i := 2) rfl
      go_cut [9] (fun v9 wx => ∃ b : Int, v9 = .int .i64 b ∧ -1 ≤ b ∧ b ≤ m ∧ Hid (moveE (rs.map ER.e) a (uniE back ⟨kd, k, v⟩) = some b) ∧ Hid (Below w9.heap.size w9 wx))
      case first =>
        by_cases k0 : kd = 0
        · subst k0
          cases back with
          | true =>
            go_wp2_with fail
            go_meet
            exact ⟨(m : Int) - 1, by go_num, by omega, by omega, by show _ = _; rw [mo0b, HLE.out], Below.refl _ _⟩
          | false =>
            go_wp2_with fail
            go_meet
            exact ⟨0, rfl, by omega, by omega, mo0 _ _ _ _, Below.refl _ _⟩
        have f0 : (kd == 0) = false := by simp [k0]
        have K0 := Lib.hid k0
        by_cases k2 : kd = 2
        · subst k2
          clear f0
          cases back with
          | false =>
            go_wp2_with fail
            refine (seekF_any ga oa m c nk ck KS 2 v k rs w9 HM.out.1 hm2 HAx.out HKx.out HQN.out hr5.out).mono ?_
            rintro E wd ⟨rfl, hbd⟩
            have hp := posE_le (rs.map ER.e) k v
            rw [HLE.out] at hp
            have HBD := Lib.hid hbd
            have HM4 : Hid (moveE (rs.map ER.e) a (uniE false ⟨2, k, v⟩) = some ((posE (rs.map ER.e) k v : Nat) : Int)) := mo2 _ _ _ _
            clear hbd
            generalize posE (rs.map ER.e) k v = pp at *
            go_wp2_with fail
            go_meet
            exact ⟨(pp : Int), rfl, by omega, by omega, HM4.out, HBD.out⟩
          | true =>
            go_wp2_with fail
            refine (seekB_any ga oa m c nk ck KS 2 v k rs w9 HM.out.1 hm2 HSO.out HAx.out HKx.out HQN.out hr5.out).mono ?_
            rintro E wd ⟨rfl, hbd⟩
            have hp := posE_le (rs.map ER.e) k v
            rw [HLE.out] at hp
            have hbk : -1 ≤ backE (rs.map ER.e) k v ∧ backE (rs.map ER.e) k v ≤ m := by unfold backE; split <;> omega
            have HBD := Lib.hid hbd
            have HM4 : Hid (moveE (rs.map ER.e) a (uniE true ⟨2, k, v⟩) = some (backE (rs.map ER.e) k v)) := mo2b _ _ _ _
            clear hbd hp
            generalize backE (rs.map ER.e) k v = pp at *
            go_wp2_with fail
            go_meet
            exact ⟨pp, rfl, hbk.1, hbk.2, HM4.out, HBD.out⟩
        have f2 : (kd == 2) = false := by simp [k2]
        have K2 := Lib.hid k2
        by_cases k1 : kd = 1
        · subst k1
          clear f0 f2
          by_cases h0 : 0 ≤ a
          · by_cases h1 : a < (m : Int)
            · have n0 : ¬ a < 0 := by omega
              have n1 : ¬ (m : Int) ≤ a := by omega
              cases back with
              | true =>
                go_wp2_with fail
                go_meet
                exact ⟨a - 1, by go_num, by omega, by omega, by show _ = _; exact mo1b (by omega) (by rw [HLE.out]; omega), Below.refl _ _⟩
              | false =>
                go_wp2_with fail
                go_meet
                exact ⟨a + 1, by go_num, by omega, by omega, by show _ = _; exact mo1 (by omega) (by rw [HLE.out]; omega), Below.refl _ _⟩
            · have n0 : ¬ a < 0 := by omega
              have n1 : (m : Int) ≤ a := by omega
              have HN : Hid (moveE (rs.map ER.e) a (uniE back ⟨1, k, v⟩) = none) := mo1n (by rw [HLE.out]; omega)
              clear h1
              go_wp2_with fail
              go_ret2
              exact ⟨HBW.out, .inl ⟨walkE_no hwk.out HST.out HN.out, rfl⟩⟩
          · have n0 : a < 0 := by omega
            have HN : Hid (moveE (rs.map ER.e) a (uniE back ⟨1, k, v⟩) = none) := mo1n (by omega)
            clear h0
            go_wp2_with fail
            go_ret2
            exact ⟨HBW.out, .inl ⟨walkE_no hwk.out HST.out HN.out, rfl⟩⟩
        have f1 : (kd == 1) = false := by simp [k1]
        have f1' : (kd != 1) = true := by simp [k1]
        have HN : Hid (moveE (rs.map ER.e) a (uniE back ⟨kd, k, v⟩) = none) := moN K0.out k1 K2.out
        clear k0 k1 k2
        go_wp2_with fail
        go_ret2
        exact ⟨HBW.out, .inl ⟨walkE_no hwk.out HST.out HN.out, rfl⟩⟩
      case rest =>
        clear y0 y1 y2
        obtain ⟨b, rfl, hb0, hb1, hmv, hbx⟩ := hcut
        have HBc : Hid (Below w.heap.size w wc) := HBW.out.trans (hbx.out.mono HBW.out.size)
        have HAc := Lib.hid (HA.out.below HBc.out)
        have hb9 : Below wr.heap.size wr w9 := by have := HB9.out; rwa [← HG9.out] at this
        have HOc := Lib.hid (own_bel hO.out (hb9.trans (hbx.out.mono hb9.size)))
        have HWK := Lib.hid (walkE_on hwk.out HST.out hmv.out)
        clear HB9 hb9 HX HG9 HBW HAx HKx HSZ hbx hO hbw hwk hmv HST HQN HQI
        obtain ⟨gkO, rfl⟩ : ∃ x, gk = x + 1 := ⟨gk - 1, by have := hf.out; omega⟩
        by_cases hb : 0 ≤ b ∧ b < (m : Int)
        · obtain ⟨hb2, hb3⟩ := hb
          obtain ⟨j, rfl⟩ := Int.eq_ofNat_of_zero_le hb2
          obtain ⟨r, hr⟩ : ∃ r, rs[j]? = some r := ⟨_, List.getElem?_eq_getElem (by have := HM.out.1; omega)⟩
          have HR := Lib.hid hr
          have ca : ∀ i' u, r.cells[i']? = some u → ∀ o, (wc.alloc o).cell? ⟨ga, oa + j * 6 + i', none⟩ = some u := fun i' u hj o => Go.Lib.cell?_alloc_marked o (HAc.out.at_ hr hj)
          have b0 := ca 0 _ rfl
          have b1 := ca 1 _ rfl
          have b2 := ca 2 _ rfl
          have b3 := ca 3 _ rfl
          have b4 := ca 4 _ rfl
          have b5 := ca 5 _ rfl
          simp only [Nat.add_zero] at b0
          clear hr ca
          go_wp2_with (at_builtin; refine wpList_append_pl rfl (.tmp 76) (.tmp 78) rfl w.heap.size (.slice A6 i c6) i (flatP ps) rfl ((HOc.out.alloc _).alloc _) _ 1 1 (PR.cells ⟨true, r⟩) rfl (app_sl wc ⟨true, r⟩) (PR.one _) (by omega) ?cx ?_; (case cx => rw [World.size_alloc, World.size_alloc]; have := HBc.out.size; omega); intro v87 w2 ho2 hg2 hat2; obtain ⟨A2, c2, hv2, hc2, hs2, hA2⟩ := own_pl ho2; subst hv2; have HO2 := Lib.hid ho2; have HB2 : Hid (Below w.heap.size w w2) := ((HBc.out.alloc HBc.out.size _).alloc (by rw [World.size_alloc]; have := HBc.out.size; omega) _).grown hg2 (by rw [World.size_alloc, World.size_alloc]; have := HBc.out.size; omega) (fun k' e => (HOc.out.lt k' e).1); clear ho2 hg2 hat2 hs2 hA2)
          go_roundg gkO
          case measure => omega
          case rel =>
            refine ⟨i + 1, c2, (j : Int), A2, ps ++ [⟨true, r⟩], ats ++ [(j : Int)], rfl, rfl, by go_num, by omega, by omega, by omega, by have := hf.out; show _ = _; omega, ?_, by show _ = _; rw [List.length_append, hpl.out]; rfl, (by exact plN_app (p := ⟨true, r⟩) hmap.out (plE_in (by rw [List.getElem?_map, HR.out]; rfl)).symm), HWK.out, ?_, HB2.out⟩
            · show World.ownsRow _ _ _ _ _ _ _
              rw [flatP_snoc]
              exact HO2.out
            · intro q hq
              rcases List.mem_append.1 hq with h | h
              · exact hsub.out q h
              · rw [List.mem_singleton] at h
                subst h
                exact .inl (List.mem_of_getElem? HR.out)
        · have hbb : b = -1 ∨ b = (m : Int) := by omega
          clear hb
          rcases hbb with rfl | rfl
          · go_wp2_with (at_builtin; refine wpList_append_pl rfl (.tmp 76) (.tmp 78) rfl w.heap.size (.slice A6 i c6) i (flatP ps) rfl ((HOc.out.alloc _).alloc _) _ 1 1 (PR.cells ⟨false, zeroR⟩) rfl (app_sl wc ⟨false, zeroR⟩) (PR.one _) (by omega) ?cx ?_; (case cx => rw [World.size_alloc, World.size_alloc]; have := HBc.out.size; omega); intro v87 w2 ho2 hg2 hat2; obtain ⟨A2, c2, hv2, hc2, hs2, hA2⟩ := own_pl ho2; subst hv2; have HO2 := Lib.hid ho2; have HB2 : Hid (Below w.heap.size w w2) := ((HBc.out.alloc HBc.out.size _).alloc (by rw [World.size_alloc]; have := HBc.out.size; omega) _).grown hg2 (by rw [World.size_alloc, World.size_alloc]; have := HBc.out.size; omega) (fun k' e => (HOc.out.lt k' e).1); clear ho2 hg2 hat2 hs2 hA2)
            go_roundg gkO
            case measure => omega
            case rel =>
              refine ⟨i + 1, c2, (-1 : Int), A2, ps ++ [⟨false, zeroR⟩], ats ++ [(-1 : Int)], rfl, rfl, by go_num, by omega, by omega, by omega, by have := hf.out; show _ = _; omega, ?_, by show _ = _; rw [List.length_append, hpl.out]; rfl, (by exact plN_app (p := ⟨false, zeroR⟩) hmap.out (plE_out (by rw [HLE.out]; omega)).symm), HWK.out, ?_, HB2.out⟩
              · show World.ownsRow _ _ _ _ _ _ _
                rw [flatP_snoc]
                exact HO2.out
              · intro q hq
                rcases List.mem_append.1 hq with h | h
                · exact hsub.out q h
                · rw [List.mem_singleton] at h
                  subst h
                  exact .inr rfl
          · go_wp2_with (at_builtin; refine wpList_append_pl rfl (.tmp 76) (.tmp 78) rfl w.heap.size (.slice A6 i c6) i (flatP ps) rfl ((HOc.out.alloc _).alloc _) _ 1 1 (PR.cells ⟨false, zeroR⟩) rfl (app_sl wc ⟨false, zeroR⟩) (PR.one _) (by omega) ?cx ?_; (case cx => rw [World.size_alloc, World.size_alloc]; have := HBc.out.size; omega); intro v87 w2 ho2 hg2 hat2; obtain ⟨A2, c2, hv2, hc2, hs2, hA2⟩ := own_pl ho2; subst hv2; have HO2 := Lib.hid ho2; have HB2 : Hid (Below w.heap.size w w2) := ((HBc.out.alloc HBc.out.size _).alloc (by rw [World.size_alloc]; have := HBc.out.size; omega) _).grown hg2 (by rw [World.size_alloc, World.size_alloc]; have := HBc.out.size; omega) (fun k' e => (HOc.out.lt k' e).1); clear ho2 hg2 hat2 hs2 hA2)
            go_roundg gkO
            case measure => omega
            case rel =>
              refine ⟨i + 1, c2, (m : Int), A2, ps ++ [⟨false, zeroR⟩], ats ++ [(m : Int)], rfl, rfl, by go_num, by omega, by omega, by omega, by have := hf.out; show _ = _; omega, ?_, by show _ = _; rw [List.length_append, hpl.out]; rfl, (by exact plN_app (p := ⟨false, zeroR⟩) hmap.out (plE_out (by rw [HLE.out]; omega)).symm), HWK.out, ?_, HB2.out⟩
              · show World.ownsRow _ _ _ _ _ _ _
                rw [flatP_snoc]
                exact HO2.out
              · intro q hq
                rcases List.mem_append.1 hq with h | h
                · exact hsub.out q h
                · rw [List.mem_singleton] at h
                  subst h
                  exact .inr rfl
    · have hie : i = ns := by omega
      have HIE := Lib.hid hie
      clear hie
      have hge : ¬ ((i : Int) < (ns : Int)) := by omega
      obtain ⟨A9, c9, hv9, hc9, hs9, hA9⟩ := own_pl hO.out
      injection hv9 with hv1 hv2 hv3
      subst hv1
      subst hv3
      have hfin : Hid (walkE (rs.map ER.e) (-1) (ss.map fun s => uniE back s.s) = some ats) := walkE_end hwk.out (by rw [List.length_map, HM.out.2, HIE.out]; exact Nat.le_refl _)
      have HS9 := Lib.hid hs9
      clear hs9 hA9 hwk hO
      go_wp2
      go_ret2
      refine ⟨hbw.out, .inr ⟨ats, A6, c6, ps, hfin.out, ?_, ⟨?_, fun p hp => ?_⟩, hmap.out, by rw [hpl.out]; exact hc9⟩⟩
      · show Ending.returned (.tuple #[.slice A6 i c6, .bool true]) = _
        rw [hpl.out]
      · rw [hpl.out]
        exact HS9.out
      · rcases hsub.out p hp with h | h
        · exact ((HA.out.each _ h).below hbw.out)
        · rw [h]
          exact zeroR_in _
end Go.Proofs.YtegaigpolhdicaaGreat
end
