/- An iterator over a list: to a key; what its functions tell of an iterator. -/
import Derived.Test.YtegaigpolhdicaaGreatA3
namespace Go.Proofs.YtegaigpolhdicaaGreat
open Go.RowKit
set_option linter.unusedVariables false
set_option linter.unusedSimpArgs false
theorem fromD_go {rev : Bool} {k x : Ent} {m : List Ent} (h : ordD rev x k = -1) : fromD rev k (x :: m) = fromD rev k m := by unfold fromD; rw [List.dropWhile_cons_of_pos (by simpa using h)]
theorem fromD_stay {rev : Bool} {k x : Ent} {m : List Ent} (h : ¬ ordD rev x k = -1) : fromD rev k (x :: m) = x :: m := by unfold fromD; rw [List.dropWhile_cons_of_neg (by simpa using h)]
/-- An entry of which the key and the version alone count. -/
def kEnt (k : List Int) (x : Int) : Ent := { zeroE with k := k, v := x }
structure KeyOk (k : List Int) (x : Int) : Prop where
  len : k.length ≤ 300
  kb : Byt k
  v0 : 0 ≤ x
  v1 : Hid (x ≤ 18446744073709551615)
theorem ter_drewN {w : World} {A : Option Addr} {es : List ER} (h : Ters w A es) (m : Nat) : Ters (w.drewN m) A es := ⟨h.sl, fun r hr => ⟨(h.each r hr).key, (h.each r hr).dat, (h.each r hr).hk, (h.each r hr).hd⟩⟩
def LSk (rev : Bool) (es : List ER) (g c : Nat) (A : Option Addr) (k : List Int) (x : Int) (w : World) (E : Ending) (w' : World) : Prop :=
  E = .returned (.tuple #[]) ∧ ∃ a : Int, -1 ≤ a ∧ a ≤ es.length ∧ Blk w' g 56 (lcells A es.length c rev a) ∧ (rev = true → a < es.length) ∧ (rev = false → 0 ≤ a) ∧ remL rev es a = fromD rev (kEnt k x) (Tr.all rev (.leaf g A c es)) ∧ FrS (· = g) w w'
set_option maxRecDepth 100000 in
set_option maxHeartbeats 4000000 in
theorem lSeek (U V : Nat → Prop) (g c nk ck : Nat) (A KA : Option Addr) (rev : Bool) (a : Int) (es : List ER) (k : List Int) (x : Int) (w : World) (h : Blk w g 56 (lcells A es.length c rev a)) (hg : U g) (ht : Fix U w (fun W => Ters W A es)) (hn : es.length ≤ 80) (he : ∀ q ∈ es, EntOk q.e)
    (hV : V g) (hk : Fix V w (fun W => Sl W KA nk (nums .u8 (keyB k x)))) (hnc : nk ≤ ck) (kok : KeyOk k x) :
    Calls Tryz.prog 62 #[.pointer (some ⟨g, 0, none⟩), .slice KA nk ck] w (LSk rev es g c A k x w) := by
  have H := Lib.hid h
  have HT := Lib.hid ht
  have HE := Lib.hid he
  have HK := Lib.hid hk
  have KOK := Lib.hid kok
  have HNK : Hid (nk = k.length + 8) := by show _ = _; have := hk.now.1; rw [nums_length, keyB_len] at this; omega
  have HG := Lib.hid (And.intro hg hV)
  have hkl := kok.len
  clear h ht he hk kok hg hV
  go_enter Tryz.func62, Tryz.ntmps62
  go_wp2_with fail
  refine (lRewind g es.length c A rev a w H.out (by omega)).mono ?_
  rintro E w1 ⟨rfl, hb, hf⟩
  have H1 : Hid (∃ a1 : Int, (bif rev then (es.length : Int) - 1 else 0) = a1) := ⟨_, rfl⟩
  have hst := remL_start rev g A c es
  obtain ⟨a1, ha1⟩ := H1.out
  have hlo : -1 ≤ a1 := by rw [← ha1]; cases rev <;> simp <;> omega
  have hhi : a1 ≤ es.length := by rw [← ha1]; cases rev <;> simp <;> omega
  have HR1 : Hid (rev = true → a1 < es.length) := fun e => by rw [← ha1, e]; simp; omega
  have HR2 : Hid (rev = false → 0 ≤ a1) := fun e => by rw [← ha1, e]; simp
  rw [ha1] at hb hst
  have HB := Lib.hid hb
  have HF := Lib.hid hf
  have HST := Lib.hid hst
  clear hb hf hst ha1 H1
  go_wp2
  go_loopg [] es.length (fun f wr => ∃ a2 : Int, Hid (-1 ≤ a2 ∧ a2 ≤ es.length) ∧ Hid (rev = true → a2 < es.length) ∧ Hid (rev = false → 0 ≤ a2) ∧ Hid ((remL rev es a2).length ≤ f) ∧ Hid (Blk wr g 56 (lcells A es.length c rev a2)) ∧ Hid (FrS (· = g) w wr) ∧ Hid (fromD rev (kEnt k x) (remL rev es a2) = fromD rev (kEnt k x) (Tr.all rev (.leaf g A c es))))
  case atStart =>
    refine ⟨a1, ⟨hlo, hhi⟩, HR1, HR2, ?_, HB, HF, by show _ = _; rw [HST.out]⟩
    show _ ≤ _
    rw [HST.out]
    cases rev <;> simp [Tr.all]
  case round =>
    clear HB HF HST HR1 HR2 hlo hhi H
    obtain ⟨a2, hbd, hr1, hr2, hfu, hb, hf, hfr⟩ := hrel
    have hg1 : ∀ i, i = g → U i := fun i hi => hi ▸ HG.out.1
    have hg2 : ∀ i, i = g → V i := fun i hi => hi ▸ HG.out.2
    have HTW := Lib.hid ((HT.out.on hf.out hg1).now)
    have HKW := Lib.hid ((HK.out.on hf.out hg2).now)
    by_cases hv : 0 ≤ a2 ∧ a2 < es.length
    · obtain ⟨q, hq, hcons⟩ := remL_cons (rev := rev) hv.1 hv.2
      obtain ⟨i, hi⟩ : ∃ i : Nat, (i : Int) = a2 := ⟨a2.toNat, by omega⟩
      rw [show a2.toNat = i by omega] at hq
      have HQ := Lib.hid hq
      have HC := Lib.hid hcons
      have HQE := Lib.hid (HE.out q (List.mem_of_getElem? hq))
      have HQI := Lib.hid (HTW.out.each q (List.mem_of_getElem? hq))
      have HV : Hid (Calls Tryz.prog 63 #[.pointer (some ⟨g, 0, none⟩)] wr fun E w' => E = .returned (.bool true) ∧ Drew wr w') := by
        have := lValid g es.length c A rev a2 _ hb.out
        rwa [decide_eq_true hv] at this
      have HKY : Hid (∀ m, Calls Tryz.prog 59 #[.pointer (some ⟨g, 0, none⟩)] (wr.drewN m) fun E w' => E = .returned (.slice q.Ak q.nk q.ck) ∧ Drew (wr.drewN m) w') := fun m => by
        rw [← hi] at hb
        exact lKey g c i A rev es q _ (hb.out.drewN m) (ter_drewN HTW.out m) HQ.out hn
      have HCM : Hid (∀ m, Calls Tryz.prog 65 #[.slice q.Ak q.nk q.ck, .slice KA nk ck] (wr.drewN m) fun E w' => E = .returned (.int .i64 (orderL q.e.k q.e.v k x)) ∧ Drew (wr.drewN m) w') := fun m => by
        have h1 := HQI.out.nk
        have h2 := HNK.out
        have h3 := HQE.out.klen
        have := compareKeys_any q.Ak KA q.nk nk q.ck ck _ _ (wr.drewN m) HQI.out.key HKW.out (bytKey HQE.out.kb HQE.out.v0 HQE.out.v1) (bytKey KOK.out.kb KOK.out.v0 KOK.out.v1) (by omega) (by omega) HQI.out.hk hnc (by omega) (by omega)
        rwa [cmpKeys_keyB] at this
      have u1 := hb.out.at_ (i := 1) rfl
      have hthree := orderL_three q.e.k k q.e.v x
      have hao : a2 ≤ 100 := by omega
      have HND : Hid (∀ {w9 : World}, ordD rev q.e (kEnt k x) = -1 → Blk w9 g 56 (lcells A es.length c rev (bif rev then a2 - 1 else a2 + 1)) → FrS (· = g) w w9 → ∃ f', f' < gk ∧ ∃ a2 : Int, Hid (-1 ≤ a2 ∧ a2 ≤ es.length) ∧ Hid (rev = true → a2 < es.length) ∧ Hid (rev = false → 0 ≤ a2) ∧ Hid ((remL rev es a2).length ≤ f') ∧ Hid (Blk w9 g 56 (lcells A es.length c rev a2)) ∧ Hid (FrS (· = g) w w9) ∧ Hid (fromD rev (kEnt k x) (remL rev es a2) = fromD rev (kEnt k x) (Tr.all rev (.leaf g A c es)))) := fun {w9} ho hb9 hf9 => by
        have h1 := hfu.out
        have h2 := hfr.out
        rw [HC.out, List.length_cons] at h1
        rw [HC.out, fromD_go ho] at h2
        refine ⟨gk - 1, by omega, (bif rev then a2 - 1 else a2 + 1), ?_, ?_, ?_, by show _ ≤ _; omega, hb9, hf9, h2⟩
        · show _ ∧ _
          cases rev <;> simp <;> omega
        · intro e; subst e; simp; omega
        · intro e; subst e; simp; omega
      have HX : Hid (¬ ordD rev q.e (kEnt k x) = -1 → LSk rev es g c A k x w (.returned (.tuple #[])) wr) := fun ho => by
        refine ⟨rfl, a2, hbd.out.1, hbd.out.2, hb.out, hr1.out, hr2.out, ?_, hf.out⟩
        rw [← hfr.out, HC.out, fromD_stay ho]
      have hlow := hbd.out.1
      clear hq hcons hfu hfr hr1 hr2 hbd
      rcases hthree with h3 | h3 | h3
      · have h4 := h3
        rw [h3] at HCM
        cases rev with
        | false =>
          have HO : Hid ((if false = true then (kEnt k x).ord q.e else q.e.ord (kEnt k x)) = -1) := by show _ = _; rw [if_neg (by simp)]; show orderL q.e.k q.e.v k x = -1; rw [h4]
          have hbn := hlow
          clear h3 h4
          go_wp2_with fail
          refine HV.out.mono ?_
          rintro E w2 ⟨rfl, m2, rfl⟩
          go_wp2_with fail
          refine (HKY.out m2).mono ?_
          rintro E w3 ⟨rfl, m3, rfl⟩
          go_wp2_with fail
          refine (HCM.out _).mono ?_
          rintro E w4 ⟨rfl, m4, rfl⟩
          clear HV HKY HCM
          go_wp2_with fail
          refine (lNext g es.length c A false a2 _ (hb.out.drewN _) (by have := hbn; omega) (by omega)).mono ?_
          rintro E w9 ⟨rfl, hb9, hf9⟩
          have HN := Lib.hid (HND.out (by simp only [ordD]; exact HO.out) hb9 ((hf.out.drewN _).trans hf9 (fun i hi => .inl hi)))
          clear hb9 hf9
          go_wp2
          obtain ⟨f9, hf9, hrel9⟩ := HN.out
          go_roundg f9
          case measure => exact hf9
          case rel => exact hrel9
        | true =>
          have HO : Hid ((if true = true then (kEnt k x).ord q.e else q.e.ord (kEnt k x)) ≠ -1) := by show _ ≠ _; rw [if_pos rfl]; show ¬ (orderL k x q.e.k q.e.v = -1); rw [orderL_anti, h4]; decide
          clear h3 h4
          go_wp2_with fail
          refine HV.out.mono ?_
          rintro E w2 ⟨rfl, m2, rfl⟩
          go_wp2_with fail
          refine (HKY.out m2).mono ?_
          rintro E w3 ⟨rfl, m3, rfl⟩
          go_wp2_with fail
          refine (HCM.out _).mono ?_
          rintro E w4 ⟨rfl, m4, rfl⟩
          clear HV HKY HCM
          go_wp2
          go_end0
          obtain ⟨_, a3, k1, k2, k3, k4, k5, k6, k7⟩ := HX.out (by simp only [ordD]; exact HO.out)
          exact ⟨rfl, a3, k1, k2, k3.drewN _, k4, k5, k6, k7.drewN _⟩
      · have h4 := h3
        rw [h3] at HCM
        cases rev with
        | false =>
          have HO : Hid ((if false = true then (kEnt k x).ord q.e else q.e.ord (kEnt k x)) ≠ -1) := by show _ ≠ _; rw [if_neg (by simp)]; show ¬ (orderL q.e.k q.e.v k x = -1); rw [h4]; decide
          clear h3 h4
          go_wp2_with fail
          refine HV.out.mono ?_
          rintro E w2 ⟨rfl, m2, rfl⟩
          go_wp2_with fail
          refine (HKY.out m2).mono ?_
          rintro E w3 ⟨rfl, m3, rfl⟩
          go_wp2_with fail
          refine (HCM.out _).mono ?_
          rintro E w4 ⟨rfl, m4, rfl⟩
          clear HV HKY HCM
          go_wp2
          go_end0
          obtain ⟨_, a3, k1, k2, k3, k4, k5, k6, k7⟩ := HX.out (by simp only [ordD]; exact HO.out)
          exact ⟨rfl, a3, k1, k2, k3.drewN _, k4, k5, k6, k7.drewN _⟩
        | true =>
          have HO : Hid ((if true = true then (kEnt k x).ord q.e else q.e.ord (kEnt k x)) ≠ -1) := by show _ ≠ _; rw [if_pos rfl]; show ¬ (orderL k x q.e.k q.e.v = -1); rw [orderL_anti, h4]; decide
          clear h3 h4
          go_wp2_with fail
          refine HV.out.mono ?_
          rintro E w2 ⟨rfl, m2, rfl⟩
          go_wp2_with fail
          refine (HKY.out m2).mono ?_
          rintro E w3 ⟨rfl, m3, rfl⟩
          go_wp2_with fail
          refine (HCM.out _).mono ?_
          rintro E w4 ⟨rfl, m4, rfl⟩
          clear HV HKY HCM
          go_wp2
          go_end0
          obtain ⟨_, a3, k1, k2, k3, k4, k5, k6, k7⟩ := HX.out (by simp only [ordD]; exact HO.out)
          exact ⟨rfl, a3, k1, k2, k3.drewN _, k4, k5, k6, k7.drewN _⟩
      · have h4 := h3
        rw [h3] at HCM
        cases rev with
        | false =>
          have HO : Hid ((if false = true then (kEnt k x).ord q.e else q.e.ord (kEnt k x)) ≠ -1) := by show _ ≠ _; rw [if_neg (by simp)]; show ¬ (orderL q.e.k q.e.v k x = -1); rw [h4]; decide
          clear h3 h4
          go_wp2_with fail
          refine HV.out.mono ?_
          rintro E w2 ⟨rfl, m2, rfl⟩
          go_wp2_with fail
          refine (HKY.out m2).mono ?_
          rintro E w3 ⟨rfl, m3, rfl⟩
          go_wp2_with fail
          refine (HCM.out _).mono ?_
          rintro E w4 ⟨rfl, m4, rfl⟩
          clear HV HKY HCM
          go_wp2
          go_end0
          obtain ⟨_, a3, k1, k2, k3, k4, k5, k6, k7⟩ := HX.out (by simp only [ordD]; exact HO.out)
          exact ⟨rfl, a3, k1, k2, k3.drewN _, k4, k5, k6, k7.drewN _⟩
        | true =>
          have HO : Hid ((if true = true then (kEnt k x).ord q.e else q.e.ord (kEnt k x)) = -1) := by show _ = _; rw [if_pos rfl]; show orderL k x q.e.k q.e.v = -1; rw [orderL_anti, h4]
          have hbn := hlow
          clear h3 h4
          go_wp2_with fail
          refine HV.out.mono ?_
          rintro E w2 ⟨rfl, m2, rfl⟩
          go_wp2_with fail
          refine (HKY.out m2).mono ?_
          rintro E w3 ⟨rfl, m3, rfl⟩
          go_wp2_with fail
          refine (HCM.out _).mono ?_
          rintro E w4 ⟨rfl, m4, rfl⟩
          clear HV HKY HCM
          go_wp2_with fail
          refine (lNext g es.length c A true a2 _ (hb.out.drewN _) (by have := hbn; omega) (by omega)).mono ?_
          rintro E w9 ⟨rfl, hb9, hf9⟩
          have HN := Lib.hid (HND.out (by simp only [ordD]; exact HO.out) hb9 ((hf.out.drewN _).trans hf9 (fun i hi => .inl hi)))
          clear hb9 hf9
          go_wp2
          obtain ⟨f9, hf9, hrel9⟩ := HN.out
          go_roundg f9
          case measure => exact hf9
          case rel => exact hrel9
    · have HV : Hid (Calls Tryz.prog 63 #[.pointer (some ⟨g, 0, none⟩)] wr fun E w' => E = .returned (.bool false) ∧ Drew wr w') := by
        have := lValid g es.length c A rev a2 _ hb.out
        rwa [decide_eq_false hv] at this
      have HX : Hid (LSk rev es g c A k x w (.returned (.tuple #[])) wr) := by
        refine ⟨rfl, a2, hbd.out.1, hbd.out.2, hb.out, hr1.out, hr2.out, ?_, hf.out⟩
        rw [← hfr.out, remL_nil hv hr1.out hr2.out]
        rfl
      clear hfu hfr hr1 hr2 hbd
      go_wp2_with fail
      refine HV.out.mono ?_
      rintro E w2 ⟨rfl, m2, rfl⟩
      go_wp2
      go_end0
      obtain ⟨_, a3, k1, k2, k3, k4, k5, k6, k7⟩ := HX.out
      exact ⟨rfl, a3, k1, k2, k3.drewN m2, k4, k5, k6, k7.drewN m2⟩
/-! What they tell of an iterator over a list. -/
theorem fix_one {U : Nat → Prop} {g : Nat} (h : U g) : ∀ i, i = g → U i := fun i hi => hi ▸ h
theorem leaf_ok {U S : Nat → Prop} {rev : Bool} {w w' : World} {g c : Nat} {A : Option Addr} {es : List ER} {a : Int} {r : List Ent} (hS : S g) (hU : U g) (hT : Fix U w (fun W => Ters W A es)) (hf : FrS (· = g) w w') (h0 : -1 ≤ a) (h1 : a ≤ es.length) (hb : Blk w' g 56 (lcells A es.length c rev a))
    (h2 : rev = true → a < es.length) (h3 : rev = false → 0 ≤ a) (hr : remL rev es a = r) (ok : RemOk rev r) : OpS U rev w (.leaf g A c es) S r w' :=
  ⟨⟨.inl hS, hT.on hf (fix_one hU), a, h0, h1, hb, fun r' h => by
    injection h with h
    subst h
    exact ⟨hr.symm, h2, h3, ok⟩⟩, hf.mono (fun i hi => .inl (hi ▸ hS))⟩
theorem all_ok {rev : Bool} {g c : Nat} {A : Option Addr} {es : List ER} (h : Tr.Good rev (.leaf g A c es)) : ∀ q ∈ es, EntOk q.e := fun q hq => h.1.each q.e (by
  show q.e ∈ (bif rev then (es.map ER.e).reverse else es.map ER.e)
  cases rev with
  | false => exact List.mem_map_of_mem hq
  | true => exact List.mem_reverse.2 (List.mem_map_of_mem hq))
theorem leafRewind {U S : Nat → Prop} {rev : Bool} {w : World} {g c : Nat} {A : Option Addr} {es : List ER} {m : Option (List Ent)} (h : Tr.Ok U rev w (.leaf g A c es) S m) (hg : Tr.Good rev (.leaf g A c es)) (hU : U g) :
    Calls Tryz.prog 61 #[.pointer (some ⟨g, 0, none⟩)] w (OpP U rev w (.leaf g A c es) S (Tr.all rev (.leaf g A c es))) := by
  obtain ⟨h1, h2, a, h3, h4, h5, h6⟩ := h
  refine (lRewind g es.length c A rev a w h5 (by have := hg.2.1; omega)).mono ?_
  rintro E w' ⟨rfl, hb, hf⟩
  exact ⟨rfl, leaf_ok h1 hU h2 hf (by cases rev <;> simp <;> omega) (by cases rev <;> simp <;> omega) hb (by intro e; subst e; simp; omega) (by intro e; subst e; simp) (remL_start rev g A c es) hg.1⟩
theorem leafNext {U S : Nat → Prop} {rev : Bool} {w : World} {g c : Nat} {A : Option Addr} {es : List ER} {e : Ent} {r : List Ent} (h : Tr.Ok U rev w (.leaf g A c es) S (some (e :: r))) (hg : Tr.Good rev (.leaf g A c es)) (hU : U g) :
    Calls Tryz.prog 60 #[.pointer (some ⟨g, 0, none⟩)] w (OpP U rev w (.leaf g A c es) S r) := by
  obtain ⟨h1, h2, a, h3, h4, h5, h6⟩ := h
  obtain ⟨k1, k2, k3, k4⟩ := h6 _ rfl
  have hn := hg.2.1
  refine (lNext g es.length c A rev a w h5 h3 (by omega)).mono ?_
  rintro E w' ⟨rfl, hb, hf⟩
  have hin : 0 ≤ a ∧ a < es.length := by
    by_cases hc : 0 ≤ a ∧ a < es.length
    · exact hc
    · rw [remL_nil hc k2 k3] at k1
      cases k1
  obtain ⟨q, _, hc⟩ := remL_cons (rev := rev) hin.1 hin.2
  rw [hc] at k1
  injection k1 with k5 k6
  exact ⟨rfl, leaf_ok h1 hU h2 hf (by cases rev <;> simp <;> omega) (by cases rev <;> simp <;> omega) hb (by intro e; subst e; simp; omega) (by intro e; subst e; simp; omega) k6.symm k4.tail⟩
theorem leafSeek {U S : Nat → Prop} {rev : Bool} {w : World} {g c nk ck : Nat} {A KA : Option Addr} {es : List ER} {m : Option (List Ent)} {k : List Int} {x : Int} (h : Tr.Ok U rev w (.leaf g A c es) S m) (hg : Tr.Good rev (.leaf g A c es)) (hU : U g)
    (hk : Fix S w (fun W => Sl W KA nk (nums .u8 (keyB k x)))) (hnc : nk ≤ ck) (kok : KeyOk k x) :
    Calls Tryz.prog 62 #[.pointer (some ⟨g, 0, none⟩), .slice KA nk ck] w (OpP U rev w (.leaf g A c es) S (fromD rev (kEnt k x) (Tr.all rev (.leaf g A c es)))) := by
  obtain ⟨h1, h2, a, h3, h4, h5, h6⟩ := h
  refine (lSeek U S g c nk ck A KA rev a es k x w h5 hU h2 hg.2.1 (all_ok hg) h1 hk hnc kok).mono ?_
  rintro E w' ⟨rfl, a', k1, k2, k3, k4, k5, k6, k7⟩
  exact ⟨rfl, leaf_ok h1 hU h2 k7 k1 k2 k3 k4 k5 k6 (hg.1.from_ _)⟩
theorem leafValid {U S : Nat → Prop} {rev : Bool} {w : World} {g c : Nat} {A : Option Addr} {es : List ER} {r : List Ent} (h : Tr.Ok U rev w (.leaf g A c es) S (some r)) :
    Calls Tryz.prog 63 #[.pointer (some ⟨g, 0, none⟩)] w fun E w' => E = .returned (.bool (nonE r)) ∧ Drew w w' := by
  obtain ⟨h1, h2, a, h3, h4, h5, h6⟩ := h
  obtain ⟨k1, k2, k3, k4⟩ := h6 _ rfl
  have e : nonE r = decide (0 ≤ a ∧ a < es.length) := by
    by_cases hc : 0 ≤ a ∧ a < es.length
    · rw [decide_eq_true hc]
      obtain ⟨q, _, hq⟩ := remL_cons (rev := rev) hc.1 hc.2
      rw [k1, hq]
      rfl
    · rw [decide_eq_false hc, k1, remL_nil hc k2 k3]
      rfl
  rw [e]
  exact lValid g es.length c A rev a w h5
theorem leaf_head {U S : Nat → Prop} {rev : Bool} {w : World} {g c : Nat} {A : Option Addr} {es : List ER} {e : Ent} {r : List Ent} (h : Tr.Ok U rev w (.leaf g A c es) S (some (e :: r))) :
    Fix U w (fun W => Ters W A es) ∧ ∃ (i : Nat) (q : ER), es[i]? = some q ∧ q.e = e ∧ Blk w g 56 (lcells A es.length c rev (i : Int)) := by
  obtain ⟨h1, h2, a, h3, h4, h5, h6⟩ := h
  obtain ⟨k1, k2, k3, k4⟩ := h6 _ rfl
  have hin : 0 ≤ a ∧ a < es.length := by
    by_cases hc : 0 ≤ a ∧ a < es.length
    · exact hc
    · rw [remL_nil hc k2 k3] at k1
      cases k1
  obtain ⟨q, hq, hc⟩ := remL_cons (rev := rev) hin.1 hin.2
  rw [hc] at k1
  injection k1 with k5 k6
  refine ⟨h2, a.toNat, q, hq, k5.symm, ?_⟩
  rw [Int.toNat_of_nonneg hin.1]
  exact h5
theorem leafKey {U S : Nat → Prop} {rev : Bool} {w : World} {g c : Nat} {A : Option Addr} {es : List ER} {e : Ent} {r : List Ent} (h : Tr.Ok U rev w (.leaf g A c es) S (some (e :: r))) (hg : Tr.Good rev (.leaf g A c es)) :
    ∃ K, KeyOf U w K (keyB e.k e.v) ∧ Calls Tryz.prog 59 #[.pointer (some ⟨g, 0, none⟩)] w fun E w' => E = .returned K ∧ Drew w w' := by
  obtain ⟨h2, i, q, hi, rfl, hb⟩ := leaf_head h
  have hq := List.mem_of_getElem? hi
  have hT := h2.now
  have hI := hT.each q hq
  have hnk := hI.nk
  have hkl := (all_ok hg q hq).klen
  exact ⟨_, ⟨q.Ak, q.nk, q.ck, rfl, hI.hk, by omega, h2.imp (fun W hW => (hW.each q hq).key)⟩, lKey g c i A rev es q w hb hT hi hg.2.1⟩
end Go.Proofs.YtegaigpolhdicaaGreat
