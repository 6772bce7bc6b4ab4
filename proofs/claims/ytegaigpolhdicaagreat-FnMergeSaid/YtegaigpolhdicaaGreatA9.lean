/- A merging iterator: its operations, of whatever is merged. -/
import Derived.Test.YtegaigpolhdicaaGreatA8
namespace Go.Proofs.YtegaigpolhdicaaGreat
open Go.RowKit
set_option linter.unusedVariables false
set_option linter.unusedSimpArgs false
/-- What turns on the way lies in S, or has been made since. -/
structure Ch (S : Nat → Prop) (w w' : World) (S' : Nat → Prop) : Prop where
  fr : FrS S w w'
  sub : ∀ i, S' i → gro S w w' i
theorem Ch.refl (S : Nat → Prop) (w : World) : Ch S w w S := ⟨FrS.refl _ _, fun i hi => .inl hi⟩
section
variable {U S S1 S2 : Nat → Prop} {rev : Bool} {w w1 w2 w' : World} {g : Nat} {L R T : Tr} {s : Bool} {cu : Value} {rl rr r : List Ent} {cn : Nat} {cx : List Value}
theorem Ch.step (h : Ch S w w1 S1) (hf : FrS S1 w1 w2) : Ch S w w2 (gro S1 w1 w2) := ⟨h.fr.trans hf (fun i hi => (h.sub i hi).elim .inl (fun x => .inr x.1)), fun i hi => by
  rcases hi with hi | hi
  · rcases h.sub i hi with hi | hi
    · exact .inl hi
    · exact .inr ⟨hi.1, Nat.lt_of_lt_of_le hi.2 hf.size⟩
  · exact .inr ⟨Nat.le_trans h.fr.size hi.1, hi.2⟩⟩
theorem Ch.drew (h : Ch S w w1 S1) (hd : Drew w1 w2) : Ch S w w2 S1 := by
  obtain ⟨n, rfl⟩ := hd
  exact ⟨h.fr.drewN n, h.sub⟩
theorem Ch.bnd (h : Ch S w w1 S1) (hB : Bnd U S w) (hN : NewU U w) : Bnd U S1 w1 := fun i hi => by
  rcases h.sub i hi with hi | hi
  · exact ⟨(hB i hi).1, Nat.lt_of_lt_of_le (hB i hi).2 h.fr.size⟩
  · exact ⟨hN i hi.1, hi.2⟩
theorem OpS.ch (h : Ch S w w1 S1) (k : OpS U rev w1 T S1 r w2) : OpS U rev w T S r w2 := by
  have c := h.step k.fr
  exact ⟨k.ok.more c.sub, c.fr⟩
/-- The small side's key. -/
theorem small_key {K1 K2 : Value} (h1 : ∃ xs, KeyOf U w K1 xs) (h2 : ∃ xs, KeyOf U w K2 xs) (k1 : HeadK U w K1 rl) (k2 : HeadK U w K2 rr) (hs : Sml rev s rl rr) : ∃ xs, KeyOf U w (bif s then K1 else K2) xs ∧ ∀ e r, mergeD rev rl rr = e :: r → xs = keyB e.k e.v := by
  cases hm : mergeD rev rl rr with
  | nil =>
    cases s with
    | true => exact h1.imp fun xs h => ⟨h, fun e r x => by cases x⟩
    | false => exact h2.imp fun xs h => ⟨h, fun e r x => by cases x⟩
  | cons e r =>
    rcases sml_head hs hm with ⟨rfl, l, rfl, _⟩ | ⟨rfl, l, rfl, _⟩
    · exact ⟨_, k1, fun e' r' x => by injection x with x; rw [x]⟩
    · exact ⟨_, k2, fun e' r' x => by injection x with x; rw [x]⟩
theorem small_valid (hs : Sml rev s rl rr) : (bif s then nonE rl else nonE rr) = nonE (mergeD rev rl rr) := by
  cases hm : mergeD rev rl rr with
  | nil =>
    obtain ⟨rfl, rfl⟩ := head_nil rev hm
    cases s <;> rfl
  | cons e r =>
    rcases sml_head hs hm with ⟨rfl, l, rfl, _⟩ | ⟨rfl, l, rfl, _⟩ <;> rfl
theorem ncells_small (K1 K2 : Value) (v1 v2 : Bool) : (ncells L R v1 K1 v2 K2 g s cu rev)[offS s]? = some (.bool (bif s then v1 else v2)) ∧ (ncells L R v1 K1 v2 K2 g s cu rev)[offS s + 1]? = some (bif s then K1 else K2) := by
  cases s <;> exact ⟨rfl, rfl⟩
theorem setCur_nod (h : NodS U rev w g L R S rl rr s cu cn cx) (hs : Sml rev s rl rr) (hB : Bnd U S w) (hN : NewU U w) :
    Calls Tryz.prog 79 #[.pointer (some ⟨g, 0, none⟩)] w (OpP U rev w (.node g L R) S (mergeD rev rl rr)) := by
  obtain ⟨SL, SR, K1, K2, n1, n2, n3, n4, n5, n6⟩ := h
  obtain ⟨xs, ⟨A, n, c, hK, hnc, hn, hF⟩, hx⟩ := small_key n1.k1 n1.k2 n4 n5 hs
  obtain ⟨cn', cx', ho, hcn⟩ := n1.cur
  have hcells := ncells_small (L := L) (R := R) (g := g) (s := s) (cu := cu) (rev := rev) K1 K2 (nonE rl) (nonE rr)
  refine (setCurrent_any g (offS s) n c cn' A _ cu xs cx' w n1.blk rfl rfl (by rw [hcells.2, hK]) hF.now hn hnc ho hcn (fun e => (n1.cb g e).2.1 rfl)).mono ?_
  rintro E w' ⟨rfl, cu', hb, ho', hf, hcb⟩
  have hX : ∀ i, (i = g ∨ cu.ownBlock = some i) → U i := fun i hi => hi.elim (fun x => x ▸ (hB g n1.gS).1) (fun x => (hB i (n1.cb i x).1).1)
  have hFS : FrS S w w' := hf.mono (fun i hi => .inl (hi.elim (fun x => x ▸ n1.gS) (fun x => (n1.cb i x).1)))
  have hgl : g < w.heap.size := n1.blk.lt
  refine ⟨rfl, ⟨⟨SL, SR, _, _, _, K1, _, K2, s, cu', n2.frS hf hX (fun i hi x => x.elim (n1.hl i hi).2.1 (fun y => (n1.cb i y).2.2.1 hi)), n3.frS hf hX (fun i hi x => x.elim (n1.hr i hi).2 (fun y => (n1.cb i y).2.2.2 hi)), ⟨hb, .inl n1.gS, fun i hi => ⟨.inl (n1.hl i hi).1, (n1.hl i hi).2⟩, fun i hi => ⟨.inl (n1.hr i hi).1, (n1.hr i hi).2⟩, n1.k1.imp fun _ k => k.on hf hX, n1.k2.imp fun _ k => k.on hf hX, ⟨n, _, ho', hn⟩, ?_⟩, ?_⟩, hFS⟩⟩
  · intro b hbb
    rcases hcb b hbb with h | h
    · exact ⟨.inl (n1.cb b h).1, (n1.cb b h).2⟩
    · have hlt := (ho'.lt b hbb).2
      refine ⟨.inr ⟨h, hlt⟩, by omega, fun x => ?_, fun x => ?_⟩
      · have := (hB b (n1.hl b x).1).2; omega
      · have := (hB b (n1.hr b x).1).2; omega
  · intro r' hr'
    injection hr' with hr'
    subst hr'
    refine ⟨rl, rr, rfl, rfl, rfl, hs, n2.rem, n3.rem, rfl, rfl, n4.on hf hX, n5.on hf hX, ?_⟩
    cases hm : mergeD rev rl rr with
    | nil => trivial
    | cons e r =>
      rw [hx e r hm] at ho'
      exact ⟨n, ho'⟩
end
set_option maxRecDepth 100000 in
theorem mValid_any (g : Nat) (s v : Bool) (cs : List Value) (w : World) (hb : Blk w g 83 cs) (hc : cs[10]? = some (.pointer (some ⟨g, offS s, none⟩))) (hv : cs[offS s]? = some (.bool v)) :
    Calls Tryz.prog 73 #[.pointer (some ⟨g, 0, none⟩)] w fun E w' => E = .returned (.bool v) ∧ w = w' := by
  have u10 := hb.at_ hc
  have u0 := hb.at_ hv
  clear hb hc hv
  go_enter Tryz.func73, Tryz.ntmps73
  go_wp2
  go_returns
  exact ⟨rfl, rfl⟩
theorem keyB_ne {rev : Bool} {e : Ent} {f : Ent} (h : ordD rev e f = -1) : keyB f.k f.v ≠ keyB e.k e.v := fun he => by
  have h1 := cmpKeys_keyB f.k e.k f.v e.v
  have h2 := cmpKeys_keyB e.k e.k e.v e.v
  rw [he, h2] at h1
  have h3 : f.ord e = 0 := by
    have h4 : e.ord e = 0 := (ord_zero e e).2 ⟨rfl, rfl⟩
    show orderL f.k f.v e.k e.v = 0
    rw [← h1]; exact h4
  have h5 := (ordD_zero rev e f).2 (by have := (ord_zero f e).1 h3; exact ⟨this.1.symm, this.2.symm⟩)
  omega
section
variable {U S : Nat → Prop} {rev : Bool} {w : World} {g : Nat} {L R : Tr}
set_option maxRecDepth 100000 in
set_option maxHeartbeats 4000000 in
theorem mRewind {m : Option (List Ent)} (hL : OpsT L) (hR : OpsT R) (h : Tr.Ok U rev w (.node g L R) S m) (hG : Tr.Good rev (.node g L R)) (hB : Bnd U S w) (hN : NewU U w) :
    Calls Tryz.prog 71 #[.pointer (some ⟨g, 0, none⟩)] w (OpP U rev w (.node g L R) S (Tr.all rev (.node g L R))) := by
  obtain ⟨SL, SR, mL, mR, v1, K1, v2, K2, s, cu, h1, h2, h3, h4⟩ := h
  obtain ⟨cn, cx, hc, hcn⟩ := h3.cur
  have HBG := Lib.hid (And.intro hB hN)
  have HG := Lib.hid (And.intro hG.1 hG.2)
  have HO := Lib.hid (And.intro hL hR)
  have HK : Hid (True) := trivial
  have H1 := Lib.hid h1
  have H2 := Lib.hid h2
  have H3 := Lib.hid h3
  have HC := Lib.hid hc
  have HME : Hid (mergeD rev (L.all rev) (R.all rev) = (Tr.all rev (.node g L R))) := rfl
  clear h1 h2 h3 h4 hc hcn hG hB hN hL hR
  go_enter Tryz.func71, Tryz.ntmps71
  go_wp2_with fail
  refine (nodeRewind (o := 0) (T := L) H3.out.blk rfl rfl rfl rfl rfl H1.out HG.out.1 HO.out.1 (fun i hi => HBG.out.1 i (H3.out.hl i hi).1) HBG.out.2 (fun hx => (H3.out.hl g hx).2.1 rfl) (HBG.out.1 g H3.out.gS).1).mono ?_
  rintro E w1 hp
  obtain rfl := hp.1
  obtain ⟨K1', a1, a2, a3, a4, a5, a6, a7⟩ := H3.out.left (rr := []) rfl HBG.out.1 hp H2.out trivial HC.out
  have C1 := Lib.hid ((Ch.refl S w).step a7)
  have A1 := Lib.hid a1
  have A2 := Lib.hid a2
  have A3 := Lib.hid a3
  have A4 := Lib.hid a4
  have A6 := Lib.hid a6
  have HBN1 := Lib.hid (And.intro (C1.out.bnd HBG.out.1 HBG.out.2) (HBG.out.2.on C1.out.fr))
  have HF1 := Lib.hid a7
  have HSR : Hid (∀ i, SR i → S i) := fun i hi => (H3.out.hr i hi).1
  clear hp a1 a2 a3 a4 a5 a6 a7 H1 H2 H3 HC
  go_wp2_with fail
  refine (nodeRewind (o := 5) (T := R) A1.out.blk rfl rfl rfl rfl rfl A3.out HG.out.2 HO.out.2 (fun i hi => HBN1.out.1 i (A1.out.hr i hi).1) HBN1.out.2 (fun hx => (A1.out.hr g hx).2 rfl) (HBN1.out.1 g A1.out.gS).1).mono ?_
  rintro E w2 hp
  obtain rfl := hp.1
  obtain ⟨K2', b1, b2, b3, b4, b5, b6, b7⟩ := A1.out.right rfl HBN1.out.1 hp A2.out A4.out A6.out
  have C2 := Lib.hid (C1.out.step b7)
  have HS2 : Hid (NodS U rev w2 g L R (gro (gro S w w1) w1 w2) (L.all rev) (R.all rev) s cu cn cx) := ⟨_, _, K1', K2', b1, b3, b2, b5, b4, b6⟩
  clear hp b1 b2 b3 b4 b5 b6 b7 A1 A2 A3 A4 A6 HBN1 C1
  go_wp2_with fail
  refine (fix_any HS2.out (C2.out.bnd HBG.out.1 HBG.out.2) (HBG.out.2.on C2.out.fr) HO.out.2 HG.out.2).mono ?_
  rintro E w3 ⟨rfl, s', rr2, hs4, hsm4, hm4, hf4⟩
  have C3 := Lib.hid (C2.out.step hf4)
  have HF : Hid (Calls Tryz.prog 79 #[.pointer (some ⟨g, 0, none⟩)] w3 (OpP U rev w3 (.node g L R) (gro (gro (gro S w w1) w1 w2) w2 w3) ((Tr.all rev (.node g L R))))) := by
    have := setCur_nod hs4 hsm4 (C3.out.bnd HBG.out.1 HBG.out.2) (HBG.out.2.on C3.out.fr)
    rwa [hm4, HME.out] at this
  clear hs4 hsm4 hm4 hf4 HS2 C2
  go_wp2_with fail
  refine HF.out.mono ?_
  rintro E w4 ⟨rfl, hop⟩
  have HQ := Lib.hid (hop.ch C3.out)
  clear hop
  go_wp2
  go_returns
  exact ⟨rfl, HQ.out⟩
set_option maxRecDepth 100000 in
set_option maxHeartbeats 4000000 in
theorem mSeek {m : Option (List Ent)} {KA : Option Addr} {nk ck : Nat} {k : List Int} {x : Int} (hL : OpsT L) (hR : OpsT R) (h : Tr.Ok U rev w (.node g L R) S m) (hG : Tr.Good rev (.node g L R)) (hB : Bnd U S w) (hN : NewU U w) (hk : Fix S w (fun W => Sl W KA nk (nums .u8 (keyB k x)))) (hnc : nk ≤ ck) (kok : KeyOk k x) :
    Calls Tryz.prog 72 #[.pointer (some ⟨g, 0, none⟩), .slice KA nk ck] w (OpP U rev w (.node g L R) S (fromD rev (kEnt k x) (Tr.all rev (.node g L R)))) := by
  obtain ⟨SL, SR, mL, mR, v1, K1, v2, K2, s, cu, h1, h2, h3, h4⟩ := h
  obtain ⟨cn, cx, hc, hcn⟩ := h3.cur
  have HBG := Lib.hid (And.intro hB hN)
  have HG := Lib.hid (And.intro hG.1 hG.2)
  have HO := Lib.hid (And.intro hL hR)
  have HK : Hid (Fix S w (fun W => Sl W KA nk (nums .u8 (keyB k x))) ∧ KeyOk k x) := ⟨hk, kok⟩
  have H1 := Lib.hid h1
  have H2 := Lib.hid h2
  have H3 := Lib.hid h3
  have HC := Lib.hid hc
  have HME : Hid (mergeD rev (fromD rev (kEnt k x) (L.all rev)) (fromD rev (kEnt k x) (R.all rev)) = (fromD rev (kEnt k x) (Tr.all rev (.node g L R)))) := (fromD_merge hG.1.rem.sort hG.2.rem.sort).symm
  clear h1 h2 h3 h4 hc hcn hG hB hN hL hR hk kok
  go_enter Tryz.func72, Tryz.ntmps72
  go_wp2_with fail
  refine (nodeSeek (o := 0) (T := L) H3.out.blk rfl rfl rfl rfl rfl H1.out HG.out.1 HO.out.1 (fun i hi => HBG.out.1 i (H3.out.hl i hi).1) HBG.out.2 (fun hx => (H3.out.hl g hx).2.1 rfl) (HBG.out.1 g H3.out.gS).1 (HK.out.1.less (fun i hi => (H3.out.hl i hi).1)) hnc HK.out.2).mono ?_
  rintro E w1 hp
  obtain rfl := hp.1
  obtain ⟨K1', a1, a2, a3, a4, a5, a6, a7⟩ := H3.out.left (rr := []) rfl HBG.out.1 hp H2.out trivial HC.out
  have C1 := Lib.hid ((Ch.refl S w).step a7)
  have A1 := Lib.hid a1
  have A2 := Lib.hid a2
  have A3 := Lib.hid a3
  have A4 := Lib.hid a4
  have A6 := Lib.hid a6
  have HBN1 := Lib.hid (And.intro (C1.out.bnd HBG.out.1 HBG.out.2) (HBG.out.2.on C1.out.fr))
  have HF1 := Lib.hid a7
  have HSR : Hid (∀ i, SR i → S i) := fun i hi => (H3.out.hr i hi).1
  clear hp a1 a2 a3 a4 a5 a6 a7 H1 H2 H3 HC
  go_wp2_with fail
  refine (nodeSeek (o := 5) (T := R) A1.out.blk rfl rfl rfl rfl rfl A3.out HG.out.2 HO.out.2 (fun i hi => HBN1.out.1 i (A1.out.hr i hi).1) HBN1.out.2 (fun hx => (A1.out.hr g hx).2 rfl) (HBN1.out.1 g A1.out.gS).1 ((HK.out.1.on HF1.out (fun i hi => hi)).less (fun i hi => HSR.out i hi)) hnc HK.out.2).mono ?_
  rintro E w2 hp
  obtain rfl := hp.1
  obtain ⟨K2', b1, b2, b3, b4, b5, b6, b7⟩ := A1.out.right rfl HBN1.out.1 hp A2.out A4.out A6.out
  have C2 := Lib.hid (C1.out.step b7)
  have HS2 : Hid (NodS U rev w2 g L R (gro (gro S w w1) w1 w2) (fromD rev (kEnt k x) (L.all rev)) (fromD rev (kEnt k x) (R.all rev)) s cu cn cx) := ⟨_, _, K1', K2', b1, b3, b2, b5, b4, b6⟩
  clear hp b1 b2 b3 b4 b5 b6 b7 A1 A2 A3 A4 A6 HBN1 C1
  go_wp2_with fail
  refine (fix_any HS2.out (C2.out.bnd HBG.out.1 HBG.out.2) (HBG.out.2.on C2.out.fr) HO.out.2 HG.out.2).mono ?_
  rintro E w3 ⟨rfl, s', rr2, hs4, hsm4, hm4, hf4⟩
  have C3 := Lib.hid (C2.out.step hf4)
  have HF : Hid (Calls Tryz.prog 79 #[.pointer (some ⟨g, 0, none⟩)] w3 (OpP U rev w3 (.node g L R) (gro (gro (gro S w w1) w1 w2) w2 w3) ((fromD rev (kEnt k x) (Tr.all rev (.node g L R)))))) := by
    have := setCur_nod hs4 hsm4 (C3.out.bnd HBG.out.1 HBG.out.2) (HBG.out.2.on C3.out.fr)
    rwa [hm4, HME.out] at this
  clear hs4 hsm4 hm4 hf4 HS2 C2
  go_wp2_with fail
  refine HF.out.mono ?_
  rintro E w4 ⟨rfl, hop⟩
  have HQ := Lib.hid (hop.ch C3.out)
  clear hop
  go_wp2
  go_returns
  exact ⟨rfl, HQ.out⟩
set_option maxRecDepth 100000 in
set_option maxHeartbeats 4000000 in
theorem mNext {e : Ent} {r : List Ent} (hL : OpsT L) (hR : OpsT R) (h : Tr.Ok U rev w (.node g L R) S (some (e :: r))) (hG : Tr.Good rev (.node g L R)) (hB : Bnd U S w) (hN : NewU U w) :
    Calls Tryz.prog 70 #[.pointer (some ⟨g, 0, none⟩)] w (OpP U rev w (.node g L R) S r) := by
  have hrem := h.rem
  obtain ⟨SL, SR, mL, mR, v1, K1, v2, K2, s, cu, h1, h2, h3, h4⟩ := h
  obtain ⟨rl, rr, rfl, rfl, hr, hs, o1, o2, rfl, rfl, k1, k2, n, hc⟩ := h4 (e :: r) rfl
  have HBG := Lib.hid (And.intro hB hN)
  have HG := Lib.hid (And.intro hG.1 hG.2)
  have HO := Lib.hid (And.intro hL hR)
  have HST : Hid (NodS U rev w g L R S rl rr s cu n (nums .u8 (keyB e.k e.v))) := ⟨SL, SR, K1, K2, h3, h1, h2, k1, k2, hc⟩
  have HSM := Lib.hid hs
  have HM := Lib.hid hr.symm
  have HRM := Lib.hid hrem
  clear hrem h1 h2 h3 h4 hr hs o1 o2 k1 k2 hc hG hB hN hL hR
  go_enter Tryz.func70, Tryz.ntmps70
  go_wp2_with fail
  go_loopg [] 1 (fun f wr => ∃ (S1 : Nat → Prop) (rl rr : List Ent) (s : Bool), Hid (Ch S w wr S1) ∧ Hid (NodS U rev wr g L R S1 rl rr s cu n (nums .u8 (keyB e.k e.v))) ∧ Hid (Sml rev s rl rr) ∧ ((f = 1 ∧ Hid (mergeD rev rl rr = e :: r)) ∨ (f = 0 ∧ Hid (mergeD rev rl rr = r))))
  case atStart => exact ⟨S, rl, rr, s, Ch.refl S w, HST, HSM, .inl ⟨rfl, HM⟩⟩
  case round =>
    clear HST HSM HM
    obtain ⟨S1, rl, rr, s, hch, hst, hsm, hm⟩ := hrel
    have HB1 := Lib.hid (hch.out.bnd HBG.out.1 HBG.out.2)
    have HN1 := Lib.hid (HBG.out.2.on hch.out.fr)
    obtain ⟨SL, SR, K1, K2, n1, n2, n3, n4, n5, n6⟩ := hst.out
    have hcells := ncells_small (L := L) (R := R) (g := g) (s := s) (cu := cu) (rev := rev) K1 K2 (nonE rl) (nonE rr)
    rw [small_valid hsm.out] at hcells
    have HVL := Lib.hid (mValid_any g s (nonE (mergeD rev rl rr)) _ wr n1.blk rfl hcells.1)
    rcases hm with ⟨rfl, hm⟩ | ⟨rfl, hm⟩
    · obtain ⟨xs, ⟨A, m, c, hK, hmc, hm1, hF⟩, hx⟩ := small_key n1.k1 n1.k2 n4 n5 hsm.out
      have hx' := hx e r hm.out
      subst hx'
      have u10 : wr.cell? ⟨g, 10, none⟩ = some (.pointer (some ⟨g, offS s, none⟩)) := n1.blk.at_ (i := 10) rfl
      have uo := n1.blk.at_ hcells.2
      have u11 := n1.blk.at_ (i := 11) rfl
      rw [hK] at uo
      obtain ⟨A0, c0, rfl, hc0, hs0⟩ := own_sl n6
      have hre := HRM.out.each e (List.mem_cons_self ..)
      have HEQ : Hid (∀ n', Calls Tryz.prog 76 #[.slice A m c, .slice A0 n c0] (wr.drewN n') fun E w' => E = .returned (.bool true) ∧ wr.drewN n' = w') := fun n' => by
        have := bytesEqual_any A A0 m n c c0 _ _ (wr.drewN n') (hF.now.drewN n') (hs0.drewN n') (bytKey hre.kb hre.v0 hre.v1) (bytKey hre.kb hre.v0 hre.v1)
        rwa [decide_eq_true rfl] at this
      rw [hm.out, show nonE (e :: r) = true from rfl] at HVL
      have HNX : Hid (∀ n', Calls Tryz.prog 77 #[.pointer (some ⟨g, offS s, none⟩)] (wr.drewN n') fun E w' => E = .returned (.tuple #[]) ∧ FrS S1 wr w' ∧ ∃ rl' rr', NodS U rev w' g L R (gro S1 wr w') rl' rr' s (.slice A0 n c0) n (nums .u8 (keyB e.k e.v)) ∧ mergeD rev rl' rr' = r) := fun n' => by
        have hf : FrS (fun _ => False) wr (wr.drewN n') := (FrS.refl _ wr).drewN n'
        have hX : ∀ i : Nat, False → U i := fun _ x => x.elim
        have d1 := n1.frS hf hX (fun x => x) (fun _ _ x => x)
        have b1 : Bnd U S1 (wr.drewN n') := HB1.out
        rcases sml_head hsm.out hm.out with ⟨rfl, l, rfl, e2⟩ | ⟨rfl, l, rfl, e2⟩
        · refine (nodeNext (o := 0) (T := L) d1.blk rfl rfl rfl rfl rfl (n2.frS hf hX (fun _ _ x => x)) HG.out.1 HO.out.1 (fun i hi => HB1.out i (d1.hl i hi).1) HN1.out (fun hx => (d1.hl g hx).2.1 rfl) (HB1.out g n1.gS).1).mono ?_
          rintro E w' hp
          obtain ⟨q1, q2⟩ := NodS.nextL (w := wr.drewN n') (S := S1) b1 d1 (n3.frS hf hX (fun _ _ x => x)) (n5.on hf hX) n6 hp
          exact ⟨hp.1, q2.ahead, l, rr, q1, e2.symm⟩
        · refine (nodeNext (o := 5) (T := R) d1.blk rfl rfl rfl rfl rfl (n3.frS hf hX (fun _ _ x => x)) HG.out.2 HO.out.2 (fun i hi => HB1.out i (d1.hr i hi).1) HN1.out (fun hx => (d1.hr g hx).2 rfl) (HB1.out g n1.gS).1).mono ?_
          rintro E w' hp
          obtain ⟨q1, q2⟩ := NodS.nextR (w := wr.drewN n') (S := S1) b1 d1 (n2.frS hf hX (fun _ _ x => x)) (n4.on hf hX) n6 hp
          exact ⟨hp.1, q2.ahead, rl, l, q1, e2.symm⟩
      have U10 : Hid (∀ n', (wr.drewN n').cell? ⟨g, 10, none⟩ = some (.pointer (some ⟨g, offS s, none⟩))) := fun n' => u10
      clear n1 n2 n3 n4 n5 n6 hcells hm hx hK hmc hm1 hF hre hs0 hc0 hst hsm
      go_wp2_with fail
      refine HVL.out.mono ?_
      rintro E w2 ⟨rfl, rfl⟩
      go_wp2_with fail
      go_quiet ((go_at_call 76; exact quiet_same (HEQ.out _)))
      have v10 := U10.out nq
      clear u10 u11 uo HVL HEQ U10
      go_wp2_with fail
      refine (HNX.out _).mono ?_
      rintro E w3 ⟨rfl, hf3, rl', rr', hs3, hm3⟩
      have C3 := Lib.hid (hch.out.step hf3)
      have HS3 := Lib.hid hs3
      have HM3 := Lib.hid hm3
      clear hf3 hs3 hm3 v10 HNX
      go_wp2_with fail
      refine (fix_any HS3.out (C3.out.bnd HBG.out.1 HBG.out.2) (HBG.out.2.on C3.out.fr) HO.out.2 HG.out.2).mono ?_
      rintro E w4 ⟨rfl, s', rr2, hs4, hsm4, hm4, hf4⟩
      have HR4 : Hid (∃ (S1 : Nat → Prop) (rl rr : List Ent) (s : Bool), Hid (Ch S w w4 S1) ∧ Hid (NodS U rev w4 g L R S1 rl rr s (.slice A0 n c0) n (nums .u8 (keyB e.k e.v))) ∧ Hid (Sml rev s rl rr) ∧ (((0 : Nat) = 1 ∧ Hid (mergeD rev rl rr = e :: r)) ∨ ((0 : Nat) = 0 ∧ Hid (mergeD rev rl rr = r)))) := ⟨_, rl', rr2, s', C3.out.step hf4, hs4, hsm4, .inr ⟨rfl, hm4.trans HM3.out⟩⟩
      clear hs4 hsm4 hm4 hf4
      go_wp2
      go_roundg 0
      case measure => omega
      case rel =>
        obtain ⟨S9, rl9, rr9, s9, q1, q2, q3, q4⟩ := HR4.out
        exact ⟨S9, rl9, rr9, s9, q1, q2, q3, q4.elim (fun x => .inl x) (fun x => .inr ⟨rfl, x.2⟩)⟩
    · have HFIN := Lib.hid (setCur_nod hst.out hsm.out HB1.out HN1.out)
      rw [hm.out] at HFIN HVL
      cases r with
      | nil =>
        rw [show nonE [] = false from rfl] at HVL
        clear n1 n2 n3 n4 n5 n6 hcells hm hst hsm
        go_wp2_with fail
        refine HVL.out.mono ?_
        rintro E w2 ⟨rfl, rfl⟩
        go_wp2_with fail
        refine HFIN.out.mono ?_
        rintro E w3 ⟨rfl, hop⟩
        have HQ := Lib.hid (hop.ch hch.out)
        clear hop
        go_wp2
        go_returns
        exact ⟨rfl, HQ.out⟩
      | cons e2 r2 =>
        obtain ⟨xs, ⟨A, m, c, hK, hmc, hm1, hF⟩, hx⟩ := small_key n1.k1 n1.k2 n4 n5 hsm.out
        have hx' := hx e2 r2 hm.out
        subst hx'
        have u10 : wr.cell? ⟨g, 10, none⟩ = some (.pointer (some ⟨g, offS s, none⟩)) := n1.blk.at_ (i := 10) rfl
        have uo := n1.blk.at_ hcells.2
        have u11 := n1.blk.at_ (i := 11) rfl
        rw [hK] at uo
        obtain ⟨A0, c0, rfl, hc0, hs0⟩ := own_sl n6
        have hre := HRM.out.each e (List.mem_cons_self ..)
        have hre2 := HRM.out.each e2 (List.mem_cons_of_mem _ (List.mem_cons_self ..))
        have hne := keyB_ne ((sortD_cons.1 HRM.out.sort).1 e2 (List.mem_cons_self ..))
        have HEQ : Hid (∀ n', Calls Tryz.prog 76 #[.slice A m c, .slice A0 n c0] (wr.drewN n') fun E w' => E = .returned (.bool false) ∧ wr.drewN n' = w') := fun n' => by
          have := bytesEqual_any A A0 m n c c0 _ _ (wr.drewN n') (hF.now.drewN n') (hs0.drewN n') (bytKey hre2.kb hre2.v0 hre2.v1) (bytKey hre.kb hre.v0 hre.v1)
          rwa [decide_eq_false hne] at this
        rw [show nonE (e2 :: r2) = true from rfl] at HVL
        have HFD : Hid (∀ n', Calls Tryz.prog 79 #[.pointer (some ⟨g, 0, none⟩)] (wr.drewN n') (OpP U rev (wr.drewN n') (.node g L R) S1 (e2 :: r2))) := fun n' => by
          rw [← hm.out]
          exact setCur_nod (hst.out.drewN HB1.out n') hsm.out HB1.out HN1.out
        clear n1 n2 n3 n4 n5 n6 hcells hm hx hK hmc hm1 hF hre hre2 hne hs0 hc0 hst hsm HFIN
        go_wp2_with fail
        refine HVL.out.mono ?_
        rintro E w2 ⟨rfl, rfl⟩
        go_wp2_with fail
        go_quiet ((go_at_call 76; exact quiet_same (HEQ.out _)))
        clear u10 u11 uo HVL HEQ
        go_wp2_with fail
        refine (HFD.out nq).mono ?_
        rintro E w3 ⟨rfl, hop⟩
        have HQ := Lib.hid (hop.ch (hch.out.drew ⟨nq, rfl⟩))
        clear hop
        go_wp2
        go_returns
        exact ⟨rfl, HQ.out⟩
end
theorem opsNode (g : Nat) {L R : Tr} (hL : OpsT L) (hR : OpsT R) : OpsT (.node g L R) :=
  ⟨fun h hg hb hn => mNext hL hR h hg hb hn, fun h hg hb hn => mRewind hL hR h hg hb hn, fun h hg hb hn hk hc ko => mSeek hL hR h hg hb hn hk hc ko⟩
theorem opsAll : ∀ T : Tr, OpsT T
  | .leaf g A c es => opsLeaf g A c es
  | .node g L R => opsNode g (opsAll L) (opsAll R)
end Go.Proofs.YtegaigpolhdicaaGreat
