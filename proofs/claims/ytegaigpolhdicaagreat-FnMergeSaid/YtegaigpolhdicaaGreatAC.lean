/- impl.placeOf and impl.run of an iterator. -/
import Derived.Test.YtegaigpolhdicaaGreatAB
import Derived.Test.YtegaigpolhdicaaGreatGJ
import Derived.Handy
namespace Go.Proofs.YtegaigpolhdicaaGreat
open Go.Proofs.YtegaigpolhdicaaGreatW.PrintLast
open Go.RowKit
set_option linter.unusedVariables false
set_option linter.unusedSimpArgs false
/-- A slice that a walk has made, apart from the iterator's blocks. -/
def SlX (S : Nat → Prop) (w : World) (A : Option Addr) (n : Nat) : Prop := ∀ b o, A = some ⟨b, o, none⟩ → 0 < n → ¬ S b ∧ ∃ cs, Blk w b 5 cs
structure PlX (S : Nat → Prop) (w : World) (p : PR) : Prop where
  in_ : p.r.In w
  key : SlX S w p.r.Ak p.r.nk
  dat : SlX S w p.r.Ad p.r.nd
section
variable {S X : Nat → Prop} {w w' : World} {p : PR}
theorem SlX.frS {A : Option Addr} {n : Nat} (h : SlX S w A n) (hf : FrS X w w') (hx : ∀ b cs, Blk w b 5 cs → ¬ S b → ¬ X b) : SlX (gro S w w') w' A n := fun b o e hn => by
  obtain ⟨h1, cs, h2⟩ := h b o e hn
  exact ⟨gro_not h1 h2.lt, cs, hf.blk h2 (hx b cs h2 h1)⟩
theorem Sl.frX {A : Option Addr} {n : Nat} {xs : List Value} (hs : Sl w A n xs) (h : SlX S w A n) (hf : FrS X w w') (hx : ∀ b cs, Blk w b 5 cs → ¬ S b → ¬ X b) : Sl w' A n xs := hs.frS hf (fun b o e hn _ => by
  obtain ⟨h1, cs, h2⟩ := h b o e hn
  exact hx b cs h2 h1)
theorem PlX.frS (h : PlX S w p) (hf : FrS X w w') (hx : ∀ b cs, Blk w b 5 cs → ¬ S b → ¬ X b) : PlX (gro S w w') w' p :=
  ⟨⟨h.in_.key.frX h.key hf hx, h.in_.dat.frX h.dat hf hx, h.in_.hk, h.in_.hd⟩, h.key.frS hf hx, h.dat.frS hf hx⟩
theorem SlX.less {S2 : Nat → Prop} {A : Option Addr} {n : Nat} (h : SlX S w A n) (hs : ∀ i, S2 i → S i) : SlX S2 w A n := fun b o e hn => ⟨fun x => (h b o e hn).1 (hs b x), (h b o e hn).2⟩
theorem PlX.less {S2 : Nat → Prop} (h : PlX S w p) (hs : ∀ i, S2 i → S i) : PlX S2 w p := ⟨h.in_, h.key.less hs, h.dat.less hs⟩
theorem PlX.of {B : Nat} (h : PlB B w p) (hB : ∀ i, S i → i < B) : PlX S w p := ⟨h.in_, fun b o e hn => ⟨fun x => by have := hB b x; have := (h.key b o e hn).1; omega, (h.key b o e hn).2⟩, fun b o e hn => ⟨fun x => by have := hB b x; have := (h.dat b o e hn).1; omega, (h.dat b o e hn).2⟩⟩
end
theorem blk_two {w : World} {b t t' : Nat} {cs cs' : List Value} (h : Blk w b t cs) (k : Blk w b t' cs') : t = t' := by
  have h3 : w.heap[b]? = some (.cells cs.toArray t (0, 0)) := h
  have h4 : w.heap[b]? = some (.cells cs'.toArray t' (0, 0)) := k
  rw [h3] at h4
  injection h4 with h4
  injection h4
theorem row_not {w : World} {base s n t b : Nat} {e : Nat} {v : Value} {xs cs : List Value} (h : w.ownsRow base e s v n xs) (hb : v.ownBlock = some b) (k : Blk w b t cs) (ht : t ≠ e) : False := by
  rcases h.2 with ⟨rfl, _⟩ | ⟨g, cap, cur, rfl, _, hh, _⟩
  · cases hb
  · simp only [Value.ownBlock, Option.some.injEq] at hb
    subst hb
    have h2 : w.heap[g]? = some (.cells cs.toArray t (0, 0)) := k
    rw [hh] at h2
    injection h2 with h2
    injection h2 with _ h3 _
    exact ht h3.symm
theorem cell_frS {S : Nat → Prop} {w w' : World} {p : Addr} {v : Value} (h : w.cell? p = some v) (hf : FrS S w w') (hg : ¬ S p.block) : w'.cell? p = some v := by
  have hb := hf.block p.block (World.block_lt_of_cell? w _ h) hg
  unfold World.cell? at h ⊢
  rw [hb]
  exact h
def RunX (l : List Ent) (ats : List Int) (S : Nat → Prop) (w : World) (E : Ending) (w' : World) : Prop := ∃ A c ps, E = .returned (.slice A ps.length c) ∧ Prs w' A ps ∧ ps.map PR.pl = ats.map (plE l) ∧ ps.length ≤ c ∧ FrS S w w'
theorem frS_row {w w' : World} {v : Value} (h : w.grownBy w' v.ownBlock) : FrS (fun i => v.ownBlock = some i) w w' := ⟨h.os, h.tape, h.output, h.size, fun i hi hx => h.block i hi (fun e => hx e.symm)⟩
theorem seekAt_L {U S1 : Nat → Prop} {rev : Bool} {all : List Ent} {St : World → (Nat → Prop) → Option (List Ent) → Prop} (g : Nat) (A : Option Addr) (n c : Nat) (k : List Int) (v : Int) (w : World) {m : Option (List Ent)} (C : IterC U rev all St (.pointer (some ⟨g, 0, none⟩)) 63 59 64 60 61 62 58) (h : St w S1 m) (hb : ∀ b o, A = some ⟨b, o, none⟩ → 0 < n → ¬ S1 b) (hs : Sl w A n (nums .u8 (keyB k v))) (hc : n ≤ c) (ko : KeyOk k v) :
    Calls Tryz.prog 62 #[.pointer (some ⟨g, 0, none⟩), .slice A n c] w (StP St w S1 (fromD rev (kEnt k v) all)) := C.seek h (hs.fix (fun b o e hn _ => hb b o e hn)) hc ko
section
variable {U S : Nat → Prop} {rev : Bool} {all : List Ent} {St : World → (Nat → Prop) → Option (List Ent) → Prop}
set_option maxRecDepth 100000 in
set_option maxHeartbeats 2000000 in
theorem placeOut_L (g : Nat) (w : World) (C : IterC U rev all St (.pointer (some ⟨g, 0, none⟩)) 63 59 64 60 61 62 58) (h : St w S (some [])) :
    Calls Tryz.prog 28 #[.iface 52 (.pointer (some ⟨g, 0, none⟩))] w (PofP (false, zeroE) w) := by
  have HI := Lib.hid (C.stab h ((FrS.refl noB w).andAlloc (.cells #[.bool false, .slice none 0 0, .int .u64 0, .int .u8 0, .int .u8 0, .int .u64 0, .slice none 0 0] 47)) noB_in noB_out)
  have HZ0 : Hid (Blk (w.alloc (.cells #[.bool false, .slice none 0 0, .int .u64 0, .int .u8 0, .int .u8 0, .int .u64 0, .slice none 0 0] 47)) w.heap.size 47 [.bool false, .slice none 0 0, .int .u64 0, .int .u8 0, .int .u8 0, .int .u64 0, .slice none 0 0]) := Blk.new w _ _
  have HB0 : Hid (Below w.heap.size w (w.alloc (.cells #[.bool false, .slice none 0 0, .int .u64 0, .int .u8 0, .int .u8 0, .int .u64 0, .slice none 0 0] 47))) := (Below.refl w.heap.size w).alloc (Nat.le_refl _) _
  clear h
  go_enter Tryz.func28, Tryz.ntmps28
  go_wp2_with fail
  generalize w.alloc (.cells #[.bool false, .slice none 0 0, .int .u64 0, .int .u8 0, .int .u8 0, .int .u64 0, .slice none 0 0] 47) = w0 at *
  refine (C.valid HI.out).mono ?_
  rintro E w1 ⟨rfl, hd⟩
  have HZ := Lib.hid (HZ0.out.drewD hd)
  have HB : Hid (Below w.heap.size w w1) := by obtain ⟨n, rfl⟩ := hd; exact bel_drewN HB0.out n
  clear hd HI HZ0 HB0
  have r0 := HZ.out.at_ (i := 0) rfl
  have r1 := HZ.out.at_ (i := 1) rfl
  have r2 := HZ.out.at_ (i := 2) rfl
  have r3 := HZ.out.at_ (i := 3) rfl
  have r4 := HZ.out.at_ (i := 4) rfl
  have r5 := HZ.out.at_ (i := 5) rfl
  have r6 := HZ.out.at_ (i := 6) rfl
  have z0 := HZ.out.frozen 0
  have z1 := HZ.out.frozen 1
  have z2 := HZ.out.frozen 2
  have z3 := HZ.out.frozen 3
  have z4 := HZ.out.frozen 4
  have z5 := HZ.out.frozen 5
  have z6 := HZ.out.frozen 6
  go_wp2
  refine bodyPost_ret (v := .agg #[.bool false, .slice none 0 0, .int .u64 0, .int .u8 0, .int .u8 0, .int .u64 0, .slice none 0 0]) (by simp [results, Tryz.results28, go_sem, r0, r1, r2, r3, r4, r5, r6, z0, z1, z2, z3, z4, z5, z6]) rfl ?_
  exact ⟨⟨false, zeroR⟩, rfl, rfl, PlB.zero _ _, put7 HB.out _ _ _ _ _ _ _⟩
set_option maxRecDepth 100000 in
set_option maxHeartbeats 2000000 in
theorem placeIn_L (g : Nat) (e : Ent) (r : List Ent) (w : World) (C : IterC U rev all St (.pointer (some ⟨g, 0, none⟩)) 63 59 64 60 61 62 58) (h : St w S (some (e :: r))) :
    Calls Tryz.prog 28 #[.iface 52 (.pointer (some ⟨g, 0, none⟩))] w (PofP (true, e) w) := by
  have HE := Lib.hid ((C.rem h).each e (List.mem_cons_self ..))
  have HI0 := Lib.hid (C.stab h ((FrS.refl noB w).andAlloc (.cells #[.bool false, .slice none 0 0, .int .u64 0, .int .u8 0, .int .u8 0, .int .u64 0, .slice none 0 0] 47)) noB_in noB_out)
  have HZ0 : Hid (Blk (w.alloc (.cells #[.bool false, .slice none 0 0, .int .u64 0, .int .u8 0, .int .u8 0, .int .u64 0, .slice none 0 0] 47)) w.heap.size 47 [.bool false, .slice none 0 0, .int .u64 0, .int .u8 0, .int .u8 0, .int .u64 0, .slice none 0 0]) := Blk.new w _ _
  have HB0 : Hid (Below w.heap.size w (w.alloc (.cells #[.bool false, .slice none 0 0, .int .u64 0, .int .u8 0, .int .u8 0, .int .u64 0, .slice none 0 0] 47))) := (Below.refl w.heap.size w).alloc (Nat.le_refl _) _
  clear h
  go_enter Tryz.func28, Tryz.ntmps28
  go_wp2_with fail
  generalize w.alloc (.cells #[.bool false, .slice none 0 0, .int .u64 0, .int .u8 0, .int .u8 0, .int .u64 0, .slice none 0 0] 47) = w0 at *
  obtain ⟨g11, hg11⟩ : ∃ x, x = w.heap.size := ⟨_, rfl⟩
  rw [← hg11] at HZ0 HB0 ⊢
  have HG11 := Lib.hid hg11
  clear hg11
  refine (C.valid HI0.out).mono ?_
  rintro E w1 ⟨rfl, hd⟩
  rw [show nonE (e :: r) = true from rfl]
  have HI1 := Lib.hid (C.stab HI0.out (FrS.of_drew noB hd) noB_in noB_out)
  have HZ1 := Lib.hid (HZ0.out.drewD hd)
  have HB1 : Hid (Below g11 w w1) := by obtain ⟨n, rfl⟩ := hd; exact bel_drewN HB0.out n
  clear hd HI0 HZ0 HB0
  obtain ⟨K, ⟨A, n, c, rfl, hnc, hn, hF⟩, hkc⟩ := C.key HI1.out
  have HKC := Lib.hid hkc
  have HF := Lib.hid hF
  have HNK : Hid (n = e.k.length + 8) := by show _ = _; have := hF.now.1; rw [nums_length, keyB_len] at this; omega
  have h8 : 8 ≤ n := by have := HNK.out; omega
  clear hkc hF
  go_wp2_with fail
  refine HKC.out.mono ?_
  rintro E wk ⟨rfl, hd⟩
  have HI := Lib.hid (C.stab HI1.out (FrS.of_drew noB hd) noB_in noB_out)
  have HZk := Lib.hid (HZ1.out.drewD hd)
  have HBk : Hid (Below g11 w wk) := by obtain ⟨m, rfl⟩ := hd; exact bel_drewN HB1.out m
  replace HF := Lib.hid (HF.out.on (FrS.of_drew noB hd) noB_in)
  clear hd HI1 HZ1 HB1 HKC
  have hkl2 : Hid (n - 8 = e.k.length) := by have := HNK.out; show _ = _; omega
  have hks := Lib.hid HF.out.now
  have hkt : Hid (Sl wk A (n - 8) (nums .u8 e.k)) := by
    have := hks.out.take (m := n - 8) (by omega)
    rw [hkl2.out] at this ⊢
    rwa [← nums_take, keyB, List.take_left' rfl] at this
  have hkn : n ≤ 1000000 := by omega
  go_wp2_with fail
  refine (parseKey_any A n c wk h8 hnc hkn).mono ?_
  rintro E w1 ⟨rfl, rfl⟩
  go_wp2_with fail
  refine (own_any A (n - 8) c e.k wk hkt.out (by omega)).mono ?_
  intro E wx h2; obtain ⟨A2, c2, rfl, hc2, hs2, hb2, ho2⟩ := h2.sv
  have hst2 : Hid (SlB g11 wx A2 e.k.length) := SlB.of_own ho2.out (by have := HBk.out.size; rw [← HG11.out] at this; exact this)
  replace HI := Lib.hid (C.stab HI.out (FrS.of_below noB hb2.out) noB_in noB_out)
  replace HZk : Hid (Blk wx g11 47 [.bool false, .slice none 0 0, .int .u64 0, .int .u8 0, .int .u8 0, .int .u64 0, .slice none 0 0]) := HZk.out.frm (Frm.of_below hb2.out) (by simp)
  replace HBk : Hid (Below g11 w wx) := HBk.out.trans (hb2.out.mono (by have := HBk.out.size; rw [← HG11.out] at this; exact this))
  replace HF := Lib.hid (HF.out.on (FrS.of_below noB hb2.out) noB_in)
  clear h2 ho2 hb2 hkt hks
  have hks := Lib.hid HF.out.now
  have hkp := HE.out.kpos
  have hv0' := HE.out.v0
  go_wp2_with fail
  refine (parseTs_any A n c e.k e.v wx hks.out hnc hkp hkn hv0' HE.out.v1).mono ?_
  rintro E wk2 ⟨rfl, nx2, rfl⟩
  replace HI := Lib.hid (C.stab HI.out ((FrS.refl noB wx).drewN nx2) noB_in noB_out)
  replace HBk : Hid (Below g11 w (wx.drewN nx2)) := bel_drewN HBk.out nx2
  replace HZk : Hid (Blk (wx.drewN nx2) g11 47 [.bool false, .slice none 0 0, .int .u64 0, .int .u8 0, .int .u8 0, .int .u64 0, .slice none 0 0]) := HZk.out.drewN nx2
  replace hs2 : Hid (Sl (wx.drewN nx2) A2 e.k.length (nums .u8 e.k)) := hs2.out
  replace hst2 : Hid (SlB g11 (wx.drewN nx2) A2 e.k.length) := hst2.out.frm ((Frm.refl [] _).drewN nx2) (fun i hi => by cases hi)
  clear hks HF
  generalize wx.drewN nx2 = wk2 at *
  obtain ⟨A4, nd, c4, hc4, hnd, hF4, hval⟩ := C.val HI.out
  subst hnd
  have HVL := Lib.hid (hval wk2 (FrS.refl _ _))
  have HF4 := Lib.hid hF4
  clear hval hF4
  go_wp2_with fail
  refine HVL.out.mono ?_
  rintro E wv ⟨rfl, hb4⟩
  have HS4 := Lib.hid (HF4.out wv ((FrS.of_below noB hb4).mono (fun i x => x.elim)))
  replace hs2 : Hid (Sl wv A2 e.k.length (nums .u8 e.k)) := hs2.out.below hb4
  replace hst2 : Hid (SlB g11 wv A2 e.k.length) := hst2.out.frm (Frm.of_below hb4) (fun i hi => by cases hi)
  replace HZk : Hid (Blk wv g11 47 [.bool false, .slice none 0 0, .int .u64 0, .int .u8 0, .int .u8 0, .int .u64 0, .slice none 0 0]) := HZk.out.frm (Frm.of_below hb4) (by simp)
  replace HBk : Hid (Below g11 w wv) := HBk.out.trans (hb4.mono (by have := HBk.out.size; rw [← HG11.out] at this; exact this))
  clear hb4 HI HVL HF4
  have hdl := HE.out.dlen
  go_wp2_with fail
  refine (valueOf_any e.m e.u e.x 0 A4 e.d.length c4 e.d wv HS4.out hc4 (by omega)).mono ?_
  rintro E wf ⟨v7, rfl, ho7, hb7⟩; obtain ⟨A7, c7, hv7, hc7, hs7⟩ := own_sl ho7; subst hv7
  have hst7 : Hid (SlB g11 wf A7 e.d.length) := SlB.of_own ho7 (by have := HBk.out.size; rw [← HG11.out] at this; exact this)
  have HS7 := Lib.hid hs7
  have HZ : Hid (Blk wf g11 47 [.bool false, .slice none 0 0, .int .u64 0, .int .u8 0, .int .u8 0, .int .u64 0, .slice none 0 0]) := HZk.out.frm (Frm.of_below hb7) (by simp)
  replace hs2 : Hid (Sl wf A2 e.k.length (nums .u8 e.k)) := hs2.out.below hb7
  replace hst2 : Hid (SlB g11 wf A2 e.k.length) := hst2.out.frm (Frm.of_below hb7) (fun i hi => by cases hi)
  have HB : Hid (Below g11 w wf) := HBk.out.trans (hb7.mono (by have := HBk.out.size; rw [← HG11.out] at this; exact this))
  clear ho7 hs7 hb7 HS4 HZk HBk
  have r0 := HZ.out.at_ (i := 0) rfl
  have r1 := HZ.out.at_ (i := 1) rfl
  have r2 := HZ.out.at_ (i := 2) rfl
  have r3 := HZ.out.at_ (i := 3) rfl
  have r4 := HZ.out.at_ (i := 4) rfl
  have r5 := HZ.out.at_ (i := 5) rfl
  have r6 := HZ.out.at_ (i := 6) rfl
  have z0 := HZ.out.frozen 0
  have z1 := HZ.out.frozen 1
  have z2 := HZ.out.frozen 2
  have z3 := HZ.out.frozen 3
  have z4 := HZ.out.frozen 4
  have z5 := HZ.out.frozen 5
  have z6 := HZ.out.frozen 6
  go_wp2
  refine bodyPost_ret (v := .agg #[.bool true, .slice A2 e.k.length c2, .int .u64 e.v, .int .u8 e.m, .int .u8 e.u, .int .u64 e.x, .slice A7 e.d.length c7]) (by simp [results, Tryz.results28, go_sem, r0, r1, r2, r3, r4, r5, r6, z0, z1, z2, z3, z4, z5, z6]) rfl ?_
  have hf := frm7 wf g11 (.bool true) (.slice A2 e.k.length c2) (.int .u64 e.v) (.int .u8 e.m) (.int .u8 e.u) (.int .u64 e.x) (.slice A7 e.d.length c7)
  refine ⟨⟨true, ⟨A2, e.k.length, c2, A7, e.d.length, c7, e⟩⟩, rfl, rfl, ?_, ?_⟩
  · rw [← HG11.out]
    exact ⟨⟨hs2.out.over hst2.out HZ.out (by decide) hf, HS7.out.over hst7.out HZ.out (by decide) hf, hc2, hc7⟩, hst2.out.over HZ.out (by decide) hf, hst7.out.over HZ.out (by decide) hf⟩
  · rw [← HG11.out]
    exact put7 HB.out _ _ _ _ _ _ _
theorem placeAt_L (g : Nat) (l : List Ent) (a : Int) (w : World) (C : IterC U rev all St (.pointer (some ⟨g, 0, none⟩)) 63 59 64 60 61 62 58) (h : St w S (some (remE rev l a))) (h0 : rev = true → a < l.length) (h1 : rev = false → 0 ≤ a) :
    Calls Tryz.prog 28 #[.iface 52 (.pointer (some ⟨g, 0, none⟩))] w (PofP (plE l a) w) := by
  rcases remE_pl (rev := rev) h0 h1 with ⟨h2, h3⟩ | ⟨e, r, h2, h3⟩
  · rw [h2] at h
    rw [h3]
    exact placeOut_L g w C h
  · rw [h2] at h
    rw [h3]
    exact placeIn_L g e r w C h
set_option maxRecDepth 100000 in
set_option maxHeartbeats 4000000 in
theorem run_L (g ns cs : Nat) (AS : Option Addr) (l : List Ent) (ss : List SR) (atz : List Int) (w : World) (m : Option (List Ent)) (C : IterC U rev all St (.pointer (some ⟨g, 0, none⟩)) 63 59 64 60 61 62 58) (h : St w S m) (hall : all = allE rev l) (hso : SortedE l)
    (hS : Fix U w (fun W => Srs W AS ss)) (hsl : ss.length = ns) (hns : ns ≤ 1000000) (hsk : ∀ s ∈ ss, StOk s ∧ s.s.k.length ≤ 300) (hw : walkE l (-1) (ss.map fun s => uniE rev s.s) = some atz) :
    Calls Tryz.prog 19 #[.iface 52 (.pointer (some ⟨g, 0, none⟩)), .slice AS ns cs] w (RunX l atz S w) := by
  subst hall
  have HS := Lib.hid hS
  have HSL := Lib.hid hsl
  have HSK := Lib.hid hsk
  have HW := Lib.hid hw
  have HIT0 := Lib.hid h
  have HSO := Lib.hid hso
  have HBN := Lib.hid (C.bnd h)
  clear hS hsl hsk hw h hso
  go_enter Tryz.func19, Tryz.ntmps19
  go_wp2
  go_loopg [5, 11] ns (fun f v5 v11 wr => ∃ (i c8 : Nat) (a : Int) (A8 : Option Addr) (ps : List PR) (ats : List Int) (S1 : Nat → Prop) (mm : Option (List Ent)), v5 = .slice A8 i c8 ∧ v11 = .int .i64 i ∧ i ≤ ns ∧ Hid (i + f = ns) ∧ Hid (wr.ownsRow w.heap.size 47 7 (.slice A8 i c8) i (flatP ps)) ∧ Hid (ps.length = i)
    ∧ Hid (ps.map PR.pl = ats.map (plE l)) ∧ Hid (walkE l (-1) (ss.map fun s => uniE rev s.s) = (walkE l a ((ss.map fun s => uniE rev s.s).drop i)).map fun m => ats ++ m) ∧ Hid (∀ p ∈ ps, PlX S1 wr p) ∧ Hid (St wr S1 mm) ∧ Hid (0 ≤ a → a < l.length → mm = some (remE rev l a)) ∧ Hid (Ch S w wr S1) ∧ Hid (∀ b, (Value.slice A8 i c8).ownBlock = some b → ¬ S1 b))
  case atStart =>
    have hf0 : FrS noB w (w.alloc (.cells #[] 47)) := (FrS.refl _ _).andAlloc _
    refine ⟨0, 0, -1, _, [], [], S, m, rfl, rfl, Nat.zero_le _, by simp [Hid], World.ownsRow_made w #[] 0 (Nat.le_refl _) (by simp [maxLen]) rfl, rfl, rfl, ?_, fun p hp => (by cases hp), C.stab HIT0.out hf0 noB_in noB_out, fun h0 => absurd h0 (by decide), ⟨hf0.mono (fun i x => x.elim), fun i hi => .inl hi⟩, fun b hb hx => ?_⟩
    · show _ = (walkE _ _ _).map _
      simp
    · injection hb with hb
      have hlt := (HBN.out.1 b hx).2
      have hb2 : w.heap.size = b := hb
      omega
  case round =>
    clear HIT0
    obtain ⟨i, c8, a, A8, ps, ats, S1, mm, rfl, rfl, hin, hf, hO, hpl, hmap, hwk, hps, hit, hmm, hch, hrw⟩ := hrel
    have hSr := Lib.hid (HS.out wr (hch.out.fr.mono (fun i hi => .inl (HBN.out.1 i hi).1)))
    by_cases hlt : i < ns
    · obtain ⟨q, hq⟩ : ∃ q, ss[i]? = some q := ⟨_, List.getElem?_eq_getElem (by have := HSL.out; omega)⟩
      have HQ := Lib.hid hq
      obtain ⟨gs, os, hAe⟩ := hSr.out.addr (by have := HSL.out; omega)
      subst hAe
      have ca : ∀ j v, q.cells[j]? = some v → wr.cell? ⟨gs, os + i * 3 + j, none⟩ = some v := fun j v hj => hSr.out.at_ hq hj
      have b0 := ca 0 _ rfl
      have b1 := ca 1 _ rfl
      have b2 := ca 2 _ rfl
      rw [Nat.add_zero] at b0
      have hqi := hSr.out.each q (List.mem_of_getElem? hq)
      have hnk := SR.nk_eq hqi
      have HQI := Lib.hid hqi
      have HQN := Lib.hid (HSK.out q (List.mem_of_getElem? hq)).1
      have HQL := Lib.hid (HSK.out q (List.mem_of_getElem? hq)).2
      clear hq ca hqi hSr
      obtain ⟨KS, nk, ck, ⟨kd, k, v⟩⟩ := q
      replace hnk : k.length = nk := hnk
      subst hnk
      replace HQI : Hid (Sl wr KS k.length (nums .u8 k)) := HQI.out.key
      have HKO : Hid (KeyOk k v) := ⟨HQL.out, HQN.out.kb, HQN.out.v0, HQN.out.v1⟩
      have hv0 : 0 ≤ v := HQN.out.v0
      have hv1 : Hid (v ≤ 18446744073709551615) := HQN.out.v1
      have hk1000 : k.length ≤ 900 := HQN.out.nk
      replace HQ : Hid (ss[i]? = some ⟨KS, k.length, ck, ⟨kd, k, v⟩⟩) := HQ.out
      replace b0 : wr.cell? ⟨gs, os + i * 3, none⟩ = some (.int .i64 kd) := b0
      replace b1 : wr.cell? ⟨gs, os + i * 3 + 1, none⟩ = some (.slice KS k.length ck) := b1
      replace b2 : wr.cell? ⟨gs, os + i * 3 + 2, none⟩ = some (.int .u64 v) := b2
      have HST : Hid ((ss.map fun s => uniE rev s.s)[i]? = some (uniE rev ⟨kd, k, v⟩)) := by show _ = _; rw [List.getElem?_map, HQ.out]; rfl
      obtain ⟨b, hb⟩ : ∃ b, moveE l a (uniE rev ⟨kd, k, v⟩) = some b := by
        cases hmv : moveE l a (uniE rev ⟨kd, k, v⟩) with
        | some b => exact ⟨b, rfl⟩
        | none =>
          have := walkE_no hwk.out HST.out hmv
          rw [HW.out] at this
          cases this
      have HWK := Lib.hid (walkE_on hwk.out HST.out hb)
      have HMV := Lib.hid hb
      have HMR := Lib.hid (move_rem HSO.out hb)
      have HX : Hid (Blk (wr.alloc (.cells #[.int .i64 kd, .slice KS k.length ck, .int .u64 v] 39)) wr.heap.size 39 [.int .i64 kd, .slice KS k.length ck, .int .u64 v]) := Blk.new wr _ _
      have HF9 : Hid (FrS noB wr (wr.alloc (.cells #[.int .i64 kd, .slice KS k.length ck, .int .u64 v] 39))) := (FrS.refl _ _).andAlloc _
      have HIT : Hid (St (wr.alloc (.cells #[.int .i64 kd, .slice KS k.length ck, .int .u64 v] 39)) S1 mm) := C.stab hit.out HF9.out noB_in noB_out
      have HKx : Hid (Sl (wr.alloc (.cells #[.int .i64 kd, .slice KS k.length ck, .int .u64 v] 39)) KS k.length (nums .u8 k)) := HQI.out.alloc _
      have HG10 : Hid (¬ S1 wr.heap.size) := fun hx => by have := ((C.bnd hit.out).1 _ hx).2; omega
      clear hb hwk HST HQN HQI HQL
      go_upto_block 2 with fail
      generalize wr.alloc (.cells #[.int .i64 kd, .slice KS k.length ck, .int .u64 v] 39) = w9 at *
      obtain ⟨g10, hg10⟩ : ∃ x, x = wr.heap.size := ⟨_, rfl⟩
      rw [← hg10] at HX HG10 ⊢
      clear hg10 b0 b1 b2 HQ
      have y0 := HX.out.at_ (i := 0) rfl
      have y1 := HX.out.at_ (i := 1) rfl
      have y2 := HX.out.at_ (i := 2) rfl
      go_cut [] (fun wx => ∃ w8, Hid (FrS noB w9 w8) ∧ Hid (St wx (gro S1 w8 wx) (some (remE rev l b))) ∧ Hid (FrS S1 w8 wx))
      case first =>
        by_cases k0 : kd = 0
        · subst k0
          have HB0 : Hid (remE rev l b = allE rev l) := by show _ = _; rw [mu0 HMV.out]; exact remE_start rev l
          go_wp2_with fail
          refine (C.rew HIT.out).mono ?_
          rintro E wx ⟨rfl, hit2, hf2⟩
          rw [← HB0.out] at hit2
          have h2 := Lib.hid (And.intro hit2 hf2)
          clear hit2 hf2 HB0
          go_wp2_with fail
          go_meet
          exact ⟨w9, FrS.refl _ _, h2.out.1, h2.out.2⟩
        have f0 : (kd == 0) = false := by simp [k0]
        by_cases k1 : kd = 1
        · subst k1
          obtain ⟨ha0, ha1, hbe⟩ := mu1 HMV.out
          obtain ⟨e, _, hre⟩ := remE_cons (rev := rev) ha0 ha1
          rw [← hbe] at hre
          have hm1 := hmm.out ha0 ha1
          rw [hre] at hm1
          have HIT1 : Hid (St w9 S1 (some (e :: remE rev l b))) := by rw [← hm1]; exact HIT.out
          clear f0 ha0 ha1 hbe hre hm1
          go_wp2_with fail
          refine (C.next HIT1.out).mono ?_
          rintro E wx ⟨rfl, hit2, hf2⟩
          have h2 := Lib.hid (And.intro hit2 hf2)
          clear hit2 hf2
          go_wp2_with fail
          go_meet
          exact ⟨w9, FrS.refl _ _, h2.out.1, h2.out.2⟩
        have f1 : (kd == 1) = false := by simp [k1]
        by_cases k2 : kd = 2
        · subst k2
          have HB2 : Hid (fromD rev (kEnt k v) (allE rev l) = remE rev l b) := by show _ = _; rw [mu2 HMV.out]; exact fromD_remE HSO.out k v
          clear f0 f1
          go_wp2_with fail
          refine start_ (n := 11) (S := fun w' => w'.cell? ⟨g10, 1, none⟩ = some (.slice KS k.length ck) ∧ w'.cell? ⟨g10, 2, none⟩ = some (.int .u64 v)) (ds := []) #[ff,ff,ff,ff,ff,ff,ff,ff,ff,ff,ff] (by kernel_rfl) rfl rfl (⟨y1, y2⟩) (fun hHeld => ?_)
          have hit9 : Hid (St w9.drew S1 mm) := C.stab HIT.out ((FrS.refl noB w9).drewN 1) noB_in noB_out
          have hks : Hid (Sl w9.drew KS k.length (nums .u8 k)) := HKx.out
          have hfr : Hid (FrS noB w9 w9.drew) := (FrS.refl _ _).drewN 1
          clear y0 y1 y2
          generalize w9.drew = wd at *
          refine pure_ (i := 0) (N := some 27) (v := ?_) (a' := ?_) #[tt,ff,ff,ff,ff,ff,ff,ff,ff,ff,ff] rfl rfl (by kernel_rfl) (fun _ _ _ h => h) (Or.inl ⟨by rfl, ?_⟩) ?_ ?_; rotate_left; (intro w'; go_simp; with_reducible rfl); rotate_left; (simp only [Act.put, List.setIfInBounds_toArray, List.set_cons_zero, List.set_cons_succ, i64_w, i32_w]; rfl)
          refine pure_ (i := 1) (N := some 28) (v := ?_) (a' := ?_) #[tt,tt,ff,ff,ff,ff,ff,ff,ff,ff,ff] rfl rfl (by kernel_rfl) (fun _ _ _ h => h) (Or.inl ⟨by rfl, ?_⟩) ?_ ?_; rotate_left; (intro w'; go_simp; with_reducible rfl); rotate_left; (simp only [Act.put, List.setIfInBounds_toArray, List.set_cons_zero, List.set_cons_succ, i64_w, i32_w]; rfl)
          refine take_ (i := 2) (N := some 29) (v := ?_) (a' := ?_) #[tt,tt,tt,ff,ff,ff,ff,ff,ff,ff,ff] rfl rfl (by kernel_rfl) (fun _ _ _ h => h) (Or.inl ⟨by rfl, ?_⟩) hHeld ?_ ?_; rotate_left; (rintro w' ⟨h0, h1⟩; go_simp; with_reducible rfl); rotate_left; (simp only [Act.put, List.setIfInBounds_toArray, List.set_cons_zero, List.set_cons_succ, i64_w, i32_w]; rfl)
          refine pure_ (i := 4) (N := some 31) (v := ?_) (a' := ?_) #[tt,tt,tt,ff,tt,ff,ff,ff,ff,ff,ff] rfl rfl (by kernel_rfl) (fun _ _ _ h => h) (Or.inl ⟨by rfl, ?_⟩) ?_ ?_; rotate_left; (intro w'; go_simp; with_reducible rfl); rotate_left; (simp only [Act.put, List.setIfInBounds_toArray, List.set_cons_zero, List.set_cons_succ, i64_w, i32_w]; rfl)
          refine take_ (i := 5) (N := some 32) (v := ?_) (a' := ?_) #[tt,tt,tt,ff,tt,tt,ff,ff,ff,ff,ff] rfl rfl (by kernel_rfl) (fun _ _ _ h => h) (Or.inl ⟨by rfl, ?_⟩) hHeld ?_ ?_; rotate_left; (rintro w' ⟨h0, h1⟩; go_simp; with_reducible rfl); rotate_left; (simp only [Act.put, List.setIfInBounds_toArray, List.set_cons_zero, List.set_cons_succ, i64_w, i32_w]; rfl)
          refine pure_ (i := 7) (N := some 34) (v := .func (.method "Seek") #[.iface 52 (.pointer (some ⟨g, 0, none⟩))] #[]) (a' := ?_) #[tt,tt,tt,ff,tt,tt,ff,tt,ff,ff,ff] rfl rfl (by kernel_rfl) (fun _ _ _ h => h) (Or.inl ⟨by rfl, (by intro w_; kernel_rfl)⟩) ?_ ?_; rotate_left; (simp only [Act.put, List.setIfInBounds_toArray, List.set_cons_zero, List.set_cons_succ, i64_w, i32_w]; rfl)
          refine pure_ (i := 8) (N := some 35) (v := .func (.method "Seek") #[.iface 52 (.pointer (some ⟨g, 0, none⟩))] #[]) (a' := ?_) #[tt,tt,tt,ff,tt,tt,ff,tt,tt,ff,ff] rfl rfl (by kernel_rfl) (fun _ _ _ h => h) (Or.inl ⟨by rfl, (by intro w_; kernel_rfl)⟩) ?_ ?_; rotate_left; (simp only [Act.put, List.setIfInBounds_toArray, List.set_cons_zero, List.set_cons_succ, i64_w, i32_w]; rfl)
          refine pure_ (i := 9) (N := some 36) (v := ?_) (a' := ?_) #[tt,tt,tt,ff,tt,tt,ff,tt,tt,tt,ff] rfl rfl (by kernel_rfl) (fun _ _ _ h => h) (Or.inl ⟨by rfl, ?_⟩) ?_ ?_; rotate_left; (intro w'; go_simp; with_reducible rfl); rotate_left; (simp only [Act.put, List.setIfInBounds_toArray, List.set_cons_zero, List.set_cons_succ, i64_w, i32_w]; rfl)
          refine one_ (i := 3) (N := some 30) #[tt,tt,tt,tt,tt,tt,ff,tt,tt,tt,ff] rfl rfl (by kernel_rfl) (by decide) (fun K hK => ?_); refine goes_ Tryz.func27 (by kernel_rfl) rfl #[.slice KS k.length ck] (by rfl) rfl rfl (by (try simp only [List.map_toArray, List.map_cons, List.map_nil]); first | done | rfl) ?_
          refine (own_any KS k.length ck k wd hks.out (by omega)).mono ?_
          intro E wx h2; obtain ⟨A2, c2, rfl, hc2, hs2, hb2, ho2⟩ := h2.sv; refine ⟨_, rfl, ?_⟩
          refine hK.out _ _ (⟨cell_bel hHeld.1 hb2.out, cell_bel hHeld.2 hb2.out⟩) (fun hHeld => ?_); clear hK K; refine norm_ (a' := ?_) ?_ ?_; rotate_left; (show Act.put _ (some 30) _ = _; simp only [Act.put, List.setIfInBounds_toArray, List.set_cons_zero, List.set_cons_succ, i64_w, i32_w]; rfl)
          replace hit9 := Lib.hid (C.stab hit9.out (FrS.of_below noB hb2.out) noB_in noB_out)
          replace hfr : Hid (FrS noB w9 wx) := hfr.out.trans (FrS.of_below noB hb2.out) (fun i x => x.elim)
          clear h2 ho2 hb2 hks
          refine one_ (i := 6) (N := some 33) #[tt,tt,tt,tt,tt,tt,tt,tt,tt,tt,ff] rfl rfl (by kernel_rfl) (by decide) (fun K hK => ?_); refine goes_ Tryz.func26 (by kernel_rfl) rfl #[.slice A2 k.length c2, .int .u64 v] (by rfl) rfl rfl (by (try simp only [List.map_toArray, List.map_cons, List.map_nil]); first | done | rfl) ?_
          refine (keyWithTs_any A2 k.length c2 k v wx hs2.out (by omega) hv0 hv1).mono ?_
          intro E wy h3; obtain ⟨A3, c3, rfl, hc3, hs3, hb3, ho3⟩ := h3.sv; refine ⟨_, rfl, ?_⟩
          refine hK.out _ _ (⟨cell_bel hHeld.1 hb3.out, cell_bel hHeld.2 hb3.out⟩) (fun hHeld => ?_); clear hK K; refine norm_ (a' := ?_) ?_ ?_; rotate_left; (show Act.put _ (some 33) _ = _; simp only [Act.put, List.setIfInBounds_toArray, List.set_cons_zero, List.set_cons_succ, i64_w, i32_w]; rfl)
          have hblk3 : Hid (∀ b o, A3 = some ⟨b, o, none⟩ → 0 < (keyB k v).length → ¬ S1 b) := fun b o e hn hx => by
            have h7 := (SlB.of_own ho3.out (Nat.le_refl _) b o e hn).1
            have h8 := ((C.bnd hit9.out).1 b hx).2
            omega
          replace hit9 := Lib.hid (C.stab hit9.out (FrS.of_below noB hb3.out) noB_in noB_out)
          replace hfr : Hid (FrS noB w9 wy) := hfr.out.trans (FrS.of_below noB hb3.out) (fun i x => x.elim)
          clear h3 ho3 hb3 hs2
          refine one_ (i := 10) (N := some 37) #[tt,tt,tt,tt,tt,tt,tt,tt,tt,tt,tt] rfl rfl (by kernel_rfl) (by decide) (fun K hK => ?_); refine call_ 62 #[.pointer (some ⟨g, 0, none⟩), .slice A3 (keyB k v).length c3] (by rfl) rfl (by kernel_rfl) ?_
          refine (seekAt_L g A3 (keyB k v).length c3 k v wy C hit9.out hblk3.out hs3.out hc3 HKO.out).mono ?_
          rintro E wz ⟨rfl, hit4, hf4⟩; refine ⟨_, rfl, ?_⟩
          have hng : ¬ S1 g10 := HG10.out
          refine hK.out _ _ (⟨cell_frS hHeld.1 hf4 hng, cell_frS hHeld.2 hf4 hng⟩) (fun hHeld => ?_); clear hK K; refine norm_ (a' := ?_) ?_ ?_; rotate_left; (show Act.put _ (some 37) _ = _; simp only [Act.put, List.setIfInBounds_toArray, List.set_cons_zero, List.set_cons_succ, i64_w, i32_w]; rfl)
          have hfin : Hid (∃ w8, Hid (FrS noB w9 w8) ∧ Hid (St wz (gro S1 w8 wz) (some (remE rev l b))) ∧ Hid (FrS S1 w8 wz)) := by rw [HB2.out] at hit4; exact ⟨wy, hfr, hit4, hf4⟩
          clear hit4 hf4 hit9 hfr hs3 hHeld hblk3
          refine done_ (by kernel_rfl) ?_
          go_wp2_with fail
          go_meet
          exact hfin.out
        exact (muNo HMV.out k0 k1 k2).elim
      case rest =>
        obtain ⟨w8, hf8, hit2, hf2⟩ := hcut
        have hf08 : Hid (FrS noB wr w8) := HF9.out.trans hf8.out (fun i x => x.elim)
        have hfc : Hid (FrS S1 wr wc) := (hf08.out.mono (fun i x => x.elim)).trans hf2.out (fun i hi => .inl hi)
        have hgs : Hid (∀ i, gro S1 w8 wc i → gro S1 wr wc i) := fun i hi => hi.elim (fun x => .inl x) (fun x => .inr ⟨Nat.le_trans hf08.out.size x.1, x.2⟩)
        clear y0 y1 y2 HX HKx HF9 HIT HMV hit HG10 hf2 hf8 hmm
        obtain ⟨gkO, rfl⟩ : ∃ x, gk = x + 1 := ⟨gk - 1, by have := hf.out; omega⟩
        go_wp2_with fail
        refine (placeAt_L g l b wc C hit2.out HMR.out.1 HMR.out.2).mono ?_
        rintro E wy ⟨⟨pok, ⟨Ak2, nk2, ck2, Ad2, nd2, cd2, e2⟩⟩, hE, hpp, hpb, hby⟩
        replace hE : E = .returned (.agg #[.bool pok, .slice Ak2 nk2 ck2, .int .u64 e2.v, .int .u8 e2.m, .int .u8 e2.u, .int .u64 e2.x, .slice Ad2 nd2 cd2]) := hE
        subst hE
        have HPP := Lib.hid hpp
        have HPB := Lib.hid hpb
        have hfy : Hid (FrS S1 wr wy) := hfc.out.trans (FrS.of_below noB hby) (fun i x => x.elim)
        have hwz : Hid (w.heap.size ≤ wr.heap.size) := hch.out.fr.size
        have hity : Hid (St wy (gro S1 w8 wc) (some (remE rev l b))) := C.stab hit2.out (FrS.of_below noB hby) noB_in noB_out
        have HOy := Lib.hid (own_frS hO.out hfy.out hrw.out)
        have hbzy : Hid (w.heap.size ≤ wy.heap.size) := Nat.le_trans hwz.out hfy.out.size
        have hbw2 : Hid (wc.heap.size ≤ wy.heap.size) := hby.size
        have HBY := Lib.hid hby
        clear hpp hpb hby
        go_wp2_with (at_builtin; refine wpList_append_pl rfl (.tmp 38) (.tmp 41) rfl w.heap.size (.slice A8 i c8) i (flatP ps) rfl (HOy.out.alloc _) _ 1 1 (PR.cells ⟨pok, ⟨Ak2, nk2, ck2, Ad2, nd2, cd2, e2⟩⟩) rfl (one_sl wy ⟨pok, ⟨Ak2, nk2, ck2, Ad2, nd2, cd2, e2⟩⟩) (PR.one _) (by omega) ?cx ?_; (case cx => rw [World.size_alloc]; have := hbzy.out; omega); intro v80 w3 ho3 hg3 hat3; obtain ⟨A3, c3, hv3, hc3, hs3, hA3⟩ := own_pl ho3; subst hv3; have HO3 := Lib.hid ho3; have HG3 := Lib.hid hg3; have HAT := Lib.hid hat3; clear ho3 hg3 hat3 hs3 hA3)
        have HOYA := Lib.hid (HOy.out.alloc (plObj ⟨pok, ⟨Ak2, nk2, ck2, Ad2, nd2, cd2, e2⟩⟩))
        have hrown : Hid (∀ x, (Value.slice A8 i c8).ownBlock = some x → w.heap.size ≤ x ∧ x < wr.heap.size) := fun x hx => hO.out.lt x hx
        -- the new set of blocks
        have hfa : Hid (FrS noB wy (wy.alloc (plObj ⟨pok, ⟨Ak2, nk2, ck2, Ad2, nd2, cd2, e2⟩⟩))) := (FrS.refl _ _).andAlloc _
        have hfg : Hid (FrS (fun x => (Value.slice A8 i c8).ownBlock = some x) (wy.alloc (plObj ⟨pok, ⟨Ak2, nk2, ck2, Ad2, nd2, cd2, e2⟩⟩)) w3) := frS_row HG3.out
        have hun : Hid (∀ x, (Value.slice A8 i c8).ownBlock = some x → U x) := fun x hx => HBN.out.2 x (hrown.out x hx).1
        have hsx : Hid (∀ x, gro S1 w8 wc x → ¬ (Value.slice A8 i c8).ownBlock = some x) := fun x hx e => by
          have h1 := hrown.out x e
          rcases hx with hx | hx
          · exact hrw.out x e hx
          · have := hf08.out.size; omega
        have hit3 : Hid (St w3 (gro S1 w8 wc) (some (remE rev l b))) := C.stab (C.stab hity.out hfa.out noB_in noB_out) hfg.out hun.out hsx.out
        have hchc : Hid (Ch S w wc (gro S1 w8 wc)) := ⟨hch.out.fr.trans hfc.out (fun i hi => (hch.out.sub i hi).elim .inl (fun x => .inr x.1)), fun i hi => (hch.out.step hfc.out).sub i (hgs.out i hi)⟩
        have hwy3 : Hid (wy.heap.size < w3.heap.size) := Nat.lt_of_lt_of_le (by rw [World.size_alloc]; omega) HG3.out.size
        have hch3 : Hid (Ch S w w3 (gro S1 w8 wc)) := ⟨((hchc.out.fr.trans (FrS.of_below noB HBY.out) (fun i x => x.elim)).trans hfa.out (fun i x => x.elim)).trans hfg.out (fun x hx => .inr (hrown.out x hx).1), fun i hi => by
          rcases hchc.out.sub i hi with h | h
          · exact .inl h
          · exact .inr ⟨h.1, by have := hbw2.out; have := hwy3.out; omega⟩⟩
        have hrw3 : Hid (∀ x, (Value.slice A3 (i + 1) c3).ownBlock = some x → ¬ gro S1 w8 wc x) := fun x hx hg => by
          rcases HAT.out with h | h
          · rw [h] at hx
            exact hsx.out x hg hx
          · rw [h] at hx
            injection hx with hx
            rw [World.size_alloc] at hx
            have := (C.bnd hity.out).1 x hg
            omega
        have hu8 : Hid (∀ {W : World} {n' : Nat} {xs : List Value} (b : Nat) (cs : List Value), W.ownsRow w.heap.size 47 7 (.slice A8 i c8) n' xs → Blk W b 5 cs → ¬ (Value.slice A8 i c8).ownBlock = some b) := fun b cs ho hb e => row_not ho e hb (by decide)
        go_roundg gkO
        case measure => omega
        case rel =>
          refine ⟨i + 1, c3, b, A3, ps ++ [⟨pok, ⟨Ak2, nk2, ck2, Ad2, nd2, cd2, e2⟩⟩], ats ++ [b], gro S1 w8 wc, some (remE rev l b), rfl, by go_num, by omega, by have := hf.out; show _ = _; omega, ?_, by show _ = _; rw [List.length_append, hpl.out]; rfl, (by exact plN_app (p := ⟨pok, ⟨Ak2, nk2, ck2, Ad2, nd2, cd2, e2⟩⟩) hmap.out HPP.out), HWK.out, ?_, hit3.out, fun _ _ => rfl, hch3.out, hrw3.out⟩
          · show World.ownsRow _ _ _ _ _ _ _
            rw [flatP_snoc]
            exact HO3.out
          · intro q hq
            rcases List.mem_append.1 hq with h | h
            · have p1 := (hps.out q h).frS hfy.out (fun b cs hb hs => hs)
              have p2 := p1.frS hfa.out (fun b cs hb hs x => x)
              have p3 := p2.frS hfg.out (fun b cs hb hs => hu8.out b cs HOYA.out hb)
              refine p3.less (fun i hi => ?_)
              rcases hgs.out i hi with h | h
              · exact .inl (.inl (.inl h))
              · exact .inl (.inl (.inr ⟨h.1, by have := hbw2.out; omega⟩))
            · rw [List.mem_singleton] at h
              subst h
              have p1 := PlX.of (S := gro S1 w8 wc) HPB.out (fun i hi => ((C.bnd hit2.out).1 i hi).2)
              have p2 := p1.frS hfa.out (fun b cs hb hs x => x)
              have p3 := p2.frS hfg.out (fun b cs hb hs => hu8.out b cs HOYA.out hb)
              exact p3.less (fun i hi => .inl (.inl hi))
    · have hie : i = ns := by omega
      have HIE := Lib.hid hie
      clear hie
      have hge : ¬ ((i : Int) < (ns : Int)) := by omega
      have hfin : Hid (ats = atz) := by
        have := walkE_end hwk.out (by rw [List.length_map, HSL.out, HIE.out]; exact Nat.le_refl _)
        rw [HW.out] at this
        injection this with this
        exact this.symm
      clear hwk
      go_wp2_with fail
      refine (C.cls hit.out).mono ?_
      rintro E w3 ⟨rfl, hf3⟩
      have HO3 := Lib.hid (own_frS hO.out hf3 hrw.out)
      have HP3 : Hid (∀ p ∈ ps, p.r.In w3) := fun p hp => ((hps.out p hp).frS hf3 (fun b cs hb hs => hs)).in_
      have HF3 : Hid (FrS S w w3) := (hch.out.step hf3).fr
      obtain ⟨A9, c9, hv9, hc9, hs9, hA9⟩ := own_pl HO3.out
      injection hv9 with hv1 hv2 hv3
      subst hv1
      subst hv3
      have HS9 := Lib.hid hs9
      clear hs9 hA9 hO hf3 hv2
      go_wp2
      go_ret
      refine ⟨A8, c8, ps, ?_, ⟨?_, fun p hp => HP3.out p hp⟩, by rw [← hfin.out]; exact hmap.out, by rw [hpl.out]; exact hc9, HF3.out⟩
      · show Ending.returned (.slice A8 i c8) = _
        rw [hpl.out]
      · rw [hpl.out]
        exact HS9.out
end
theorem seekAt_M {U S1 : Nat → Prop} {rev : Bool} {all : List Ent} {St : World → (Nat → Prop) → Option (List Ent) → Prop} (g : Nat) (A : Option Addr) (n c : Nat) (k : List Int) (v : Int) (w : World) {m : Option (List Ent)} (C : IterC U rev all St (.pointer (some ⟨g, 0, none⟩)) 73 69 74 70 71 72 68) (h : St w S1 m) (hb : ∀ b o, A = some ⟨b, o, none⟩ → 0 < n → ¬ S1 b) (hs : Sl w A n (nums .u8 (keyB k v))) (hc : n ≤ c) (ko : KeyOk k v) :
    Calls Tryz.prog 72 #[.pointer (some ⟨g, 0, none⟩), .slice A n c] w (StP St w S1 (fromD rev (kEnt k v) all)) := C.seek h (hs.fix (fun b o e hn _ => hb b o e hn)) hc ko
section
variable {U S : Nat → Prop} {rev : Bool} {all : List Ent} {St : World → (Nat → Prop) → Option (List Ent) → Prop}
set_option maxRecDepth 100000 in
set_option maxHeartbeats 2000000 in
theorem placeOut_M (g : Nat) (w : World) (C : IterC U rev all St (.pointer (some ⟨g, 0, none⟩)) 73 69 74 70 71 72 68) (h : St w S (some [])) :
    Calls Tryz.prog 28 #[.iface 77 (.pointer (some ⟨g, 0, none⟩))] w (PofP (false, zeroE) w) := by
  have HI := Lib.hid (C.stab h ((FrS.refl noB w).andAlloc (.cells #[.bool false, .slice none 0 0, .int .u64 0, .int .u8 0, .int .u8 0, .int .u64 0, .slice none 0 0] 47)) noB_in noB_out)
  have HZ0 : Hid (Blk (w.alloc (.cells #[.bool false, .slice none 0 0, .int .u64 0, .int .u8 0, .int .u8 0, .int .u64 0, .slice none 0 0] 47)) w.heap.size 47 [.bool false, .slice none 0 0, .int .u64 0, .int .u8 0, .int .u8 0, .int .u64 0, .slice none 0 0]) := Blk.new w _ _
  have HB0 : Hid (Below w.heap.size w (w.alloc (.cells #[.bool false, .slice none 0 0, .int .u64 0, .int .u8 0, .int .u8 0, .int .u64 0, .slice none 0 0] 47))) := (Below.refl w.heap.size w).alloc (Nat.le_refl _) _
  clear h
  go_enter Tryz.func28, Tryz.ntmps28
  go_wp2_with fail
  generalize w.alloc (.cells #[.bool false, .slice none 0 0, .int .u64 0, .int .u8 0, .int .u8 0, .int .u64 0, .slice none 0 0] 47) = w0 at *
  refine (C.valid HI.out).mono ?_
  rintro E w1 ⟨rfl, hd⟩
  have HZ := Lib.hid (HZ0.out.drewD hd)
  have HB : Hid (Below w.heap.size w w1) := by obtain ⟨n, rfl⟩ := hd; exact bel_drewN HB0.out n
  clear hd HI HZ0 HB0
  have r0 := HZ.out.at_ (i := 0) rfl
  have r1 := HZ.out.at_ (i := 1) rfl
  have r2 := HZ.out.at_ (i := 2) rfl
  have r3 := HZ.out.at_ (i := 3) rfl
  have r4 := HZ.out.at_ (i := 4) rfl
  have r5 := HZ.out.at_ (i := 5) rfl
  have r6 := HZ.out.at_ (i := 6) rfl
  have z0 := HZ.out.frozen 0
  have z1 := HZ.out.frozen 1
  have z2 := HZ.out.frozen 2
  have z3 := HZ.out.frozen 3
  have z4 := HZ.out.frozen 4
  have z5 := HZ.out.frozen 5
  have z6 := HZ.out.frozen 6
  go_wp2
  refine bodyPost_ret (v := .agg #[.bool false, .slice none 0 0, .int .u64 0, .int .u8 0, .int .u8 0, .int .u64 0, .slice none 0 0]) (by simp [results, Tryz.results28, go_sem, r0, r1, r2, r3, r4, r5, r6, z0, z1, z2, z3, z4, z5, z6]) rfl ?_
  exact ⟨⟨false, zeroR⟩, rfl, rfl, PlB.zero _ _, put7 HB.out _ _ _ _ _ _ _⟩
set_option maxRecDepth 100000 in
set_option maxHeartbeats 2000000 in
theorem placeIn_M (g : Nat) (e : Ent) (r : List Ent) (w : World) (C : IterC U rev all St (.pointer (some ⟨g, 0, none⟩)) 73 69 74 70 71 72 68) (h : St w S (some (e :: r))) :
    Calls Tryz.prog 28 #[.iface 77 (.pointer (some ⟨g, 0, none⟩))] w (PofP (true, e) w) := by
  have HE := Lib.hid ((C.rem h).each e (List.mem_cons_self ..))
  have HI0 := Lib.hid (C.stab h ((FrS.refl noB w).andAlloc (.cells #[.bool false, .slice none 0 0, .int .u64 0, .int .u8 0, .int .u8 0, .int .u64 0, .slice none 0 0] 47)) noB_in noB_out)
  have HZ0 : Hid (Blk (w.alloc (.cells #[.bool false, .slice none 0 0, .int .u64 0, .int .u8 0, .int .u8 0, .int .u64 0, .slice none 0 0] 47)) w.heap.size 47 [.bool false, .slice none 0 0, .int .u64 0, .int .u8 0, .int .u8 0, .int .u64 0, .slice none 0 0]) := Blk.new w _ _
  have HB0 : Hid (Below w.heap.size w (w.alloc (.cells #[.bool false, .slice none 0 0, .int .u64 0, .int .u8 0, .int .u8 0, .int .u64 0, .slice none 0 0] 47))) := (Below.refl w.heap.size w).alloc (Nat.le_refl _) _
  clear h
  go_enter Tryz.func28, Tryz.ntmps28
  go_wp2_with fail
  generalize w.alloc (.cells #[.bool false, .slice none 0 0, .int .u64 0, .int .u8 0, .int .u8 0, .int .u64 0, .slice none 0 0] 47) = w0 at *
  obtain ⟨g11, hg11⟩ : ∃ x, x = w.heap.size := ⟨_, rfl⟩
  rw [← hg11] at HZ0 HB0 ⊢
  have HG11 := Lib.hid hg11
  clear hg11
  refine (C.valid HI0.out).mono ?_
  rintro E w1 ⟨rfl, hd⟩
  rw [show nonE (e :: r) = true from rfl]
  have HI1 := Lib.hid (C.stab HI0.out (FrS.of_drew noB hd) noB_in noB_out)
  have HZ1 := Lib.hid (HZ0.out.drewD hd)
  have HB1 : Hid (Below g11 w w1) := by obtain ⟨n, rfl⟩ := hd; exact bel_drewN HB0.out n
  clear hd HI0 HZ0 HB0
  obtain ⟨K, ⟨A, n, c, rfl, hnc, hn, hF⟩, hkc⟩ := C.key HI1.out
  have HKC := Lib.hid hkc
  have HF := Lib.hid hF
  have HNK : Hid (n = e.k.length + 8) := by show _ = _; have := hF.now.1; rw [nums_length, keyB_len] at this; omega
  have h8 : 8 ≤ n := by have := HNK.out; omega
  clear hkc hF
  go_wp2_with fail
  refine HKC.out.mono ?_
  rintro E wk ⟨rfl, hd⟩
  have HI := Lib.hid (C.stab HI1.out (FrS.of_drew noB hd) noB_in noB_out)
  have HZk := Lib.hid (HZ1.out.drewD hd)
  have HBk : Hid (Below g11 w wk) := by obtain ⟨m, rfl⟩ := hd; exact bel_drewN HB1.out m
  replace HF := Lib.hid (HF.out.on (FrS.of_drew noB hd) noB_in)
  clear hd HI1 HZ1 HB1 HKC
  have hkl2 : Hid (n - 8 = e.k.length) := by have := HNK.out; show _ = _; omega
  have hks := Lib.hid HF.out.now
  have hkt : Hid (Sl wk A (n - 8) (nums .u8 e.k)) := by
    have := hks.out.take (m := n - 8) (by omega)
    rw [hkl2.out] at this ⊢
    rwa [← nums_take, keyB, List.take_left' rfl] at this
  have hkn : n ≤ 1000000 := by omega
  go_wp2_with fail
  refine (parseKey_any A n c wk h8 hnc hkn).mono ?_
  rintro E w1 ⟨rfl, rfl⟩
  go_wp2_with fail
  refine (own_any A (n - 8) c e.k wk hkt.out (by omega)).mono ?_
  intro E wx h2; obtain ⟨A2, c2, rfl, hc2, hs2, hb2, ho2⟩ := h2.sv
  have hst2 : Hid (SlB g11 wx A2 e.k.length) := SlB.of_own ho2.out (by have := HBk.out.size; rw [← HG11.out] at this; exact this)
  replace HI := Lib.hid (C.stab HI.out (FrS.of_below noB hb2.out) noB_in noB_out)
  replace HZk : Hid (Blk wx g11 47 [.bool false, .slice none 0 0, .int .u64 0, .int .u8 0, .int .u8 0, .int .u64 0, .slice none 0 0]) := HZk.out.frm (Frm.of_below hb2.out) (by simp)
  replace HBk : Hid (Below g11 w wx) := HBk.out.trans (hb2.out.mono (by have := HBk.out.size; rw [← HG11.out] at this; exact this))
  replace HF := Lib.hid (HF.out.on (FrS.of_below noB hb2.out) noB_in)
  clear h2 ho2 hb2 hkt hks
  have hks := Lib.hid HF.out.now
  have hkp := HE.out.kpos
  have hv0' := HE.out.v0
  go_wp2_with fail
  refine (parseTs_any A n c e.k e.v wx hks.out hnc hkp hkn hv0' HE.out.v1).mono ?_
  rintro E wk2 ⟨rfl, nx2, rfl⟩
  replace HI := Lib.hid (C.stab HI.out ((FrS.refl noB wx).drewN nx2) noB_in noB_out)
  replace HBk : Hid (Below g11 w (wx.drewN nx2)) := bel_drewN HBk.out nx2
  replace HZk : Hid (Blk (wx.drewN nx2) g11 47 [.bool false, .slice none 0 0, .int .u64 0, .int .u8 0, .int .u8 0, .int .u64 0, .slice none 0 0]) := HZk.out.drewN nx2
  replace hs2 : Hid (Sl (wx.drewN nx2) A2 e.k.length (nums .u8 e.k)) := hs2.out
  replace hst2 : Hid (SlB g11 (wx.drewN nx2) A2 e.k.length) := hst2.out.frm ((Frm.refl [] _).drewN nx2) (fun i hi => by cases hi)
  clear hks HF
  generalize wx.drewN nx2 = wk2 at *
  obtain ⟨A4, nd, c4, hc4, hnd, hF4, hval⟩ := C.val HI.out
  subst hnd
  have HVL := Lib.hid (hval wk2 (FrS.refl _ _))
  have HF4 := Lib.hid hF4
  clear hval hF4
  go_wp2_with fail
  refine HVL.out.mono ?_
  rintro E wv ⟨rfl, hb4⟩
  have HS4 := Lib.hid (HF4.out wv ((FrS.of_below noB hb4).mono (fun i x => x.elim)))
  replace hs2 : Hid (Sl wv A2 e.k.length (nums .u8 e.k)) := hs2.out.below hb4
  replace hst2 : Hid (SlB g11 wv A2 e.k.length) := hst2.out.frm (Frm.of_below hb4) (fun i hi => by cases hi)
  replace HZk : Hid (Blk wv g11 47 [.bool false, .slice none 0 0, .int .u64 0, .int .u8 0, .int .u8 0, .int .u64 0, .slice none 0 0]) := HZk.out.frm (Frm.of_below hb4) (by simp)
  replace HBk : Hid (Below g11 w wv) := HBk.out.trans (hb4.mono (by have := HBk.out.size; rw [← HG11.out] at this; exact this))
  clear hb4 HI HVL HF4
  have hdl := HE.out.dlen
  go_wp2_with fail
  refine (valueOf_any e.m e.u e.x 0 A4 e.d.length c4 e.d wv HS4.out hc4 (by omega)).mono ?_
  rintro E wf ⟨v7, rfl, ho7, hb7⟩; obtain ⟨A7, c7, hv7, hc7, hs7⟩ := own_sl ho7; subst hv7
  have hst7 : Hid (SlB g11 wf A7 e.d.length) := SlB.of_own ho7 (by have := HBk.out.size; rw [← HG11.out] at this; exact this)
  have HS7 := Lib.hid hs7
  have HZ : Hid (Blk wf g11 47 [.bool false, .slice none 0 0, .int .u64 0, .int .u8 0, .int .u8 0, .int .u64 0, .slice none 0 0]) := HZk.out.frm (Frm.of_below hb7) (by simp)
  replace hs2 : Hid (Sl wf A2 e.k.length (nums .u8 e.k)) := hs2.out.below hb7
  replace hst2 : Hid (SlB g11 wf A2 e.k.length) := hst2.out.frm (Frm.of_below hb7) (fun i hi => by cases hi)
  have HB : Hid (Below g11 w wf) := HBk.out.trans (hb7.mono (by have := HBk.out.size; rw [← HG11.out] at this; exact this))
  clear ho7 hs7 hb7 HS4 HZk HBk
  have r0 := HZ.out.at_ (i := 0) rfl
  have r1 := HZ.out.at_ (i := 1) rfl
  have r2 := HZ.out.at_ (i := 2) rfl
  have r3 := HZ.out.at_ (i := 3) rfl
  have r4 := HZ.out.at_ (i := 4) rfl
  have r5 := HZ.out.at_ (i := 5) rfl
  have r6 := HZ.out.at_ (i := 6) rfl
  have z0 := HZ.out.frozen 0
  have z1 := HZ.out.frozen 1
  have z2 := HZ.out.frozen 2
  have z3 := HZ.out.frozen 3
  have z4 := HZ.out.frozen 4
  have z5 := HZ.out.frozen 5
  have z6 := HZ.out.frozen 6
  go_wp2
  refine bodyPost_ret (v := .agg #[.bool true, .slice A2 e.k.length c2, .int .u64 e.v, .int .u8 e.m, .int .u8 e.u, .int .u64 e.x, .slice A7 e.d.length c7]) (by simp [results, Tryz.results28, go_sem, r0, r1, r2, r3, r4, r5, r6, z0, z1, z2, z3, z4, z5, z6]) rfl ?_
  have hf := frm7 wf g11 (.bool true) (.slice A2 e.k.length c2) (.int .u64 e.v) (.int .u8 e.m) (.int .u8 e.u) (.int .u64 e.x) (.slice A7 e.d.length c7)
  refine ⟨⟨true, ⟨A2, e.k.length, c2, A7, e.d.length, c7, e⟩⟩, rfl, rfl, ?_, ?_⟩
  · rw [← HG11.out]
    exact ⟨⟨hs2.out.over hst2.out HZ.out (by decide) hf, HS7.out.over hst7.out HZ.out (by decide) hf, hc2, hc7⟩, hst2.out.over HZ.out (by decide) hf, hst7.out.over HZ.out (by decide) hf⟩
  · rw [← HG11.out]
    exact put7 HB.out _ _ _ _ _ _ _
theorem placeAt_M (g : Nat) (l : List Ent) (a : Int) (w : World) (C : IterC U rev all St (.pointer (some ⟨g, 0, none⟩)) 73 69 74 70 71 72 68) (h : St w S (some (remE rev l a))) (h0 : rev = true → a < l.length) (h1 : rev = false → 0 ≤ a) :
    Calls Tryz.prog 28 #[.iface 77 (.pointer (some ⟨g, 0, none⟩))] w (PofP (plE l a) w) := by
  rcases remE_pl (rev := rev) h0 h1 with ⟨h2, h3⟩ | ⟨e, r, h2, h3⟩
  · rw [h2] at h
    rw [h3]
    exact placeOut_M g w C h
  · rw [h2] at h
    rw [h3]
    exact placeIn_M g e r w C h
set_option maxRecDepth 100000 in
set_option maxHeartbeats 4000000 in
theorem run_M (g ns cs : Nat) (AS : Option Addr) (l : List Ent) (ss : List SR) (atz : List Int) (w : World) (m : Option (List Ent)) (C : IterC U rev all St (.pointer (some ⟨g, 0, none⟩)) 73 69 74 70 71 72 68) (h : St w S m) (hall : all = allE rev l) (hso : SortedE l)
    (hS : Fix U w (fun W => Srs W AS ss)) (hsl : ss.length = ns) (hns : ns ≤ 1000000) (hsk : ∀ s ∈ ss, StOk s ∧ s.s.k.length ≤ 300) (hw : walkE l (-1) (ss.map fun s => uniE rev s.s) = some atz) :
    Calls Tryz.prog 19 #[.iface 77 (.pointer (some ⟨g, 0, none⟩)), .slice AS ns cs] w (RunX l atz S w) := by
  subst hall
  have HS := Lib.hid hS
  have HSL := Lib.hid hsl
  have HSK := Lib.hid hsk
  have HW := Lib.hid hw
  have HIT0 := Lib.hid h
  have HSO := Lib.hid hso
  have HBN := Lib.hid (C.bnd h)
  clear hS hsl hsk hw h hso
  go_enter Tryz.func19, Tryz.ntmps19
  go_wp2
  go_loopg [5, 11] ns (fun f v5 v11 wr => ∃ (i c8 : Nat) (a : Int) (A8 : Option Addr) (ps : List PR) (ats : List Int) (S1 : Nat → Prop) (mm : Option (List Ent)), v5 = .slice A8 i c8 ∧ v11 = .int .i64 i ∧ i ≤ ns ∧ Hid (i + f = ns) ∧ Hid (wr.ownsRow w.heap.size 47 7 (.slice A8 i c8) i (flatP ps)) ∧ Hid (ps.length = i)
    ∧ Hid (ps.map PR.pl = ats.map (plE l)) ∧ Hid (walkE l (-1) (ss.map fun s => uniE rev s.s) = (walkE l a ((ss.map fun s => uniE rev s.s).drop i)).map fun m => ats ++ m) ∧ Hid (∀ p ∈ ps, PlX S1 wr p) ∧ Hid (St wr S1 mm) ∧ Hid (0 ≤ a → a < l.length → mm = some (remE rev l a)) ∧ Hid (Ch S w wr S1) ∧ Hid (∀ b, (Value.slice A8 i c8).ownBlock = some b → ¬ S1 b))
  case atStart =>
    have hf0 : FrS noB w (w.alloc (.cells #[] 47)) := (FrS.refl _ _).andAlloc _
    refine ⟨0, 0, -1, _, [], [], S, m, rfl, rfl, Nat.zero_le _, by simp [Hid], World.ownsRow_made w #[] 0 (Nat.le_refl _) (by simp [maxLen]) rfl, rfl, rfl, ?_, fun p hp => (by cases hp), C.stab HIT0.out hf0 noB_in noB_out, fun h0 => absurd h0 (by decide), ⟨hf0.mono (fun i x => x.elim), fun i hi => .inl hi⟩, fun b hb hx => ?_⟩
    · show _ = (walkE _ _ _).map _
      simp
    · injection hb with hb
      have hlt := (HBN.out.1 b hx).2
      have hb2 : w.heap.size = b := hb
      omega
  case round =>
    clear HIT0
    obtain ⟨i, c8, a, A8, ps, ats, S1, mm, rfl, rfl, hin, hf, hO, hpl, hmap, hwk, hps, hit, hmm, hch, hrw⟩ := hrel
    have hSr := Lib.hid (HS.out wr (hch.out.fr.mono (fun i hi => .inl (HBN.out.1 i hi).1)))
    by_cases hlt : i < ns
    · obtain ⟨q, hq⟩ : ∃ q, ss[i]? = some q := ⟨_, List.getElem?_eq_getElem (by have := HSL.out; omega)⟩
      have HQ := Lib.hid hq
      obtain ⟨gs, os, hAe⟩ := hSr.out.addr (by have := HSL.out; omega)
      subst hAe
      have ca : ∀ j v, q.cells[j]? = some v → wr.cell? ⟨gs, os + i * 3 + j, none⟩ = some v := fun j v hj => hSr.out.at_ hq hj
      have b0 := ca 0 _ rfl
      have b1 := ca 1 _ rfl
      have b2 := ca 2 _ rfl
      rw [Nat.add_zero] at b0
      have hqi := hSr.out.each q (List.mem_of_getElem? hq)
      have hnk := SR.nk_eq hqi
      have HQI := Lib.hid hqi
      have HQN := Lib.hid (HSK.out q (List.mem_of_getElem? hq)).1
      have HQL := Lib.hid (HSK.out q (List.mem_of_getElem? hq)).2
      clear hq ca hqi hSr
      obtain ⟨KS, nk, ck, ⟨kd, k, v⟩⟩ := q
      replace hnk : k.length = nk := hnk
      subst hnk
      replace HQI : Hid (Sl wr KS k.length (nums .u8 k)) := HQI.out.key
      have HKO : Hid (KeyOk k v) := ⟨HQL.out, HQN.out.kb, HQN.out.v0, HQN.out.v1⟩
      have hv0 : 0 ≤ v := HQN.out.v0
      have hv1 : Hid (v ≤ 18446744073709551615) := HQN.out.v1
      have hk1000 : k.length ≤ 900 := HQN.out.nk
      replace HQ : Hid (ss[i]? = some ⟨KS, k.length, ck, ⟨kd, k, v⟩⟩) := HQ.out
      replace b0 : wr.cell? ⟨gs, os + i * 3, none⟩ = some (.int .i64 kd) := b0
      replace b1 : wr.cell? ⟨gs, os + i * 3 + 1, none⟩ = some (.slice KS k.length ck) := b1
      replace b2 : wr.cell? ⟨gs, os + i * 3 + 2, none⟩ = some (.int .u64 v) := b2
      have HST : Hid ((ss.map fun s => uniE rev s.s)[i]? = some (uniE rev ⟨kd, k, v⟩)) := by show _ = _; rw [List.getElem?_map, HQ.out]; rfl
      obtain ⟨b, hb⟩ : ∃ b, moveE l a (uniE rev ⟨kd, k, v⟩) = some b := by
        cases hmv : moveE l a (uniE rev ⟨kd, k, v⟩) with
        | some b => exact ⟨b, rfl⟩
        | none =>
          have := walkE_no hwk.out HST.out hmv
          rw [HW.out] at this
          cases this
      have HWK := Lib.hid (walkE_on hwk.out HST.out hb)
      have HMV := Lib.hid hb
      have HMR := Lib.hid (move_rem HSO.out hb)
      have HX : Hid (Blk (wr.alloc (.cells #[.int .i64 kd, .slice KS k.length ck, .int .u64 v] 39)) wr.heap.size 39 [.int .i64 kd, .slice KS k.length ck, .int .u64 v]) := Blk.new wr _ _
      have HF9 : Hid (FrS noB wr (wr.alloc (.cells #[.int .i64 kd, .slice KS k.length ck, .int .u64 v] 39))) := (FrS.refl _ _).andAlloc _
      have HIT : Hid (St (wr.alloc (.cells #[.int .i64 kd, .slice KS k.length ck, .int .u64 v] 39)) S1 mm) := C.stab hit.out HF9.out noB_in noB_out
      have HKx : Hid (Sl (wr.alloc (.cells #[.int .i64 kd, .slice KS k.length ck, .int .u64 v] 39)) KS k.length (nums .u8 k)) := HQI.out.alloc _
      have HG10 : Hid (¬ S1 wr.heap.size) := fun hx => by have := ((C.bnd hit.out).1 _ hx).2; omega
      clear hb hwk HST HQN HQI HQL
      go_upto_block 2 with fail
      generalize wr.alloc (.cells #[.int .i64 kd, .slice KS k.length ck, .int .u64 v] 39) = w9 at *
      obtain ⟨g10, hg10⟩ : ∃ x, x = wr.heap.size := ⟨_, rfl⟩
      rw [← hg10] at HX HG10 ⊢
      clear hg10 b0 b1 b2 HQ
      have y0 := HX.out.at_ (i := 0) rfl
      have y1 := HX.out.at_ (i := 1) rfl
      have y2 := HX.out.at_ (i := 2) rfl
      go_cut [] (fun wx => ∃ w8, Hid (FrS noB w9 w8) ∧ Hid (St wx (gro S1 w8 wx) (some (remE rev l b))) ∧ Hid (FrS S1 w8 wx))
      case first =>
        by_cases k0 : kd = 0
        · subst k0
          have HB0 : Hid (remE rev l b = allE rev l) := by show _ = _; rw [mu0 HMV.out]; exact remE_start rev l
          go_wp2_with fail
          refine (C.rew HIT.out).mono ?_
          rintro E wx ⟨rfl, hit2, hf2⟩
          rw [← HB0.out] at hit2
          have h2 := Lib.hid (And.intro hit2 hf2)
          clear hit2 hf2 HB0
          go_wp2_with fail
          go_meet
          exact ⟨w9, FrS.refl _ _, h2.out.1, h2.out.2⟩
        have f0 : (kd == 0) = false := by simp [k0]
        by_cases k1 : kd = 1
        · subst k1
          obtain ⟨ha0, ha1, hbe⟩ := mu1 HMV.out
          obtain ⟨e, _, hre⟩ := remE_cons (rev := rev) ha0 ha1
          rw [← hbe] at hre
          have hm1 := hmm.out ha0 ha1
          rw [hre] at hm1
          have HIT1 : Hid (St w9 S1 (some (e :: remE rev l b))) := by rw [← hm1]; exact HIT.out
          clear f0 ha0 ha1 hbe hre hm1
          go_wp2_with fail
          refine (C.next HIT1.out).mono ?_
          rintro E wx ⟨rfl, hit2, hf2⟩
          have h2 := Lib.hid (And.intro hit2 hf2)
          clear hit2 hf2
          go_wp2_with fail
          go_meet
          exact ⟨w9, FrS.refl _ _, h2.out.1, h2.out.2⟩
        have f1 : (kd == 1) = false := by simp [k1]
        by_cases k2 : kd = 2
        · subst k2
          have HB2 : Hid (fromD rev (kEnt k v) (allE rev l) = remE rev l b) := by show _ = _; rw [mu2 HMV.out]; exact fromD_remE HSO.out k v
          clear f0 f1
          go_wp2_with fail
          refine start_ (n := 11) (S := fun w' => w'.cell? ⟨g10, 1, none⟩ = some (.slice KS k.length ck) ∧ w'.cell? ⟨g10, 2, none⟩ = some (.int .u64 v)) (ds := []) #[ff,ff,ff,ff,ff,ff,ff,ff,ff,ff,ff] (by kernel_rfl) rfl rfl (⟨y1, y2⟩) (fun hHeld => ?_)
          have hit9 : Hid (St w9.drew S1 mm) := C.stab HIT.out ((FrS.refl noB w9).drewN 1) noB_in noB_out
          have hks : Hid (Sl w9.drew KS k.length (nums .u8 k)) := HKx.out
          have hfr : Hid (FrS noB w9 w9.drew) := (FrS.refl _ _).drewN 1
          clear y0 y1 y2
          generalize w9.drew = wd at *
          refine pure_ (i := 0) (N := some 27) (v := ?_) (a' := ?_) #[tt,ff,ff,ff,ff,ff,ff,ff,ff,ff,ff] rfl rfl (by kernel_rfl) (fun _ _ _ h => h) (Or.inl ⟨by rfl, ?_⟩) ?_ ?_; rotate_left; (intro w'; go_simp; with_reducible rfl); rotate_left; (simp only [Act.put, List.setIfInBounds_toArray, List.set_cons_zero, List.set_cons_succ, i64_w, i32_w]; rfl)
          refine pure_ (i := 1) (N := some 28) (v := ?_) (a' := ?_) #[tt,tt,ff,ff,ff,ff,ff,ff,ff,ff,ff] rfl rfl (by kernel_rfl) (fun _ _ _ h => h) (Or.inl ⟨by rfl, ?_⟩) ?_ ?_; rotate_left; (intro w'; go_simp; with_reducible rfl); rotate_left; (simp only [Act.put, List.setIfInBounds_toArray, List.set_cons_zero, List.set_cons_succ, i64_w, i32_w]; rfl)
          refine take_ (i := 2) (N := some 29) (v := ?_) (a' := ?_) #[tt,tt,tt,ff,ff,ff,ff,ff,ff,ff,ff] rfl rfl (by kernel_rfl) (fun _ _ _ h => h) (Or.inl ⟨by rfl, ?_⟩) hHeld ?_ ?_; rotate_left; (rintro w' ⟨h0, h1⟩; go_simp; with_reducible rfl); rotate_left; (simp only [Act.put, List.setIfInBounds_toArray, List.set_cons_zero, List.set_cons_succ, i64_w, i32_w]; rfl)
          refine pure_ (i := 4) (N := some 31) (v := ?_) (a' := ?_) #[tt,tt,tt,ff,tt,ff,ff,ff,ff,ff,ff] rfl rfl (by kernel_rfl) (fun _ _ _ h => h) (Or.inl ⟨by rfl, ?_⟩) ?_ ?_; rotate_left; (intro w'; go_simp; with_reducible rfl); rotate_left; (simp only [Act.put, List.setIfInBounds_toArray, List.set_cons_zero, List.set_cons_succ, i64_w, i32_w]; rfl)
          refine take_ (i := 5) (N := some 32) (v := ?_) (a' := ?_) #[tt,tt,tt,ff,tt,tt,ff,ff,ff,ff,ff] rfl rfl (by kernel_rfl) (fun _ _ _ h => h) (Or.inl ⟨by rfl, ?_⟩) hHeld ?_ ?_; rotate_left; (rintro w' ⟨h0, h1⟩; go_simp; with_reducible rfl); rotate_left; (simp only [Act.put, List.setIfInBounds_toArray, List.set_cons_zero, List.set_cons_succ, i64_w, i32_w]; rfl)
          refine pure_ (i := 7) (N := some 34) (v := .func (.method "Seek") #[.iface 77 (.pointer (some ⟨g, 0, none⟩))] #[]) (a' := ?_) #[tt,tt,tt,ff,tt,tt,ff,tt,ff,ff,ff] rfl rfl (by kernel_rfl) (fun _ _ _ h => h) (Or.inl ⟨by rfl, (by intro w_; kernel_rfl)⟩) ?_ ?_; rotate_left; (simp only [Act.put, List.setIfInBounds_toArray, List.set_cons_zero, List.set_cons_succ, i64_w, i32_w]; rfl)
          refine pure_ (i := 8) (N := some 35) (v := .func (.method "Seek") #[.iface 77 (.pointer (some ⟨g, 0, none⟩))] #[]) (a' := ?_) #[tt,tt,tt,ff,tt,tt,ff,tt,tt,ff,ff] rfl rfl (by kernel_rfl) (fun _ _ _ h => h) (Or.inl ⟨by rfl, (by intro w_; kernel_rfl)⟩) ?_ ?_; rotate_left; (simp only [Act.put, List.setIfInBounds_toArray, List.set_cons_zero, List.set_cons_succ, i64_w, i32_w]; rfl)
          refine pure_ (i := 9) (N := some 36) (v := ?_) (a' := ?_) #[tt,tt,tt,ff,tt,tt,ff,tt,tt,tt,ff] rfl rfl (by kernel_rfl) (fun _ _ _ h => h) (Or.inl ⟨by rfl, ?_⟩) ?_ ?_; rotate_left; (intro w'; go_simp; with_reducible rfl); rotate_left; (simp only [Act.put, List.setIfInBounds_toArray, List.set_cons_zero, List.set_cons_succ, i64_w, i32_w]; rfl)
          refine one_ (i := 3) (N := some 30) #[tt,tt,tt,tt,tt,tt,ff,tt,tt,tt,ff] rfl rfl (by kernel_rfl) (by decide) (fun K hK => ?_); refine goes_ Tryz.func27 (by kernel_rfl) rfl #[.slice KS k.length ck] (by rfl) rfl rfl (by (try simp only [List.map_toArray, List.map_cons, List.map_nil]); first | done | rfl) ?_
          refine (own_any KS k.length ck k wd hks.out (by omega)).mono ?_
          intro E wx h2; obtain ⟨A2, c2, rfl, hc2, hs2, hb2, ho2⟩ := h2.sv; refine ⟨_, rfl, ?_⟩
          refine hK.out _ _ (⟨cell_bel hHeld.1 hb2.out, cell_bel hHeld.2 hb2.out⟩) (fun hHeld => ?_); clear hK K; refine norm_ (a' := ?_) ?_ ?_; rotate_left; (show Act.put _ (some 30) _ = _; simp only [Act.put, List.setIfInBounds_toArray, List.set_cons_zero, List.set_cons_succ, i64_w, i32_w]; rfl)
          replace hit9 := Lib.hid (C.stab hit9.out (FrS.of_below noB hb2.out) noB_in noB_out)
          replace hfr : Hid (FrS noB w9 wx) := hfr.out.trans (FrS.of_below noB hb2.out) (fun i x => x.elim)
          clear h2 ho2 hb2 hks
          refine one_ (i := 6) (N := some 33) #[tt,tt,tt,tt,tt,tt,tt,tt,tt,tt,ff] rfl rfl (by kernel_rfl) (by decide) (fun K hK => ?_); refine goes_ Tryz.func26 (by kernel_rfl) rfl #[.slice A2 k.length c2, .int .u64 v] (by rfl) rfl rfl (by (try simp only [List.map_toArray, List.map_cons, List.map_nil]); first | done | rfl) ?_
          refine (keyWithTs_any A2 k.length c2 k v wx hs2.out (by omega) hv0 hv1).mono ?_
          intro E wy h3; obtain ⟨A3, c3, rfl, hc3, hs3, hb3, ho3⟩ := h3.sv; refine ⟨_, rfl, ?_⟩
          refine hK.out _ _ (⟨cell_bel hHeld.1 hb3.out, cell_bel hHeld.2 hb3.out⟩) (fun hHeld => ?_); clear hK K; refine norm_ (a' := ?_) ?_ ?_; rotate_left; (show Act.put _ (some 33) _ = _; simp only [Act.put, List.setIfInBounds_toArray, List.set_cons_zero, List.set_cons_succ, i64_w, i32_w]; rfl)
          have hblk3 : Hid (∀ b o, A3 = some ⟨b, o, none⟩ → 0 < (keyB k v).length → ¬ S1 b) := fun b o e hn hx => by
            have h7 := (SlB.of_own ho3.out (Nat.le_refl _) b o e hn).1
            have h8 := ((C.bnd hit9.out).1 b hx).2
            omega
          replace hit9 := Lib.hid (C.stab hit9.out (FrS.of_below noB hb3.out) noB_in noB_out)
          replace hfr : Hid (FrS noB w9 wy) := hfr.out.trans (FrS.of_below noB hb3.out) (fun i x => x.elim)
          clear h3 ho3 hb3 hs2
          refine one_ (i := 10) (N := some 37) #[tt,tt,tt,tt,tt,tt,tt,tt,tt,tt,tt] rfl rfl (by kernel_rfl) (by decide) (fun K hK => ?_); refine call_ 72 #[.pointer (some ⟨g, 0, none⟩), .slice A3 (keyB k v).length c3] (by rfl) rfl (by kernel_rfl) ?_
          refine (seekAt_M g A3 (keyB k v).length c3 k v wy C hit9.out hblk3.out hs3.out hc3 HKO.out).mono ?_
          rintro E wz ⟨rfl, hit4, hf4⟩; refine ⟨_, rfl, ?_⟩
          have hng : ¬ S1 g10 := HG10.out
          refine hK.out _ _ (⟨cell_frS hHeld.1 hf4 hng, cell_frS hHeld.2 hf4 hng⟩) (fun hHeld => ?_); clear hK K; refine norm_ (a' := ?_) ?_ ?_; rotate_left; (show Act.put _ (some 37) _ = _; simp only [Act.put, List.setIfInBounds_toArray, List.set_cons_zero, List.set_cons_succ, i64_w, i32_w]; rfl)
          have hfin : Hid (∃ w8, Hid (FrS noB w9 w8) ∧ Hid (St wz (gro S1 w8 wz) (some (remE rev l b))) ∧ Hid (FrS S1 w8 wz)) := by rw [HB2.out] at hit4; exact ⟨wy, hfr, hit4, hf4⟩
          clear hit4 hf4 hit9 hfr hs3 hHeld hblk3
          refine done_ (by kernel_rfl) ?_
          go_wp2_with fail
          go_meet
          exact hfin.out
        exact (muNo HMV.out k0 k1 k2).elim
      case rest =>
        obtain ⟨w8, hf8, hit2, hf2⟩ := hcut
        have hf08 : Hid (FrS noB wr w8) := HF9.out.trans hf8.out (fun i x => x.elim)
        have hfc : Hid (FrS S1 wr wc) := (hf08.out.mono (fun i x => x.elim)).trans hf2.out (fun i hi => .inl hi)
        have hgs : Hid (∀ i, gro S1 w8 wc i → gro S1 wr wc i) := fun i hi => hi.elim (fun x => .inl x) (fun x => .inr ⟨Nat.le_trans hf08.out.size x.1, x.2⟩)
        clear y0 y1 y2 HX HKx HF9 HIT HMV hit HG10 hf2 hf8 hmm
        obtain ⟨gkO, rfl⟩ : ∃ x, gk = x + 1 := ⟨gk - 1, by have := hf.out; omega⟩
        go_wp2_with fail
        refine (placeAt_M g l b wc C hit2.out HMR.out.1 HMR.out.2).mono ?_
        rintro E wy ⟨⟨pok, ⟨Ak2, nk2, ck2, Ad2, nd2, cd2, e2⟩⟩, hE, hpp, hpb, hby⟩
        replace hE : E = .returned (.agg #[.bool pok, .slice Ak2 nk2 ck2, .int .u64 e2.v, .int .u8 e2.m, .int .u8 e2.u, .int .u64 e2.x, .slice Ad2 nd2 cd2]) := hE
        subst hE
        have HPP := Lib.hid hpp
        have HPB := Lib.hid hpb
        have hfy : Hid (FrS S1 wr wy) := hfc.out.trans (FrS.of_below noB hby) (fun i x => x.elim)
        have hwz : Hid (w.heap.size ≤ wr.heap.size) := hch.out.fr.size
        have hity : Hid (St wy (gro S1 w8 wc) (some (remE rev l b))) := C.stab hit2.out (FrS.of_below noB hby) noB_in noB_out
        have HOy := Lib.hid (own_frS hO.out hfy.out hrw.out)
        have hbzy : Hid (w.heap.size ≤ wy.heap.size) := Nat.le_trans hwz.out hfy.out.size
        have hbw2 : Hid (wc.heap.size ≤ wy.heap.size) := hby.size
        have HBY := Lib.hid hby
        clear hpp hpb hby
        go_wp2_with (at_builtin; refine wpList_append_pl rfl (.tmp 38) (.tmp 41) rfl w.heap.size (.slice A8 i c8) i (flatP ps) rfl (HOy.out.alloc _) _ 1 1 (PR.cells ⟨pok, ⟨Ak2, nk2, ck2, Ad2, nd2, cd2, e2⟩⟩) rfl (one_sl wy ⟨pok, ⟨Ak2, nk2, ck2, Ad2, nd2, cd2, e2⟩⟩) (PR.one _) (by omega) ?cx ?_; (case cx => rw [World.size_alloc]; have := hbzy.out; omega); intro v80 w3 ho3 hg3 hat3; obtain ⟨A3, c3, hv3, hc3, hs3, hA3⟩ := own_pl ho3; subst hv3; have HO3 := Lib.hid ho3; have HG3 := Lib.hid hg3; have HAT := Lib.hid hat3; clear ho3 hg3 hat3 hs3 hA3)
        have HOYA := Lib.hid (HOy.out.alloc (plObj ⟨pok, ⟨Ak2, nk2, ck2, Ad2, nd2, cd2, e2⟩⟩))
        have hrown : Hid (∀ x, (Value.slice A8 i c8).ownBlock = some x → w.heap.size ≤ x ∧ x < wr.heap.size) := fun x hx => hO.out.lt x hx
        -- the new set of blocks
        have hfa : Hid (FrS noB wy (wy.alloc (plObj ⟨pok, ⟨Ak2, nk2, ck2, Ad2, nd2, cd2, e2⟩⟩))) := (FrS.refl _ _).andAlloc _
        have hfg : Hid (FrS (fun x => (Value.slice A8 i c8).ownBlock = some x) (wy.alloc (plObj ⟨pok, ⟨Ak2, nk2, ck2, Ad2, nd2, cd2, e2⟩⟩)) w3) := frS_row HG3.out
        have hun : Hid (∀ x, (Value.slice A8 i c8).ownBlock = some x → U x) := fun x hx => HBN.out.2 x (hrown.out x hx).1
        have hsx : Hid (∀ x, gro S1 w8 wc x → ¬ (Value.slice A8 i c8).ownBlock = some x) := fun x hx e => by
          have h1 := hrown.out x e
          rcases hx with hx | hx
          · exact hrw.out x e hx
          · have := hf08.out.size; omega
        have hit3 : Hid (St w3 (gro S1 w8 wc) (some (remE rev l b))) := C.stab (C.stab hity.out hfa.out noB_in noB_out) hfg.out hun.out hsx.out
        have hchc : Hid (Ch S w wc (gro S1 w8 wc)) := ⟨hch.out.fr.trans hfc.out (fun i hi => (hch.out.sub i hi).elim .inl (fun x => .inr x.1)), fun i hi => (hch.out.step hfc.out).sub i (hgs.out i hi)⟩
        have hwy3 : Hid (wy.heap.size < w3.heap.size) := Nat.lt_of_lt_of_le (by rw [World.size_alloc]; omega) HG3.out.size
        have hch3 : Hid (Ch S w w3 (gro S1 w8 wc)) := ⟨((hchc.out.fr.trans (FrS.of_below noB HBY.out) (fun i x => x.elim)).trans hfa.out (fun i x => x.elim)).trans hfg.out (fun x hx => .inr (hrown.out x hx).1), fun i hi => by
          rcases hchc.out.sub i hi with h | h
          · exact .inl h
          · exact .inr ⟨h.1, by have := hbw2.out; have := hwy3.out; omega⟩⟩
        have hrw3 : Hid (∀ x, (Value.slice A3 (i + 1) c3).ownBlock = some x → ¬ gro S1 w8 wc x) := fun x hx hg => by
          rcases HAT.out with h | h
          · rw [h] at hx
            exact hsx.out x hg hx
          · rw [h] at hx
            injection hx with hx
            rw [World.size_alloc] at hx
            have := (C.bnd hity.out).1 x hg
            omega
        have hu8 : Hid (∀ {W : World} {n' : Nat} {xs : List Value} (b : Nat) (cs : List Value), W.ownsRow w.heap.size 47 7 (.slice A8 i c8) n' xs → Blk W b 5 cs → ¬ (Value.slice A8 i c8).ownBlock = some b) := fun b cs ho hb e => row_not ho e hb (by decide)
        go_roundg gkO
        case measure => omega
        case rel =>
          refine ⟨i + 1, c3, b, A3, ps ++ [⟨pok, ⟨Ak2, nk2, ck2, Ad2, nd2, cd2, e2⟩⟩], ats ++ [b], gro S1 w8 wc, some (remE rev l b), rfl, by go_num, by omega, by have := hf.out; show _ = _; omega, ?_, by show _ = _; rw [List.length_append, hpl.out]; rfl, (by exact plN_app (p := ⟨pok, ⟨Ak2, nk2, ck2, Ad2, nd2, cd2, e2⟩⟩) hmap.out HPP.out), HWK.out, ?_, hit3.out, fun _ _ => rfl, hch3.out, hrw3.out⟩
          · show World.ownsRow _ _ _ _ _ _ _
            rw [flatP_snoc]
            exact HO3.out
          · intro q hq
            rcases List.mem_append.1 hq with h | h
            · have p1 := (hps.out q h).frS hfy.out (fun b cs hb hs => hs)
              have p2 := p1.frS hfa.out (fun b cs hb hs x => x)
              have p3 := p2.frS hfg.out (fun b cs hb hs => hu8.out b cs HOYA.out hb)
              refine p3.less (fun i hi => ?_)
              rcases hgs.out i hi with h | h
              · exact .inl (.inl (.inl h))
              · exact .inl (.inl (.inr ⟨h.1, by have := hbw2.out; omega⟩))
            · rw [List.mem_singleton] at h
              subst h
              have p1 := PlX.of (S := gro S1 w8 wc) HPB.out (fun i hi => ((C.bnd hit2.out).1 i hi).2)
              have p2 := p1.frS hfa.out (fun b cs hb hs x => x)
              have p3 := p2.frS hfg.out (fun b cs hb hs => hu8.out b cs HOYA.out hb)
              exact p3.less (fun i hi => .inl (.inl hi))
    · have hie : i = ns := by omega
      have HIE := Lib.hid hie
      clear hie
      have hge : ¬ ((i : Int) < (ns : Int)) := by omega
      have hfin : Hid (ats = atz) := by
        have := walkE_end hwk.out (by rw [List.length_map, HSL.out, HIE.out]; exact Nat.le_refl _)
        rw [HW.out] at this
        injection this with this
        exact this.symm
      clear hwk
      go_wp2_with fail
      refine (C.cls hit.out).mono ?_
      rintro E w3 ⟨rfl, hf3⟩
      have HO3 := Lib.hid (own_frS hO.out hf3 hrw.out)
      have HP3 : Hid (∀ p ∈ ps, p.r.In w3) := fun p hp => ((hps.out p hp).frS hf3 (fun b cs hb hs => hs)).in_
      have HF3 : Hid (FrS S w w3) := (hch.out.step hf3).fr
      obtain ⟨A9, c9, hv9, hc9, hs9, hA9⟩ := own_pl HO3.out
      injection hv9 with hv1 hv2 hv3
      subst hv1
      subst hv3
      have HS9 := Lib.hid hs9
      clear hs9 hA9 hO hf3 hv2
      go_wp2
      go_ret
      refine ⟨A8, c8, ps, ?_, ⟨?_, fun p hp => HP3.out p hp⟩, by rw [← hfin.out]; exact hmap.out, by rw [hpl.out]; exact hc9, HF3.out⟩
      · show Ending.returned (.slice A8 i c8) = _
        rw [hpl.out]
      · rw [hpl.out]
        exact HS9.out
end
end Go.Proofs.YtegaigpolhdicaaGreat
