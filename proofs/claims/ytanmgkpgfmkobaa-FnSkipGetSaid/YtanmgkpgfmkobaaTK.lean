/- A skip list: the value of a key. -/
import Derived.Test.YtanmgkpgfmkobaaGW
import Derived.Test.YtanmgkpgfmkobaaE4
namespace Go.Proofs.Ytanmgkpgfmkobaa
open Go.RowKit
set_option linter.unusedVariables false
set_option linter.unusedSimpArgs false
def zeroE : Ent := ⟨[], 0, 0, 0, 0, []⟩
/-- The entry that is found for a key at a version. -/
def foundE (l : List Ent) (k : List Int) (v : Int) : Ent := match l[posE l k v]? with
  | some e => if k = e.k then e else zeroE
  | none => zeroE
set_option maxRecDepth 100000 in
theorem valDecode_skl (g t g2 n c : Nat) (b0 b1 : Int) (rest : List Int) (v0 v1 v2 v3 v4 : Value) (o : Nat) (x s : Int) (w : World) (h : Blk w g t [v0, v1, v2, v3, v4]) (hs : Sl w (some ⟨g2, o, none⟩) n (nums .u8 (b0 :: b1 :: rest))) (hne : g2 ≠ g)
    (hc : n ≤ c) (hn : n ≤ 1000000) (hB : Byt rest) (hu : uvarL rest 0 0 = (x, s)) (h0 : 0 < s) (hsz : s ≤ rest.length) :
    Calls Try.prog 106 #[.pointer (some ⟨g, 0, none⟩), .slice (some ⟨g2, o, none⟩) n c] w fun E w' =>
      E = .returned (.tuple #[]) ∧ ∃ B d, (∀ b oo, B = some ⟨b, oo, none⟩ → b = g2) ∧ rest.length - s.toNat ≤ d ∧ Wrote w g t [.int .u8 b0, .int .u8 b1, .int .u64 x, .slice B (rest.length - s.toNat) d, v4] w' ∧ Sl w' B (rest.length - s.toNat) (nums .u8 (rest.drop s.toNat)) := by
  have hlen : rest.length + 2 = n := by have := hs.1; rw [nums_length] at this; simpa using this
  have hb0 : w.cell? ⟨g2, o + 0, none⟩ = some (.int .u8 b0) := by
    obtain ⟨g', o', e1, hcell⟩ := hs.2 (by omega)
    injection e1 with e1; injection e1 with e1 e2; subst e1 e2
    exact hcell 0 _ rfl
  have hb1 : w.cell? ⟨g2, o + 1, none⟩ = some (.int .u8 b1) := by
    obtain ⟨g', o', e1, hcell⟩ := hs.2 (by omega)
    injection e1 with e1; injection e1 with e1 e2; subst e1 e2
    exact hcell 1 _ rfl
  rw [Nat.add_zero] at hb0
  have q0 : w.cell? ⟨g, 0, none⟩ = some v0 := by rw [h.cell]; rfl
  have q1 : w.cell? ⟨g, 1, none⟩ = some v1 := by rw [h.cell]; rfl
  have q2 : w.cell? ⟨g, 2, none⟩ = some v2 := by rw [h.cell]; rfl
  have q3 : w.cell? ⟨g, 3, none⟩ = some v3 := by rw [h.cell]; rfl
  have f0 := h.frozen 0
  have f1 := h.frozen 1
  have f2 := h.frozen 2
  have f3 := h.frozen 3
  have hne' : g ≠ g2 := fun e => hne e.symm
  have HH := Lib.hid h
  have HS := Lib.hid hs
  have HU := Lib.hid hu
  obtain ⟨sn, rfl⟩ := Int.eq_ofNat_of_zero_le (show 0 ≤ s by omega)
  have hsn : 1 ≤ sn ∧ sn ≤ rest.length := by omega
  obtain ⟨hsn1, hsn2⟩ := hsn
  have HLn := Lib.hid hlen
  have s1 : IntKind.i64.wrap (2 + (sn : Int)) = 2 + (sn : Int) := IntWalk.i64_in _ (by omega)
  have s2 : (2 + (sn : Int)).toNat = 2 + sn := by omega
  have s3 : (0 : Int) ≤ 2 + (sn : Int) := by omega
  have s4 : 2 + (sn : Int) ≤ (n : Int) := by omega
  have n2 : 3 ≤ n := by omega
  have c2 : ¬ c = 2 := by omega
  have hs2 : ∀ w', Wrote w g t [.int .u8 b0, .int .u8 b1, v2, v3, v4] w' → Sl w' (some ⟨g2, o + 2, none⟩) (n - 2) (nums .u8 rest) := by
    intro w' hw
    have := (sl_wrote hw (by intro b oo hb; injection hb with hb; injection hb with hb _; omega) hs).drop (m := 2) (c := c) (by omega) hc
    rw [if_neg c2] at this
    simpa [Addr.add, nums] using this
  have HS2 := Lib.hid hs2
  clear h hs hu hlen h0 hsz hsn2 hs2
  go_enter Try.func106, Try.ntmps106
  go_wp2_with fail
  have hW1 : Wrote w g t [.int .u8 b0, .int .u8 b1, v2, v3, v4] ((w.setCell ⟨g, 0, none⟩ (.int .u8 b0)).setCell ⟨g, 1, none⟩ (.int .u8 b1)) := (Wrote.sets HH.out 0 (.int .u8 b0)).trans (Wrote.sets (HH.out.set_ 0 (.int .u8 b0)) 1 (.int .u8 b1))
  have HW1 := Lib.hid hW1
  generalize (w.setCell ⟨g, 0, none⟩ (.int .u8 b0)).setCell ⟨g, 1, none⟩ (.int .u8 b1) = w1 at *
  have r2 : w1.cell? ⟨g, 2, none⟩ = some v2 := by rw [hW1.1.cell]; rfl
  have r3 : w1.cell? ⟨g, 3, none⟩ = some v3 := by rw [hW1.1.cell]; rfl
  have g2' := hW1.1.frozen 2
  have g3' := hW1.1.frozen 3
  clear hW1 q0 q1 q2 q3 f0 f1 f2 f3 hb0 hb1
  refine (uvarint_any _ (n - 2) (c - 2) rest w1 (HS2.out _ HW1.out) hB (by omega)).mono ?_
  rintro E w1' ⟨rfl, rfl⟩
  rw [HU.out]
  have hfin : ∀ (B : Option Addr) (d : Nat), (n - (2 + sn) ≤ d) → Sl w B (n - (2 + sn)) (nums .u8 (rest.drop sn)) → (∀ b oo, B = some ⟨b, oo, none⟩ → b = g2) →
      ∃ B' d', (∀ b oo, B' = some ⟨b, oo, none⟩ → b = g2) ∧ rest.length - (sn : Int).toNat ≤ d' ∧ Wrote w g t [.int .u8 b0, .int .u8 b1, .int .u64 x, .slice B' (rest.length - (sn : Int).toNat) d', v4] ((w1.setCell ⟨g, 2, none⟩ (.int .u64 x)).setCell ⟨g, 3, none⟩ (.slice B (n - (2 + sn)) d)) ∧ Sl ((w1.setCell ⟨g, 2, none⟩ (.int .u64 x)).setCell ⟨g, 3, none⟩ (.slice B (n - (2 + sn)) d)) B' (rest.length - (sn : Int).toNat) (nums .u8 (rest.drop (sn : Int).toNat)) := by
    intro B d hd hB hb
    have e : rest.length - (sn : Int).toNat = n - (2 + sn) := by have := HLn.out; omega
    have hw : Wrote w g t [.int .u8 b0, .int .u8 b1, .int .u64 x, .slice B (n - (2 + sn)) d, v4] ((w1.setCell ⟨g, 2, none⟩ (.int .u64 x)).setCell ⟨g, 3, none⟩ (.slice B (n - (2 + sn)) d)) :=
      HW1.out.trans ((Wrote.sets HW1.out.1 2 (.int .u64 x)).trans (Wrote.sets (HW1.out.1.set_ 2 (.int .u64 x)) 3 (.slice B (n - (2 + sn)) d)))
    rw [e]
    exact ⟨B, d, hb, hd, hw, sl_wrote hw (fun b oo e => by rw [hb b oo e]; exact hne) hB⟩
  have HFin := Lib.hid hfin
  have hdr := HS.out.drop (m := 2 + sn) (c := c) (by omega) hc
  rw [show (nums .u8 (b0 :: b1 :: rest)).drop (2 + sn) = nums .u8 (rest.drop sn) by simp [nums, Nat.add_comm 2 sn]] at hdr
  have HD := Lib.hid hdr
  clear hfin hdr
  by_cases hcc : c = 2 + sn
  · go_wp2
    go_end0
    refine ⟨rfl, ?_⟩
    have hd := HD.out
    rw [if_pos hcc] at hd
    exact HFin.out _ _ (by omega) hd (by intro b oo hb; injection hb with hb; injection hb with hb _; exact hb.symm)
  · go_wp2
    go_end0
    refine ⟨rfl, ?_⟩
    have hd := HD.out
    rw [if_neg hcc] at hd
    simp only [Option.map_some, add_none] at hd
    exact HFin.out _ _ (by omega) hd (by intro b oo hb; injection hb with hb; injection hb with hb _; exact hb.symm)
set_option maxRecDepth 100000 in
theorem getVal_skl (g B : Nat) (s : SkA) (j : Nat) (d : Nd) (w : World) (h : SkSt w g s) (ok : SkOk g B s) (hj : s.ns[j]? = some d) :
    Calls Try.prog 75 #[.pointer (some ⟨s.ga, 0, none⟩), .int .u32 d.vo, .int .u32 d.val.length] w fun E w' => ∃ A c, E = .returned (.agg #[.int .u8 d.e.m, .int .u8 d.e.u, .int .u64 d.e.x, .slice A d.e.d.length c, .int .u64 0]) ∧ d.e.d.length ≤ c ∧ (∀ b oo, A = some ⟨b, oo, none⟩ → b = s.gb) ∧ Sl w' A d.e.d.length (nums .u8 d.e.d) ∧ Below w.heap.size w w' := by
  have hv := ok.val d (List.mem_of_getElem? hj)
  have he := ok.ent d (List.mem_of_getElem? hj)
  have hn1 := ok.n1
  have hdl := he.dlen
  have hvl : d.val.length = 2 + (vint 9 d.e.x).length + d.e.d.length := valB_len _ _ _ _
  have hv9 := vint_len 9 d.e.x
  have c1 : ∀ o, (w.alloc o).cell? ⟨s.ga, 1, none⟩ = some (.slice (some ⟨s.gb, 0, none⟩) 1048576 1048576) := fun o => (h.arn.ar.alloc o).at_ rfl
  have hsl : Sl w (some ⟨s.gb, d.vo, none⟩) d.val.length (nums .u8 d.val) := by
    have := h.arn.buf.sl (off := d.vo) (n := d.val.length) (by rw [h.arn.len]; omega)
    rw [hv.2] at this
    exact this
  have hgb : s.gb < w.heap.size := h.arn.buf.lt
  have hvo : d.vo + d.val.length ≤ 900000 := by omega
  rw [show d.val = d.e.m :: d.e.u :: (vint 9 d.e.x ++ d.e.d) from rfl] at hsl
  rw [show (d.e.m :: d.e.u :: (vint 9 d.e.x ++ d.e.d)).length = d.val.length from rfl] at hsl
  have HU := Lib.hid (uvar_back d.e.x d.e.d he.x0 he.x1.out)
  have HV := Lib.hid (And.intro hsl (And.intro he hvl))
  clear h ok hj hv he hvl hsl hn1
  obtain ⟨o, ho⟩ : ∃ o, o = d.vo := ⟨_, rfl⟩
  obtain ⟨n, hn⟩ : ∃ n, n = d.val.length := ⟨_, rfl⟩
  rw [← ho, ← hn] at HV hvo
  rw [← ho, ← hn]
  clear ho hn
  have h1 : ((o : Int)) ≤ (o : Int) + (n : Int) := by omega
  have h2 : (o : Int) + (n : Int) ≤ 1048576 := by omega
  have h3 : ¬ (1048576 = o) := by omega
  have h4 : o + n - o = n := by omega
  have h5 : (((o : Int) + (n : Int)).toNat) = o + n := by omega
  go_enter Try.func75, Try.ntmps75
  go_wp2_with fail
  have hvl := HV.out.2.2
  refine (valDecode_skl w.heap.size 72 s.gb n (1048576 - o) d.e.m d.e.u (vint 9 d.e.x ++ d.e.d) _ _ _ _ _ o d.e.x ((vint 9 d.e.x).length : Int) _ (Blk.new _ _ _) (HV.out.1.alloc _) (by omega) (by omega) (by omega) ?hB HU.out (by omega) (by rw [List.length_append]; omega)).mono ?_
  case hB =>
    intro x hx
    rcases List.mem_append.1 hx with hx | hx
    · exact vint_byt' _ HV.out.2.1.x0 HV.out.2.1.x1 x hx
    · exact HV.out.2.1.db x hx
  rintro E w1 ⟨rfl, A, c, hbb, hc, hw, hs⟩
  have HBB := Lib.hid hbb
  clear hbb
  have e1 : (vint 9 d.e.x ++ d.e.d).length - ((vint 9 d.e.x).length : Int).toNat = d.e.d.length := by simp
  have e2 : (vint 9 d.e.x ++ d.e.d).drop ((vint 9 d.e.x).length : Int).toNat = d.e.d := by simp
  rw [e1] at hc hw hs
  rw [e2] at hs
  have hbel : Hid (Below w.heap.size w w1) := below_wrote ((Below.refl w.heap.size w).alloc (Nat.le_refl _) _) (Nat.le_refl _) (by simp) hw
  have f0 := hw.1.frozen 0
  have f1 := hw.1.frozen 1
  have f2 := hw.1.frozen 2
  have f3 := hw.1.frozen 3
  have f4 := hw.1.frozen 4
  have q0 := hw.1.at_ (i := 0) rfl
  have q1 := hw.1.at_ (i := 1) rfl
  have q2 := hw.1.at_ (i := 2) rfl
  have q3 := hw.1.at_ (i := 3) rfl
  have q4 := hw.1.at_ (i := 4) rfl
  clear hw hvl e1 e2
  go_wp2
  refine bodyPost_ret (v := .agg #[.int .u8 d.e.m, .int .u8 d.e.u, .int .u64 d.e.x, .slice A d.e.d.length c, .int .u64 0]) (by simp [results, Try.results75, go_sem, q0, q1, q2, q3, q4, f0, f1, f2, f3, f4]) rfl ?_
  exact ⟨A, c, rfl, hc, HBB.out, hs, hbel.out⟩
theorem found_none {l : List Ent} {k : List Int} {v : Int} (h : l[posE l k v]? = none) : foundE l k v = zeroE := by unfold foundE; rw [h]
theorem found_some {l : List Ent} {k : List Int} {v : Int} {e : Ent} (h : l[posE l k v]? = some e) : foundE l k v = if k = e.k then e else zeroE := by unfold foundE; rw [h]
theorem ok_key {g B : Nat} {s : SkA} (ok : SkOk g B s) {j : Nat} {d : Nd} (hj : s.ns[j]? = some d) : d.ko + d.key.length ≤ 900000 ∧ d.key.length ≤ 400 := by
  have h1 := (ok.key d (List.mem_of_getElem? hj)).1
  have h2 := (ok.ent d (List.mem_of_getElem? hj)).klen
  have h3 := d.key_len
  have h4 := ok.n1
  omega
theorem put5 {w w' : World} {b : Nat} (h : Below b w w') (v0 v1 v2 v3 v4 : Value) : Below b w (((((w'.setCell ⟨b, 0, none⟩ v0).setCell ⟨b, 1, none⟩ v1).setCell ⟨b, 2, none⟩ v2).setCell ⟨b, 3, none⟩ v3).setCell ⟨b, 4, none⟩ v4) :=
  ((((h.setCell (Nat.le_refl _) _).setCell (Nat.le_refl _) _).setCell (Nat.le_refl _) _).setCell (Nat.le_refl _) _).setCell (Nat.le_refl _) _
def GetP (e : Ent) (w : World) (E : Ending) (w' : World) : Prop := ∃ A c, E = .returned (.agg #[.int .u8 e.m, .int .u8 e.u, .int .u64 e.x, .slice A e.d.length c, .int .u64 e.v]) ∧ e.d.length ≤ c ∧ Sl w' A e.d.length (nums .u8 e.d) ∧ Below w.heap.size w w'
set_option maxRecDepth 100000 in
set_option maxHeartbeats 4000000 in
theorem get_skl (g B : Nat) (s : SkA) (A : Option Addr) (nk ck : Nat) (k : List Int) (v : Int) (w : World) (h : SkSt w g s) (ok : SkOk g B s) (hf : Full s) (hk : Sl w A nk (nums .u8 (keyB k v))) (hck : nk ≤ ck) (hkb : Byt (keyB k v)) (hnk : nk ≤ 1000) :
    Calls Try.prog 34 #[.pointer (some ⟨g, 0, none⟩), .slice A nk ck] w (GetP (foundE (s.ns.map Nd.e) k v) w) := by
  have H := Lib.hid h
  have HK := Lib.hid hk
  have OK := Lib.hid ok
  have HF := Lib.hid hf
  have HKB := Lib.hid hkb
  have hkl : (keyB k v).length = nk := by have := hk.1; rwa [nums_length] at this
  have hkl2 := keyB_len k v
  have hn8 : 8 ≤ nk := by omega
  have HKL := Lib.hid hkl
  have HGB : Hid (s.gb < w.heap.size) := h.arn.buf.lt
  clear h hk ok hf hkb hkl hkl2
  go_enter Try.func34, Try.ntmps34
  go_wp2_with fail
  refine (findNear_falsetrue g B s A nk ck k v _ (H.out.frm OK.out (Frm.alloc w _) (fun b hb => by cases hb)) OK.out HF.out (HK.out.alloc _) hck HKB.out hnk).mono ?_
  rintro E w1 ⟨⟨nd, rfl⟩, rfl⟩
  have hst : Hid (SkSt ((w.alloc (.cells #[.int .u8 0, .int .u8 0, .int .u64 0, .slice none 0 0, .int .u64 0] 72)).drewN nd) g s) := (H.out.frm OK.out (Frm.alloc w _) (fun b hb => by cases hb)).drewN nd
  have hbel : Hid (Below w.heap.size w ((w.alloc (.cells #[.int .u8 0, .int .u8 0, .int .u64 0, .slice none 0 0, .int .u64 0] 72)).drewN nd)) := bl_drewN ((Below.refl w.heap.size w).alloc (Nat.le_refl _) _) _
  have hres : Blk ((w.alloc (.cells #[.int .u8 0, .int .u8 0, .int .u64 0, .slice none 0 0, .int .u64 0] 72)).drewN nd) w.heap.size 72 [.int .u8 0, .int .u8 0, .int .u64 0, .slice none 0 0, .int .u64 0] := (Blk.new w _ _).drewN nd
  have hk1 : Hid (Sl ((w.alloc (.cells #[.int .u8 0, .int .u8 0, .int .u64 0, .slice none 0 0, .int .u64 0] 72)).drewN nd) A nk (nums .u8 (keyB k v))) := HK.out.alloc _
  generalize (w.alloc (.cells #[.int .u8 0, .int .u8 0, .int .u64 0, .slice none 0 0, .int .u64 0] 72)).drewN nd = w1 at *
  clear H HK
  have r0 := hres.at_ (i := 0) rfl
  have r1 := hres.at_ (i := 1) rfl
  have r2 := hres.at_ (i := 2) rfl
  have r3 := hres.at_ (i := 3) rfl
  have r4 := hres.at_ (i := 4) rfl
  have z0 := hres.frozen 0
  have z1 := hres.frozen 1
  have z2 := hres.frozen 2
  have z3 := hres.frozen 3
  have z4 := hres.frozen 4
  have HRES := Lib.hid hres
  clear hres
  generalize hbb : (true && s.hit k v) = bb
  clear hbb
  cases hj : s.ns[s.pos k v]? with
  | none =>
    have hfe : Hid (foundE (s.ns.map Nd.e) k v = zeroE) := found_none (by rw [List.getElem?_map]; show (s.ns[s.pos k v]?).map _ = _; rw [hj]; rfl)
    have e1 : nearV s k v false true = .pointer none := ndP_none hj
    rw [e1]
    clear e1 hj
    go_wp2
    refine bodyPost_ret (v := .agg #[.int .u8 0, .int .u8 0, .int .u64 0, .slice none 0 0, .int .u64 0]) (by simp [results, Try.results34, go_sem, r0, r1, r2, r3, r4, z0, z1, z2, z3, z4]) rfl ?_
    show GetP _ _ _ _
    rw [hfe.out]
    exact ⟨none, 0, rfl, Nat.le_refl _, Sl.nil _ _, put5 hbel.out _ _ _ _ _⟩
  | some d =>
    have hfe : Hid (foundE (s.ns.map Nd.e) k v = if k = d.e.k then d.e else zeroE) := found_some (by rw [List.getElem?_map]; show (s.ns[s.pos k v]?).map _ = _; rw [hj]; rfl)
    have e1 : nearV s k v false true = .pointer (some ⟨d.blk, 0, none⟩) := ndP_some hj
    have hb := hst.out.nodes _ d hj
    have hks := ok_key OK.out hj
    have hko := hks.1
    have hnd := hks.2
    have HSL := Lib.hid (nodeKey_sl hst.out OK.out _ d hj)
    have HEO := Lib.hid (OK.out.ent d (List.mem_of_getElem? hj))
    have a3 : ∀ n, (w1.drewN n).cell? ⟨g, 3, none⟩ = some (.pointer (some ⟨s.ga, 0, none⟩)) := fun n => (hst.out.list.drewN n).at_ rfl
    have b1 : ∀ n, (w1.drewN n).cell? ⟨d.blk, 1, none⟩ = some (.int .u32 d.ko) := fun n => (hb.drewN n).at_ rfl
    have b2 : ∀ n, (w1.drewN n).cell? ⟨d.blk, 2, none⟩ = some (.int .u16 d.key.length) := fun n => (hb.drewN n).at_ rfl
    have HC : Hid (∀ n, (w1.drewN n).cell? ⟨s.ga, 1, none⟩ = some (.slice (some ⟨s.gb, 0, none⟩) 1048576 1048576)) := fun n => (hst.out.arn.ar.drewN n).at_ rfl
    rw [e1]
    have HJ := Lib.hid hj
    clear e1 hj hb hks
    go_wp2
    go_quiet ((go_at_call 72; exact quiet_same (getKey_skl s.ga s.gb d.ko d.key.length _ (HC.out _) (by omega) (by omega))))
    replace hst : Hid (SkSt (w1.drewN nq) g s) := hst.out.drewN nq
    replace hbel : Hid (Below w.heap.size w (w1.drewN nq)) := bl_drewN hbel.out nq
    replace HRES := Lib.hid (HRES.out.drewN nq)
    replace hk1 : Hid (Sl (w1.drewN nq) A nk (nums .u8 (keyB k v))) := hk1.out
    replace HSL : Hid (Sl (w1.drewN nq) (some ⟨s.gb, d.ko, none⟩) d.key.length (nums .u8 (keyB d.e.k d.e.v))) := HSL.out
    clear r0 r1 r2 r3 r4 z0 z1 z2 z3 z4 a3 b1 b2 HC
    generalize w1.drewN nq = w2 at *
    go_wp2_with fail
    refine (sameKey_any A (some ⟨s.gb, d.ko, none⟩) nk d.key.length ck (1048576 - d.ko) (keyB k v) (keyB d.e.k d.e.v) w2 hk1.out HSL.out HKB.out HEO.out.kbyt hn8 (by rw [d.key_len]; omega) hck (by omega) (by omega) (by omega)).mono ?_
    rintro E w2' ⟨rfl, rfl⟩
    have ek : (keyB k v).take (nk - 8) = k := by rw [← HKL.out]; exact keyB_take k v
    rw [ek, show d.key.length = (keyB d.e.k d.e.v).length from rfl, keyB_take]
    clear ek
    have hres := HRES.out
    have r0 := hres.at_ (i := 0) rfl
    have r1 := hres.at_ (i := 1) rfl
    have r2 := hres.at_ (i := 2) rfl
    have r3 := hres.at_ (i := 3) rfl
    have r4 := hres.at_ (i := 4) rfl
    have z0 := hres.frozen 0
    have z1 := hres.frozen 1
    have z2 := hres.frozen 2
    have z3 := hres.frozen 3
    have z4 := hres.frozen 4
    clear hres
    by_cases hkk : k = d.e.k
    · rw [decide_eq_true hkk]
      have hze : Hid (foundE (s.ns.map Nd.e) k v = d.e) := by show _ = _; rw [hfe.out, if_pos hkk]
      have hb := hst.out.nodes _ d HJ.out
      have hv := OK.out.val d (List.mem_of_getElem? HJ.out)
      have hn1 := OK.out.n1
      have hdl := HEO.out.dlen
      have hvl : d.val.length = 2 + (vint 9 d.e.x).length + d.e.d.length := valB_len _ _ _ _
      have hv9 := vint_len 9 d.e.x
      have hvo : d.vo < 4294967296 := by omega
      have hvn : d.val.length < 4294967296 := by omega
      have b0 : w2.cell? ⟨d.blk, 0, none⟩ = some (.int .u64 ((d.val.length : Int) * 4294967296 + d.vo)) := hb.at_ rfl
      have hgr : w.heap.size < w2.heap.size := HRES.out.lt
      clear hb hv hn1 hdl hvl hv9 hkk hfe r0 r1 r2 r3 r4 z0 z1 z2 z3 z4
      go_wp2_with fail
      refine (getValueOffset_skl d.blk d.val.length d.vo w2 b0 hvo hvn).mono ?_
      rintro E w2' ⟨rfl, rfl⟩
      clear b0
      have a3 : w2.cell? ⟨g, 3, none⟩ = some (.pointer (some ⟨s.ga, 0, none⟩)) := hst.out.list.at_ rfl
      go_wp2_with fail
      refine (getVal_skl g B s _ d w2 hst.out OK.out HJ.out).mono ?_
      rintro E w3 ⟨A3, c3, rfl, hc3, hA3, hs3, hb3⟩
      have HA3 : Hid (∀ b oo, A3 = some ⟨b, oo, none⟩ → b ≠ w.heap.size ∧ b ≠ w3.heap.size) := fun b oo e => by
        have e1 := hA3 b oo e
        have e2 := hst.out.arn.buf.lt
        have e3 := hb3.size
        have e4 := HGB.out
        omega
      clear hA3
      have hres3 := HRES.out.frm (Frm.of_below hb3) (by simp)
      have hsl3 : Sl w3 (some ⟨s.gb, d.ko, none⟩) d.key.length (nums .u8 (keyB d.e.k d.e.v)) := HSL.out.below hb3
      have hbel3 : Hid (Below w.heap.size w w3) := hbel.out.trans (hb3.mono hbel.out.size)
      have hsz3 : w.heap.size < w3.heap.size := by have := hb3.size; omega
      have HS3 := Lib.hid hs3
      have HRES3 := Lib.hid hres3
      have HSL3 := Lib.hid hsl3
      clear hs3 hres3 hsl3 hb3 a3 hst hbel HRES HSL hk1 hgr HJ
      go_wp2_with fail
      refine (parseTs_any (some ⟨s.gb, d.ko, none⟩) d.key.length (1048576 - d.ko) d.e.k d.e.v _ (HSL3.out.alloc _) (by omega) HEO.out.kpos (by omega) HEO.out.v0 HEO.out.v1).mono ?_
      rintro E w5 ⟨rfl, n5, rfl⟩
      have hblk : Blk ((w3.alloc (.cells #[.int .u8 d.e.m, .int .u8 d.e.u, .int .u64 d.e.x, .slice A3 d.e.d.length c3, .int .u64 0] 72)).drewN n5) w3.heap.size 72 [.int .u8 d.e.m, .int .u8 d.e.u, .int .u64 d.e.x, .slice A3 d.e.d.length c3, .int .u64 0] := (Blk.new w3 _ _).drewN n5
      have hres5 := (HRES3.out.alloc (.cells #[.int .u8 d.e.m, .int .u8 d.e.u, .int .u64 d.e.x, .slice A3 d.e.d.length c3, .int .u64 0] 72)).drewN n5
      have hs5 : Sl ((w3.alloc (.cells #[.int .u8 d.e.m, .int .u8 d.e.u, .int .u64 d.e.x, .slice A3 d.e.d.length c3, .int .u64 0] 72)).drewN n5) A3 d.e.d.length (nums .u8 d.e.d) := HS3.out.alloc _
      have hbel5 : Below w.heap.size w ((w3.alloc (.cells #[.int .u8 d.e.m, .int .u8 d.e.u, .int .u64 d.e.x, .slice A3 d.e.d.length c3, .int .u64 0] 72)).drewN n5) := bl_drewN (hbel3.out.alloc hbel3.out.size _) _
      have HA := Lib.hid hs5
      have HB := Lib.hid hbel5
      have HR := Lib.hid hres5
      have HBK := Lib.hid hblk
      clear hs5 hbel5 HS3 HRES3 HSL3 hbel3
      generalize (w3.alloc (.cells #[.int .u8 d.e.m, .int .u8 d.e.u, .int .u64 d.e.x, .slice A3 d.e.d.length c3, .int .u64 0] 72)).drewN n5 = w5 at *
      generalize w3.heap.size = gt at *
      have hne : gt ≠ w.heap.size := by omega
      have hne2 : w.heap.size ≠ gt := by omega
      have y4 := hblk.frozen 4
      have z0 := hres5.frozen 0
      have z1 := hres5.frozen 1
      have z2 := hres5.frozen 2
      have z3 := hres5.frozen 3
      have z4 := hres5.frozen 4
      have t0 := hblk.at_ (i := 0) rfl
      have t1 := hblk.at_ (i := 1) rfl
      have t2 := hblk.at_ (i := 2) rfl
      have t3 := hblk.at_ (i := 3) rfl
      have t4 := hblk.at_ (i := 4) rfl
      have r0 := hres5.at_ (i := 0) rfl
      have r1 := hres5.at_ (i := 1) rfl
      have r2 := hres5.at_ (i := 2) rfl
      have r3 := hres5.at_ (i := 3) rfl
      have r4 := hres5.at_ (i := 4) rfl
      clear hblk hres5
      go_wp2
      refine bodyPost_ret (v := .agg #[.int .u8 d.e.m, .int .u8 d.e.u, .int .u64 d.e.x, .slice A3 d.e.d.length c3, .int .u64 d.e.v]) (by simp [results, Try.results34, go_sem, r0, r1, r2, r3, r4, z0, z1, z2, z3, z4, t0, t1, t2, t3, t4, y4, hne, hne2]) rfl ?_
      show GetP _ _ _ _
      rw [hze.out]
      have hb6 := HB.out.setCell (p := ⟨gt, 4, none⟩) (by show w.heap.size ≤ gt; omega) (.int .u64 d.e.v)
      refine ⟨A3, c3, rfl, hc3, ?_, put5 hb6 _ _ _ _ _⟩
      refine HA.out.frm (l := [gt, w.heap.size]) ?_ (fun b oo e => ?_)
      · exact ((((((Frm.refl _ w5).andSet _ _ (.inl (by simp))).andSet _ _ (.inl (by simp))).andSet _ _ (.inl (by simp))).andSet _ _ (.inl (by simp))).andSet _ _ (.inl (by simp))).andSet _ _ (.inl (by simp))
      · have := HA3.out b oo e
        simp; omega
    · rw [decide_eq_false hkk]
      have hze : foundE (s.ns.map Nd.e) k v = zeroE := by rw [hfe.out, if_neg hkk]
      clear hkk hfe
      go_wp2
      refine bodyPost_ret (v := .agg #[.int .u8 0, .int .u8 0, .int .u64 0, .slice none 0 0, .int .u64 0]) (by simp [results, Try.results34, go_sem, r0, r1, r2, r3, r4, z0, z1, z2, z3, z4]) rfl ?_
      show GetP _ _ _ _
      rw [hze]
      exact ⟨none, 0, rfl, Nat.le_refl _, Sl.nil _ _, put5 hbel.out _ _ _ _ _⟩
end Go.Proofs.Ytanmgkpgfmkobaa
