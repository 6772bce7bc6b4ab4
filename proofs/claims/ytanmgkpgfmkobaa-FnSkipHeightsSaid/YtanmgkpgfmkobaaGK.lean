/- Texts that this claim shares with others, put together: TK TL OB TM. -/
import Derived.Test.YtanmgkpgfmkobaaGW
import Derived.Test.YtanmgkpgfmkobaaE4
import Derived.Test.YtanmgkpgfmkobaaPB
/- A skip list: the value of a key. -/
namespace Go.Proofs.Ytanmgkpgfmkobaa
open Go.RowKit
set_option linter.unusedVariables false
set_option linter.unusedSimpArgs false
def zeroE : Ent := ⟨[], 0, 0, 0, 0, []⟩
set_option maxRecDepth 100000 in
theorem valDecode_skl (g t g2 n c : Nat) (b0 b1 : Int) (rest : List Int) (v0 v1 v2 v3 v4 : Value) (o : Nat) (x s : Int) (w : World) (h : Blk w g t [v0, v1, v2, v3, v4]) (hs : Sl w (some ⟨g2, o, none⟩) n (nums .u8 (b0 :: b1 :: rest))) (hne : g2 ≠ g)
    (hc : n ≤ c) (hn : n ≤ 1000000) (hB : Byt rest) (hu : uvarL rest 0 0 = (x, s)) (h0 : 0 < s) (hsz : s ≤ rest.length) :
    Calls Try.prog 106 #[.pointer (some ⟨g, 0, none⟩), .slice (some ⟨g2, o, none⟩) n c] w fun E w' =>
      E = .returned (.tuple #[]) ∧ ∃ B d, (∀ b oo, B = some ⟨b, oo, none⟩ → b = g2) ∧ rest.length - s.toNat ≤ d ∧ Wrote w g t [.int .u8 b0, .int .u8 b1, .int .u64 x, .slice B (rest.length - s.toNat) d, v4] w' ∧ Sl w' B (rest.length - s.toNat) (nums .u8 (rest.drop s.toNat)) := by
  have hlen : rest.length + 2 = n := by have := hs.1; rw [nums_length] at this; simpa using this
  have hb0 : w.cell? ⟨g2, o + 0, none⟩ = some (.int .u8 b0) := by
    obtain ⟨g', o', e1, hcell⟩ := hs.2 (by omega)
    injection e1 with e1; injection e1 with e1 e2; subst e1 e2
    exact hcell 0 _ rfl
  have hb1 : w.cell? ⟨g2, o + 1, none⟩ = some (.int .u8 b1) := by
    obtain ⟨g', o', e1, hcell⟩ := hs.2 (by omega)
    injection e1 with e1; injection e1 with e1 e2; subst e1 e2
    exact hcell 1 _ rfl
  rw [Nat.add_zero] at hb0
  have q0 : w.cell? ⟨g, 0, none⟩ = some v0 := by rw [h.cell]; rfl
  have q1 : w.cell? ⟨g, 1, none⟩ = some v1 := by rw [h.cell]; rfl
  have q2 : w.cell? ⟨g, 2, none⟩ = some v2 := by rw [h.cell]; rfl
  have q3 : w.cell? ⟨g, 3, none⟩ = some v3 := by rw [h.cell]; rfl
  have f0 := h.frozen 0
  have f1 := h.frozen 1
  have f2 := h.frozen 2
  have f3 := h.frozen 3
  have hne' : g ≠ g2 := fun e => hne e.symm
  have HH := Lib.hid h
  have HS := Lib.hid hs
  have HU := Lib.hid hu
  obtain ⟨sn, rfl⟩ := Int.eq_ofNat_of_zero_le (show 0 ≤ s by omega)
  have hsn : 1 ≤ sn ∧ sn ≤ rest.length := by omega
  obtain ⟨hsn1, hsn2⟩ := hsn
  have HLn := Lib.hid hlen
  have s1 : IntKind.i64.wrap (2 + (sn : Int)) = 2 + (sn : Int) := IntWalk.i64_in _ (by omega)
  have s2 : (2 + (sn : Int)).toNat = 2 + sn := by omega
  have s3 : (0 : Int) ≤ 2 + (sn : Int) := by omega
  have s4 : 2 + (sn : Int) ≤ (n : Int) := by omega
  have n2 : 3 ≤ n := by omega
  have c2 : ¬ c = 2 := by omega
  have hs2 : ∀ w', Wrote w g t [.int .u8 b0, .int .u8 b1, v2, v3, v4] w' → Sl w' (some ⟨g2, o + 2, none⟩) (n - 2) (nums .u8 rest) := by
    intro w' hw
    have := (sl_wrote hw (by intro b oo hb; injection hb with hb; injection hb with hb _; omega) hs).drop (m := 2) (c := c) (by omega) hc
    rw [if_neg c2] at this
    simpa [Addr.add, nums] using this
  have HS2 := Lib.hid hs2
  clear h hs hu hlen h0 hsz hsn2 hs2
  go_enter Try.func106, Try.ntmps106
  go_wp2_with fail
  have hW1 : Wrote w g t [.int .u8 b0, .int .u8 b1, v2, v3, v4] ((w.setCell ⟨g, 0, none⟩ (.int .u8 b0)).setCell ⟨g, 1, none⟩ (.int .u8 b1)) := (Wrote.sets HH.out 0 (.int .u8 b0)).trans (Wrote.sets (HH.out.set_ 0 (.int .u8 b0)) 1 (.int .u8 b1))
  have HW1 := Lib.hid hW1
  generalize (w.setCell ⟨g, 0, none⟩ (.int .u8 b0)).setCell ⟨g, 1, none⟩ (.int .u8 b1) = w1 at *
  have r2 : w1.cell? ⟨g, 2, none⟩ = some v2 := by rw [hW1.1.cell]; rfl
  have r3 : w1.cell? ⟨g, 3, none⟩ = some v3 := by rw [hW1.1.cell]; rfl
  have g2' := hW1.1.frozen 2
  have g3' := hW1.1.frozen 3
  clear hW1 q0 q1 q2 q3 f0 f1 f2 f3 hb0 hb1
  refine (uvarint_any _ (n - 2) (c - 2) rest w1 (HS2.out _ HW1.out) hB (by omega)).mono ?_
  rintro E w1' ⟨rfl, rfl⟩
  rw [HU.out]
  have hfin : ∀ (B : Option Addr) (d : Nat), (n - (2 + sn) ≤ d) → Sl w B (n - (2 + sn)) (nums .u8 (rest.drop sn)) → (∀ b oo, B = some ⟨b, oo, none⟩ → b = g2) →
      ∃ B' d', (∀ b oo, B' = some ⟨b, oo, none⟩ → b = g2) ∧ rest.length - (sn : Int).toNat ≤ d' ∧ Wrote w g t [.int .u8 b0, .int .u8 b1, .int .u64 x, .slice B' (rest.length - (sn : Int).toNat) d', v4] ((w1.setCell ⟨g, 2, none⟩ (.int .u64 x)).setCell ⟨g, 3, none⟩ (.slice B (n - (2 + sn)) d)) ∧ Sl ((w1.setCell ⟨g, 2, none⟩ (.int .u64 x)).setCell ⟨g, 3, none⟩ (.slice B (n - (2 + sn)) d)) B' (rest.length - (sn : Int).toNat) (nums .u8 (rest.drop (sn : Int).toNat)) := by
    intro B d hd hB hb
    have e : rest.length - (sn : Int).toNat = n - (2 + sn) := by have := HLn.out; omega
    have hw : Wrote w g t [.int .u8 b0, .int .u8 b1, .int .u64 x, .slice B (n - (2 + sn)) d, v4] ((w1.setCell ⟨g, 2, none⟩ (.int .u64 x)).setCell ⟨g, 3, none⟩ (.slice B (n - (2 + sn)) d)) :=
      HW1.out.trans ((Wrote.sets HW1.out.1 2 (.int .u64 x)).trans (Wrote.sets (HW1.out.1.set_ 2 (.int .u64 x)) 3 (.slice B (n - (2 + sn)) d)))
    rw [e]
    exact ⟨B, d, hb, hd, hw, sl_wrote hw (fun b oo e => by rw [hb b oo e]; exact hne) hB⟩
  have HFin := Lib.hid hfin
  have hdr := HS.out.drop (m := 2 + sn) (c := c) (by omega) hc
  rw [show (nums .u8 (b0 :: b1 :: rest)).drop (2 + sn) = nums .u8 (rest.drop sn) by simp [nums, Nat.add_comm 2 sn]] at hdr
  have HD := Lib.hid hdr
  clear hfin hdr
  by_cases hcc : c = 2 + sn
  · go_wp2
    go_end0
    refine ⟨rfl, ?_⟩
    have hd := HD.out
    rw [if_pos hcc] at hd
    exact HFin.out _ _ (by omega) hd (by intro b oo hb; injection hb with hb; injection hb with hb _; exact hb.symm)
  · go_wp2
    go_end0
    refine ⟨rfl, ?_⟩
    have hd := HD.out
    rw [if_neg hcc] at hd
    simp only [Option.map_some, add_none] at hd
    exact HFin.out _ _ (by omega) hd (by intro b oo hb; injection hb with hb; injection hb with hb _; exact hb.symm)
set_option maxRecDepth 100000 in
theorem getVal_skl (g B : Nat) (s : SkA) (j : Nat) (d : Nd) (w : World) (h : SkSt w g s) (ok : SkOk g B s) (hj : s.ns[j]? = some d) :
    Calls Try.prog 75 #[.pointer (some ⟨s.ga, 0, none⟩), .int .u32 d.vo, .int .u32 d.val.length] w fun E w' => ∃ A c, E = .returned (.agg #[.int .u8 d.e.m, .int .u8 d.e.u, .int .u64 d.e.x, .slice A d.e.d.length c, .int .u64 0]) ∧ d.e.d.length ≤ c ∧ (∀ b oo, A = some ⟨b, oo, none⟩ → b = s.gb) ∧ Sl w' A d.e.d.length (nums .u8 d.e.d) ∧ Below w.heap.size w w' := by
  have hv := ok.val d (List.mem_of_getElem? hj)
  have he := ok.ent d (List.mem_of_getElem? hj)
  have hn1 := ok.n1
  have hdl := he.dlen
  have hvl : d.val.length = 2 + (vint 9 d.e.x).length + d.e.d.length := valB_len _ _ _ _
  have hv9 := vint_len 9 d.e.x
  have c1 : ∀ o, (w.alloc o).cell? ⟨s.ga, 1, none⟩ = some (.slice (some ⟨s.gb, 0, none⟩) 1048576 1048576) := fun o => (h.arn.ar.alloc o).at_ rfl
  have hsl : Sl w (some ⟨s.gb, d.vo, none⟩) d.val.length (nums .u8 d.val) := by
    have := h.arn.buf.sl (off := d.vo) (n := d.val.length) (by rw [h.arn.len]; omega)
    rw [hv.2] at this
    exact this
  have hgb : s.gb < w.heap.size := h.arn.buf.lt
  have hvo : d.vo + d.val.length ≤ 900000 := by omega
  rw [show d.val = d.e.m :: d.e.u :: (vint 9 d.e.x ++ d.e.d) from rfl] at hsl
  rw [show (d.e.m :: d.e.u :: (vint 9 d.e.x ++ d.e.d)).length = d.val.length from rfl] at hsl
  have HU := Lib.hid (uvar_back d.e.x d.e.d he.x0 he.x1.out)
  have HV := Lib.hid (And.intro hsl (And.intro he hvl))
  clear h ok hj hv he hvl hsl hn1
  obtain ⟨o, ho⟩ : ∃ o, o = d.vo := ⟨_, rfl⟩
  obtain ⟨n, hn⟩ : ∃ n, n = d.val.length := ⟨_, rfl⟩
  rw [← ho, ← hn] at HV hvo
  rw [← ho, ← hn]
  clear ho hn
  have h1 : ((o : Int)) ≤ (o : Int) + (n : Int) := by omega
  have h2 : (o : Int) + (n : Int) ≤ 1048576 := by omega
  have h3 : ¬ (1048576 = o) := by omega
  have h4 : o + n - o = n := by omega
  have h5 : (((o : Int) + (n : Int)).toNat) = o + n := by omega
  go_enter Try.func75, Try.ntmps75
  go_wp2_with fail
  have hvl := HV.out.2.2
  refine (valDecode_skl w.heap.size 72 s.gb n (1048576 - o) d.e.m d.e.u (vint 9 d.e.x ++ d.e.d) _ _ _ _ _ o d.e.x ((vint 9 d.e.x).length : Int) _ (Blk.new _ _ _) (HV.out.1.alloc _) (by omega) (by omega) (by omega) ?hB HU.out (by omega) (by rw [List.length_append]; omega)).mono ?_
  case hB =>
    intro x hx
    rcases List.mem_append.1 hx with hx | hx
    · exact vint_byt' _ HV.out.2.1.x0 HV.out.2.1.x1 x hx
    · exact HV.out.2.1.db x hx
  rintro E w1 ⟨rfl, A, c, hbb, hc, hw, hs⟩
  have HBB := Lib.hid hbb
  clear hbb
  have e1 : (vint 9 d.e.x ++ d.e.d).length - ((vint 9 d.e.x).length : Int).toNat = d.e.d.length := by simp
  have e2 : (vint 9 d.e.x ++ d.e.d).drop ((vint 9 d.e.x).length : Int).toNat = d.e.d := by simp
  rw [e1] at hc hw hs
  rw [e2] at hs
  have hbel : Hid (Below w.heap.size w w1) := below_wrote ((Below.refl w.heap.size w).alloc (Nat.le_refl _) _) (Nat.le_refl _) (by simp) hw
  have f0 := hw.1.frozen 0
  have f1 := hw.1.frozen 1
  have f2 := hw.1.frozen 2
  have f3 := hw.1.frozen 3
  have f4 := hw.1.frozen 4
  have q0 := hw.1.at_ (i := 0) rfl
  have q1 := hw.1.at_ (i := 1) rfl
  have q2 := hw.1.at_ (i := 2) rfl
  have q3 := hw.1.at_ (i := 3) rfl
  have q4 := hw.1.at_ (i := 4) rfl
  clear hw hvl e1 e2
  go_wp2
  refine bodyPost_ret (v := .agg #[.int .u8 d.e.m, .int .u8 d.e.u, .int .u64 d.e.x, .slice A d.e.d.length c, .int .u64 0]) (by simp [results, Try.results75, go_sem, q0, q1, q2, q3, q4, f0, f1, f2, f3, f4]) rfl ?_
  exact ⟨A, c, rfl, hc, HBB.out, hs, hbel.out⟩
theorem ok_key {g B : Nat} {s : SkA} (ok : SkOk g B s) {j : Nat} {d : Nd} (hj : s.ns[j]? = some d) : d.ko + d.key.length ≤ 900000 ∧ d.key.length ≤ 400 := by
  have h1 := (ok.key d (List.mem_of_getElem? hj)).1
  have h2 := (ok.ent d (List.mem_of_getElem? hj)).klen
  have h3 := d.key_len
  have h4 := ok.n1
  omega
theorem put5 {w w' : World} {b : Nat} (h : Below b w w') (v0 v1 v2 v3 v4 : Value) : Below b w (((((w'.setCell ⟨b, 0, none⟩ v0).setCell ⟨b, 1, none⟩ v1).setCell ⟨b, 2, none⟩ v2).setCell ⟨b, 3, none⟩ v3).setCell ⟨b, 4, none⟩ v4) :=
  ((((h.setCell (Nat.le_refl _) _).setCell (Nat.le_refl _) _).setCell (Nat.le_refl _) _).setCell (Nat.le_refl _) _).setCell (Nat.le_refl _) _
end Go.Proofs.Ytanmgkpgfmkobaa

/- What is found in a skip list behind entries have been put into it. -/
namespace Go.Proofs.Ytanmgkpgfmkobaa
open Go.Proofs.YtanmgkpgfmkobaaW.PrintLast
open Go.RowKit
set_option linter.unusedVariables false
set_option linter.unusedSimpArgs false
end Go.Proofs.Ytanmgkpgfmkobaa

/- spec.Order, of keys of whatever length. -/
namespace Go.Proofs.Ytanmgkpgfmkobaa
open Go.RowKit
set_option linter.unusedVariables false
set_option linter.unusedSimpArgs false
theorem order_big (A B : Option Addr) (n m c d : Nat) (l k : List Int) (v u : Int) (w : World) (ha : Sl w A n (nums .u8 l)) (hb : Sl w B m (nums .u8 k)) (hn : n ≤ 4000000000) (hm : m ≤ 4000000000) :
    Calls Try.prog 77 #[.slice A n c, .int .u64 v, .slice B m d, .int .u64 u] w fun e w' => e = .returned (.int .i64 (orderL l v k u)) ∧ Drew w w' := by
  have H : Hid (Sl w A n (nums .u8 l)) := ha
  have H2 : Hid (Sl w B m (nums .u8 k)) := hb
  clear ha hb
  obtain ⟨x, hx⟩ : ∃ x, x = cmpL l k := ⟨_, rfl⟩
  have HX := Lib.hid hx
  have HO : Hid (orderL l v k u = if x = 0 then sgn u v else x) := by rw [hx]; rfl
  by_cases h0 : x = 0
  · have HO2 : Hid (orderL l v k u = sgn u v) := by rw [HO.out, if_pos h0]; rfl
    rcases Int.lt_trichotomy v u with h1 | h1 | h1
    · have hg : ¬ u < v := by omega
      go_enter Try.func77, Try.ntmps77
      go_wp2_with fail
      refine (compare_any A B n m c d l k w H.out H2.out (by omega) (by omega)).mono ?_
      rintro e w1 ⟨rfl, ⟨j, rfl⟩⟩
      rw [← hx, h0]
      clear hx h0
      go_wp2
      go_ret
      exact ⟨by rw [HO2.out, sgn, if_neg (by omega), if_neg (by omega)]; rfl, ⟨j, rfl⟩⟩
    · have hg : ¬ u < v := by omega
      have hg2 : ¬ v < u := by omega
      have H1 := Lib.hid h1
      clear h1
      go_enter Try.func77, Try.ntmps77
      go_wp2_with fail
      refine (compare_any A B n m c d l k w H.out H2.out (by omega) (by omega)).mono ?_
      rintro e w1 ⟨rfl, ⟨j, rfl⟩⟩
      rw [← hx, h0]
      clear hx h0
      go_wp2
      go_ret
      exact ⟨by rw [HO2.out, sgn, if_neg (by omega), if_pos (by have := H1.out; omega)]; rfl, ⟨j, rfl⟩⟩
    · go_enter Try.func77, Try.ntmps77
      go_wp2_with fail
      refine (compare_any A B n m c d l k w H.out H2.out (by omega) (by omega)).mono ?_
      rintro e w1 ⟨rfl, ⟨j, rfl⟩⟩
      rw [← hx, h0]
      clear hx h0
      go_wp2
      go_ret
      exact ⟨by rw [HO2.out, sgn, if_pos (by omega)]; rfl, ⟨j, rfl⟩⟩
  · have HO2 : Hid (orderL l v k u = x) := by rw [HO.out, if_neg h0]; rfl
    have hne : (x != 0) = true := by simpa using h0
    clear h0
    go_enter Try.func77, Try.ntmps77
    go_wp2_with fail
    refine (compare_any A B n m c d l k w H.out H2.out (by omega) (by omega)).mono ?_
    rintro e w1 ⟨rfl, ⟨j, rfl⟩⟩
    rw [← hx]
    clear hx
    go_wp2
    go_ret
    exact ⟨by rw [HO2.out]; rfl, ⟨j, rfl⟩⟩
end Go.Proofs.Ytanmgkpgfmkobaa

/- Lists of entries, cell by cell. -/
namespace Go.Proofs.Ytanmgkpgfmkobaa
open Go.RowKit
set_option linter.unusedVariables false
set_option linter.unusedSimpArgs false
/-- An entry as it lies: its key and its data are slices. -/
structure ER where
  Ak : Option Addr
  nk : Nat
  ck : Nat
  Ad : Option Addr
  nd : Nat
  cd : Nat
  e : Ent
def ER.cells (r : ER) : List Value := [.slice r.Ak r.nk r.ck, .int .u64 r.e.v, .int .u8 r.e.m, .int .u8 r.e.u, .int .u64 r.e.x, .slice r.Ad r.nd r.cd]
structure ER.In (w : World) (r : ER) : Prop where
  key : Sl w r.Ak r.nk (nums .u8 r.e.k)
  dat : Sl w r.Ad r.nd (nums .u8 r.e.d)
  hk : r.nk ≤ r.ck
  hd : r.nd ≤ r.cd
theorem ER.In.below {w w' : World} {r : ER} (h : r.In w) (hb : Below w.heap.size w w') : r.In w' := ⟨h.key.below hb, h.dat.below hb, h.hk, h.hd⟩
theorem ER.In.alloc {w : World} {r : ER} (h : r.In w) (o : Obj) : r.In (w.alloc o) := ⟨h.key.alloc o, h.dat.alloc o, h.hk, h.hd⟩
theorem ER.In.drewN {w : World} {r : ER} (h : r.In w) (k : Nat) : r.In (w.drewN k) := ⟨h.key, h.dat, h.hk, h.hd⟩
theorem ER.In.frm {l : List Nat} {w w' : World} {r : ER} (h : r.In w) (hf : Frm l w w') (hk : ∀ b o, r.Ak = some ⟨b, o, none⟩ → b ∉ l) (hd : ∀ b o, r.Ad = some ⟨b, o, none⟩ → b ∉ l) : r.In w' := ⟨h.key.frm hf hk, h.dat.frm hf hd, h.hk, h.hd⟩
theorem ER.nk_eq {w : World} {r : ER} (h : r.In w) : r.e.k.length = r.nk := by have := h.key.1; rwa [nums_length] at this
theorem ER.nd_eq {w : World} {r : ER} (h : r.In w) : r.e.d.length = r.nd := by have := h.dat.1; rwa [nums_length] at this
def flatE (l : List ER) : List Value := l.flatMap ER.cells
theorem flatE_cons (a : ER) (l : List ER) : flatE (a :: l) = a.cells ++ flatE l := List.flatMap_cons ..
theorem flatE_len (l : List ER) : (flatE l).length = l.length * 6 := by
  induction l with
  | nil => rfl
  | cons a l ih => rw [flatE_cons, List.length_append, ih, List.length_cons]; simp [ER.cells]; omega
theorem flatE_append (a b : List ER) : flatE (a ++ b) = flatE a ++ flatE b := List.flatMap_append ..
theorem flatE_at : ∀ (l : List ER) (i j : Nat) (r : ER), l[i]? = some r → j < 6 → (flatE l)[i * 6 + j]? = r.cells[j]? := by
  intro l
  induction l with
  | nil => intro i j r h; simp at h
  | cons a l ih =>
    intro i j r h hj
    have hl : a.cells.length = 6 := rfl
    rw [flatE_cons]
    cases i with
    | zero =>
      simp only [List.getElem?_cons_zero, Option.some.injEq] at h
      subst h
      rw [List.getElem?_append_left (by omega), Nat.zero_mul, Nat.zero_add]
    | succ i =>
      rw [List.getElem?_append_right (by omega), show (i + 1) * 6 + j - a.cells.length = i * 6 + j by omega]
      exact ih i j r (by simpa using h) hj
theorem flatE_take (l : List ER) (p : Nat) : (flatE l).take (p * 6) = flatE (l.take p) := by
  by_cases hp : p ≤ l.length
  · have e : flatE l = flatE (l.take p) ++ flatE (l.drop p) := by rw [← flatE_append, List.take_append_drop]
    rw [e, List.take_left' (by rw [flatE_len, List.length_take]; omega)]
  · rw [List.take_of_length_le (by rw [flatE_len]; omega), List.take_of_length_le (by omega)]
theorem flatE_drop (l : List ER) (p : Nat) (hp : p ≤ l.length) : (flatE l).drop (p * 6) = flatE (l.drop p) := by
  have e : flatE l = flatE (l.take p) ++ flatE (l.drop p) := by rw [← flatE_append, List.take_append_drop]
  rw [e, List.drop_left' (by rw [flatE_len, List.length_take]; omega)]
theorem flatE_one (l : List ER) : ∀ u ∈ flatE l, u.oneCell' = true := by
  intro u hu
  obtain ⟨r, _, hr⟩ := List.mem_flatMap.1 hu
  unfold ER.cells at hr
  simp only [List.mem_cons, List.not_mem_nil, or_false] at hr
  rcases hr with rfl | rfl | rfl | rfl | rfl | rfl <;> rfl
/-- A slice that reads as a list of entries. -/
structure Ers (w : World) (A : Option Addr) (l : List ER) : Prop where
  sl : Sl w A (l.length * 6) (flatE l)
  each : ∀ r ∈ l, r.In w
theorem Ers.below {w w' : World} {A : Option Addr} {l : List ER} (h : Ers w A l) (hb : Below w.heap.size w w') : Ers w' A l := ⟨h.sl.below hb, fun r hr => (h.each r hr).below hb⟩
theorem Ers.alloc {w : World} {A : Option Addr} {l : List ER} (h : Ers w A l) (o : Obj) : Ers (w.alloc o) A l := ⟨h.sl.alloc o, fun r hr => (h.each r hr).alloc o⟩
theorem Ers.nil (w : World) (A : Option Addr) : Ers w A [] := ⟨Sl.nil w A, fun r hr => by cases hr⟩
theorem Ers.at_ {w : World} {g o : Nat} {l : List ER} (h : Ers w (some ⟨g, o, none⟩) l) {i : Nat} {r : ER} (hi : l[i]? = some r) {j : Nat} {v : Value} (hj : r.cells[j]? = some v) : w.cell? ⟨g, o + i * 6 + j, none⟩ = some v := by
  have hj6 : j < 6 := (List.getElem?_eq_some_iff.1 hj).1
  have := h.sl.adds (i * 6 + j) v (by rw [flatE_at l i j r hi hj6, hj])
  rwa [add_none, ← Nat.add_assoc] at this
theorem Ers.addr {w : World} {A : Option Addr} {l : List ER} (h : Ers w A l) (hl : 0 < l.length) : ∃ g o, A = some ⟨g, o, none⟩ := by
  obtain ⟨g, o, e, _⟩ := h.sl.2 (by omega)
  exact ⟨g, o, e⟩
theorem ers_of {w : World} {A : Option Addr} {n : Nat} {l : List Ent} (h : Sle w A n l) : ∃ rs : List ER, rs.map ER.e = l ∧ Ers w A rs := by
  obtain ⟨h1, h2⟩ := h
  rcases Nat.eq_zero_or_pos n with h0 | h0
  · subst h0
    exact ⟨[], (List.length_eq_zero_iff.1 h1).symm, Ers.nil w A⟩
  · obtain ⟨g, o, rfl, hc⟩ := h2 h0
    have key : ∀ k, k ≤ l.length → ∃ rs : List ER, rs.map ER.e = l.take k ∧ ∀ (j : Nat) (r : ER), rs[j]? = some r → EntC w g (o + j * 6) r.e r.Ak r.nk r.ck r.Ad r.nd r.cd := by
      intro k
      induction k with
      | zero => intro _; exact ⟨[], rfl, fun j r hr => by simp at hr⟩
      | succ k ih =>
        intro hk
        obtain ⟨rs, e1, e2⟩ := ih (by omega)
        obtain ⟨x, hx⟩ : ∃ x, l[k]? = some x := ⟨_, List.getElem?_eq_getElem (by omega)⟩
        obtain ⟨Ak, nk, ck, Ad, nd, cd, hE⟩ := hc k x hx
        have hlen : rs.length = k := by have := congrArg List.length e1; rw [List.length_map, List.length_take] at this; omega
        refine ⟨rs ++ [⟨Ak, nk, ck, Ad, nd, cd, x⟩], by rw [List.map_append, e1, take_snoc l k x hx]; rfl, fun j r hr => ?_⟩
        rcases Nat.lt_trichotomy j rs.length with hj | hj | hj
        · rw [List.getElem?_append_left hj] at hr
          exact e2 j r hr
        · rw [List.getElem?_append_right (by omega), hj, Nat.sub_self] at hr
          simp only [List.getElem?_cons_zero, Option.some.injEq] at hr
          subst hr
          rw [hj, hlen]
          exact hE
        · rw [List.getElem?_eq_none (by simp; omega)] at hr
          cases hr
    obtain ⟨rs, e1, e2⟩ := key l.length (Nat.le_refl _)
    rw [List.take_of_length_le (Nat.le_refl _)] at e1
    have hlen : rs.length = n := by have := congrArg List.length e1; rw [List.length_map] at this; omega
    refine ⟨rs, e1, ⟨⟨flatE_len rs, fun _ => ⟨g, o, rfl, fun i u hu => ?_⟩⟩, fun r hr => ?_⟩⟩
    · have hi : i < rs.length * 6 := by have := (List.getElem?_eq_some_iff.1 hu).1; rwa [flatE_len] at this
      obtain ⟨r, hr⟩ : ∃ r, rs[i / 6]? = some r := ⟨_, List.getElem?_eq_getElem (by omega)⟩
      have hE := e2 _ r hr
      have hf := flatE_at rs (i / 6) (i % 6) r hr (Nat.mod_lt _ (by omega))
      rw [show i / 6 * 6 + i % 6 = i by omega, hu] at hf
      have hoff : o + i = o + i / 6 * 6 + i % 6 := by omega
      rw [hoff]
      have h6 : i % 6 < 6 := Nat.mod_lt _ (by omega)
      generalize i % 6 = q at *
      unfold ER.cells at hf
      match q, h6 with
      | 0, _ => injection hf with hf; subst hf; exact hE.c0
      | 1, _ => injection hf with hf; subst hf; exact hE.c1
      | 2, _ => injection hf with hf; subst hf; exact hE.c2
      | 3, _ => injection hf with hf; subst hf; exact hE.c3
      | 4, _ => injection hf with hf; subst hf; exact hE.c4
      | 5, _ => injection hf with hf; subst hf; exact hE.c5
    · obtain ⟨j, hj⟩ := List.mem_iff_getElem?.1 hr
      have hE := e2 j r hj
      exact ⟨hE.key, hE.dat, hE.hk, hE.hd⟩
def putR (l : List ER) (r : ER) : List ER := l.take (posE (l.map ER.e) r.e.k r.e.v) ++ r :: l.drop (if hitE (l.map ER.e) r.e.k r.e.v then posE (l.map ER.e) r.e.k r.e.v + 1 else posE (l.map ER.e) r.e.k r.e.v)
theorem putR_e (l : List ER) (r : ER) : (putR l r).map ER.e = putE (l.map ER.e) r.e := by
  unfold putR putE
  rw [List.map_append, List.map_cons, List.map_take, List.map_drop]
theorem infoEnt : (Try.prog.info? 32).map (fun i => (i.zero, i.size, i.bytes)) = some (some (.agg #[.slice none 0 0, .int .u64 0, .int .u8 0, .int .u8 0, .int .u64 0, .slice none 0 0]), 6, 72) := by kernel_rfl
/-- append of whatever slice of entries. -/
theorem run_append_ent (w : World) (base ty : Nat) (v : Value) (n : Nat) (xs : List Value) (hown : w.ownsRow base 32 6 v n xs)
    (A : Option Addr) (m c : Nat) (news : List Value) (hr : Sl w A (m * 6) news) (h1 : ∀ u ∈ news, u.oneCell' = true) (hb : n + m ≤ 10000000000) (hbase : base ≤ w.heap.size) :
    ∃ v' w', (Builtin.append_ #[23, 23] ty #[v, .slice A m c]).run Try.prog w = .ok v' w' ∧ w'.ownsRow base 32 6 v' (n + m) (xs ++ news) ∧ w.grownBy w' v.ownBlock ∧ (v'.ownBlock = v.ownBlock ∨ v'.ownBlock = some w.heap.size) := by
  obtain ⟨i, hi, hz0, hz1, hz2⟩ := info_parts infoEnt
  rcases Nat.eq_zero_or_pos m with h0 | h0
  · subst h0
    have hn : news = [] := List.eq_nil_of_length_eq_zero (by have := hr.1; omega)
    subst hn
    exact ⟨v, w, run_append_nothing w base 23 ty 32 i 6 Try.underlying23 hi v n xs hown A c (by cases A <;> simp), by simpa using hown, World.grownBy.refl w _, .inl rfl⟩
  · obtain ⟨g, o, rfl, hc⟩ := hr.2 (by omega)
    obtain ⟨v', w', hrun, h2, h3, _, h5⟩ := run_append_own_at (P := Try.prog) w base 23 ty 32 i _ 6 72 Try.underlying23 hi hz0 hz1 hz2 rfl (by omega) v n xs hown ⟨g, o, none⟩ m c news (by rw [hr.1])
      (Sl.adds ⟨hr.1, fun _ => ⟨g, o, rfl, hc⟩⟩) h1 (by simp only [maxLen]; omega) (by omega) hbase
    exact ⟨v', w', hrun, h2, h3, h5⟩
theorem step_append_ent {ops : Array Oper} {o : Oper} {a : Act} {w : World} {K : Act → World → Prop} {Q : Exit → Act → World → Prop} {E : Prop} (hgd : o.guard = none) (s x : Operand)
    (ho : o.op = .call { callee := .builtin .append, args := #[s, x], argTypes := #[23, 23] })
    (base : Nat) (v : Value) (n : Nat) (xs : List Value) (hs : a.eval s = v) (hown : w.ownsRow base 32 6 v n xs)
    (A : Option Addr) (m c : Nat) (news : List Value) (hx : a.eval x = .slice A m c) (hr : Sl w A (m * 6) news) (h1 : ∀ u ∈ news, u.oneCell' = true) (hb : n + m ≤ 10000000000) (hbase : base ≤ w.heap.size)
    (h : ∀ v' w', w'.ownsRow base 32 6 v' (n + m) (xs ++ news) → w.grownBy w' v.ownBlock → (v'.ownBlock = v.ownBlock ∨ v'.ownBlock = some w.heap.size) → K (a.put o.dst v') w') :
    if Region.wanted o (yielded ops a.tmps) = true then Oper.wp Try.prog o a w K Q else E := by
  have hw : Region.wanted o (yielded ops a.tmps) = true := by simp [Region.wanted, hgd]
  rw [if_pos hw]
  obtain ⟨v', w', hrun, h2, h3, h4⟩ := run_append_ent w base o.type v n xs hown A m c news hr h1 hb hbase
  unfold Oper.wp execOp
  simp only [ho, resolve, invoke, builtin, Sem.run_bind, Sem.run_pure, Result.andThen_ok, List.map_toArray, List.map_cons, List.map_nil, hs, hx, hrun]
  exact h v' w' h2 h3 h4
theorem wpList_append_ent {w : World} {ops : Array Oper} {rest : List Oper} {o : Oper} {a : Act} {Q : Exit → Act → World → Prop} (hgd : o.guard = none) (s x : Operand)
    (ho : o.op = .call { callee := .builtin .append, args := #[s, x], argTypes := #[23, 23] })
    (base : Nat) (v : Value) (n : Nat) (xs : List Value) (hs : a.eval s = v) (hown : w.ownsRow base 32 6 v n xs)
    (A : Option Addr) (m c : Nat) (news : List Value) (hx : a.eval x = .slice A m c) (hr : Sl w A (m * 6) news) (h1 : ∀ u ∈ news, u.oneCell' = true) (hb : n + m ≤ 10000000000) (hbase : base ≤ w.heap.size)
    (h : ∀ v' w', w'.ownsRow base 32 6 v' (n + m) (xs ++ news) → w.grownBy w' v.ownBlock → (v'.ownBlock = v.ownBlock ∨ v'.ownBlock = some w.heap.size) → wpList Try.prog ops Q rest (a.put o.dst v') w') : wpList Try.prog ops Q (o :: rest) a w := by
  refine wpList_plain hgd fun K hK => ?_
  obtain ⟨v', w', hrun, h2, h3, h4⟩ := run_append_ent w base o.type v n xs hown A m c news hr h1 hb hbase
  unfold Oper.wp execOp
  simp only [ho, resolve, invoke, builtin, Sem.run_bind, Sem.run_pure, Result.andThen_ok, List.map_toArray, List.map_cons, List.map_nil, hs, hx, hrun]
  exact hK _ _ (h v' w' h2 h3 h4)
theorem own_ent {w : World} {base n : Nat} {v : Value} {xs : List Value} (h : w.ownsRow base 32 6 v n xs) : ∃ A c, v = .slice A n c ∧ n ≤ c ∧ Sl w A (n * 6) xs ∧ ∀ b o, A = some ⟨b, o, none⟩ → base ≤ b ∧ b < w.heap.size := by
  have hlt := h.lt
  obtain ⟨hl, h2⟩ := h
  rcases h2 with ⟨rfl, rfl⟩ | ⟨g, cap, cur, rfl, hg, hh, hnc, hcm, hcs, ht⟩
  · exact ⟨none, 0, rfl, Nat.le_refl _, ⟨by simpa using hl, fun h => absurd h (by omega)⟩, fun b o e => by cases e⟩
  · refine ⟨some ⟨g, 0, none⟩, cap, rfl, hnc, ⟨by simpa using hl, fun _ => ⟨g, 0, rfl, fun j u hu => ?_⟩⟩, fun b o e => by injection e with e; injection e with e1 e2; subst e1; exact hlt g rfl⟩
    have h0 : w.ownsRow base 32 6 (.slice (some ⟨g, 0, none⟩) n cap) n xs := ⟨hl, .inr ⟨g, cap, cur, rfl, hg, hh, hnc, hcm, hcs, ht⟩⟩
    have hj : j < n * 6 := by have := (List.getElem?_eq_some_iff.1 hu).1; omega
    rw [Nat.zero_add, h0.cellAt j hj]
    exact hu
set_option maxRecDepth 100000 in
theorem orderOf_any (r q : ER) (w : World) (hr : r.In w) (hq : q.In w) (h1 : r.nk ≤ 4000000000) (h2 : q.nk ≤ 4000000000) :
    Calls Try.prog 70 #[.agg #[.slice r.Ak r.nk r.ck, .int .u64 r.e.v, .int .u8 r.e.m, .int .u8 r.e.u, .int .u64 r.e.x, .slice r.Ad r.nd r.cd], .agg #[.slice q.Ak q.nk q.ck, .int .u64 q.e.v, .int .u8 q.e.m, .int .u8 q.e.u, .int .u64 q.e.x, .slice q.Ad q.nd q.cd]] w fun E w' => E = .returned (.int .i64 (orderL r.e.k r.e.v q.e.k q.e.v)) ∧ Below w.heap.size w w' := by
  have HR := Lib.hid hr
  have HQ := Lib.hid hq
  clear hr hq
  go_enter Try.func70, Try.ntmps70
  go_wp2_with fail
  refine (order_big r.Ak q.Ak r.nk q.nk r.ck q.ck r.e.k q.e.k r.e.v q.e.v _ ((HR.out.key.alloc _).alloc _) ((HQ.out.key.alloc _).alloc _) h1 h2).mono ?_
  rintro E w1 ⟨rfl, n1, rfl⟩
  go_wp2
  go_ret
  exact ⟨rfl, bl_drewN (bl_alloc (bl_alloc (Below.refl _ _) _) _) _⟩
end Go.Proofs.Ytanmgkpgfmkobaa
