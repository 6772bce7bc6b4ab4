/- spec.SamePlaces of places that are the same. -/
import Derived.Test.YtegaigpolhdicaaGreatGJ
import Derived.Lib.SlBytesConst
namespace Go.Proofs.YtegaigpolhdicaaGreat
open Go.Proofs.YtegaigpolhdicaaGreatW.PrintLast
open Go.RowKit
set_option linter.unusedVariables false
set_option linter.unusedSimpArgs false
theorem cell_upJ {w : World} {a : Addr} {v : Value} (o : Obj) (h : w.cell? a = some v) : (w.alloc o).cell? a = some v := Go.Lib.cell?_alloc_marked o h
set_option maxRecDepth 100000 in
theorem sameValue_eq (m u x : Int) (A B : Option Addr) (n c d : Nat) (l : List Int) (w : World) (ha : Sl w A n (nums .u8 l)) (hb : Sl w B n (nums .u8 l)) (hn : n ≤ 1000000) :
    Calls Tryz.prog 24 #[.agg #[.int .u8 m, .int .u8 u, .int .u64 x, .slice A n c], .agg #[.int .u8 m, .int .u8 u, .int .u64 x, .slice B n d]] w fun E w' => E = .returned (.bool true) ∧ Below w.heap.size w w' := by
  have HA := Lib.hid ha
  have HB := Lib.hid hb
  clear ha hb
  go_enter Tryz.func24, Tryz.ntmps24
  go_wp2_with fail
  refine (sameBytes_any A B n n c d l l _ ((HA.out.alloc _).alloc _) ((HB.out.alloc _).alloc _) (by omega) (by omega)).mono ?_
  rintro E w1 ⟨rfl, n1, rfl⟩
  rw [decide_eq_true (rfl : l = l)]
  go_wp2
  go_ret
  exact ⟨rfl, bel_drewN (((Below.refl _ _).alloc (Nat.le_refl _) _).alloc (by simp) _) _⟩
theorem Prs.at_ {w : World} {g o : Nat} {l : List PR} (h : Prs w (some ⟨g, o, none⟩) l) {i : Nat} {r : PR} (hi : l[i]? = some r) {j : Nat} {v : Value} (hj : r.cells[j]? = some v) : w.cell? ⟨g, o + i * 7 + j, none⟩ = some v := by
  have hj6 : j < 7 := (List.getElem?_eq_some_iff.1 hj).1
  have := h.sl.adds (i * 7 + j) v (by rw [flatP_at l i j r hi hj6, hj])
  rwa [add_none, ← Nat.add_assoc] at this
theorem Prs.addr {w : World} {A : Option Addr} {l : List PR} (h : Prs w A l) (hl : 0 < l.length) : ∃ g o, A = some ⟨g, o, none⟩ := by
  obtain ⟨g, o, e, _⟩ := h.sl.2 (by omega)
  exact ⟨g, o, e⟩
def PlC (g o : Nat) (p : PR) (w' : World) : Prop := w'.cell? ⟨g, o, none⟩ = some (.bool p.ok) ∧ w'.cell? ⟨g, o + 1, none⟩ = some (.slice p.r.Ak p.r.nk p.r.ck) ∧ w'.cell? ⟨g, o + 2, none⟩ = some (.int .u64 p.r.e.v) ∧ w'.cell? ⟨g, o + 3, none⟩ = some (.int .u8 p.r.e.m)
  ∧ w'.cell? ⟨g, o + 4, none⟩ = some (.int .u8 p.r.e.u) ∧ w'.cell? ⟨g, o + 5, none⟩ = some (.int .u64 p.r.e.x) ∧ w'.cell? ⟨g, o + 6, none⟩ = some (.slice p.r.Ad p.r.nd p.r.cd)
def PlS (g6 gb o : Nat) (p q : PR) (w' : World) : Prop := (w'.cell? ⟨g6, 0, none⟩ = some (.bool p.ok) ∧ w'.cell? ⟨g6, 1, none⟩ = some (.slice p.r.Ak p.r.nk p.r.ck) ∧ w'.cell? ⟨g6, 2, none⟩ = some (.int .u64 p.r.e.v) ∧ w'.cell? ⟨g6, 3, none⟩ = some (.int .u8 p.r.e.m)
  ∧ w'.cell? ⟨g6, 4, none⟩ = some (.int .u8 p.r.e.u) ∧ w'.cell? ⟨g6, 5, none⟩ = some (.int .u64 p.r.e.x) ∧ w'.cell? ⟨g6, 6, none⟩ = some (.slice p.r.Ad p.r.nd p.r.cd)) ∧ PlC gb o q w'
theorem PlC.bel {g o : Nat} {p : PR} {w w' : World} (h : PlC g o p w) (hb : Below w.heap.size w w') : PlC g o p w' :=
  ⟨cell_bel h.1 hb, cell_bel h.2.1 hb, cell_bel h.2.2.1 hb, cell_bel h.2.2.2.1 hb, cell_bel h.2.2.2.2.1 hb, cell_bel h.2.2.2.2.2.1 hb, cell_bel h.2.2.2.2.2.2 hb⟩
theorem PlS.bel {g6 g o : Nat} {p q : PR} {w w' : World} (h : PlS g6 g o p q w) (hb : Below w.heap.size w w') : PlS g6 g o p q w' :=
  ⟨⟨cell_bel h.1.1 hb, cell_bel h.1.2.1 hb, cell_bel h.1.2.2.1 hb, cell_bel h.1.2.2.2.1 hb, cell_bel h.1.2.2.2.2.1 hb, cell_bel h.1.2.2.2.2.2.1 hb, cell_bel h.1.2.2.2.2.2.2 hb⟩, h.2.bel hb⟩
set_option maxRecDepth 100000 in
theorem sameEntry_same (e : Ent) (Ak Ad Bk Bd : Option Addr) (ck cd dk dd : Nat) (w : World) (hpk : Sl w Ak e.k.length (nums .u8 e.k)) (hpd : Sl w Ad e.d.length (nums .u8 e.d)) (hqk : Sl w Bk e.k.length (nums .u8 e.k)) (hqd : Sl w Bd e.d.length (nums .u8 e.d)) (h1 : e.k.length ≤ 1000000) (h2 : e.d.length ≤ 1000000) :
    Calls Tryz.prog 17 #[.agg #[.slice Ak e.k.length ck, .int .u64 e.v, .int .u8 e.m, .int .u8 e.u, .int .u64 e.x, .slice Ad e.d.length cd], .agg #[.slice Bk e.k.length dk, .int .u64 e.v, .int .u8 e.m, .int .u8 e.u, .int .u64 e.x, .slice Bd e.d.length dd]] w fun E w' => E = .returned (.bool true) ∧ Below w.heap.size w w' := by
  have HPK := Lib.hid hpk
  have HPD := Lib.hid hpd
  have HQK := Lib.hid hqk
  have HQD := Lib.hid hqd
  clear hpk hpd hqk hqd
  go_enter Tryz.func17, Tryz.ntmps17
  go_wp2_with fail
  refine (sameBytes_any Ak Bk e.k.length e.k.length ck dk e.k e.k _ ((HPK.out.alloc _).alloc _) ((HQK.out.alloc _).alloc _) (by omega) (by omega)).mono ?_
  rintro E w1 ⟨rfl, n1, rfl⟩
  rw [decide_eq_true (rfl : e.k = e.k)]
  have hx1 : Hid (∀ o1 o2, Sl (((w.alloc o1).alloc o2).drewN n1) Ad e.d.length (nums .u8 e.d)) := fun o1 o2 => (HPD.out.alloc o1).alloc o2
  have hx2 : Hid (∀ o1 o2, Sl (((w.alloc o1).alloc o2).drewN n1) Bd e.d.length (nums .u8 e.d)) := fun o1 o2 => (HQD.out.alloc o1).alloc o2
  go_wp2_with fail
  refine (sameValue_eq e.m e.u e.x Ad Bd e.d.length cd dd e.d _ (hx1.out _ _) (hx2.out _ _) h2).mono ?_
  rintro E w2 ⟨rfl, hb2⟩
  have HB2 : Hid (Below w.heap.size w w2) := (bel_drewN (((Below.refl _ _).alloc (Nat.le_refl _) _).alloc (by simp) _) _).trans (hb2.mono (by show w.heap.size ≤ ((w.alloc _).alloc _).heap.size; rw [World.size_alloc, World.size_alloc]; omega))
  clear hb2
  go_wp2
  go_ret
  exact ⟨rfl, HB2.out⟩
set_option maxRecDepth 100000 in
set_option maxHeartbeats 4000000 in
theorem samePlaces_same (A B : Option Addr) (n c d : Nat) (ps qs : List PR) (w : World) (hA : Prs w A ps) (hB : Prs w B qs) (hn : ps.length = n) (hn2 : n ≤ 1000000000) (heq : ps.map PR.pl = qs.map PR.pl) (hb : ∀ p ∈ ps, p.r.e.k.length ≤ 1000000 ∧ p.r.e.d.length ≤ 1000000) :
    Calls Tryz.prog 10 #[.slice A n c, .slice B n d] w fun E w' => E = .returned (.bool true) ∧ Below w.heap.size w w' := by
  have HA := Lib.hid hA
  have HB := Lib.hid hB
  have HN := Lib.hid hn
  have HEQ := Lib.hid heq
  have HBD := Lib.hid hb
  clear hA hB hn heq hb
  go_enter Tryz.func10, Tryz.ntmps10
  go_wp2
  go_loopg [14] n (fun f v14 wr => ∃ i : Nat, v14 = .int .i64 i ∧ i ≤ n ∧ Hid (i + f = n) ∧ Hid (Below w.heap.size w wr))
  case atStart => exact ⟨0, rfl, Nat.zero_le _, by simp [Hid], Below.refl _ _⟩
  case round =>
    obtain ⟨i, rfl, hin, hf, hbw⟩ := hrel
    by_cases hlt : i < n
    · obtain ⟨p, hp⟩ : ∃ p, ps[i]? = some p := ⟨_, List.getElem?_eq_getElem (by have := HN.out; omega)⟩
      obtain ⟨q, hq⟩ : ∃ q, qs[i]? = some q := ⟨_, List.getElem?_eq_getElem (by have := congrArg List.length HEQ.out; rw [List.length_map, List.length_map] at this; have := HN.out; omega)⟩
      have hpq : p.pl = q.pl := by
        have := congrArg (fun l => l[i]?) HEQ.out
        simp only [List.getElem?_map, hp, hq, Option.map_some, Option.some.injEq] at this
        exact this
      have hel := Lib.hid (HBD.out p (List.mem_of_getElem? hp))
      have hAw := HA.out.below hbw.out
      have hBw := HB.out.below hbw.out
      obtain ⟨ga, oa, rfl⟩ := hAw.addr (by have := HN.out; omega)
      obtain ⟨gb, ob, rfl⟩ := hBw.addr (by have := (List.getElem?_eq_some_iff.1 hq).1; omega)
      have ca : ∀ j v, p.cells[j]? = some v → wr.cell? ⟨ga, oa + i * 7 + j, none⟩ = some v := fun j v hj => hAw.at_ hp hj
      have cb : ∀ j v, q.cells[j]? = some v → wr.cell? ⟨gb, ob + i * 7 + j, none⟩ = some v := fun j v hj => hBw.at_ hq hj
      have hpi := hAw.each p (List.mem_of_getElem? hp)
      have hqi := hBw.each q (List.mem_of_getElem? hq)
      obtain ⟨ok, ⟨Ak, nk, ck, Ad, nd, cd, e⟩⟩ := p
      obtain ⟨ok2, ⟨Bk, mk, dk, Bd, md, dd, e2⟩⟩ := q
      obtain ⟨rfl, rfl⟩ : ok = ok2 ∧ e = e2 := by injection hpq with h1 h2; exact ⟨h1, h2⟩
      obtain rfl : e.k.length = nk := ER.nk_eq hpi
      obtain rfl : e.d.length = nd := ER.nd_eq hpi
      obtain rfl : e.k.length = mk := ER.nk_eq hqi
      obtain rfl : e.d.length = md := ER.nd_eq hqi
      have hpk : Hid (Sl wr Ak e.k.length (nums .u8 e.k)) := hpi.key
      have hpd : Hid (Sl wr Ad e.d.length (nums .u8 e.d)) := hpi.dat
      have hqk : Hid (Sl wr Bk e.k.length (nums .u8 e.k)) := hqi.key
      have hqd : Hid (Sl wr Bd e.d.length (nums .u8 e.d)) := hqi.dat
      have HC : Hid (∀ o, PlC gb (ob + i * 7) ⟨ok, ⟨Bk, e.k.length, dk, Bd, e.d.length, dd, e⟩⟩ (wr.alloc o)) := fun o => ⟨cell_upJ o (cb 0 _ rfl), cell_upJ o (cb 1 _ rfl), cell_upJ o (cb 2 _ rfl), cell_upJ o (cb 3 _ rfl), cell_upJ o (cb 4 _ rfl), cell_upJ o (cb 5 _ rfl), cell_upJ o (cb 6 _ rfl)⟩
      have a0 : wr.cell? ⟨ga, oa + i * 7, none⟩ = some (.bool ok) := ca 0 _ rfl
      have a1 : wr.cell? ⟨ga, oa + i * 7 + 1, none⟩ = some (.slice Ak e.k.length ck) := ca 1 _ rfl
      have a2 : wr.cell? ⟨ga, oa + i * 7 + 2, none⟩ = some (.int .u64 e.v) := ca 2 _ rfl
      have a3 : wr.cell? ⟨ga, oa + i * 7 + 3, none⟩ = some (.int .u8 e.m) := ca 3 _ rfl
      have a4 : wr.cell? ⟨ga, oa + i * 7 + 4, none⟩ = some (.int .u8 e.u) := ca 4 _ rfl
      have a5 : wr.cell? ⟨ga, oa + i * 7 + 5, none⟩ = some (.int .u64 e.x) := ca 5 _ rfl
      have a6 : wr.cell? ⟨ga, oa + i * 7 + 6, none⟩ = some (.slice Ad e.d.length cd) := ca 6 _ rfl
      obtain ⟨gkO, rfl⟩ : ∃ x, gk = x + 1 := ⟨gk - 1, by have := hf.out; omega⟩
      clear ca cb hpi hqi hAw hBw hp hq hpq
      have hgb := HC.out (.cells #[.bool ok, .slice Ak e.k.length ck, .int .u64 e.v, .int .u8 e.m, .int .u8 e.u, .int .u64 e.x, .slice Ad e.d.length cd] 47)
      have HZ := Blk.new wr 47 [.bool ok, .slice Ak e.k.length ck, .int .u64 e.v, .int .u8 e.m, .int .u8 e.u, .int .u64 e.x, .slice Ad e.d.length cd]
      have hg6 := And.intro (HZ.at_ (i := 0) rfl) (And.intro (HZ.at_ (i := 1) rfl) (And.intro (HZ.at_ (i := 2) rfl) (And.intro (HZ.at_ (i := 3) rfl) (And.intro (HZ.at_ (i := 4) rfl) (And.intro (HZ.at_ (i := 5) rfl) (HZ.at_ (i := 6) rfl))))))
      have hgb := Lib.hid hgb
      have hg6 := Lib.hid hg6
      clear HZ HC
      rename_i hgb0 hg60
      clear hgb0 hg60
      cases ok with
      | true =>
        go_wp2_with fail
        refine start_ (n := 23) (S := PlS wr.heap.size gb (ob + i * 7) ⟨true, ⟨Ak, e.k.length, ck, Ad, e.d.length, cd, e⟩⟩ ⟨true, ⟨Bk, e.k.length, dk, Bd, e.d.length, dd, e⟩⟩) (ds := []) #[ff,ff,ff,ff,ff,ff,ff,ff,ff,ff,ff,ff,ff,ff,ff,ff,ff,ff,ff,ff,ff,ff,ff] (by kernel_rfl) rfl rfl (⟨hg6.out, hgb.out⟩) (fun hHeld => ?_)
        generalize wr.heap.size = g6 at *
        replace hbw := Lib.hid ((hbw.out.alloc hbw.out.size (.cells #[.bool true, .slice Ak e.k.length ck, .int .u64 e.v, .int .u8 e.m, .int .u8 e.u, .int .u64 e.x, .slice Ad e.d.length cd] 47)).drew)
        replace hpk : Hid (Sl (wr.alloc (.cells #[.bool true, .slice Ak e.k.length ck, .int .u64 e.v, .int .u8 e.m, .int .u8 e.u, .int .u64 e.x, .slice Ad e.d.length cd] 47)).drew Ak e.k.length (nums .u8 e.k)) := hpk.out.alloc _
        replace hpd : Hid (Sl (wr.alloc (.cells #[.bool true, .slice Ak e.k.length ck, .int .u64 e.v, .int .u8 e.m, .int .u8 e.u, .int .u64 e.x, .slice Ad e.d.length cd] 47)).drew Ad e.d.length (nums .u8 e.d)) := hpd.out.alloc _
        replace hqk : Hid (Sl (wr.alloc (.cells #[.bool true, .slice Ak e.k.length ck, .int .u64 e.v, .int .u8 e.m, .int .u8 e.u, .int .u64 e.x, .slice Ad e.d.length cd] 47)).drew Bk e.k.length (nums .u8 e.k)) := hqk.out.alloc _
        replace hqd : Hid (Sl (wr.alloc (.cells #[.bool true, .slice Ak e.k.length ck, .int .u64 e.v, .int .u8 e.m, .int .u8 e.u, .int .u64 e.x, .slice Ad e.d.length cd] 47)).drew Bd e.d.length (nums .u8 e.d)) := hqd.out.alloc _
        clear hg6 hgb
        generalize (wr.alloc (.cells #[.bool true, .slice Ak e.k.length ck, .int .u64 e.v, .int .u8 e.m, .int .u8 e.u, .int .u64 e.x, .slice Ad e.d.length cd] 47)).drew = wd at *
        refine pure_ (i := 0) (N := some 19) (v := ?_) (a' := ?_) #[tt,ff,ff,ff,ff,ff,ff,ff,ff,ff,ff,ff,ff,ff,ff,ff,ff,ff,ff,ff,ff,ff,ff] rfl rfl (by kernel_rfl) (fun _ _ _ h => h) (Or.inl ⟨by rfl, ?_⟩) ?_ ?_; rotate_left; (intro w'; go_simp; with_reducible rfl); rotate_left; (simp only [Act.put, List.setIfInBounds_toArray, List.set_cons_zero, List.set_cons_succ, i64_w, i32_w]; rfl)
        refine pure_ (i := 2) (N := some 21) (v := ?_) (a' := ?_) #[tt,ff,tt,ff,ff,ff,ff,ff,ff,ff,ff,ff,ff,ff,ff,ff,ff,ff,ff,ff,ff,ff,ff] rfl rfl (by kernel_rfl) (fun _ _ _ h => h) (Or.inl ⟨by rfl, ?_⟩) ?_ ?_; rotate_left; (intro w'; go_simp; with_reducible rfl); rotate_left; (simp only [Act.put, List.setIfInBounds_toArray, List.set_cons_zero, List.set_cons_succ, i64_w, i32_w]; rfl)
        refine pure_ (i := 3) (N := some 22) (v := ?_) (a' := ?_) #[tt,ff,tt,tt,ff,ff,ff,ff,ff,ff,ff,ff,ff,ff,ff,ff,ff,ff,ff,ff,ff,ff,ff] rfl rfl (by kernel_rfl) (fun _ _ _ h => h) (Or.inl ⟨by rfl, ?_⟩) ?_ ?_; rotate_left; (intro w'; go_simp; with_reducible rfl); rotate_left; (simp only [Act.put, List.setIfInBounds_toArray, List.set_cons_zero, List.set_cons_succ, i64_w, i32_w]; rfl)
        refine pure_ (i := 4) (N := some 23) (v := ?_) (a' := ?_) #[tt,ff,tt,tt,tt,ff,ff,ff,ff,ff,ff,ff,ff,ff,ff,ff,ff,ff,ff,ff,ff,ff,ff] rfl rfl (by kernel_rfl) (fun _ _ _ h => h) (Or.inl ⟨by rfl, ?_⟩) ?_ ?_; rotate_left; (intro w'; go_simp; with_reducible rfl); rotate_left; (simp only [Act.put, List.setIfInBounds_toArray, List.set_cons_zero, List.set_cons_succ, i64_w, i32_w]; rfl)
        refine pure_ (i := 5) (N := some 24) (v := ?_) (a' := ?_) #[tt,ff,tt,tt,tt,tt,ff,ff,ff,ff,ff,ff,ff,ff,ff,ff,ff,ff,ff,ff,ff,ff,ff] rfl rfl (by kernel_rfl) (fun _ _ _ h => h) (Or.inl ⟨by rfl, ?_⟩) ?_ ?_; rotate_left; (intro w'; go_simp; with_reducible rfl); rotate_left; (simp only [Act.put, List.setIfInBounds_toArray, List.set_cons_zero, List.set_cons_succ, i64_w, i32_w]; rfl)
        refine take_ (i := 1) (N := some 20) (v := ?_) (a' := ?_) #[tt,tt,tt,tt,tt,tt,ff,ff,ff,ff,ff,ff,ff,ff,ff,ff,ff,ff,ff,ff,ff,ff,ff] rfl rfl (by kernel_rfl) (fun _ _ _ h => h) (Or.inl ⟨by rfl, ?_⟩) hHeld ?_ ?_; rotate_left; (rintro w' ⟨⟨h0, h1, h2, h3, h4, h5, h6⟩, ⟨k0, k1, k2, k3, k4, k5, k6⟩⟩; go_simp; with_reducible rfl); rotate_left; (simp only [Act.put, List.setIfInBounds_toArray, List.set_cons_zero, List.set_cons_succ, i64_w, i32_w]; rfl)
        refine take_ (i := 6) (N := some 25) (v := ?_) (a' := ?_) #[tt,tt,tt,tt,tt,tt,tt,ff,ff,ff,ff,ff,ff,ff,ff,ff,ff,ff,ff,ff,ff,ff,ff] rfl rfl (by kernel_rfl) (fun _ _ _ h => h) (Or.inl ⟨by rfl, ?_⟩) hHeld ?_ ?_; rotate_left; (rintro w' ⟨⟨h0, h1, h2, h3, h4, h5, h6⟩, ⟨k0, k1, k2, k3, k4, k5, k6⟩⟩; go_simp; with_reducible rfl); rotate_left; (simp only [Act.put, List.setIfInBounds_toArray, List.set_cons_zero, List.set_cons_succ, i64_w, i32_w]; rfl)
        refine pure_ (i := 7) (N := some 26) (v := ?_) (a' := ?_) #[tt,tt,tt,tt,tt,tt,tt,tt,ff,ff,ff,ff,ff,ff,ff,ff,ff,ff,ff,ff,ff,ff,ff] rfl rfl (by kernel_rfl) (fun _ _ _ h => h) (Or.inl ⟨by rfl, ?_⟩) ?_ ?_; rotate_left; (intro w'; go_simp; with_reducible rfl); rotate_left; (simp only [Act.put, List.setIfInBounds_toArray, List.set_cons_zero, List.set_cons_succ, i64_w, i32_w]; rfl)
        refine pure_ (i := 8) (N := some 27) (v := ?_) (a' := ?_) #[tt,tt,tt,tt,tt,tt,tt,tt,tt,ff,ff,ff,ff,ff,ff,ff,ff,ff,ff,ff,ff,ff,ff] rfl rfl (by kernel_rfl) (fun _ _ _ h => h) (Or.inl ⟨by rfl, ?_⟩) ?_ ?_; rotate_left; (intro w'; go_simp; with_reducible rfl); rotate_left; (simp only [Act.put, List.setIfInBounds_toArray, List.set_cons_zero, List.set_cons_succ, i64_w, i32_w]; rfl)
        refine pure_ (i := 9) (N := some 28) (v := ?_) (a' := ?_) #[tt,tt,tt,tt,tt,tt,tt,tt,tt,tt,ff,ff,ff,ff,ff,ff,ff,ff,ff,ff,ff,ff,ff] rfl rfl (by kernel_rfl) (fun _ _ _ h => h) (Or.inl ⟨by rfl, ?_⟩) ?_ ?_; rotate_left; (intro w'; go_simp; with_reducible rfl); rotate_left; (simp only [Act.put, List.setIfInBounds_toArray, List.set_cons_zero, List.set_cons_succ, i64_w, i32_w]; rfl)
        refine take_ (i := 10) (N := some 29) (v := ?_) (a' := ?_) #[tt,tt,tt,tt,tt,tt,tt,tt,tt,tt,tt,ff,ff,ff,ff,ff,ff,ff,ff,ff,ff,ff,ff] rfl rfl (by kernel_rfl) (fun _ _ _ h => h) (Or.inl ⟨by rfl, ?_⟩) hHeld ?_ ?_; rotate_left; (rintro w' ⟨⟨h0, h1, h2, h3, h4, h5, h6⟩, ⟨k0, k1, k2, k3, k4, k5, k6⟩⟩; go_simp; with_reducible rfl); rotate_left; (simp only [Act.put, List.setIfInBounds_toArray, List.set_cons_zero, List.set_cons_succ, i64_w, i32_w]; rfl)
        refine pure_ (i := 11) (N := some 30) (v := ?_) (a' := ?_) #[tt,tt,tt,tt,tt,tt,tt,tt,tt,tt,tt,tt,ff,ff,ff,ff,ff,ff,ff,ff,ff,ff,ff] rfl rfl (by kernel_rfl) (fun _ _ _ h => h) (Or.inl ⟨by rfl, ?_⟩) ?_ ?_; rotate_left; (intro w'; go_simp; with_reducible rfl); rotate_left; (simp only [Act.put, List.setIfInBounds_toArray, List.set_cons_zero, List.set_cons_succ, i64_w, i32_w]; rfl)
        refine pure_ (i := 12) (N := some 31) (v := ?_) (a' := ?_) #[tt,tt,tt,tt,tt,tt,tt,tt,tt,tt,tt,tt,tt,ff,ff,ff,ff,ff,ff,ff,ff,ff,ff] rfl rfl (by kernel_rfl) (fun _ _ _ h => h) (Or.inl ⟨by rfl, ?_⟩) ?_ ?_; rotate_left; (intro w'; go_simp; with_reducible rfl); rotate_left; (simp only [Act.put, List.setIfInBounds_toArray, List.set_cons_zero, List.set_cons_succ, i64_w, i32_w]; rfl)
        refine take_ (i := 13) (N := some 32) (v := ?_) (a' := ?_) #[tt,tt,tt,tt,tt,tt,tt,tt,tt,tt,tt,tt,tt,tt,ff,ff,ff,ff,ff,ff,ff,ff,ff] rfl rfl (by kernel_rfl) (fun _ _ _ h => h) (Or.inl ⟨by rfl, ?_⟩) hHeld ?_ ?_; rotate_left; (rintro w' ⟨⟨h0, h1, h2, h3, h4, h5, h6⟩, ⟨k0, k1, k2, k3, k4, k5, k6⟩⟩; go_simp; with_reducible rfl); rotate_left; (simp only [Act.put, List.setIfInBounds_toArray, List.set_cons_zero, List.set_cons_succ, i64_w, i32_w]; rfl)
        refine pure_ (i := 14) (N := some 33) (v := ?_) (a' := ?_) #[tt,tt,tt,tt,tt,tt,tt,tt,tt,tt,tt,tt,tt,tt,tt,ff,ff,ff,ff,ff,ff,ff,ff] rfl rfl (by kernel_rfl) (fun _ _ _ h => h) (Or.inl ⟨by rfl, ?_⟩) ?_ ?_; rotate_left; (intro w'; go_simp; with_reducible rfl); rotate_left; (simp only [Act.put, List.setIfInBounds_toArray, List.set_cons_zero, List.set_cons_succ, i64_w, i32_w]; rfl)
        refine pure_ (i := 15) (N := some 34) (v := ?_) (a' := ?_) #[tt,tt,tt,tt,tt,tt,tt,tt,tt,tt,tt,tt,tt,tt,tt,tt,ff,ff,ff,ff,ff,ff,ff] rfl rfl (by kernel_rfl) (fun _ _ _ h => h) (Or.inl ⟨by rfl, ?_⟩) ?_ ?_; rotate_left; (intro w'; go_simp; with_reducible rfl); rotate_left; (simp only [Act.put, List.setIfInBounds_toArray, List.set_cons_zero, List.set_cons_succ, i64_w, i32_w]; rfl)
        refine pure_ (i := 16) (N := some 35) (v := ?_) (a' := ?_) #[tt,tt,tt,tt,tt,tt,tt,tt,tt,tt,tt,tt,tt,tt,tt,tt,tt,ff,ff,ff,ff,ff,ff] rfl rfl (by kernel_rfl) (fun _ _ _ h => h) (Or.inl ⟨by rfl, ?_⟩) ?_ ?_; rotate_left; (intro w'; go_simp; with_reducible rfl); rotate_left; (simp only [Act.put, List.setIfInBounds_toArray, List.set_cons_zero, List.set_cons_succ, i64_w, i32_w]; rfl)
        refine pure_ (i := 17) (N := some 36) (v := ?_) (a' := ?_) #[tt,tt,tt,tt,tt,tt,tt,tt,tt,tt,tt,tt,tt,tt,tt,tt,tt,tt,ff,ff,ff,ff,ff] rfl rfl (by kernel_rfl) (fun _ _ _ h => h) (Or.inl ⟨by rfl, ?_⟩) ?_ ?_; rotate_left; (intro w'; go_simp; with_reducible rfl); rotate_left; (simp only [Act.put, List.setIfInBounds_toArray, List.set_cons_zero, List.set_cons_succ, i64_w, i32_w]; rfl)
        refine take_ (i := 18) (N := some 37) (v := ?_) (a' := ?_) #[tt,tt,tt,tt,tt,tt,tt,tt,tt,tt,tt,tt,tt,tt,tt,tt,tt,tt,tt,ff,ff,ff,ff] rfl rfl (by kernel_rfl) (fun _ _ _ h => h) (Or.inl ⟨by rfl, ?_⟩) hHeld ?_ ?_; rotate_left; (rintro w' ⟨⟨h0, h1, h2, h3, h4, h5, h6⟩, ⟨k0, k1, k2, k3, k4, k5, k6⟩⟩; go_simp; with_reducible rfl); rotate_left; (simp only [Act.put, List.setIfInBounds_toArray, List.set_cons_zero, List.set_cons_succ, i64_w, i32_w]; rfl)
        refine one_ (i := 19) (N := some 38) #[tt,tt,tt,tt,tt,tt,tt,tt,tt,tt,tt,tt,tt,tt,tt,tt,tt,tt,tt,tt,ff,ff,ff] rfl rfl (by kernel_rfl) (by decide) (fun K hK => ?_); refine goes_ Tryz.func17 (by kernel_rfl) rfl #[.agg #[.slice Ak e.k.length ck, .int .u64 e.v, .int .u8 e.m, .int .u8 e.u, .int .u64 e.x, .slice Ad e.d.length cd], .agg #[.slice Bk e.k.length dk, .int .u64 e.v, .int .u8 e.m, .int .u8 e.u, .int .u64 e.x, .slice Bd e.d.length dd]] (by rfl) rfl rfl (by (try simp only [List.map_toArray, List.map_cons, List.map_nil]); first | done | rfl) ?_
        refine (sameEntry_same e Ak Ad Bk Bd ck cd dk dd wd hpk.out hpd.out hqk.out hqd.out hel.out.1 hel.out.2).mono ?_
        rintro E wx ⟨rfl, hbx⟩; refine ⟨_, rfl, ?_⟩
        replace hbw := Lib.hid (hbw.out.trans (hbx.mono hbw.out.size))
        refine hK.out _ _ (PlS.bel hHeld hbx) (fun hHeld => ?_); clear hK K; refine norm_ (a' := ?_) ?_ ?_; rotate_left; (show Act.put _ (some 38) _ = _; simp only [Act.put, List.setIfInBounds_toArray, List.set_cons_zero, List.set_cons_succ, i64_w, i32_w]; rfl)
        clear hbx hHeld
        refine pure_ (i := 20) (N := some 39) (v := ?_) (a' := ?_) #[tt,tt,tt,tt,tt,tt,tt,tt,tt,tt,tt,tt,tt,tt,tt,tt,tt,tt,tt,tt,tt,ff,ff] rfl rfl (by kernel_rfl) (fun _ _ _ h => h) (Or.inl ⟨by rfl, ?_⟩) ?_ ?_; rotate_left; (intro w'; go_simp; with_reducible rfl); rotate_left; (simp only [Act.put, List.setIfInBounds_toArray, List.set_cons_zero, List.set_cons_succ, i64_w, i32_w]; rfl)
        refine pure_ (i := 21) (N := some 40) (v := ?_) (a' := ?_) #[tt,tt,tt,tt,tt,tt,tt,tt,tt,tt,tt,tt,tt,tt,tt,tt,tt,tt,tt,tt,tt,tt,ff] rfl rfl (by kernel_rfl) (fun _ _ _ h => h) (Or.inl ⟨by rfl, ?_⟩) ?_ ?_; rotate_left; (intro w'; go_simp; with_reducible rfl); rotate_left; (simp only [Act.put, List.setIfInBounds_toArray, List.set_cons_zero, List.set_cons_succ, i64_w, i32_w]; rfl)
        refine pure_ (i := 22) (N := some 41) (v := ?_) (a' := ?_) #[tt,tt,tt,tt,tt,tt,tt,tt,tt,tt,tt,tt,tt,tt,tt,tt,tt,tt,tt,tt,tt,tt,tt] rfl rfl (by kernel_rfl) (fun _ _ _ h => h) (Or.inl ⟨by rfl, ?_⟩) ?_ ?_; rotate_left; (intro w'; go_simp; with_reducible rfl); rotate_left; (simp only [Act.put, List.setIfInBounds_toArray, List.set_cons_zero, List.set_cons_succ, i64_w, i32_w]; rfl)
        refine done_ (by kernel_rfl) ?_
        go_wp2
        go_roundg gkO
        case measure => omega
        case rel => exact ⟨i + 1, by go_num, by omega, by have := hf.out; show _ = _; omega, hbw.out⟩
      | false =>
        go_wp2_with fail
        refine start_ (n := 23) (S := PlS wr.heap.size gb (ob + i * 7) ⟨false, ⟨Ak, e.k.length, ck, Ad, e.d.length, cd, e⟩⟩ ⟨false, ⟨Bk, e.k.length, dk, Bd, e.d.length, dd, e⟩⟩) (ds := []) #[ff,ff,ff,ff,ff,ff,ff,ff,ff,ff,ff,ff,ff,ff,ff,ff,ff,ff,ff,ff,ff,ff,ff] (by kernel_rfl) rfl rfl (⟨hg6.out, hgb.out⟩) (fun hHeld => ?_)
        generalize wr.heap.size = g6 at *
        replace hbw := Lib.hid ((hbw.out.alloc hbw.out.size (.cells #[.bool false, .slice Ak e.k.length ck, .int .u64 e.v, .int .u8 e.m, .int .u8 e.u, .int .u64 e.x, .slice Ad e.d.length cd] 47)).drew)
        replace hpk : Hid (Sl (wr.alloc (.cells #[.bool false, .slice Ak e.k.length ck, .int .u64 e.v, .int .u8 e.m, .int .u8 e.u, .int .u64 e.x, .slice Ad e.d.length cd] 47)).drew Ak e.k.length (nums .u8 e.k)) := hpk.out.alloc _
        replace hpd : Hid (Sl (wr.alloc (.cells #[.bool false, .slice Ak e.k.length ck, .int .u64 e.v, .int .u8 e.m, .int .u8 e.u, .int .u64 e.x, .slice Ad e.d.length cd] 47)).drew Ad e.d.length (nums .u8 e.d)) := hpd.out.alloc _
        replace hqk : Hid (Sl (wr.alloc (.cells #[.bool false, .slice Ak e.k.length ck, .int .u64 e.v, .int .u8 e.m, .int .u8 e.u, .int .u64 e.x, .slice Ad e.d.length cd] 47)).drew Bk e.k.length (nums .u8 e.k)) := hqk.out.alloc _
        replace hqd : Hid (Sl (wr.alloc (.cells #[.bool false, .slice Ak e.k.length ck, .int .u64 e.v, .int .u8 e.m, .int .u8 e.u, .int .u64 e.x, .slice Ad e.d.length cd] 47)).drew Bd e.d.length (nums .u8 e.d)) := hqd.out.alloc _
        clear hg6 hgb
        generalize (wr.alloc (.cells #[.bool false, .slice Ak e.k.length ck, .int .u64 e.v, .int .u8 e.m, .int .u8 e.u, .int .u64 e.x, .slice Ad e.d.length cd] 47)).drew = wd at *
        refine pure_ (i := 0) (N := some 19) (v := ?_) (a' := ?_) #[tt,ff,ff,ff,ff,ff,ff,ff,ff,ff,ff,ff,ff,ff,ff,ff,ff,ff,ff,ff,ff,ff,ff] rfl rfl (by kernel_rfl) (fun _ _ _ h => h) (Or.inl ⟨by rfl, ?_⟩) ?_ ?_; rotate_left; (intro w'; go_simp; with_reducible rfl); rotate_left; (simp only [Act.put, List.setIfInBounds_toArray, List.set_cons_zero, List.set_cons_succ, i64_w, i32_w]; rfl)
        refine pure_ (i := 2) (N := some 21) (v := ?_) (a' := ?_) #[tt,ff,tt,ff,ff,ff,ff,ff,ff,ff,ff,ff,ff,ff,ff,ff,ff,ff,ff,ff,ff,ff,ff] rfl rfl (by kernel_rfl) (fun _ _ _ h => h) (Or.inl ⟨by rfl, ?_⟩) ?_ ?_; rotate_left; (intro w'; go_simp; with_reducible rfl); rotate_left; (simp only [Act.put, List.setIfInBounds_toArray, List.set_cons_zero, List.set_cons_succ, i64_w, i32_w]; rfl)
        refine pure_ (i := 3) (N := some 22) (v := ?_) (a' := ?_) #[tt,ff,tt,tt,ff,ff,ff,ff,ff,ff,ff,ff,ff,ff,ff,ff,ff,ff,ff,ff,ff,ff,ff] rfl rfl (by kernel_rfl) (fun _ _ _ h => h) (Or.inl ⟨by rfl, ?_⟩) ?_ ?_; rotate_left; (intro w'; go_simp; with_reducible rfl); rotate_left; (simp only [Act.put, List.setIfInBounds_toArray, List.set_cons_zero, List.set_cons_succ, i64_w, i32_w]; rfl)
        refine pure_ (i := 4) (N := some 23) (v := ?_) (a' := ?_) #[tt,ff,tt,tt,tt,ff,ff,ff,ff,ff,ff,ff,ff,ff,ff,ff,ff,ff,ff,ff,ff,ff,ff] rfl rfl (by kernel_rfl) (fun _ _ _ h => h) (Or.inl ⟨by rfl, ?_⟩) ?_ ?_; rotate_left; (intro w'; go_simp; with_reducible rfl); rotate_left; (simp only [Act.put, List.setIfInBounds_toArray, List.set_cons_zero, List.set_cons_succ, i64_w, i32_w]; rfl)
        refine pure_ (i := 5) (N := some 24) (v := ?_) (a' := ?_) #[tt,ff,tt,tt,tt,tt,ff,ff,ff,ff,ff,ff,ff,ff,ff,ff,ff,ff,ff,ff,ff,ff,ff] rfl rfl (by kernel_rfl) (fun _ _ _ h => h) (Or.inl ⟨by rfl, ?_⟩) ?_ ?_; rotate_left; (intro w'; go_simp; with_reducible rfl); rotate_left; (simp only [Act.put, List.setIfInBounds_toArray, List.set_cons_zero, List.set_cons_succ, i64_w, i32_w]; rfl)
        refine take_ (i := 1) (N := some 20) (v := ?_) (a' := ?_) #[tt,tt,tt,tt,tt,tt,ff,ff,ff,ff,ff,ff,ff,ff,ff,ff,ff,ff,ff,ff,ff,ff,ff] rfl rfl (by kernel_rfl) (fun _ _ _ h => h) (Or.inl ⟨by rfl, ?_⟩) hHeld ?_ ?_; rotate_left; (rintro w' ⟨⟨h0, h1, h2, h3, h4, h5, h6⟩, ⟨k0, k1, k2, k3, k4, k5, k6⟩⟩; go_simp; with_reducible rfl); rotate_left; (simp only [Act.put, List.setIfInBounds_toArray, List.set_cons_zero, List.set_cons_succ, i64_w, i32_w]; rfl)
        refine take_ (i := 6) (N := some 25) (v := ?_) (a' := ?_) #[tt,tt,tt,tt,tt,tt,tt,ff,ff,ff,ff,ff,ff,ff,ff,ff,ff,ff,ff,ff,ff,ff,ff] rfl rfl (by kernel_rfl) (fun _ _ _ h => h) (Or.inl ⟨by rfl, ?_⟩) hHeld ?_ ?_; rotate_left; (rintro w' ⟨⟨h0, h1, h2, h3, h4, h5, h6⟩, ⟨k0, k1, k2, k3, k4, k5, k6⟩⟩; go_simp; with_reducible rfl); rotate_left; (simp only [Act.put, List.setIfInBounds_toArray, List.set_cons_zero, List.set_cons_succ, i64_w, i32_w]; rfl)
        refine pure_ (i := 7) (N := some 26) (v := ?_) (a' := ?_) #[tt,tt,tt,tt,tt,tt,tt,tt,ff,ff,ff,ff,ff,ff,ff,ff,ff,ff,ff,ff,ff,ff,ff] rfl rfl (by kernel_rfl) (fun _ _ _ h => h) (Or.inl ⟨by rfl, ?_⟩) ?_ ?_; rotate_left; (intro w'; go_simp; with_reducible rfl); rotate_left; (simp only [Act.put, List.setIfInBounds_toArray, List.set_cons_zero, List.set_cons_succ, i64_w, i32_w]; rfl)
        refine pure_ (i := 8) (N := some 27) (v := ?_) (a' := ?_) #[tt,tt,tt,tt,tt,tt,tt,tt,tt,ff,ff,ff,ff,ff,ff,ff,ff,ff,ff,ff,ff,ff,ff] rfl rfl (by kernel_rfl) (fun _ _ _ h => h) (Or.inl ⟨by rfl, ?_⟩) ?_ ?_; rotate_left; (intro w'; go_simp; with_reducible rfl); rotate_left; (simp only [Act.put, List.setIfInBounds_toArray, List.set_cons_zero, List.set_cons_succ, i64_w, i32_w]; rfl)
        refine pure_ (i := 9) (N := some 28) (v := ?_) (a' := ?_) #[tt,tt,tt,tt,tt,tt,tt,tt,tt,tt,ff,ff,ff,ff,ff,ff,ff,ff,ff,ff,ff,ff,ff] rfl rfl (by kernel_rfl) (fun _ _ _ h => h) (Or.inl ⟨by rfl, ?_⟩) ?_ ?_; rotate_left; (intro w'; go_simp; with_reducible rfl); rotate_left; (simp only [Act.put, List.setIfInBounds_toArray, List.set_cons_zero, List.set_cons_succ, i64_w, i32_w]; rfl)
        refine take_ (i := 10) (N := some 29) (v := ?_) (a' := ?_) #[tt,tt,tt,tt,tt,tt,tt,tt,tt,tt,tt,ff,ff,ff,ff,ff,ff,ff,ff,ff,ff,ff,ff] rfl rfl (by kernel_rfl) (fun _ _ _ h => h) (Or.inl ⟨by rfl, ?_⟩) hHeld ?_ ?_; rotate_left; (rintro w' ⟨⟨h0, h1, h2, h3, h4, h5, h6⟩, ⟨k0, k1, k2, k3, k4, k5, k6⟩⟩; go_simp; with_reducible rfl); rotate_left; (simp only [Act.put, List.setIfInBounds_toArray, List.set_cons_zero, List.set_cons_succ, i64_w, i32_w]; rfl)
        refine pure_ (i := 11) (N := some 30) (v := ?_) (a' := ?_) #[tt,tt,tt,tt,tt,tt,tt,tt,tt,tt,tt,tt,ff,ff,ff,ff,ff,ff,ff,ff,ff,ff,ff] rfl rfl (by kernel_rfl) (fun _ _ _ h => h) (Or.inl ⟨by rfl, ?_⟩) ?_ ?_; rotate_left; (intro w'; go_simp; with_reducible rfl); rotate_left; (simp only [Act.put, List.setIfInBounds_toArray, List.set_cons_zero, List.set_cons_succ, i64_w, i32_w]; rfl)
        refine pure_ (i := 12) (N := some 31) (v := undef) (a' := ?_) #[tt,tt,tt,tt,tt,tt,tt,tt,tt,tt,tt,tt,tt,ff,ff,ff,ff,ff,ff,ff,ff,ff,ff] rfl rfl (by kernel_rfl) (fun _ _ _ h => h) (Or.inr ⟨by rfl, rfl⟩) ?_ ?_; rotate_left; (simp only [Act.put, List.setIfInBounds_toArray, List.set_cons_zero, List.set_cons_succ, i64_w, i32_w]; rfl)
        refine pure_ (i := 13) (N := some 32) (v := undef) (a' := ?_) #[tt,tt,tt,tt,tt,tt,tt,tt,tt,tt,tt,tt,tt,tt,ff,ff,ff,ff,ff,ff,ff,ff,ff] rfl rfl (by kernel_rfl) (fun _ _ _ h => h) (Or.inr ⟨by rfl, rfl⟩) ?_ ?_; rotate_left; (simp only [Act.put, List.setIfInBounds_toArray, List.set_cons_zero, List.set_cons_succ, i64_w, i32_w]; rfl)
        refine pure_ (i := 14) (N := some 33) (v := undef) (a' := ?_) #[tt,tt,tt,tt,tt,tt,tt,tt,tt,tt,tt,tt,tt,tt,tt,ff,ff,ff,ff,ff,ff,ff,ff] rfl rfl (by kernel_rfl) (fun _ _ _ h => h) (Or.inr ⟨by rfl, rfl⟩) ?_ ?_; rotate_left; (simp only [Act.put, List.setIfInBounds_toArray, List.set_cons_zero, List.set_cons_succ, i64_w, i32_w]; rfl)
        refine pure_ (i := 15) (N := some 34) (v := undef) (a' := ?_) #[tt,tt,tt,tt,tt,tt,tt,tt,tt,tt,tt,tt,tt,tt,tt,tt,ff,ff,ff,ff,ff,ff,ff] rfl rfl (by kernel_rfl) (fun _ _ _ h => h) (Or.inr ⟨by rfl, rfl⟩) ?_ ?_; rotate_left; (simp only [Act.put, List.setIfInBounds_toArray, List.set_cons_zero, List.set_cons_succ, i64_w, i32_w]; rfl)
        refine pure_ (i := 16) (N := some 35) (v := undef) (a' := ?_) #[tt,tt,tt,tt,tt,tt,tt,tt,tt,tt,tt,tt,tt,tt,tt,tt,tt,ff,ff,ff,ff,ff,ff] rfl rfl (by kernel_rfl) (fun _ _ _ h => h) (Or.inr ⟨by rfl, rfl⟩) ?_ ?_; rotate_left; (simp only [Act.put, List.setIfInBounds_toArray, List.set_cons_zero, List.set_cons_succ, i64_w, i32_w]; rfl)
        refine pure_ (i := 17) (N := some 36) (v := undef) (a' := ?_) #[tt,tt,tt,tt,tt,tt,tt,tt,tt,tt,tt,tt,tt,tt,tt,tt,tt,tt,ff,ff,ff,ff,ff] rfl rfl (by kernel_rfl) (fun _ _ _ h => h) (Or.inr ⟨by rfl, rfl⟩) ?_ ?_; rotate_left; (simp only [Act.put, List.setIfInBounds_toArray, List.set_cons_zero, List.set_cons_succ, i64_w, i32_w]; rfl)
        refine pure_ (i := 18) (N := some 37) (v := undef) (a' := ?_) #[tt,tt,tt,tt,tt,tt,tt,tt,tt,tt,tt,tt,tt,tt,tt,tt,tt,tt,tt,ff,ff,ff,ff] rfl rfl (by kernel_rfl) (fun _ _ _ h => h) (Or.inr ⟨by rfl, rfl⟩) ?_ ?_; rotate_left; (simp only [Act.put, List.setIfInBounds_toArray, List.set_cons_zero, List.set_cons_succ, i64_w, i32_w]; rfl)
        refine pure_ (i := 19) (N := some 38) (v := undef) (a' := ?_) #[tt,tt,tt,tt,tt,tt,tt,tt,tt,tt,tt,tt,tt,tt,tt,tt,tt,tt,tt,tt,ff,ff,ff] rfl rfl (by kernel_rfl) (fun _ _ _ h => h) (Or.inr ⟨by rfl, rfl⟩) ?_ ?_; rotate_left; (simp only [Act.put, List.setIfInBounds_toArray, List.set_cons_zero, List.set_cons_succ, i64_w, i32_w]; rfl)
        refine pure_ (i := 20) (N := some 39) (v := undef) (a' := ?_) #[tt,tt,tt,tt,tt,tt,tt,tt,tt,tt,tt,tt,tt,tt,tt,tt,tt,tt,tt,tt,tt,ff,ff] rfl rfl (by kernel_rfl) (fun _ _ _ h => h) (Or.inr ⟨by rfl, rfl⟩) ?_ ?_; rotate_left; (simp only [Act.put, List.setIfInBounds_toArray, List.set_cons_zero, List.set_cons_succ, i64_w, i32_w]; rfl)
        refine pure_ (i := 21) (N := some 40) (v := ?_) (a' := ?_) #[tt,tt,tt,tt,tt,tt,tt,tt,tt,tt,tt,tt,tt,tt,tt,tt,tt,tt,tt,tt,tt,tt,ff] rfl rfl (by kernel_rfl) (fun _ _ _ h => h) (Or.inl ⟨by rfl, ?_⟩) ?_ ?_; rotate_left; (intro w'; go_simp; with_reducible rfl); rotate_left; (simp only [Act.put, List.setIfInBounds_toArray, List.set_cons_zero, List.set_cons_succ, i64_w, i32_w]; rfl)
        refine pure_ (i := 22) (N := some 41) (v := ?_) (a' := ?_) #[tt,tt,tt,tt,tt,tt,tt,tt,tt,tt,tt,tt,tt,tt,tt,tt,tt,tt,tt,tt,tt,tt,tt] rfl rfl (by kernel_rfl) (fun _ _ _ h => h) (Or.inl ⟨by rfl, ?_⟩) ?_ ?_; rotate_left; (intro w'; go_simp; with_reducible rfl); rotate_left; (simp only [Act.put, List.setIfInBounds_toArray, List.set_cons_zero, List.set_cons_succ, i64_w, i32_w]; rfl)
        refine done_ (by kernel_rfl) ?_
        go_wp2
        go_roundg gkO
        case measure => omega
        case rel => exact ⟨i + 1, by go_num, by omega, by have := hf.out; show _ = _; omega, hbw.out⟩
    · have hge : ¬ ((i : Int) < (n : Int)) := by omega
      go_wp2
      go_ret
      exact ⟨rfl, hbw.out⟩
end Go.Proofs.YtegaigpolhdicaaGreat
