/- Entries of lists, as a table's. -/
import Derived.Test.YtegaigpolhdicaaGreatAC
import Derived.Test.YtegaigpolhdicaaGreatTB
import Derived.Test.YtegaigpolhdicaaGreatE4
import Derived.Test.YtegaigpolhdicaaGreatPB
namespace Go.Proofs.YtegaigpolhdicaaGreat
open Go.Proofs.YtegaigpolhdicaaGreatW.PrintLast
open Go.RowKit
set_option linter.unusedVariables false
set_option linter.unusedSimpArgs false
/-- append of whatever slice of elements of sz cells. -/
theorem run_append_sz {P : Program} (w : World) (base t ty e sz bytes : Nat) (z : Value) (hu : P.underlying t = some (.slice e)) (hinfo : (P.info? e).map (fun i => (i.zero, i.size, i.bytes)) = some (some z, sz, bytes)) (hz : z.cells.size = sz) (hs0 : 0 < sz) (hb0 : 0 < bytes) (hb1 : bytes ≤ 1000) (v : Value) (n : Nat) (xs : List Value) (hown : w.ownsRow base e sz v n xs)
    (A : Option Addr) (m c : Nat) (news : List Value) (hr : Sl w A (m * sz) news) (h1 : ∀ u ∈ news, u.oneCell' = true) (hb : n + m ≤ 1000000000) (hbase : base ≤ w.heap.size) :
    ∃ v' w', (Builtin.append_ #[t, t] ty #[v, .slice A m c]).run P w = .ok v' w' ∧ w'.ownsRow base e sz v' (n + m) (xs ++ news) ∧ w.grownBy w' v.ownBlock ∧ (v'.ownBlock = v.ownBlock ∨ v'.ownBlock = some w.heap.size) := by
  obtain ⟨i, hi, hz0, hz1, hz2⟩ := info_parts hinfo
  rcases Nat.eq_zero_or_pos m with h0 | h0
  · subst h0
    have hn : news = [] := List.eq_nil_of_length_eq_zero (by have := hr.1; omega)
    subst hn
    exact ⟨v, w, run_append_nothing w base t ty e i sz hu hi v n xs hown A c (by cases A <;> simp), by simpa using hown, World.grownBy.refl w _, .inl rfl⟩
  · obtain ⟨g, o, rfl, hc⟩ := hr.2 (Nat.mul_pos h0 hs0)
    obtain ⟨v', w', hrun, h2, h3, _, h5⟩ := run_append_own_at (P := P) w base t ty e i z sz bytes hu hi hz0 hz1 hz2 hz (by omega) v n xs hown ⟨g, o, none⟩ m c news (by rw [hr.1])
      (Sl.adds ⟨hr.1, fun _ => ⟨g, o, rfl, hc⟩⟩) h1 (by simp only [maxLen]; omega) (Nat.le_trans (Nat.mul_le_mul hb hb1) (by decide)) hbase
    exact ⟨v', w', hrun, h2, h3, h5⟩
theorem wpList_append_sz {P : Program} {w : World} {ops : Array Oper} {rest : List Oper} {o : Oper} {a : Act} {Q : Exit → Act → World → Prop} (hgd : o.guard = none) (s x : Operand) (t : Nat)
    (ho : o.op = .call { callee := .builtin .append, args := #[s, x], argTypes := #[t, t] })
    (base e sz bytes : Nat) (z : Value) (hu : P.underlying t = some (.slice e)) (hinfo : (P.info? e).map (fun i => (i.zero, i.size, i.bytes)) = some (some z, sz, bytes)) (hz : z.cells.size = sz) (hs0 : 0 < sz) (hb0 : 0 < bytes) (hb1 : bytes ≤ 1000)
    (v : Value) (n : Nat) (xs : List Value) (hs : a.eval s = v) (hown : w.ownsRow base e sz v n xs)
    (A : Option Addr) (m c : Nat) (news : List Value) (hx : a.eval x = .slice A m c) (hr : Sl w A (m * sz) news) (h1 : ∀ u ∈ news, u.oneCell' = true) (hb : n + m ≤ 1000000000) (hbase : base ≤ w.heap.size)
    (h : ∀ v' w', w'.ownsRow base e sz v' (n + m) (xs ++ news) → w.grownBy w' v.ownBlock → (v'.ownBlock = v.ownBlock ∨ v'.ownBlock = some w.heap.size) → wpList P ops Q rest (a.put o.dst v') w') : wpList P ops Q (o :: rest) a w := by
  refine wpList_plain hgd fun K hK => ?_
  obtain ⟨v', w', hrun, h2, h3, h4⟩ := run_append_sz (P := P) w base t o.type e sz bytes z hu hinfo hz hs0 hb0 hb1 v n xs hown A m c news hr h1 hb hbase
  unfold Oper.wp execOp
  simp only [ho, resolve, invoke, builtin, Sem.run_bind, Sem.run_pure, Result.andThen_ok, List.map_toArray, List.map_cons, List.map_nil, hs, hx, hrun]
  exact hK _ _ (h v' w' h2 h3 h4)
theorem own_szS {w : World} {base e sz n : Nat} {v : Value} {xs : List Value} (h : w.ownsRow base e sz v n xs) : ∃ A c, v = .slice A n c ∧ n ≤ c ∧ Sl w A (n * sz) xs ∧ ∀ b o, A = some ⟨b, o, none⟩ → 0 < n → base ≤ b ∧ ∃ cs, Blk w b e cs := by
  have hlt := h.lt
  obtain ⟨hl, h2⟩ := h
  rcases h2 with ⟨rfl, rfl⟩ | ⟨g, cap, cur, rfl, hg, hh, hnc, hcm, hcs, ht⟩
  · exact ⟨none, 0, rfl, Nat.le_refl _, ⟨by simpa using hl, fun h => absurd h (by simp)⟩, fun b o e => by cases e⟩
  · refine ⟨some ⟨g, 0, none⟩, cap, rfl, hnc, ⟨by simpa using hl, fun _ => ⟨g, 0, rfl, fun j u hu => ?_⟩⟩, fun b o e hn => by
      injection e with e
      injection e with e1 e2
      subst e1
      exact ⟨hg, cur.toList, by unfold Blk; rw [Array.toArray_toList]; exact hh⟩⟩
    have h0 : w.ownsRow base e sz (.slice (some ⟨g, 0, none⟩) n cap) n xs := ⟨hl, .inr ⟨g, cap, cur, rfl, hg, hh, hnc, hcm, hcs, ht⟩⟩
    have hj : j < n * sz := by have := (List.getElem?_eq_some_iff.1 hu).1; omega
    rw [Nat.zero_add, h0.cellAt j hj]
    exact hu
theorem infoTE : (Tryz.prog.info? 68).map (fun i => (i.zero, i.size, i.bytes)) = some (some (.agg #[.slice none 0 0, .int .u8 0, .int .u8 0, .int .u64 0, .slice none 0 0, .int .u64 0]), 6, 72) := by kernel_rfl
/-- An entry of a table that has been made behind B. -/
structure TeB (B : Nat) (w : World) (q : ER) : Prop where
  in_ : q.TIn w
  key : SlB B w q.Ak q.nk
  dat : SlB B w q.Ad q.nd
theorem ER.TIn.below {w w' : World} {r : ER} (h : r.TIn w) (hb : Below w.heap.size w w') : r.TIn w' := ⟨h.key.below hb, h.dat.below hb, h.hk, h.hd⟩
theorem SlB.below {B n : Nat} {w w' : World} {A : Option Addr} (h : SlB B w A n) (hb : Below w.heap.size w w') : SlB B w' A n := h.frm (Frm.of_below hb) (fun i hi => by cases hi)
theorem SlB.mono {B C n : Nat} {w : World} {A : Option Addr} (h : SlB C w A n) (hB : B ≤ C) : SlB B w A n := fun b o e hn => ⟨Nat.le_trans hB (h b o e hn).1, (h b o e hn).2⟩
theorem TeB.below {B : Nat} {w w' : World} {q : ER} (h : TeB B w q) (hb : Below w.heap.size w w') : TeB B w' q := ⟨h.in_.below hb, h.key.below hb, h.dat.below hb⟩
theorem TeB.mono {B C : Nat} {w : World} {q : ER} (h : TeB C w q) (hB : B ≤ C) : TeB B w q := ⟨h.in_, h.key.mono hB, h.dat.mono hB⟩
def GivP (r : ER) (w : World) (E : Ending) (w' : World) : Prop := ∃ q : ER, E = .returned (.agg q.tcells.toArray) ∧ q.e = r.e ∧ TeB w.heap.size w' q ∧ Below w.heap.size w w'
theorem frm6 (w : World) (b : Nat) (v0 v1 v2 v3 v4 v5 : Value) : Frm [b] w ((((((w.setCell ⟨b, 0, none⟩ v0).setCell ⟨b, 1, none⟩ v1).setCell ⟨b, 2, none⟩ v2).setCell ⟨b, 3, none⟩ v3).setCell ⟨b, 4, none⟩ v4).setCell ⟨b, 5, none⟩ v5) :=
  ((((((Frm.refl [b] w).andSet _ _ (.inl (by simp))).andSet _ _ (.inl (by simp))).andSet _ _ (.inl (by simp))).andSet _ _ (.inl (by simp))).andSet _ _ (.inl (by simp))).andSet _ _ (.inl (by simp))
def zeroTE : Obj := .cells #[.slice none 0 0, .int .u8 0, .int .u8 0, .int .u64 0, .slice none 0 0, .int .u64 0] 68
def boxE (r : ER) : Obj := .cells r.cells.toArray 44
set_option maxRecDepth 100000 in
set_option maxHeartbeats 4000000 in
theorem givenEntry_any (r : ER) (w : World) (h : r.In w) (ok : EntOk r.e) :
    Calls Tryz.prog 25 #[.agg #[.slice r.Ak r.nk r.ck, .int .u64 r.e.v, .int .u8 r.e.m, .int .u8 r.e.u, .int .u64 r.e.x, .slice r.Ad r.nd r.cd]] w (GivP r w) := by
  have hnk : r.nk = r.e.k.length := by have := h.key.1; rw [nums_length] at this; omega
  have hnd : r.nd = r.e.d.length := by have := h.dat.1; rw [nums_length] at this; omega
  obtain ⟨Ak, nk, ck, Ad, nd, cd, e⟩ := r
  replace hnk : nk = e.k.length := hnk
  replace hnd : nd = e.d.length := hnd
  subst hnk hnd
  have hkl := ok.klen
  have hdl := ok.dlen
  have hv0 := ok.v0
  have HE := Lib.hid ok
  have HRI := Lib.hid ((h.alloc (boxE ⟨Ak, e.k.length, ck, Ad, e.d.length, cd, e⟩)).alloc zeroTE)
  have hs1 : (w.alloc (boxE ⟨Ak, e.k.length, ck, Ad, e.d.length, cd, e⟩)).heap.size = w.heap.size + 1 := World.size_alloc _ _
  have HBX : Hid (Blk ((w.alloc (boxE ⟨Ak, e.k.length, ck, Ad, e.d.length, cd, e⟩)).alloc zeroTE) w.heap.size 44 (ER.cells ⟨Ak, e.k.length, ck, Ad, e.d.length, cd, e⟩)) := (Blk.new w _ _).alloc _
  have HZ : Hid (Blk ((w.alloc (boxE ⟨Ak, e.k.length, ck, Ad, e.d.length, cd, e⟩)).alloc zeroTE) (w.heap.size + 1) 68 [.slice none 0 0, .int .u8 0, .int .u8 0, .int .u64 0, .slice none 0 0, .int .u64 0]) := by
    have := Blk.new (w.alloc (boxE ⟨Ak, e.k.length, ck, Ad, e.d.length, cd, e⟩)) 68 [.slice none 0 0, .int .u8 0, .int .u8 0, .int .u64 0, .slice none 0 0, .int .u64 0]
    rw [hs1] at this
    exact this
  have HB : Hid (Below w.heap.size w ((w.alloc (boxE ⟨Ak, e.k.length, ck, Ad, e.d.length, cd, e⟩)).alloc zeroTE)) := ((Below.refl w.heap.size w).alloc (Nat.le_refl _) _).alloc (by rw [World.size_alloc]; omega) _
  have HSZ : Hid (((w.alloc (boxE ⟨Ak, e.k.length, ck, Ad, e.d.length, cd, e⟩)).alloc zeroTE).heap.size = w.heap.size + 2) := by show _ = _; rw [World.size_alloc, World.size_alloc]
  clear h ok
  go_enter Tryz.func25, Tryz.ntmps25
  go_wp2_with fail
  rw [show (Obj.cells #[.slice Ak e.k.length ck, .int .u64 e.v, .int .u8 e.m, .int .u8 e.u, .int .u64 e.x, .slice Ad e.d.length cd] 44) = boxE ⟨Ak, e.k.length, ck, Ad, e.d.length, cd, e⟩ from rfl, show (Obj.cells #[.slice none 0 0, .int .u8 0, .int .u8 0, .int .u64 0, .slice none 0 0, .int .u64 0] 68) = zeroTE from rfl]
  clear hs1
  generalize (w.alloc (boxE ⟨Ak, e.k.length, ck, Ad, e.d.length, cd, e⟩)).alloc zeroTE = w0 at *
  have e0 : w0.cell? ⟨w.heap.size, 0, none⟩ = some (.slice Ak e.k.length ck) := HBX.out.at_ (i := 0) rfl
  have e1 : w0.cell? ⟨w.heap.size, 1, none⟩ = some (.int .u64 e.v) := HBX.out.at_ (i := 1) rfl
  have e2 : w0.cell? ⟨w.heap.size, 2, none⟩ = some (.int .u8 e.m) := HBX.out.at_ (i := 2) rfl
  have e3 : w0.cell? ⟨w.heap.size, 3, none⟩ = some (.int .u8 e.u) := HBX.out.at_ (i := 3) rfl
  have e4 : w0.cell? ⟨w.heap.size, 4, none⟩ = some (.int .u64 e.x) := HBX.out.at_ (i := 4) rfl
  have e5 : w0.cell? ⟨w.heap.size, 5, none⟩ = some (.slice Ad e.d.length cd) := HBX.out.at_ (i := 5) rfl
  clear HBX
  refine start_ (n := 11) (S := fun w' => w'.cell? ⟨w.heap.size, 0, none⟩ = some (.slice Ak e.k.length ck) ∧ w'.cell? ⟨w.heap.size, 1, none⟩ = some (.int .u64 e.v) ∧ w'.cell? ⟨w.heap.size, 2, none⟩ = some (.int .u8 e.m) ∧ w'.cell? ⟨w.heap.size, 3, none⟩ = some (.int .u8 e.u) ∧ w'.cell? ⟨w.heap.size, 4, none⟩ = some (.int .u64 e.x) ∧ w'.cell? ⟨w.heap.size, 5, none⟩ = some (.slice Ad e.d.length cd)) (ds := [10]) #[ff,ff,ff,ff,ff,ff,ff,ff,ff,ff,ff] (by kernel_rfl) rfl rfl (⟨e0, e1, e2, e3, e4, e5⟩) (fun hHeld => ?_)
  have hri : Hid (Sl w0.drew Ak e.k.length (nums .u8 e.k) ∧ Sl w0.drew Ad e.d.length (nums .u8 e.d) ∧ e.k.length ≤ ck ∧ e.d.length ≤ cd) := ⟨HRI.out.key, HRI.out.dat, HRI.out.hk, HRI.out.hd⟩
  have hz : Hid (Blk w0.drew (w.heap.size + 1) 68 [.slice none 0 0, .int .u8 0, .int .u8 0, .int .u64 0, .slice none 0 0, .int .u64 0]) := HZ.out
  have hb : Hid (Below w.heap.size w w0.drew) := HB.out.drew
  have hsz : Hid (w0.drew.heap.size = w.heap.size + 2) := HSZ.out
  clear HRI HZ HB HSZ e0 e1 e2 e3 e4 e5
  generalize w0.drew = wd at *
  refine pure_ (i := 0) (N := some 3) (v := ?_) (a' := ?_) #[tt,ff,ff,ff,ff,ff,ff,ff,ff,ff,ff] rfl rfl (by kernel_rfl) (fun _ _ _ h => h) (Or.inl ⟨by rfl, ?_⟩) ?_ ?_; rotate_left; (intro w'; go_simp; with_reducible rfl); rotate_left; (simp only [Act.put, List.setIfInBounds_toArray, List.set_cons_zero, List.set_cons_succ, i64_w, i32_w]; rfl)
  refine take_ (i := 1) (N := some 4) (v := ?_) (a' := ?_) #[tt,tt,ff,ff,ff,ff,ff,ff,ff,ff,ff] rfl rfl (by kernel_rfl) (fun _ _ _ h => h) (Or.inl ⟨by rfl, ?_⟩) hHeld ?_ ?_; rotate_left; (rintro w' ⟨d0, d1, d2, d3, d4, d5⟩; go_simp; with_reducible rfl); rotate_left; (simp only [Act.put, List.setIfInBounds_toArray, List.set_cons_zero, List.set_cons_succ, i64_w, i32_w]; rfl)
  refine pure_ (i := 3) (N := some 6) (v := ?_) (a' := ?_) #[tt,tt,ff,tt,ff,ff,ff,ff,ff,ff,ff] rfl rfl (by kernel_rfl) (fun _ _ _ h => h) (Or.inl ⟨by rfl, ?_⟩) ?_ ?_; rotate_left; (intro w'; go_simp; with_reducible rfl); rotate_left; (simp only [Act.put, List.setIfInBounds_toArray, List.set_cons_zero, List.set_cons_succ, i64_w, i32_w]; rfl)
  refine take_ (i := 4) (N := some 7) (v := ?_) (a' := ?_) #[tt,tt,ff,tt,tt,ff,ff,ff,ff,ff,ff] rfl rfl (by kernel_rfl) (fun _ _ _ h => h) (Or.inl ⟨by rfl, ?_⟩) hHeld ?_ ?_; rotate_left; (rintro w' ⟨d0, d1, d2, d3, d4, d5⟩; go_simp; with_reducible rfl); rotate_left; (simp only [Act.put, List.setIfInBounds_toArray, List.set_cons_zero, List.set_cons_succ, i64_w, i32_w]; rfl)
  refine pure_ (i := 6) (N := some 9) (v := ?_) (a' := ?_) #[tt,tt,ff,tt,tt,ff,tt,ff,ff,ff,ff] rfl rfl (by kernel_rfl) (fun _ _ _ h => h) (Or.inl ⟨by rfl, ?_⟩) ?_ ?_; rotate_left; (intro w'; go_simp; with_reducible rfl); rotate_left; (simp only [Act.put, List.setIfInBounds_toArray, List.set_cons_zero, List.set_cons_succ, i64_w, i32_w]; rfl)
  refine take_ (i := 7) (N := some 10) (v := ?_) (a' := ?_) #[tt,tt,ff,tt,tt,ff,tt,tt,ff,ff,ff] rfl rfl (by kernel_rfl) (fun _ _ _ h => h) (Or.inl ⟨by rfl, ?_⟩) hHeld ?_ ?_; rotate_left; (rintro w' ⟨d0, d1, d2, d3, d4, d5⟩; go_simp; with_reducible rfl); rotate_left; (simp only [Act.put, List.setIfInBounds_toArray, List.set_cons_zero, List.set_cons_succ, i64_w, i32_w]; rfl)
  refine one_ (i := 2) (N := some 5) #[tt,tt,tt,tt,tt,ff,tt,tt,ff,ff,ff] rfl rfl (by kernel_rfl) (by decide) (fun K hK => ?_); refine goes_ Tryz.func27 (by kernel_rfl) rfl #[.slice Ak e.k.length ck] (by rfl) rfl rfl (by (try simp only [List.map_toArray, List.map_cons, List.map_nil]); first | done | rfl) ?_
  refine (own_any Ak e.k.length ck e.k wd hri.out.1 (by omega)).mono ?_
  intro E wx h2; obtain ⟨A2, c2, rfl, hc2, hs2, hb2, ho2⟩ := h2.sv; refine ⟨_, rfl, ?_⟩
  refine hK.out _ _ (six_bel hHeld hb2.out) (fun hHeld => ?_); clear hK K; refine norm_ (a' := ?_) ?_ ?_; rotate_left; (show Act.put _ (some 5) _ = _; simp only [Act.put, List.setIfInBounds_toArray, List.set_cons_zero, List.set_cons_succ, i64_w, i32_w]; rfl)
  replace hri : Hid (Sl wx Ad e.d.length (nums .u8 e.d) ∧ e.d.length ≤ cd) := ⟨hri.out.2.1.below hb2.out, hri.out.2.2.2⟩
  replace hz : Hid (Blk wx (w.heap.size + 1) 68 _) := hz.out.frm (Frm.of_below hb2.out) (by simp)
  replace hb : Hid (Below w.heap.size w wx) := hb.out.trans (hb2.out.mono hb.out.size)
  replace hsz : Hid (w.heap.size + 2 ≤ wx.heap.size) := by have h1 := hsz.out; have h2 := hb2.out.size; show _ ≤ _; omega
  clear h2 ho2 hb2
  refine one_ (i := 5) (N := some 8) #[tt,tt,tt,tt,tt,tt,tt,tt,ff,ff,ff] rfl rfl (by kernel_rfl) (by decide) (fun K hK => ?_); refine goes_ Tryz.func26 (by kernel_rfl) rfl #[.slice A2 e.k.length c2, .int .u64 e.v] (by rfl) rfl rfl (by (try simp only [List.map_toArray, List.map_cons, List.map_nil]); first | done | rfl) ?_
  refine (keyWithTs_any A2 e.k.length c2 e.k e.v wx hs2.out (by omega) hv0 HE.out.v1).mono ?_
  intro E wy h3; obtain ⟨A3, c3, rfl, hc3, hs3, hb3, ho3⟩ := h3.sv; refine ⟨_, rfl, ?_⟩
  refine hK.out _ _ (six_bel hHeld hb3.out) (fun hHeld => ?_); clear hK K; refine norm_ (a' := ?_) ?_ ?_; rotate_left; (show Act.put _ (some 8) _ = _; simp only [Act.put, List.setIfInBounds_toArray, List.set_cons_zero, List.set_cons_succ, i64_w, i32_w]; rfl)
  have hst3 : Hid (SlB w.heap.size wy A3 (keyB e.k e.v).length) := SlB.of_own ho3.out hb.out.size
  replace hri : Hid (Sl wy Ad e.d.length (nums .u8 e.d) ∧ e.d.length ≤ cd) := ⟨hri.out.1.below hb3.out, hri.out.2⟩
  replace hz : Hid (Blk wy (w.heap.size + 1) 68 _) := hz.out.frm (Frm.of_below hb3.out) (by simp)
  replace hb : Hid (Below w.heap.size w wy) := hb.out.trans (hb3.out.mono hb.out.size)
  replace hsz : Hid (w.heap.size + 2 ≤ wy.heap.size) := Nat.le_trans hsz.out hb3.out.size
  clear h3 ho3 hb3 hs2
  refine one_ (i := 8) (N := some 11) #[tt,tt,tt,tt,tt,tt,tt,tt,tt,ff,ff] rfl rfl (by kernel_rfl) (by decide) (fun K hK => ?_); refine goes_ Tryz.func32 (by kernel_rfl) rfl #[.agg #[.int .u8 e.m, .int .u8 e.u, .int .u64 e.x, .slice Ad e.d.length cd]] (by rfl) rfl rfl (by (try simp only [List.map_toArray, List.map_cons, List.map_nil]); first | done | rfl) ?_
  refine (structOf_any e.m e.u e.x Ad e.d.length cd e.d wy hri.out.1 hri.out.2 (by omega)).mono ?_
  rintro E wf ⟨v7, rfl, ho7, hb7⟩; obtain ⟨A7, c7, hv7, hc7, hs7⟩ := own_sl ho7; subst hv7; refine ⟨_, rfl, ?_⟩
  refine hK.out _ _ (six_bel hHeld hb7) (fun hHeld => ?_); clear hK K; refine norm_ (a' := ?_) ?_ ?_; rotate_left; (show Act.put _ (some 11) _ = _; simp only [Act.put, List.setIfInBounds_toArray, List.set_cons_zero, List.set_cons_succ, i64_w, i32_w]; rfl)
  have hst7 : Hid (SlB w.heap.size wf A7 e.d.length) := SlB.of_own ho7 hb.out.size
  have HS7 := Lib.hid hs7
  replace hst3 : Hid (SlB w.heap.size wf A3 (keyB e.k e.v).length) := hst3.out.below hb7
  replace hs3 : Hid (Sl wf A3 (keyB e.k e.v).length (nums .u8 (keyB e.k e.v))) := hs3.out.below hb7
  replace hz : Hid (Blk wf (w.heap.size + 1) 68 _) := hz.out.frm (Frm.of_below hb7) (by simp)
  replace hb : Hid (Below w.heap.size w wf) := hb.out.trans (hb7.mono hb.out.size)
  clear ho7 hs7 hb7 hri hHeld
  refine pure_ (i := 9) (N := some 12) (v := ?_) (a' := ?_) #[tt,tt,tt,tt,tt,tt,tt,tt,tt,tt,ff] rfl rfl (by kernel_rfl) (fun _ _ _ h => h) (Or.inl ⟨by rfl, ?_⟩) ?_ ?_; rotate_left; (intro w'; go_simp; with_reducible rfl); rotate_left; (simp only [Act.put, List.setIfInBounds_toArray, List.set_cons_zero, List.set_cons_succ, i64_w, i32_w]; rfl)
  have r0 := hz.out.at_ (i := 0) rfl
  have r1 := hz.out.at_ (i := 1) rfl
  have r2 := hz.out.at_ (i := 2) rfl
  have r3 := hz.out.at_ (i := 3) rfl
  have r4 := hz.out.at_ (i := 4) rfl
  have r5 := hz.out.at_ (i := 5) rfl
  have z0 := hz.out.frozen 0
  have z1 := hz.out.frozen 1
  have z2 := hz.out.frozen 2
  have z3 := hz.out.frozen 3
  have z4 := hz.out.frozen 4
  have z5 := hz.out.frozen 5
  refine last_ (i := 10) (N := none) #[tt,tt,tt,tt,tt,tt,tt,tt,tt,tt,tt] rfl rfl (by kernel_rfl) (by decide) (fun K hK => ?_)
  refine Go.Proofs.YtegaigpolhdicaaGreatW.PrintLast.skip_ (w1 := (((((wf.setCell ⟨w.heap.size + 1, 0, none⟩ (.slice A3 (keyB e.k e.v).length c3)).setCell ⟨w.heap.size + 1, 1, none⟩ (.int .u8 e.m)).setCell ⟨w.heap.size + 1, 2, none⟩ (.int .u8 e.u)).setCell ⟨w.heap.size + 1, 3, none⟩ (.int .u64 e.x)).setCell ⟨w.heap.size + 1, 4, none⟩ (.slice A7 e.d.length c7)).setCell ⟨w.heap.size + 1, 5, none⟩ (.int .u64 0)) (by rfl) rfl ?_ ?_
  · simp [go_sem, r0, r1, r2, r3, r4, r5, z0, z1, z2, z3, z4, z5]
  refine hK.out _ _ ?_; clear hK K
  refine done_ (by kernel_rfl) ?_
  have hf := frm6 wf (w.heap.size + 1) (.slice A3 (keyB e.k e.v).length c3) (.int .u8 e.m) (.int .u8 e.u) (.int .u64 e.x) (.slice A7 e.d.length c7) (.int .u64 0)
  have HQ : Hid (GivP ⟨Ak, e.k.length, ck, Ad, e.d.length, cd, e⟩ w (.returned (.agg #[.slice A3 (keyB e.k e.v).length c3, .int .u8 e.m, .int .u8 e.u, .int .u64 e.x, .slice A7 e.d.length c7, .int .u64 0])) ((((((wf.setCell ⟨w.heap.size + 1, 0, none⟩ (.slice A3 (keyB e.k e.v).length c3)).setCell ⟨w.heap.size + 1, 1, none⟩ (.int .u8 e.m)).setCell ⟨w.heap.size + 1, 2, none⟩ (.int .u8 e.u)).setCell ⟨w.heap.size + 1, 3, none⟩ (.int .u64 e.x)).setCell ⟨w.heap.size + 1, 4, none⟩ (.slice A7 e.d.length c7)).setCell ⟨w.heap.size + 1, 5, none⟩ (.int .u64 0))) := by
    refine ⟨⟨A3, (keyB e.k e.v).length, c3, A7, e.d.length, c7, e⟩, rfl, rfl, ⟨⟨hs3.out.over hst3.out hz.out (by decide) hf, HS7.out.over hst7.out hz.out (by decide) hf, hc3, hc7⟩, hst3.out.over hz.out (by decide) hf, hst7.out.over hz.out (by decide) hf⟩, ?_⟩
    exact hb.out.trans (hf.below (by have := hsz.out; have := hb.out.size; omega) (fun i hi => by rw [List.mem_singleton] at hi; omega))
  have hy := ((((((hz.out.set_ 0 (.slice A3 (keyB e.k e.v).length c3)).set_ 1 (.int .u8 e.m)).set_ 2 (.int .u8 e.u)).set_ 3 (.int .u64 e.x)).set_ 4 (.slice A7 e.d.length c7)).set_ 5 (.int .u64 0))
  clear hs3 hst3 HS7 hst7 hz hb hsz hf r0 r1 r2 r3 r4 r5 z0 z1 z2 z3 z4 z5
  generalize (((((wf.setCell ⟨w.heap.size + 1, 0, none⟩ (.slice A3 (keyB e.k e.v).length c3)).setCell ⟨w.heap.size + 1, 1, none⟩ (.int .u8 e.m)).setCell ⟨w.heap.size + 1, 2, none⟩ (.int .u8 e.u)).setCell ⟨w.heap.size + 1, 3, none⟩ (.int .u64 e.x)).setCell ⟨w.heap.size + 1, 4, none⟩ (.slice A7 e.d.length c7)).setCell ⟨w.heap.size + 1, 5, none⟩ (.int .u64 0) = we at *
  have r0 := hy.at_ (i := 0) rfl
  have r1 := hy.at_ (i := 1) rfl
  have r2 := hy.at_ (i := 2) rfl
  have r3 := hy.at_ (i := 3) rfl
  have r4 := hy.at_ (i := 4) rfl
  have r5 := hy.at_ (i := 5) rfl
  clear hy
  go_wp2
  refine bodyPost_ret (v := .agg #[.slice A3 (keyB e.k e.v).length c3, .int .u8 e.m, .int .u8 e.u, .int .u64 e.x, .slice A7 e.d.length c7, .int .u64 0]) (by simp [results, Tryz.results25, go_sem, r0, r1, r2, r3, r4, r5]) rfl ?_
  exact HQ.out
end Go.Proofs.YtegaigpolhdicaaGreat
