/- The law of Get: its walk. -/
import Derived.Test.YtanmgkpgfmkobaaTQ
import Derived.Lib.SlBytesConst
namespace Go.Proofs.Ytanmgkpgfmkobaa
open Go.RowKit Go.Proofs.YtanmgkpgfmkobaaQ.QT Go.Proofs.YtanmgkpgfmkobaaQ.Ext Go.Proofs.YtanmgkpgfmkobaaW.PrintWords
set_option linter.unusedVariables false
set_option linter.unusedSimpArgs false
set_option maxRecDepth 100000 in
theorem sameValue_same (m u x : Int) (A B : Option Addr) (n c d : Nat) (l : List Int) (w : World) (ha : Sl w A n (nums .u8 l)) (hb : Sl w B n (nums .u8 l)) (hn : n ≤ 1000000) :
    Calls Try.prog 17 #[.agg #[.int .u8 m, .int .u8 u, .int .u64 x, .slice A n c], .agg #[.int .u8 m, .int .u8 u, .int .u64 x, .slice B n d]] w fun E w' => E = .returned (.bool true) ∧ Below w.heap.size w w' := by
  have HA := Lib.hid ha
  have HB := Lib.hid hb
  clear ha hb
  go_enter Try.func17, Try.ntmps17
  go_wp2_with fail
  refine (sameBytes_any A B n n c d l l _ ((HA.out.alloc _).alloc _) ((HB.out.alloc _).alloc _) (by omega) (by omega)).mono ?_
  rintro E w1 ⟨rfl, n1, rfl⟩
  rw [decide_eq_true (rfl : l = l)]
  go_wp2
  go_ret
  exact ⟨rfl, bel_drewN (((Below.refl _ _).alloc (Nat.le_refl _) _).alloc (by simp) _) _⟩
def litW (w : World) (v0 v1 v2 v3 : Value) : World := ((((w.alloc (.cells #[v0, v1, v2, v3] 30)).alloc (.cells #[.int .u32 1] 26)).alloc (.cells #[.int .u8 97] 5 (1, 2))).alloc (.cells #[.slice (some ⟨w.heap.size + 1 + 1, 0, none⟩) 1 1, .int .u64 0, .int .u8 0, .int .u8 1, .int .u64 0, .slice none 0 0] 32)).alloc (.cells #[.int .u8 97] 5 (1, 2))
theorem cell_new (w : World) (C : Array Value) (t : TypeId) (fr : Nat × Nat) (n j : Nat) (u : Value) (hn : n = w.heap.size) (hu : C[j]? = some u) : (w.alloc (.cells C t fr)).cell? ⟨n, j, none⟩ = some u := by
  subst hn
  rw [World.cell?_alloc_mark w C t fr j, hu]
theorem cell_up {w : World} {a : Addr} {v : Value} (o : Obj) (h : w.cell? a = some v) : (w.alloc o).cell? a = some v := Go.Lib.cell?_alloc_marked o h
theorem lit_facts (w : World) (v0 v1 v2 v3 : Value) : Sl (litW w v0 v1 v2 v3) (some ⟨w.heap.size + 1, 0, none⟩) 1 (nums .u32 [1]) ∧ Sle (litW w v0 v1 v2 v3) (some ⟨w.heap.size + 1 + 1 + 1, 0, none⟩) 1 [⟨[97], 0, 0, 1, 0, []⟩] ∧ Sl (litW w v0 v1 v2 v3) (some ⟨w.heap.size + 1 + 1 + 1 + 1, 0, none⟩) 1 (nums .u8 [97]) ∧ Below w.heap.size w (litW w v0 v1 v2 v3) ∧ Blk (litW w v0 v1 v2 v3) w.heap.size 30 [v0, v1, v2, v3] := by
  unfold litW
  refine ⟨⟨rfl, fun _ => ⟨_, 0, rfl, fun j u hj => ?_⟩⟩, ⟨rfl, fun _ => ⟨_, 0, rfl, fun j e hj => ?_⟩⟩, ⟨rfl, fun _ => ⟨_, 0, rfl, fun j u hj => ?_⟩⟩, bl_alloc (bl_alloc (bl_alloc (bl_alloc (bl_alloc (Below.refl _ _) _) _) _) _) _, ((((Blk.new w 30 [v0, v1, v2, v3]).alloc _).alloc _).alloc _).alloc _⟩
  · match j, hj with
    | 0, hj =>
      injection hj with hj
      subst hj
      exact cell_up _ (cell_up _ (cell_up _ (cell_new _ _ _ _ _ _ _ (by simp) rfl)))
  · match j, hj with
    | 0, hj =>
      injection hj with hj
      subst hj
      refine ⟨some ⟨w.heap.size + 1 + 1, 0, none⟩, 1, 1, none, 0, 0, ?_, ?_, ?_, ?_, ?_, ?_, ⟨rfl, fun _ => ⟨_, 0, rfl, fun i u hi => ?_⟩⟩, Sl.nil _ _, Nat.le_refl _, Nat.le_refl _⟩
      · exact cell_up _ (cell_new _ _ _ _ _ _ _ (by simp) rfl)
      · exact cell_up _ (cell_new _ _ _ _ _ _ _ (by simp) rfl)
      · exact cell_up _ (cell_new _ _ _ _ _ _ _ (by simp) rfl)
      · exact cell_up _ (cell_new _ _ _ _ _ _ _ (by simp) rfl)
      · exact cell_up _ (cell_new _ _ _ _ _ _ _ (by simp) rfl)
      · exact cell_up _ (cell_new _ _ _ _ _ _ _ (by simp) rfl)
      · match i, hi with
        | 0, hi =>
          injection hi with hi
          subst hi
          exact cell_up _ (cell_up _ (cell_new _ _ _ _ _ _ _ (by simp) rfl))
  · match j, hj with
    | 0, hj =>
      injection hj with hj
      subst hj
      exact cell_new _ _ _ _ _ _ _ (by simp) rfl
theorem lit_ok : ∀ e ∈ ([⟨[97], 0, 0, 1, 0, []⟩] : List Ent), EntOk e := by
  intro e he
  simp only [List.mem_singleton] at he
  subst he
  refine ⟨?_, ?_, ?_, ?_, ?_, ?_, ?_, ?_, ?_, ?_, ?_⟩
  all_goals first | (show (_ : Nat) ≤ _; decide) | (intro y hy; simp at hy; omega) | (intro y hy; cases hy) | (show (_ : Int) ≤ _; decide) | (constructor <;> decide) | decide
theorem lit_found : foundE (putsE [⟨[97], 0, 0, 1, 0, []⟩]) [97] 0 = ⟨[97], 0, 0, 1, 0, []⟩ := by rfl
theorem CV (w : World) (n c g : Nat) (hg : g = w.heap.size) : (convert 27 27 (.slice (some ⟨g, 0, none⟩) n c)).run Try.prog (w.alloc (.cells #[.int .u8 97] 5)) = .ok (.slice (some ⟨g, 0, none⟩) n c) (w.alloc (.cells #[.int .u8 97] 5 (1, 2))) := by
  subst hg
  exact Go.Lib.run_convert_bytes_const w _ _ _ n c Try.underlying27 Try.underlying5
set_option maxRecDepth 100000 in
set_option maxHeartbeats 4000000 in
theorem skipGet_walk (A0 A1 A2 : Option Addr) (c0 c1 c2 : Nat) (x0 : List Int) (x1 : List S32) (x2 : List Int) (v : Int) (w : World) (h0 : Kd.C (Kd.int .u32) w A0 x0.length x0) (hc0 : x0.length ≤ c0) (h1 : Kd.C k32 w A1 x1.length x1) (hc1 : x1.length ≤ c1) (h2 : Kd.C (Kd.int .u8) w A2 x2.length x2) (hc2 : x2.length ≤ c2)
    (wf1 : ∀ x ∈ x1, entWf x) (wf2 : ∀ x ∈ x2, (Lit.int .u8 x).wf = true) (wfv : (Lit.int .u64 v).wf = true) :
    Calls Try.prog 4 #[.slice A0 x0.length c0, .slice A1 x1.length c1, .slice A2 x2.length c2, .int .u64 v] w fun E w' => E = .returned (.bool true) ∧ Below w.heap.size w w' := by
  have HV := Lib.hid (And.intro (wf64 wfv).1 (show Hid (v ≤ 18446744073709551615) from (wf64 wfv).2))
  have HK2 : Hid (Byt x2) := fun y hy => wf8 (wf2 y hy)
  obtain ⟨rp, hrp, hErp⟩ := ers_of (sle_of_C h1)
  have HRP := Lib.hid (And.intro hrp hErp)
  clear hrp hErp
  replace h0 := Lib.hid h0
  replace h1 := Lib.hid h1
  replace h2 := Lib.hid h2
  have HW1 := Lib.hid wf1
  clear wf1 wf2 wfv
  by_cases hA : 2147483647 < x0.length
  · clear HV
    go_enter Try.func4, Try.ntmps4
    go_wp2
    go_ret
    exact ⟨rfl, Below.refl _ _⟩
  obtain ⟨r, hr⟩ := fits2_some x1 (x1.length + 1) (by omega)
  go_enter Try.func4, Try.ntmps4
  go_wp2_with fail
  refine (laws_zzFits2.calls (x1.length + 1) A1 c1 x1 r w h1.out hc1 hr).mono ?_
  rintro E w1 ⟨rfl, hb1⟩
  have HB1 := Lib.hid hb1
  clear hb1
  cases r with
  | false =>
    clear hr
    go_wp2
    go_ret
    exact ⟨rfl, HB1.out⟩
  | true =>
    have hl := fits2_long x1 _ hr
    clear hr
    by_cases hB : 2147483647 < x2.length
    · go_wp2
      go_ret
      exact ⟨rfl, HB1.out⟩
    obtain ⟨r2, hr2, hp2⟩ := puts_some x0 x1 (x1.length + 1) (by omega) hl
    have HP2 := Lib.hid hp2
    clear hp2
    go_wp2_with fail
    refine (laws_putsOk.calls (x1.length + 1) A0 c0 x0 A1 c1 x1 r2 w1 (Kd.C_below h0.out HB1.out) hc0 (Kd.C_below h1.out HB1.out) hc1 hr2).mono ?_
    rintro E w2 ⟨rfl, hb2⟩
    have HB2 : Hid (Below w.heap.size w w2) := HB1.out.trans (hb2.mono HB1.out.size)
    clear hb2 HB1
    cases r2 with
    | false =>
      clear hr2 HP2
      go_wp2
      go_ret
      exact ⟨rfl, HB2.out⟩
    | true =>
      clear hr2
      obtain ⟨g1, g2, g3, g4⟩ := HP2.out rfl
      have HOK : Hid (∀ e ∈ x1.map Go.Proofs.YtanmgkpgfmkobaaQ.Ext.toEnt, EntOk e) := fun e he => by
        obtain ⟨x, hx, rfl⟩ := List.mem_map.1 he
        exact entOk_of (ent_ok (HW1.out x hx) (g1 x hx))
      clear HP2 g1 HW1 hA hB hl
      by_cases hC : x2.length < 1
      · go_wp2
        go_ret
        exact ⟨rfl, HB2.out⟩
      by_cases hD : 40 < x2.length
      · go_wp2
        go_ret
        exact ⟨rfl, HB2.out⟩
      go_wp2_with fail
      have HB3 : Hid (Below w.heap.size w (w2.alloc (.cells #[.slice none 0 0, .int .u64 0, .int .u8 0, .int .u8 0, .int .u64 0, .slice none 0 0] 32))) := HB2.out.alloc HB2.out.size _
      have HZ3 : Hid (Blk (w2.alloc (.cells #[.slice none 0 0, .int .u64 0, .int .u8 0, .int .u8 0, .int .u64 0, .slice none 0 0] 32)) w2.heap.size 32 [.slice none 0 0, .int .u64 0, .int .u8 0, .int .u8 0, .int .u64 0, .slice none 0 0]) := Blk.new _ _ _
      have HG9 : Hid (w.heap.size ≤ w2.heap.size) := HB2.out.size
      clear HB2
      generalize w2.alloc (.cells #[.slice none 0 0, .int .u64 0, .int .u8 0, .int .u8 0, .int .u64 0, .slice none 0 0] 32) = w3 at *
      generalize w2.heap.size = g9 at *
      refine (specPuts_any A1 x1.length c1 (x1.map Go.Proofs.YtanmgkpgfmkobaaQ.Ext.toEnt) rp w3 (List.length_map _) HRP.out.1 (HRP.out.2.below HB3.out) g2 HOK.out).mono ?_
      rintro E w4 ⟨A4, c4, rs, rfl, hO, hb4⟩
      have HO := Lib.hid hO
      have HB4 : Hid (Below w.heap.size w w4) := HB3.out.trans (hb4.mono HB3.out.size)
      have HZ4 := Lib.hid (HZ3.out.frm (Frm.of_below hb4) (by simp))
      have hrs : rs.length ≤ 80 := by have := hO.len; rw [List.length_map] at this; omega
      obtain ⟨g5, o5, hA4⟩ := hO.addr
      subst hA4
      have HRS : Hid (∀ (j : Nat) (b : Ent), (putsE (x1.map Go.Proofs.YtanmgkpgfmkobaaQ.Ext.toEnt))[j]? = some b → ∃ r : ER, rs[j]? = some r ∧ r.e = b) := fun j b hj => by
        rw [← HO.out.map, List.getElem?_map] at hj
        cases hr : rs[j]? with
        | none => rw [hr] at hj; cases hj
        | some r => rw [hr] at hj; exact ⟨r, rfl, by simpa using hj⟩
      have hG9' : Hid (g9 < w4.heap.size) := HZ4.out.lt
      clear hO hb4 HB3 HZ3
      go_wp2
      go_loopg [47] rs.length (fun f v47 wr => ∃ i : Nat, v47 = .int .i64 i ∧ i ≤ rs.length ∧ Hid (i + f = rs.length) ∧ Hid (Below w4.heap.size w4 wr) ∧ Hid (∀ (j : Nat) (r : ER), j < i → rs[j]? = some r → ¬ SeenE r.e x2 v))
      case atStart => exact ⟨0, rfl, Nat.zero_le _, by simp [Hid], Below.refl _ _, fun j r hj => absurd hj (Nat.not_lt_zero _)⟩
      case round =>
        obtain ⟨i, rfl, him, hf, hbw, hno⟩ := hrel
        have HBr : Hid (Below w.heap.size w wr) := HB4.out.trans (hbw.out.mono HB4.out.size)
        have HZr := Lib.hid (HZ4.out.frm (Frm.of_below hbw.out) (by simp))
        by_cases hlt : i < rs.length
        · obtain ⟨q, hq⟩ : ∃ q, rs[i]? = some q := ⟨_, List.getElem?_eq_getElem hlt⟩
          have hEr := HO.out.ers.below hbw.out
          have ha : ∀ j u, q.cells[j]? = some u → wr.cell? ⟨g5, o5 + i * 6 + j, none⟩ = some u := fun j u hj => hEr.at_ hq hj
          have b0 := ha 0 _ rfl
          have b1 := ha 1 _ rfl
          have b2 := ha 2 _ rfl
          have b3 := ha 3 _ rfl
          have b4 := ha 4 _ rfl
          have b5 := ha 5 _ rfl
          rw [Nat.add_zero] at b0
          have HQ := Lib.hid (hEr.each q (List.mem_of_getElem? hq))
          have hqn := HO.out.nk q (List.mem_of_getElem? hq)
          have HI := Lib.hid hq
          have hk2 := Lib.hid (sl_of_C (Kd.C_below h2.out HBr.out))
          obtain ⟨gkO, rfl⟩ : ∃ x, gk = x + 1 := ⟨gk - 1, by have := hf.out; omega⟩
          clear ha hEr hq
          go_wp2_with fail
          have hgr : Hid (g9 < wr.heap.size) := HZr.out.lt
          refine (sameBytes_any q.Ak A2 q.nk x2.length q.ck c2 q.e.k x2 _ (HQ.out.key.alloc _) (hk2.out.alloc _) (by omega) (by omega)).mono ?_
          rintro E w5 ⟨rfl, n5, rfl⟩
          have HX5 := Lib.hid ((Blk.new wr 32 [.slice q.Ak q.nk q.ck, .int .u64 q.e.v, .int .u8 q.e.m, .int .u8 q.e.u, .int .u64 q.e.x, .slice q.Ad q.nd q.cd]).drewN n5)
          have HQ5 := Lib.hid ((HQ.out.alloc (.cells #[.slice q.Ak q.nk q.ck, .int .u64 q.e.v, .int .u8 q.e.m, .int .u8 q.e.u, .int .u64 q.e.x, .slice q.Ad q.nd q.cd] 32)).drewN n5)
          have HB5 : Hid (Below w4.heap.size w4 ((wr.alloc (.cells #[.slice q.Ak q.nk q.ck, .int .u64 q.e.v, .int .u8 q.e.m, .int .u8 q.e.u, .int .u64 q.e.x, .slice q.Ad q.nd q.cd] 32)).drewN n5)) := bel_drewN (hbw.out.alloc hbw.out.size _) _
          have HT5 : Hid (Below w.heap.size w ((wr.alloc (.cells #[.slice q.Ak q.nk q.ck, .int .u64 q.e.v, .int .u8 q.e.m, .int .u8 q.e.u, .int .u64 q.e.x, .slice q.Ad q.nd q.cd] 32)).drewN n5)) := bel_drewN (HBr.out.alloc HBr.out.size _) _
          have HZ5 := Lib.hid ((HZr.out.alloc (.cells #[.slice q.Ak q.nk q.ck, .int .u64 q.e.v, .int .u8 q.e.m, .int .u8 q.e.u, .int .u64 q.e.x, .slice q.Ad q.nd q.cd] 32)).drewN n5)
          clear b0 b1 b2 b3 b4 b5 HQ hk2 hbw HBr HZr
          generalize (wr.alloc (.cells #[.slice q.Ak q.nk q.ck, .int .u64 q.e.v, .int .u8 q.e.m, .int .u8 q.e.u, .int .u64 q.e.x, .slice q.Ad q.nd q.cd] 32)).drewN n5 = w6 at *
          generalize wr.heap.size = gt at *
          have y0 := HX5.out.at_ (i := 0) rfl
          have y1 := HX5.out.at_ (i := 1) rfl
          have y2 := HX5.out.at_ (i := 2) rfl
          have y3 := HX5.out.at_ (i := 3) rfl
          have y4 := HX5.out.at_ (i := 4) rfl
          have y5 := HX5.out.at_ (i := 5) rfl
          by_cases hkk : q.e.k = x2
          · rw [decide_eq_true hkk]
            by_cases hvv : q.e.v ≤ v
            · have hsn := found_first (putsE_sorted (x1.map Go.Proofs.YtanmgkpgfmkobaaQ.Ext.toEnt)) (k := x2) (v := v) (i := i) (a := q.e) (by rw [← HO.out.map, List.getElem?_map, HI.out]; rfl) ⟨hkk, hvv⟩ (fun j b hj hb => by
                obtain ⟨r', hr', e'⟩ := HRS.out j b hb
                rw [← e']
                exact hno.out j r' hj hr')
              have HSN := Lib.hid hsn
              have z0 := HZ5.out.frozen 0
              have z1 := HZ5.out.frozen 1
              have z2 := HZ5.out.frozen 2
              have z3 := HZ5.out.frozen 3
              have z4 := HZ5.out.frozen 4
              have z5 := HZ5.out.frozen 5
              have t0 := HZ5.out.at_ (i := 0) rfl
              have t1 := HZ5.out.at_ (i := 1) rfl
              have t2 := HZ5.out.at_ (i := 2) rfl
              have t3 := HZ5.out.at_ (i := 3) rfl
              have t4 := HZ5.out.at_ (i := 4) rfl
              have t5 := HZ5.out.at_ (i := 5) rfl
              clear hsn hkk
              have hqi := Lib.hid (HRP.out.2.each q (HO.out.sub q (List.mem_of_getElem? HI.out)))
              have HBT : Hid (Below w.heap.size w ((((((w6.setCell ⟨g9, 0, none⟩ (.slice q.Ak q.nk q.ck)).setCell ⟨g9, 1, none⟩ (.int .u64 q.e.v)).setCell ⟨g9, 2, none⟩ (.int .u8 q.e.m)).setCell ⟨g9, 3, none⟩ (.int .u8 q.e.u)).setCell ⟨g9, 4, none⟩ (.int .u64 q.e.x)).setCell ⟨g9, 5, none⟩ (.slice q.Ad q.nd q.cd))) := (((((HT5.out.setCell HG9.out _).setCell HG9.out _).setCell HG9.out _).setCell HG9.out _).setCell HG9.out _).setCell HG9.out _
              have HBK : Hid (Blk ((((((w6.setCell ⟨g9, 0, none⟩ (.slice q.Ak q.nk q.ck)).setCell ⟨g9, 1, none⟩ (.int .u64 q.e.v)).setCell ⟨g9, 2, none⟩ (.int .u8 q.e.m)).setCell ⟨g9, 3, none⟩ (.int .u8 q.e.u)).setCell ⟨g9, 4, none⟩ (.int .u64 q.e.x)).setCell ⟨g9, 5, none⟩ (.slice q.Ad q.nd q.cd)) g9 32 q.cells) := (((((HZ5.out.set_ 0 _).set_ 1 _).set_ 2 _).set_ 3 _).set_ 4 _).set_ 5 _
              have HDN0 : Hid (q.nd ≤ 1000000) := by have h5 := ER.nd_eq hqi.out; have h6 := (HOK.out q.e (by rw [← HRP.out.1]; exact List.mem_map_of_mem (HO.out.sub q (List.mem_of_getElem? HI.out)))).dlen; show _ ≤ _; omega
              have HDE : Hid (q.e = foundE (putsE (x1.map Go.Proofs.YtanmgkpgfmkobaaQ.Ext.toEnt)) x2 v) := HSN.out.symm
              go_wp2_with fail
              clear y0 y1 y2 y3 y4 y5 z0 z1 z2 z3 z4 z5 t0 t1 t2 t3 t4 t5 HX5 HQ5 HB5 HT5 HZ5 hno HRS HSN hvv
              generalize (((((w6.setCell ⟨g9, 0, none⟩ (.slice q.Ak q.nk q.ck)).setCell ⟨g9, 1, none⟩ (.int .u64 q.e.v)).setCell ⟨g9, 2, none⟩ (.int .u8 q.e.m)).setCell ⟨g9, 3, none⟩ (.int .u8 q.e.u)).setCell ⟨g9, 4, none⟩ (.int .u64 q.e.x)).setCell ⟨g9, 5, none⟩ (.slice q.Ad q.nd q.cd) = w7 at *
              have HDI : Hid (q.In w7) := hqi.out.below HBT.out
              have HDN := HDN0
              clear hqi HDN0
              generalize q = D at *
              have HD1 : Hid (Blk w7 g9 32 D.cells) := HBK
              have ha0 := Lib.hid (sl_of_C (Kd.C_below h0.out HBT.out))
              have ha1 := Lib.hid (sle_of_C (Kd.C_below h1.out HBT.out))
              have ha2 := Lib.hid (sl_of_C (Kd.C_below h2.out HBT.out))
              skip
              refine (found_any A0 A1 A2 x0.length c0 x1.length c1 x2.length c2 x0 (x1.map Go.Proofs.YtanmgkpgfmkobaaQ.Ext.toEnt) x2 v w7 ha0.out g3 (by omega) ha1.out g2 HOK.out ha2.out HK2.out (by omega) HV.out.1 HV.out.2).mono ?_
              rintro E w6 ⟨A6, c6, rfl, hc6, hs6, hb6⟩
              have HE := HDE.out
              rw [← HE] at hc6 hs6 ⊢
              have hd6 : Hid (D.In w6) := HDI.out.below hb6
              have hk6 : Hid (Blk w6 g9 32 D.cells) := HD1.out.frm (Frm.of_below hb6) (by simp)
              have hbt6 : Hid (Below w.heap.size w w6) := HBT.out.trans (hb6.mono HBT.out.size)
              have HS6 := Lib.hid hs6
              clear hs6 hb6 ha0 ha1 ha2 HBK HDI HBT HE HDE
              have hnd := ER.nd_eq hd6.out
              rw [hnd] at hc6 HS6 ⊢
              clear hnd
              have cv1 := CV ((w6.alloc (.cells #[.int .u8 D.e.m, .int .u8 D.e.u, .int .u64 D.e.x, .slice A6 D.nd c6] 30)).alloc (.cells #[.int .u32 1] 26)) 1 1 (w6.heap.size + 1 + 1) (by simp)
              have cv2 := CV ((((w6.alloc (.cells #[.int .u8 D.e.m, .int .u8 D.e.u, .int .u64 D.e.x, .slice A6 D.nd c6] 30)).alloc (.cells #[.int .u32 1] 26)).alloc (.cells #[.int .u8 97] 5 (1, 2))).alloc (.cells #[.slice (some ⟨w6.heap.size + 1 + 1, 0, none⟩) 1 1, .int .u64 0, .int .u8 0, .int .u8 1, .int .u64 0, .slice none 0 0] 32)) 1 1 (w6.heap.size + 1 + 1 + 1 + 1) (by simp)
              go_wp2_with fail
              obtain ⟨l1, l2, l3, l4, l5⟩ := lit_facts w6 (.int .u8 D.e.m) (.int .u8 D.e.u) (.int .u64 D.e.x) (.slice A6 D.nd c6)
              have L1 := Lib.hid l1
              have L2 := Lib.hid l2
              have L3 := Lib.hid l3
              have L4 := Lib.hid l4
              have L5 := Lib.hid l5
              clear l1 l2 l3 l4 l5 cv1 cv2
              unfold litW at L1 L2 L3 L4 L5
              generalize ((((w6.alloc (.cells #[.int .u8 D.e.m, .int .u8 D.e.u, .int .u64 D.e.x, .slice A6 D.nd c6] 30)).alloc (.cells #[.int .u32 1] 26)).alloc (.cells #[.int .u8 97] 5 (1, 2))).alloc (.cells #[.slice (some ⟨w6.heap.size + 1 + 1, 0, none⟩) 1 1, .int .u64 0, .int .u8 0, .int .u8 1, .int .u64 0, .slice none 0 0] 32)).alloc (.cells #[.int .u8 97] 5 (1, 2)) = wl at *
              refine (found_any _ _ _ 1 1 1 1 1 1 [1] [⟨[97], 0, 0, 1, 0, []⟩] [97] 0 wl L1.out (by omega) (by omega) L2.out (by omega) lit_ok L3.out (by intro y hy; simp at hy; omega) (by omega) (by omega) (show (0 : Int) ≤ 18446744073709551615 by omega)).mono ?_
              rw [lit_found]
              rintro E w8 ⟨A8, c8, rfl, hc8, hs8, hb8⟩
              have HB8 : Hid (Below w.heap.size w w8) := (hbt6.out.trans (L4.out.mono hbt6.out.size)).trans (hb8.mono (Nat.le_trans hbt6.out.size L4.out.size))
              have hd8 : Hid (D.In w8) := (hd6.out.below L4.out).below hb8
              have hk8 := Lib.hid ((hk6.out.frm (Frm.of_below L4.out) (by simp)).frm (Frm.of_below hb8) (by simp))
              have hv8 := Lib.hid (L5.out.frm (Frm.of_below hb8) (by simp))
              have hs8' := Lib.hid ((HS6.out.below L4.out).below hb8)
              generalize w6.heap.size = gv at *
              clear hs8 hb8 L1 L2 L3 L4 L5 hd6 hk6 hbt6 HS6 hc8
              have k0 : ∀ o, (w8.alloc o).cell? ⟨gv, 0, none⟩ = some (.int .u8 D.e.m) := fun o => (hv8.out.alloc o).at_ rfl
              have k1 : ∀ o, (w8.alloc o).cell? ⟨gv, 1, none⟩ = some (.int .u8 D.e.u) := fun o => (hv8.out.alloc o).at_ rfl
              have k2 : ∀ o, (w8.alloc o).cell? ⟨gv, 2, none⟩ = some (.int .u64 D.e.x) := fun o => (hv8.out.alloc o).at_ rfl
              have k3 : ∀ o, (w8.alloc o).cell? ⟨gv, 3, none⟩ = some (.slice A6 D.nd c6) := fun o => (hv8.out.alloc o).at_ rfl
              have j2 : ∀ o, (w8.alloc o).cell? ⟨g9, 2, none⟩ = some (.int .u8 D.e.m) := fun o => (hk8.out.alloc o).at_ rfl
              have j3 : ∀ o, (w8.alloc o).cell? ⟨g9, 3, none⟩ = some (.int .u8 D.e.u) := fun o => (hk8.out.alloc o).at_ rfl
              have j4 : ∀ o, (w8.alloc o).cell? ⟨g9, 4, none⟩ = some (.int .u64 D.e.x) := fun o => (hk8.out.alloc o).at_ rfl
              have j5 : ∀ o, (w8.alloc o).cell? ⟨g9, 5, none⟩ = some (.slice D.Ad D.nd D.cd) := fun o => (hk8.out.alloc o).at_ rfl
              have hnd9 : Hid (D.nd ≤ 1000000) := HDN.out
              go_wp2_with fail
              refine (sameValue_same D.e.m D.e.u D.e.x A6 D.Ad D.nd c6 D.cd D.e.d _ (hs8'.out.alloc _) (hd8.out.dat.alloc _) hnd9.out).mono ?_
              rintro E w9 ⟨rfl, hb9⟩
              have HBF : Hid (Below w.heap.size w w9) := (HB8.out.alloc HB8.out.size _).trans (hb9.mono (by rw [World.size_alloc]; have := HB8.out.size; omega))
              have i1 := ((hk8.out.alloc (.cells #[.int .u8 0, .int .u8 1, .int .u64 0, .slice A8 0 c8] 30)).frm (Frm.of_below hb9) (by simp)).at_ (i := 1) rfl
              have i2 := ((Blk.new w8 30 [.int .u8 0, .int .u8 1, .int .u64 0, .slice A8 0 c8]).frm (Frm.of_below hb9) (by simp)).at_ (i := 1) rfl
              clear k0 k1 k2 k3 j2 j3 j4 j5 hb9
              go_wp2
              go_ret
              exact ⟨rfl, HBF.out⟩
            · rw [Int.not_le] at hvv
              have hnn : Hid (∀ (j : Nat) (r : ER), j < i + 1 → rs[j]? = some r → ¬ SeenE r.e x2 v) := fun j r' hj hr' => by
                rcases Nat.lt_or_eq_of_le (Nat.lt_succ_iff.1 hj) with h | h
                · exact hno.out j r' h hr'
                · rw [h, HI.out] at hr'
                  injection hr' with hr'
                  rw [← hr']
                  exact fun hs => absurd hs.2 (by omega)
              clear hkk y0 y2 y3 y4 y5 hno
              go_wp2
              go_roundg gkO
              case measure => omega
              case rel => exact ⟨i + 1, by go_num, by omega, by have := hf.out; show _ = _; omega, HB5.out, hnn.out⟩
          · rw [decide_eq_false hkk]
            have hnn : Hid (∀ (j : Nat) (r : ER), j < i + 1 → rs[j]? = some r → ¬ SeenE r.e x2 v) := fun j r' hj hr' => by
              rcases Nat.lt_or_eq_of_le (Nat.lt_succ_iff.1 hj) with h | h
              · exact hno.out j r' h hr'
              · rw [h, HI.out] at hr'
                injection hr' with hr'
                rw [← hr']
                exact fun hs => hkk hs.1
            clear hkk y0 y1 y2 y3 y4 y5 hno
            go_wp2
            go_roundg gkO
            case measure => omega
            case rel => exact ⟨i + 1, by go_num, by omega, by have := hf.out; show _ = _; omega, HB5.out, hnn.out⟩
        · have hge : ¬ ((i : Int) < (rs.length : Int)) := by omega
          have hie : Hid (i = rs.length) := by show _ = _; omega
          obtain ⟨D, hD⟩ : ∃ D : ER, D = ⟨none, 0, 0, none, 0, 0, zeroE⟩ := ⟨_, rfl⟩
          have HDE : Hid (D.e = foundE (putsE (x1.map Go.Proofs.YtanmgkpgfmkobaaQ.Ext.toEnt)) x2 v) := by
            show _ = _
            rw [hD]
            refine (found_no (fun j b hb => ?_)).symm
            obtain ⟨r', hr', e'⟩ := HRS.out j b hb
            rw [← e']
            exact hno.out j r' (by rw [hie.out]; exact (List.getElem?_eq_some_iff.1 hr').1) hr'
          have HBK : Hid (Blk wr g9 32 D.cells) := by rw [hD]; exact HZr.out
          have HDI : Hid (D.In wr) := by rw [hD]; exact ⟨Sl.nil _ _, Sl.nil _ _, Nat.le_refl _, Nat.le_refl _⟩
          have HBT := HBr
          have HDN : Hid (D.nd ≤ 1000000) := by rw [hD]; show (0 : Nat) ≤ _; omega
          clear hno HRS hD HZr HBr HZ4 HB4 hbw hie
          have HD1 : Hid (Blk wr g9 32 D.cells) := HBK
          have ha0 := Lib.hid (sl_of_C (Kd.C_below h0.out HBT.out))
          have ha1 := Lib.hid (sle_of_C (Kd.C_below h1.out HBT.out))
          have ha2 := Lib.hid (sl_of_C (Kd.C_below h2.out HBT.out))
          go_wp2_with fail
          refine (found_any A0 A1 A2 x0.length c0 x1.length c1 x2.length c2 x0 (x1.map Go.Proofs.YtanmgkpgfmkobaaQ.Ext.toEnt) x2 v wr ha0.out g3 (by omega) ha1.out g2 HOK.out ha2.out HK2.out (by omega) HV.out.1 HV.out.2).mono ?_
          rintro E w6 ⟨A6, c6, rfl, hc6, hs6, hb6⟩
          have HE := HDE.out
          rw [← HE] at hc6 hs6 ⊢
          have hd6 : Hid (D.In w6) := HDI.out.below hb6
          have hk6 : Hid (Blk w6 g9 32 D.cells) := HD1.out.frm (Frm.of_below hb6) (by simp)
          have hbt6 : Hid (Below w.heap.size w w6) := HBT.out.trans (hb6.mono HBT.out.size)
          have HS6 := Lib.hid hs6
          clear hs6 hb6 ha0 ha1 ha2 HBK HDI HBT HE HDE
          have hnd := ER.nd_eq hd6.out
          rw [hnd] at hc6 HS6 ⊢
          clear hnd
          have cv1 := CV ((w6.alloc (.cells #[.int .u8 D.e.m, .int .u8 D.e.u, .int .u64 D.e.x, .slice A6 D.nd c6] 30)).alloc (.cells #[.int .u32 1] 26)) 1 1 (w6.heap.size + 1 + 1) (by simp)
          have cv2 := CV ((((w6.alloc (.cells #[.int .u8 D.e.m, .int .u8 D.e.u, .int .u64 D.e.x, .slice A6 D.nd c6] 30)).alloc (.cells #[.int .u32 1] 26)).alloc (.cells #[.int .u8 97] 5 (1, 2))).alloc (.cells #[.slice (some ⟨w6.heap.size + 1 + 1, 0, none⟩) 1 1, .int .u64 0, .int .u8 0, .int .u8 1, .int .u64 0, .slice none 0 0] 32)) 1 1 (w6.heap.size + 1 + 1 + 1 + 1) (by simp)
          go_wp2_with fail
          obtain ⟨l1, l2, l3, l4, l5⟩ := lit_facts w6 (.int .u8 D.e.m) (.int .u8 D.e.u) (.int .u64 D.e.x) (.slice A6 D.nd c6)
          have L1 := Lib.hid l1
          have L2 := Lib.hid l2
          have L3 := Lib.hid l3
          have L4 := Lib.hid l4
          have L5 := Lib.hid l5
          clear l1 l2 l3 l4 l5 cv1 cv2
          unfold litW at L1 L2 L3 L4 L5
          generalize ((((w6.alloc (.cells #[.int .u8 D.e.m, .int .u8 D.e.u, .int .u64 D.e.x, .slice A6 D.nd c6] 30)).alloc (.cells #[.int .u32 1] 26)).alloc (.cells #[.int .u8 97] 5 (1, 2))).alloc (.cells #[.slice (some ⟨w6.heap.size + 1 + 1, 0, none⟩) 1 1, .int .u64 0, .int .u8 0, .int .u8 1, .int .u64 0, .slice none 0 0] 32)).alloc (.cells #[.int .u8 97] 5 (1, 2)) = wl at *
          refine (found_any _ _ _ 1 1 1 1 1 1 [1] [⟨[97], 0, 0, 1, 0, []⟩] [97] 0 wl L1.out (by omega) (by omega) L2.out (by omega) lit_ok L3.out (by intro y hy; simp at hy; omega) (by omega) (by omega) (show (0 : Int) ≤ 18446744073709551615 by omega)).mono ?_
          rw [lit_found]
          rintro E w8 ⟨A8, c8, rfl, hc8, hs8, hb8⟩
          have HB8 : Hid (Below w.heap.size w w8) := (hbt6.out.trans (L4.out.mono hbt6.out.size)).trans (hb8.mono (Nat.le_trans hbt6.out.size L4.out.size))
          have hd8 : Hid (D.In w8) := (hd6.out.below L4.out).below hb8
          have hk8 := Lib.hid ((hk6.out.frm (Frm.of_below L4.out) (by simp)).frm (Frm.of_below hb8) (by simp))
          have hv8 := Lib.hid (L5.out.frm (Frm.of_below hb8) (by simp))
          have hs8' := Lib.hid ((HS6.out.below L4.out).below hb8)
          generalize w6.heap.size = gv at *
          clear hs8 hb8 L1 L2 L3 L4 L5 hd6 hk6 hbt6 HS6 hc8
          have k0 : ∀ o, (w8.alloc o).cell? ⟨gv, 0, none⟩ = some (.int .u8 D.e.m) := fun o => (hv8.out.alloc o).at_ rfl
          have k1 : ∀ o, (w8.alloc o).cell? ⟨gv, 1, none⟩ = some (.int .u8 D.e.u) := fun o => (hv8.out.alloc o).at_ rfl
          have k2 : ∀ o, (w8.alloc o).cell? ⟨gv, 2, none⟩ = some (.int .u64 D.e.x) := fun o => (hv8.out.alloc o).at_ rfl
          have k3 : ∀ o, (w8.alloc o).cell? ⟨gv, 3, none⟩ = some (.slice A6 D.nd c6) := fun o => (hv8.out.alloc o).at_ rfl
          have j2 : ∀ o, (w8.alloc o).cell? ⟨g9, 2, none⟩ = some (.int .u8 D.e.m) := fun o => (hk8.out.alloc o).at_ rfl
          have j3 : ∀ o, (w8.alloc o).cell? ⟨g9, 3, none⟩ = some (.int .u8 D.e.u) := fun o => (hk8.out.alloc o).at_ rfl
          have j4 : ∀ o, (w8.alloc o).cell? ⟨g9, 4, none⟩ = some (.int .u64 D.e.x) := fun o => (hk8.out.alloc o).at_ rfl
          have j5 : ∀ o, (w8.alloc o).cell? ⟨g9, 5, none⟩ = some (.slice D.Ad D.nd D.cd) := fun o => (hk8.out.alloc o).at_ rfl
          have hnd9 : Hid (D.nd ≤ 1000000) := HDN.out
          go_wp2_with fail
          refine (sameValue_same D.e.m D.e.u D.e.x A6 D.Ad D.nd c6 D.cd D.e.d _ (hs8'.out.alloc _) (hd8.out.dat.alloc _) hnd9.out).mono ?_
          rintro E w9 ⟨rfl, hb9⟩
          have HBF : Hid (Below w.heap.size w w9) := (HB8.out.alloc HB8.out.size _).trans (hb9.mono (by rw [World.size_alloc]; have := HB8.out.size; omega))
          have i1 := ((hk8.out.alloc (.cells #[.int .u8 0, .int .u8 1, .int .u64 0, .slice A8 0 c8] 30)).frm (Frm.of_below hb9) (by simp)).at_ (i := 1) rfl
          have i2 := ((Blk.new w8 30 [.int .u8 0, .int .u8 1, .int .u64 0, .slice A8 0 c8]).frm (Frm.of_below hb9) (by simp)).at_ (i := 1) rfl
          clear k0 k1 k2 k3 j2 j3 j4 j5 hb9
          go_wp2
          go_ret
          exact ⟨rfl, HBF.out⟩
end Go.Proofs.Ytanmgkpgfmkobaa
