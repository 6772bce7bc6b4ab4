/- The law of an oracle: its walk. -/
import Derived.Test.YtanmgkpgfmkobaaD5
import Derived.BigQuiet
import Derived.Test.YtanmgkpgfmkobaaPB
namespace Go.Proofs.Ytanmgkpgfmkobaa
open Go.Proofs.YtanmgkpgfmkobaaW.PrintLast
open Go.RowKit Go.Proofs.YtanmgkpgfmkobaaQ.QT Go.Proofs.YtanmgkpgfmkobaaQ.Ext Go.Proofs.YtanmgkpgfmkobaaW.PrintWords
set_option linter.unusedVariables false
set_option linter.unusedSimpArgs false
set_option maxRecDepth 100000
theorem oneBegin (cf : Bool) : ∃ b, oRun cf oInit [⟨0, 0, 0⟩] = [⟨0, false, b, 1⟩] := ⟨_, rfl⟩
set_option maxHeartbeats 4000000 in
theorem oracle_walk (cf : Bool) (A1 : Option Addr) (c1 : Nat) (x1 : List S55) (w : World) (h1 : Kd.C k55 w A1 x1.length x1) (hc1 : x1.length ≤ c1) (wf1 : ∀ x ∈ x1, actWf x) :
    Calls Try.prog 6 #[.bool cf, .slice A1 x1.length c1] w fun E w' => E = .returned (.bool true) ∧ Below w.heap.size w w' := by
  have HAC := Lib.hid (acts_of_C h1)
  have H1 := Lib.hid h1
  have HW := Lib.hid wf1
  have hLL : (x1.map toAct).length = x1.length := List.length_map ..
  have HLL := Lib.hid hLL
  have HWF : Hid (∀ a ∈ x1.map toAct, (Lit.int .u64 a.key).wf = true ∧ (Lit.int .i64 a.kind).wf = true ∧ (Lit.int .i64 a.txn).wf = true) := fun a ha => by
    obtain ⟨x, hx, rfl⟩ := List.mem_map.1 ha
    obtain ⟨k1, k2, k3⟩ := wf1 x hx
    exact ⟨k3, k1, k2⟩
  clear h1 wf1 hLL
  by_cases hA : 2147483647 < x1.length
  · go_enter Try.func6, Try.ntmps6
    go_wp2
    go_ret
    exact ⟨rfl, Below.refl _ _⟩
  have hA2 : (x1.length : Int) ≤ 2147483647 := by omega
  go_enter Try.func6, Try.ntmps6
  go_wp2_with fail
  obtain ⟨rr, hrr⟩ : ∃ rr, decide ((x1.length : Int) ≤ 100) = rr := ⟨_, rfl⟩
  refine (laws_actsOk.calls A1 c1 x1 rr w H1.out hc1 (by rw [← hrr]; rfl)).mono ?_
  rintro E w1 ⟨rfl, hb1⟩
  have HB1 : Hid (Below w.heap.size w w1) := hb1.below
  clear hb1
  cases rr with
  | false =>
    clear hrr
    go_wp2
    go_ret
    exact ⟨rfl, HB1.out⟩
  | true =>
  have hle2 : (x1.length : Int) ≤ 100 := of_decide_eq_true hrr
  have hle : x1.length ≤ 100 := by omega
  clear hrr
  have HA1 : Hid (Acts w1 A1 (x1.map toAct)) := HAC.out.below HB1.out
  clear HAC
  go_wp2_with fail
  refine (runOracle_any cf A1 x1.length c1 (x1.map toAct) w1 HA1.out HLL.out hle HWF.out).mono ?_
  rintro E w2 ⟨A2, c2, rfl, ho2, hb2⟩
  have HO2 := Lib.hid ho2
  have HB2 : Hid (Below w.heap.size w w2) := HB1.out.trans (hb2.mono HB1.out.size)
  have HA2 : Hid (Acts w2 A1 (x1.map toAct)) := HA1.out.below hb2
  clear ho2 hb2 HB1 HA1
  go_wp2_with fail
  refine (specOracle_any cf 1 A1 x1.length c1 (x1.map toAct) w2 HA2.out HLL.out hle (Nat.le_refl _) (by omega)).mono ?_
  rintro E w3 ⟨hb3, hq3⟩
  have HB3 : Hid (Below w.heap.size w w3) := HB2.out.trans (hb3.mono HB2.out.size)
  have HB23 := Lib.hid hb3
  clear hb3
  cases hrun : sRun cf (sInit 1) (x1.map toAct) with
  | none =>
    rw [hrun] at hq3
    obtain rfl := hq3
    clear hrun
    go_wp2
    go_ret
    exact ⟨rfl, HB3.out⟩
  | some L =>
    rw [hrun] at hq3
    obtain ⟨A3, c3, rfl, ho3⟩ := hq3
    have HO3 := Lib.hid ho3
    have HRUN := Lib.hid hrun
    clear hrun ho3
    have HO23 : Hid (w3.ownsRow w1.heap.size 57 4 (.slice A2 x1.length c2) x1.length (flatT (oRun cf oInit (x1.map toAct)))) := owns_below HO2.out HB23.out
    clear HO2 HB2 HA2 HB23
    have hone : Hid (Acts (w3.alloc (.cells #[.int .i64 0, .int .i64 0, .int .u64 0] 55)) (some ⟨w3.heap.size, 0, none⟩) [⟨0, 0, 0⟩]) := by
      refine ⟨rfl, fun _ => ⟨w3.heap.size, 0, rfl, fun j u hu => ?_⟩⟩
      rw [(Blk.new w3 55 [.int .i64 0, .int .i64 0, .int .u64 0]).cell, Nat.zero_add]
      exact hu
    have hw0 : Hid (∀ a ∈ [(⟨0, 0, 0⟩ : OAct)], (Lit.int .u64 a.key).wf = true ∧ (Lit.int .i64 a.kind).wf = true ∧ (Lit.int .i64 a.txn).wf = true) := fun a ha => by
      rw [List.mem_singleton] at ha
      subst ha
      exact ⟨rfl, rfl, rfl⟩
    go_wp2_with fail
    refine (runOracle_any cf (some ⟨w3.heap.size, 0, none⟩) 1 1 [⟨0, 0, 0⟩] _ hone.out rfl (by omega) hw0.out).mono ?_
    rintro E w4 ⟨A4, c4, rfl, ho4, hb4⟩
    have hsz3 : (w3.alloc (.cells #[.int .i64 0, .int .i64 0, .int .u64 0] 55)).heap.size = w3.heap.size + 1 := World.size_alloc w3 _
    have HF4 : Hid (Below w3.heap.size w3 w4) := ((Below.refl _ w3).alloc (Nat.le_refl _) _).trans (hb4.mono (by omega))
    obtain ⟨b, hbo⟩ := oneBegin cf
    rw [hbo] at ho4
    obtain ⟨g4, rfl, y0, y1, y2, y3, hg4⟩ := told_cells (i := 0) (t := ⟨0, false, b, 1⟩) ho4 rfl
    have HO24 : Hid (w4.ownsRow w1.heap.size 57 4 (.slice A2 x1.length c2) x1.length (flatT (oRun cf oInit (x1.map toAct)))) := owns_below HO23.out HF4.out
    have HO34 : Hid (w4.ownsRow w2.heap.size 57 4 (.slice A3 x1.length c3) x1.length (flatT (L.map toT))) := owns_below HO3.out HF4.out
    have HB4 : Hid (Below w.heap.size w w4) := HB3.out.trans (HF4.out.mono HB3.out.size)
    have HEQ : Hid ((oRun cf oInit (x1.map toAct)).map (fun t => (t.ver, t.conf, t.next)) = L) := run_sim cf _ _ _ (oInit_sim cf) L HRUN.out
    have y3' : w4.cell? ⟨g4, 3, none⟩ = some (.int .u64 1) := y3
    clear ho4 hb4 hsz3 hbo y0 y1 y2 y3 hone hw0 HO23 HO3 HB3 HF4 HRUN hg4
    go_wp2
    go_loopg [65] x1.length (fun f v65 wr => ∃ i : Nat, v65 = .int .i64 (i : Int) ∧ i ≤ x1.length ∧ Hid (i + f = x1.length) ∧ Hid (Below w4.heap.size w4 wr))
    case atStart => exact ⟨0, rfl, Nat.zero_le _, by simp [Hid], Below.refl _ _⟩
    case round =>
      obtain ⟨i, rfl, hin, hf, hbr⟩ := hrel
      by_cases hlt : i < x1.length
      · obtain ⟨t, ht⟩ : ∃ t, (oRun cf oInit (x1.map toAct))[i]? = some t := ⟨_, List.getElem?_eq_getElem (by rw [oRun_len, List.length_map]; exact hlt)⟩
        have hlt2 : (i : Int) < (x1.length : Int) := by omega
        have ht2 : (L.map toT)[i]? = some ⟨t.ver, t.conf, 0, t.next⟩ := by rw [← HEQ.out, List.getElem?_map, List.getElem?_map, ht]; rfl
        obtain ⟨ga, hA2, a0, a1, a2, a3, hga⟩ := told_cells (owns_below HO24.out hbr.out) ht
        obtain ⟨gb, hA3, b0, b1, b2, b3, hgb⟩ := told_cells (owns_below HO34.out hbr.out) ht2
        subst hA2 hA3
        simp only at b0 b1 b2 b3
        clear ht ht2 a2 hga hgb y3'
        obtain ⟨gkO, rfl⟩ : ∃ g, gk = g + 1 := ⟨gk - 1, by have := hf.out; omega⟩
        obtain ⟨tv, htv⟩ : ∃ z : Int, (t.ver : Int) = z := ⟨_, rfl⟩
        obtain ⟨tn, htn⟩ : ∃ z : Int, (t.next : Int) = z := ⟨_, rfl⟩
        obtain ⟨tc, htc⟩ : ∃ z : Bool, t.conf = z := ⟨_, rfl⟩
        rw [htv] at a0 b0
        rw [htn] at a3 b3
        rw [htc] at a1 b1
        clear htv htn htc
        go_upto_region 15 with fail
        have hba : Hid (Below w4.heap.size w4 (wr.alloc (.cells #[.int .u64 tv, .bool tc, .int .u64 0, .int .u64 tn] 57))) := hbr.out.alloc hbr.out.size _
        have hbq : Hid (Blk (wr.alloc (.cells #[.int .u64 tv, .bool tc, .int .u64 0, .int .u64 tn] 57)) wr.heap.size 57 [.int .u64 tv, .bool tc, .int .u64 0, .int .u64 tn]) := Blk.new wr _ _
        have a0' : (wr.alloc (.cells #[.int .u64 tv, .bool tc, .int .u64 0, .int .u64 tn] 57)).cell? ⟨ga, i * 4, none⟩ = some (.int .u64 tv) := cell_frm a0 (Frm.alloc wr _) (by simp)
        have a1' : (wr.alloc (.cells #[.int .u64 tv, .bool tc, .int .u64 0, .int .u64 tn] 57)).cell? ⟨ga, i * 4 + 1, none⟩ = some (.bool tc) := cell_frm a1 (Frm.alloc wr _) (by simp)
        have a3' : (wr.alloc (.cells #[.int .u64 tv, .bool tc, .int .u64 0, .int .u64 tn] 57)).cell? ⟨ga, i * 4 + 3, none⟩ = some (.int .u64 tn) := cell_frm a3 (Frm.alloc wr _) (by simp)
        clear a0 a1 a3 b0 b1 b2 b3 hbr
        generalize wr.alloc (.cells #[.int .u64 tv, .bool tc, .int .u64 0, .int .u64 tn] 57) = wa at *
        generalize wr.heap.size = gq at *
        have d0 : wa.cell? ⟨gq, 0, none⟩ = some (.int .u64 tv) := hbq.out.at_ rfl
        have d1 : wa.cell? ⟨gq, 1, none⟩ = some (.bool tc) := hbq.out.at_ rfl
        have d3 : wa.cell? ⟨gq, 3, none⟩ = some (.int .u64 tn) := hbq.out.at_ rfl
        clear hbq
        refine start_ (n := 28) (S := fun w' => w'.cell? ⟨ga, i * 4, none⟩ = some (.int .u64 tv) ∧ w'.cell? ⟨ga, i * 4 + 1, none⟩ = some (.bool tc) ∧ w'.cell? ⟨ga, i * 4 + 3, none⟩ = some (.int .u64 tn) ∧ w'.cell? ⟨gq, 0, none⟩ = some (.int .u64 tv) ∧ w'.cell? ⟨gq, 1, none⟩ = some (.bool tc) ∧ w'.cell? ⟨gq, 3, none⟩ = some (.int .u64 tn)) (ds := []) #[ff,ff,ff,ff,ff,ff,ff,ff,ff,ff,ff,ff,ff,ff,ff,ff,ff,ff,ff,ff,ff,ff,ff,ff,ff,ff,ff,ff] (by kernel_rfl) rfl rfl (⟨a0', a1', a3', d0, d1, d3⟩) (fun hHeld => ?_)
        clear a0' a1' a3' d0 d1 d3
        refine pure_ (i := 0) (N := some 70) (v := ?_) (a' := ?_) #[tt,ff,ff,ff,ff,ff,ff,ff,ff,ff,ff,ff,ff,ff,ff,ff,ff,ff,ff,ff,ff,ff,ff,ff,ff,ff,ff,ff] rfl rfl (by kernel_rfl) (fun _ _ _ h => h) (Or.inl ⟨by rfl, ?_⟩) ?_ ?_; rotate_left; (intro w'; go_simp; with_reducible rfl); rotate_left; (simp only [Act.put, List.setIfInBounds_toArray, List.set_cons_zero, List.set_cons_succ, i64_w, i32_w]; rfl)
        refine pure_ (i := 1) (N := some 71) (v := ?_) (a' := ?_) #[tt,tt,ff,ff,ff,ff,ff,ff,ff,ff,ff,ff,ff,ff,ff,ff,ff,ff,ff,ff,ff,ff,ff,ff,ff,ff,ff,ff] rfl rfl (by kernel_rfl) (fun _ _ _ h => h) (Or.inl ⟨by rfl, ?_⟩) ?_ ?_; rotate_left; (intro w'; go_simp; with_reducible rfl); rotate_left; (simp only [Act.put, List.setIfInBounds_toArray, List.set_cons_zero, List.set_cons_succ, i64_w, i32_w]; rfl)
        refine pure_ (i := 2) (N := some 72) (v := ?_) (a' := ?_) #[tt,tt,tt,ff,ff,ff,ff,ff,ff,ff,ff,ff,ff,ff,ff,ff,ff,ff,ff,ff,ff,ff,ff,ff,ff,ff,ff,ff] rfl rfl (by kernel_rfl) (fun _ _ _ h => h) (Or.inl ⟨by rfl, ?_⟩) ?_ ?_; rotate_left; (intro w'; go_simp; with_reducible rfl); rotate_left; (simp only [Act.put, List.setIfInBounds_toArray, List.set_cons_zero, List.set_cons_succ, i64_w, i32_w]; rfl)
        refine pure_ (i := 3) (N := some 73) (v := ?_) (a' := ?_) #[tt,tt,tt,tt,ff,ff,ff,ff,ff,ff,ff,ff,ff,ff,ff,ff,ff,ff,ff,ff,ff,ff,ff,ff,ff,ff,ff,ff] rfl rfl (by kernel_rfl) (fun _ _ _ h => h) (Or.inl ⟨by rfl, ?_⟩) ?_ ?_; rotate_left; (intro w'; go_simp; with_reducible rfl); rotate_left; (simp only [Act.put, List.setIfInBounds_toArray, List.set_cons_zero, List.set_cons_succ, i64_w, i32_w]; rfl)
        refine take_ (i := 4) (N := some 74) (v := ?_) (a' := ?_) #[tt,tt,tt,tt,tt,ff,ff,ff,ff,ff,ff,ff,ff,ff,ff,ff,ff,ff,ff,ff,ff,ff,ff,ff,ff,ff,ff,ff] rfl rfl (by kernel_rfl) (fun _ _ _ h => h) (Or.inl ⟨by rfl, ?_⟩) hHeld ?_ ?_; rotate_left; (rintro w' ⟨a0', a1', a3', d0, d1, d3⟩; go_simp; with_reducible rfl); rotate_left; (simp only [Act.put, List.setIfInBounds_toArray, List.set_cons_zero, List.set_cons_succ, i64_w, i32_w]; rfl)
        refine pure_ (i := 5) (N := some 75) (v := ?_) (a' := ?_) #[tt,tt,tt,tt,tt,tt,ff,ff,ff,ff,ff,ff,ff,ff,ff,ff,ff,ff,ff,ff,ff,ff,ff,ff,ff,ff,ff,ff] rfl rfl (by kernel_rfl) (fun _ _ _ h => h) (Or.inl ⟨by rfl, ?_⟩) ?_ ?_; rotate_left; (intro w'; go_simp; with_reducible rfl); rotate_left; (simp only [Act.put, List.setIfInBounds_toArray, List.set_cons_zero, List.set_cons_succ, i64_w, i32_w]; rfl)
        refine take_ (i := 6) (N := some 76) (v := ?_) (a' := ?_) #[tt,tt,tt,tt,tt,tt,tt,ff,ff,ff,ff,ff,ff,ff,ff,ff,ff,ff,ff,ff,ff,ff,ff,ff,ff,ff,ff,ff] rfl rfl (by kernel_rfl) (fun _ _ _ h => h) (Or.inl ⟨by rfl, ?_⟩) hHeld ?_ ?_; rotate_left; (rintro w' ⟨a0', a1', a3', d0, d1, d3⟩; go_simp; with_reducible rfl); rotate_left; (simp only [Act.put, List.setIfInBounds_toArray, List.set_cons_zero, List.set_cons_succ, i64_w, i32_w]; rfl)
        refine pure_ (i := 7) (N := some 77) (v := ?_) (a' := ?_) #[tt,tt,tt,tt,tt,tt,tt,tt,ff,ff,ff,ff,ff,ff,ff,ff,ff,ff,ff,ff,ff,ff,ff,ff,ff,ff,ff,ff] rfl rfl (by kernel_rfl) (fun _ _ _ h => h) (Or.inl ⟨by rfl, ?_⟩) ?_ ?_; rotate_left; (intro w'; go_simp; with_reducible rfl); rotate_left; (simp only [Act.put, List.setIfInBounds_toArray, List.set_cons_zero, List.set_cons_succ, i64_w, i32_w]; rfl)
        refine pure_ (i := 8) (N := some 78) (v := ?_) (a' := ?_) #[tt,tt,tt,tt,tt,tt,tt,tt,tt,ff,ff,ff,ff,ff,ff,ff,ff,ff,ff,ff,ff,ff,ff,ff,ff,ff,ff,ff] rfl rfl (by kernel_rfl) (fun _ _ _ h => h) (Or.inl ⟨by rfl, ?_⟩) ?_ ?_; rotate_left; (intro w'; go_simp; with_reducible rfl); rotate_left; (simp only [Act.put, List.setIfInBounds_toArray, List.set_cons_zero, List.set_cons_succ, i64_w, i32_w]; rfl)
        refine pure_ (i := 9) (N := some 79) (v := ?_) (a' := ?_) #[tt,tt,tt,tt,tt,tt,tt,tt,tt,tt,ff,ff,ff,ff,ff,ff,ff,ff,ff,ff,ff,ff,ff,ff,ff,ff,ff,ff] rfl rfl (by kernel_rfl) (fun _ _ _ h => h) (Or.inl ⟨by rfl, ?_⟩) ?_ ?_; rotate_left; (intro w'; go_simp; with_reducible rfl); rotate_left; (simp only [Act.put, List.setIfInBounds_toArray, List.set_cons_zero, List.set_cons_succ, i64_w, i32_w]; rfl)
        refine pure_ (i := 10) (N := some 80) (v := ?_) (a' := ?_) #[tt,tt,tt,tt,tt,tt,tt,tt,tt,tt,tt,ff,ff,ff,ff,ff,ff,ff,ff,ff,ff,ff,ff,ff,ff,ff,ff,ff] rfl rfl (by kernel_rfl) (fun _ _ _ h => h) (Or.inl ⟨by rfl, ?_⟩) ?_ ?_; rotate_left; (intro w'; go_simp; with_reducible rfl); rotate_left; (simp only [Act.put, List.setIfInBounds_toArray, List.set_cons_zero, List.set_cons_succ, i64_w, i32_w]; rfl)
        refine pure_ (i := 11) (N := some 81) (v := ?_) (a' := ?_) #[tt,tt,tt,tt,tt,tt,tt,tt,tt,tt,tt,tt,ff,ff,ff,ff,ff,ff,ff,ff,ff,ff,ff,ff,ff,ff,ff,ff] rfl rfl (by kernel_rfl) (fun _ _ _ h => h) (Or.inl ⟨by rfl, ?_⟩) ?_ ?_; rotate_left; (intro w'; go_simp; with_reducible rfl); rotate_left; (simp only [Act.put, List.setIfInBounds_toArray, List.set_cons_zero, List.set_cons_succ, i64_w, i32_w]; rfl)
        refine pure_ (i := 12) (N := some 82) (v := ?_) (a' := ?_) #[tt,tt,tt,tt,tt,tt,tt,tt,tt,tt,tt,tt,tt,ff,ff,ff,ff,ff,ff,ff,ff,ff,ff,ff,ff,ff,ff,ff] rfl rfl (by kernel_rfl) (fun _ _ _ h => h) (Or.inl ⟨by rfl, ?_⟩) ?_ ?_; rotate_left; (intro w'; go_simp; with_reducible rfl); rotate_left; (simp only [Act.put, List.setIfInBounds_toArray, List.set_cons_zero, List.set_cons_succ, i64_w, i32_w]; rfl)
        refine take_ (i := 13) (N := some 83) (v := ?_) (a' := ?_) #[tt,tt,tt,tt,tt,tt,tt,tt,tt,tt,tt,tt,tt,tt,ff,ff,ff,ff,ff,ff,ff,ff,ff,ff,ff,ff,ff,ff] rfl rfl (by kernel_rfl) (fun _ _ _ h => h) (Or.inl ⟨by rfl, ?_⟩) hHeld ?_ ?_; rotate_left; (rintro w' ⟨a0', a1', a3', d0, d1, d3⟩; go_simp; with_reducible rfl); rotate_left; (simp only [Act.put, List.setIfInBounds_toArray, List.set_cons_zero, List.set_cons_succ, i64_w, i32_w]; rfl)
        refine pure_ (i := 14) (N := some 84) (v := ?_) (a' := ?_) #[tt,tt,tt,tt,tt,tt,tt,tt,tt,tt,tt,tt,tt,tt,tt,ff,ff,ff,ff,ff,ff,ff,ff,ff,ff,ff,ff,ff] rfl rfl (by kernel_rfl) (fun _ _ _ h => h) (Or.inl ⟨by rfl, ?_⟩) ?_ ?_; rotate_left; (intro w'; go_simp; with_reducible rfl); rotate_left; (simp only [Act.put, List.setIfInBounds_toArray, List.set_cons_zero, List.set_cons_succ, i64_w, i32_w]; rfl)
        refine take_ (i := 15) (N := some 85) (v := ?_) (a' := ?_) #[tt,tt,tt,tt,tt,tt,tt,tt,tt,tt,tt,tt,tt,tt,tt,tt,ff,ff,ff,ff,ff,ff,ff,ff,ff,ff,ff,ff] rfl rfl (by kernel_rfl) (fun _ _ _ h => h) (Or.inl ⟨by rfl, ?_⟩) hHeld ?_ ?_; rotate_left; (rintro w' ⟨a0', a1', a3', d0, d1, d3⟩; go_simp; with_reducible rfl); rotate_left; (simp only [Act.put, List.setIfInBounds_toArray, List.set_cons_zero, List.set_cons_succ, i64_w, i32_w]; rfl)
        refine pure_ (i := 16) (N := some 86) (v := ?_) (a' := ?_) #[tt,tt,tt,tt,tt,tt,tt,tt,tt,tt,tt,tt,tt,tt,tt,tt,tt,ff,ff,ff,ff,ff,ff,ff,ff,ff,ff,ff] rfl rfl (by kernel_rfl) (fun _ _ _ h => h) (Or.inl ⟨by rfl, ?_⟩) ?_ ?_; rotate_left; (intro w'; go_simp; with_reducible rfl); rotate_left; (simp only [Act.put, List.setIfInBounds_toArray, List.set_cons_zero, List.set_cons_succ, i64_w, i32_w]; rfl)
        refine pure_ (i := 17) (N := some 87) (v := ?_) (a' := ?_) #[tt,tt,tt,tt,tt,tt,tt,tt,tt,tt,tt,tt,tt,tt,tt,tt,tt,tt,ff,ff,ff,ff,ff,ff,ff,ff,ff,ff] rfl rfl (by kernel_rfl) (fun _ _ _ h => h) (Or.inl ⟨by rfl, ?_⟩) ?_ ?_; rotate_left; (intro w'; go_simp; with_reducible rfl); rotate_left; (simp only [Act.put, List.setIfInBounds_toArray, List.set_cons_zero, List.set_cons_succ, i64_w, i32_w]; rfl)
        refine pure_ (i := 18) (N := some 88) (v := ?_) (a' := ?_) #[tt,tt,tt,tt,tt,tt,tt,tt,tt,tt,tt,tt,tt,tt,tt,tt,tt,tt,tt,ff,ff,ff,ff,ff,ff,ff,ff,ff] rfl rfl (by kernel_rfl) (fun _ _ _ h => h) (Or.inl ⟨by rfl, ?_⟩) ?_ ?_; rotate_left; (intro w'; go_simp; with_reducible rfl); rotate_left; (simp only [Act.put, List.setIfInBounds_toArray, List.set_cons_zero, List.set_cons_succ, i64_w, i32_w]; rfl)
        refine pure_ (i := 19) (N := some 89) (v := ?_) (a' := ?_) #[tt,tt,tt,tt,tt,tt,tt,tt,tt,tt,tt,tt,tt,tt,tt,tt,tt,tt,tt,tt,ff,ff,ff,ff,ff,ff,ff,ff] rfl rfl (by kernel_rfl) (fun _ _ _ h => h) (Or.inl ⟨by rfl, ?_⟩) ?_ ?_; rotate_left; (intro w'; go_simp; with_reducible rfl); rotate_left; (simp only [Act.put, List.setIfInBounds_toArray, List.set_cons_zero, List.set_cons_succ, i64_w, i32_w]; rfl)
        refine pure_ (i := 20) (N := some 90) (v := ?_) (a' := ?_) #[tt,tt,tt,tt,tt,tt,tt,tt,tt,tt,tt,tt,tt,tt,tt,tt,tt,tt,tt,tt,tt,ff,ff,ff,ff,ff,ff,ff] rfl rfl (by kernel_rfl) (fun _ _ _ h => h) (Or.inl ⟨by rfl, ?_⟩) ?_ ?_; rotate_left; (intro w'; go_simp; with_reducible rfl); rotate_left; (simp only [Act.put, List.setIfInBounds_toArray, List.set_cons_zero, List.set_cons_succ, i64_w, i32_w]; rfl)
        refine pure_ (i := 21) (N := some 91) (v := ?_) (a' := ?_) #[tt,tt,tt,tt,tt,tt,tt,tt,tt,tt,tt,tt,tt,tt,tt,tt,tt,tt,tt,tt,tt,tt,ff,ff,ff,ff,ff,ff] rfl rfl (by kernel_rfl) (fun _ _ _ h => h) (Or.inl ⟨by rfl, ?_⟩) ?_ ?_; rotate_left; (intro w'; go_simp; with_reducible rfl); rotate_left; (simp only [Act.put, List.setIfInBounds_toArray, List.set_cons_zero, List.set_cons_succ, i64_w, i32_w]; rfl)
        refine pure_ (i := 22) (N := some 92) (v := ?_) (a' := ?_) #[tt,tt,tt,tt,tt,tt,tt,tt,tt,tt,tt,tt,tt,tt,tt,tt,tt,tt,tt,tt,tt,tt,tt,ff,ff,ff,ff,ff] rfl rfl (by kernel_rfl) (fun _ _ _ h => h) (Or.inl ⟨by rfl, ?_⟩) ?_ ?_; rotate_left; (intro w'; go_simp; with_reducible rfl); rotate_left; (simp only [Act.put, List.setIfInBounds_toArray, List.set_cons_zero, List.set_cons_succ, i64_w, i32_w]; rfl)
        refine take_ (i := 23) (N := some 93) (v := ?_) (a' := ?_) #[tt,tt,tt,tt,tt,tt,tt,tt,tt,tt,tt,tt,tt,tt,tt,tt,tt,tt,tt,tt,tt,tt,tt,tt,ff,ff,ff,ff] rfl rfl (by kernel_rfl) (fun _ _ _ h => h) (Or.inl ⟨by rfl, ?_⟩) hHeld ?_ ?_; rotate_left; (rintro w' ⟨a0', a1', a3', d0, d1, d3⟩; go_simp; with_reducible rfl); rotate_left; (simp only [Act.put, List.setIfInBounds_toArray, List.set_cons_zero, List.set_cons_succ, i64_w, i32_w]; rfl)
        refine pure_ (i := 24) (N := some 94) (v := ?_) (a' := ?_) #[tt,tt,tt,tt,tt,tt,tt,tt,tt,tt,tt,tt,tt,tt,tt,tt,tt,tt,tt,tt,tt,tt,tt,tt,tt,ff,ff,ff] rfl rfl (by kernel_rfl) (fun _ _ _ h => h) (Or.inl ⟨by rfl, ?_⟩) ?_ ?_; rotate_left; (intro w'; go_simp; with_reducible rfl); rotate_left; (simp only [Act.put, List.setIfInBounds_toArray, List.set_cons_zero, List.set_cons_succ, i64_w, i32_w]; rfl)
        refine take_ (i := 25) (N := some 95) (v := ?_) (a' := ?_) #[tt,tt,tt,tt,tt,tt,tt,tt,tt,tt,tt,tt,tt,tt,tt,tt,tt,tt,tt,tt,tt,tt,tt,tt,tt,tt,ff,ff] rfl rfl (by kernel_rfl) (fun _ _ _ h => h) (Or.inl ⟨by rfl, ?_⟩) hHeld ?_ ?_; rotate_left; (rintro w' ⟨a0', a1', a3', d0, d1, d3⟩; go_simp; with_reducible rfl); rotate_left; (simp only [Act.put, List.setIfInBounds_toArray, List.set_cons_zero, List.set_cons_succ, i64_w, i32_w]; rfl)
        refine pure_ (i := 26) (N := some 96) (v := ?_) (a' := ?_) #[tt,tt,tt,tt,tt,tt,tt,tt,tt,tt,tt,tt,tt,tt,tt,tt,tt,tt,tt,tt,tt,tt,tt,tt,tt,tt,tt,ff] rfl rfl (by kernel_rfl) (fun _ _ _ h => h) (Or.inl ⟨by rfl, ?_⟩) ?_ ?_; rotate_left; (intro w'; go_simp; with_reducible rfl); rotate_left; (simp only [Act.put, List.setIfInBounds_toArray, List.set_cons_zero, List.set_cons_succ, i64_w, i32_w]; rfl)
        refine pure_ (i := 27) (N := some 97) (v := ?_) (a' := ?_) #[tt,tt,tt,tt,tt,tt,tt,tt,tt,tt,tt,tt,tt,tt,tt,tt,tt,tt,tt,tt,tt,tt,tt,tt,tt,tt,tt,tt] rfl rfl (by kernel_rfl) (fun _ _ _ h => h) (Or.inl ⟨by rfl, ?_⟩) ?_ ?_; rotate_left; (intro w'; go_simp; with_reducible rfl); rotate_left; (simp only [Act.put, List.setIfInBounds_toArray, List.set_cons_zero, List.set_cons_succ, i64_w, i32_w]; rfl)
        refine done_ (by kernel_rfl) ?_
        go_wp2
        go_roundg gkO
        case measure => omega
        case rel => exact ⟨i + 1, rfl, by omega, by have := hf.out; show _ = _; omega, hba.out.drew⟩
      · have hie : i = x1.length := by omega
        have hlt2 : ¬ (i : Int) < (x1.length : Int) := by omega
        have HBR : Hid (Below w.heap.size w wr) := HB4.out.trans (hbr.out.mono HB4.out.size)
        go_wp2
        go_ret
        exact ⟨rfl, HBR.out⟩
end Go.Proofs.Ytanmgkpgfmkobaa
