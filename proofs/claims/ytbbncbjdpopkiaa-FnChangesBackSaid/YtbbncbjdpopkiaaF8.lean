/- Changes read again: the thin package's word, and the law's walk. -/
import Derived.Test.YtbbncbjdpopkiaaF4
import Derived.Test.YtbbncbjdpopkiaaF5
import Derived.Test.YtbbncbjdpopkiaaF6
import Derived.Test.YtbbncbjdpopkiaaF7
namespace Go.Proofs.Ytbbncbjdpopkiaa
open Go.RowKit
set_option linter.unusedVariables false
set_option linter.unusedSimpArgs false
theorem cell_stay2 {w w' : World} {p : Addr} {v : Value} (h : w.cell? p = some v) (hb : Below w.heap.size w w') : w'.cell? p = some v := by
  rw [hb.cell (World.block_lt_of_cell? w _ h)]
  exact h
set_option maxRecDepth 100000 in
theorem decodeChanges_any (A : Option Addr) (n c : Nat) (l : List Chg) (w : World) (h : Sl w A n (nums .u8 (chgsB l))) (hok : ∀ c ∈ l, Chg.ok c) (hn : l.length ≤ 1000) :
    Calls Try.prog 10 #[.slice A n c] w fun E w' => ∃ B d, E = .returned (.tuple #[.slice B l.length d, .bool true]) ∧ Slc w' B l.length l ∧ Below w.heap.size w w' := by
  have HK : Hid (∀ c ∈ l, Chg.ok c) := hok
  have hlen : (chgsB l).length = n := by have := h.1; rwa [nums_length] at this
  have hll := chgsB_len l
  have hz : n ≤ 77000 := by omega
  have H := Lib.hid h
  clear hok hll h
  go_enter Try.func10, Try.ntmps10
  go_wp2_with fail
  refine (own_any A n c (chgsB l) _ (H.out.alloc _) (by omega)).mono ?_
  intro E w1 h1
  obtain ⟨A1, c1, rfl, hc1, hs1, hb1, ho1⟩ := h1.sv
  clear h1
  rw [hlen] at hc1 hs1 ho1
  have hk1 : Hid (Blk w1 w.heap.size 51 [.slice none 0 0]) := (Blk.new w 51 [.slice none 0 0]).below hb1.out (by simp)
  have hA1 : Hid (∀ h o, A1 = some ⟨h, o, none⟩ → h ≠ w.heap.size) := fun h o e => by
    subst e
    have := (ho1.out.lt h rfl).1
    simp at this
    omega
  go_wp2_with fail
  refine (unmarshal_any w.heap.size A1 _ c1 l w1 hs1.out hc1 hA1.out hk1.out HK.out hn).mono ?_
  rintro E w2 ⟨v, gs, rfl, hk2, hg2, ho2, hp2⟩
  obtain ⟨A2, c2, rfl, hc2, hs2⟩ := own_sl ho2
  have q2 : w2.cell? ⟨w.heap.size, 0, none⟩ = some (.slice A2 l.length c2) := by rw [hk2.cell]; rfl
  have HS2 := Lib.hid hs2
  have HP2 := Lib.hid hp2
  have HB2 : Hid (Below w.heap.size w w2) := by
    have h0 : Below w.heap.size w w1 := ((Below.refl _ w).alloc (Nat.le_refl _) _).trans (hb1.out.mono (by simp))
    exact h0.grown hg2 h0.size (by intro k e; injection e with e; omega)
  clear hk2 hg2 ho2 hs2 hp2
  go_wp2_with fail
  refine Go.Proofs.YtbbncbjdpopkiaaW.PrintLast.start_ (n := 9) (S := fun w' => w'.cell? ⟨w.heap.size, 0, none⟩ = some (.slice A2 l.length c2)) (ds := []) #[false, false, false, false, false, false, false, false, false] (by kernel_rfl) rfl rfl (q2) (fun hHeld => ?_)
  have HS4 : Hid (Sl w2.drew A2 l.length (ptrV gs)) := HS2.out
  have HP4 : Hid (Ptrs w2.drew w1.heap.size gs l) := HP2.out
  have HB4 : Hid (Below w.heap.size w w2.drew) := HB2.out.drew
  clear q2 HS2 HP2 HB2
  generalize w2.drew = w4 at *
  refine Go.Proofs.YtbbncbjdpopkiaaW.PrintLast.pure_ (i := 0) (N := some 12) (v := ?_) (a' := ?_) #[true, false, false, false, false, false, false, false, false] rfl rfl (by kernel_rfl) (fun _ _ _ h => h) (Or.inl ⟨by rfl, ?_⟩) ?_ ?_
  rotate_left
  · intro w'
    go_simp
    with_reducible rfl
  rotate_left
  · simp only [Act.put, List.setIfInBounds_toArray, List.set_cons_zero, List.set_cons_succ, Go.Proofs.YtbbncbjdpopkiaaW.PrintLast.i64_w, Go.Proofs.YtbbncbjdpopkiaaW.PrintLast.i32_w]
    rfl
  refine Go.Proofs.YtbbncbjdpopkiaaW.PrintLast.pure_ (i := 1) (N := some 13) (v := ?_) (a' := ?_) #[true, true, false, false, false, false, false, false, false] rfl rfl (by kernel_rfl) (fun _ _ _ h => h) (Or.inl ⟨by rfl, ?_⟩) ?_ ?_
  rotate_left
  · intro w'
    go_simp
    with_reducible rfl
  rotate_left
  · simp only [Act.put, List.setIfInBounds_toArray, List.set_cons_zero, List.set_cons_succ, Go.Proofs.YtbbncbjdpopkiaaW.PrintLast.i64_w, Go.Proofs.YtbbncbjdpopkiaaW.PrintLast.i32_w]
    rfl
  refine Go.Proofs.YtbbncbjdpopkiaaW.PrintLast.pure_ (i := 2) (N := some 14) (v := ?_) (a' := ?_) #[true, true, true, false, false, false, false, false, false] rfl rfl (by kernel_rfl) (fun _ _ _ h => h) (Or.inl ⟨by rfl, ?_⟩) ?_ ?_
  rotate_left
  · intro w'
    go_simp
    with_reducible rfl
  rotate_left
  · simp only [Act.put, List.setIfInBounds_toArray, List.set_cons_zero, List.set_cons_succ, Go.Proofs.YtbbncbjdpopkiaaW.PrintLast.i64_w, Go.Proofs.YtbbncbjdpopkiaaW.PrintLast.i32_w]
    rfl
  refine Go.Proofs.YtbbncbjdpopkiaaW.PrintLast.take_ (i := 3) (N := some 15) (v := ?_) (a' := ?_) #[true, true, true, true, false, false, false, false, false] rfl rfl (by kernel_rfl) (fun _ _ _ h => h) (Or.inl ⟨by rfl, ?_⟩) hHeld ?_ ?_
  rotate_left
  · rintro w' h0
    go_simp
    with_reducible rfl
  rotate_left
  · simp only [Act.put, List.setIfInBounds_toArray, List.set_cons_zero, List.set_cons_succ, Go.Proofs.YtbbncbjdpopkiaaW.PrintLast.i64_w, Go.Proofs.YtbbncbjdpopkiaaW.PrintLast.i32_w]
    rfl
  refine Go.Proofs.YtbbncbjdpopkiaaW.PrintLast.pure_ (i := 5) (N := some 17) (v := ?_) (a' := ?_) #[true, true, true, true, false, true, false, false, false] rfl rfl (by kernel_rfl) (fun _ _ _ h => h) (Or.inl ⟨by rfl, ?_⟩) ?_ ?_
  rotate_left
  · intro w'
    go_simp
    with_reducible rfl
  rotate_left
  · simp only [Act.put, List.setIfInBounds_toArray, List.set_cons_zero, List.set_cons_succ, Go.Proofs.YtbbncbjdpopkiaaW.PrintLast.i64_w, Go.Proofs.YtbbncbjdpopkiaaW.PrintLast.i32_w]
    rfl
  refine Go.Proofs.YtbbncbjdpopkiaaW.PrintLast.pure_ (i := 6) (N := some 18) (v := ?_) (a' := ?_) #[true, true, true, true, false, true, true, false, false] rfl rfl (by kernel_rfl) (fun _ _ _ h => h) (Or.inl ⟨by rfl, ?_⟩) ?_ ?_
  rotate_left
  · intro w'
    go_simp
    with_reducible rfl
  rotate_left
  · simp only [Act.put, List.setIfInBounds_toArray, List.set_cons_zero, List.set_cons_succ, Go.Proofs.YtbbncbjdpopkiaaW.PrintLast.i64_w, Go.Proofs.YtbbncbjdpopkiaaW.PrintLast.i32_w]
    rfl
  refine Go.Proofs.YtbbncbjdpopkiaaW.PrintLast.one_ (i := 4) (N := some 16) #[true, true, true, true, true, true, true, false, false] rfl rfl (by kernel_rfl) (by decide) (fun K hK => ?_)
  refine Go.Proofs.YtbbncbjdpopkiaaW.PrintLast.goes_ Try.func22 (by kernel_rfl) rfl #[.slice A2 l.length c2] (by rfl) rfl rfl (by (try simp only [List.map_toArray, List.map_cons, List.map_nil]); first | done | rfl) ?_
  refine (toldChanges_any w1.heap.size A2 l.length c2 gs l w4 HS4.out HP4.out hn).mono ?_
  rintro E w3 ⟨v3, rfl, ho3, hb3⟩
  refine ⟨_, rfl, ?_⟩
  obtain ⟨A3, c3, rfl, hc3⟩ := own_slc ho3 rfl
  have HC3 := Lib.hid hc3
  have HB3 := Lib.hid hb3
  clear ho3 hc3
  refine hK.out _ _ (cell_stay2 hHeld hb3) (fun hHeld => ?_)
  clear hK K
  refine Go.Proofs.YtbbncbjdpopkiaaW.PrintLast.norm_ (a' := ?_) ?_ ?_
  rotate_left
  · show Act.put _ (some 16) _ = _
    simp only [Act.put, List.setIfInBounds_toArray, List.set_cons_zero, List.set_cons_succ, Go.Proofs.YtbbncbjdpopkiaaW.PrintLast.i64_w, Go.Proofs.YtbbncbjdpopkiaaW.PrintLast.i32_w]
    rfl
  refine Go.Proofs.YtbbncbjdpopkiaaW.PrintLast.pure_ (i := 7) (N := some 2) (v := ?_) (a' := ?_) #[true, true, true, true, true, true, true, true, false] rfl rfl (by kernel_rfl) (fun _ _ _ h => h) (Or.inl ⟨by rfl, ?_⟩) ?_ ?_
  rotate_left
  · intro w'
    go_simp
    with_reducible rfl
  rotate_left
  · simp only [Act.put, List.setIfInBounds_toArray, List.set_cons_zero, List.set_cons_succ, Go.Proofs.YtbbncbjdpopkiaaW.PrintLast.i64_w, Go.Proofs.YtbbncbjdpopkiaaW.PrintLast.i32_w]
    rfl
  refine Go.Proofs.YtbbncbjdpopkiaaW.PrintLast.pure_ (i := 8) (N := some 3) (v := ?_) (a' := ?_) #[true, true, true, true, true, true, true, true, true] rfl rfl (by kernel_rfl) (fun _ _ _ h => h) (Or.inl ⟨by rfl, ?_⟩) ?_ ?_
  rotate_left
  · intro w'
    go_simp
    with_reducible rfl
  rotate_left
  · simp only [Act.put, List.setIfInBounds_toArray, List.set_cons_zero, List.set_cons_succ, Go.Proofs.YtbbncbjdpopkiaaW.PrintLast.i64_w, Go.Proofs.YtbbncbjdpopkiaaW.PrintLast.i32_w]
    rfl
  refine Go.Proofs.YtbbncbjdpopkiaaW.PrintLast.done_ (by kernel_rfl) ?_
  clear hb3
  go_wp2
  go_ret2
  exact ⟨A3, c3, rfl, HC3.out, by (repeat first | with_reducible exact Below.refl _ _ | with_reducible apply bl_drewN | with_reducible apply bl_drew | with_reducible apply bl_alloc | (with_reducible refine bl_trans ?_ (Hid.out (by assumption))))⟩
end Go.Proofs.Ytbbncbjdpopkiaa
