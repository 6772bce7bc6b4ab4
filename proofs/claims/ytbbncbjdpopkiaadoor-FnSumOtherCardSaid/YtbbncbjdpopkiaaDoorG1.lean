/- A checksum looked at: contracts. -/
import Derived.Test.YtbbncbjdpopkiaaDoorK1
import Derived.Test.YtbbncbjdpopkiaaDoorB1
import Derived.Test.YtbbncbjdpopkiaaDoorWMore
import Derived.Stop.LaidErr
import Derived.StillTailTactics
namespace Go.Proofs.YtbbncbjdpopkiaaDoor
open Go.RowKit
set_option linter.unusedVariables false
set_option linter.unusedSimpArgs false
/-- The error that is wrapped is there. -/
def GErr (w : World) : Prop := ∃ t p, w.cell? ⟨0, 0, none⟩ = some (.iface t p)
theorem cell_stay {w w' : World} {p : Addr} {v : Value} (h : w.cell? p = some v) (hb : Below w.heap.size w w') : w'.cell? p = some v := by
  have hlt : p.block < w.heap.size := by
    rcases Nat.lt_or_ge p.block w.heap.size with h' | h'
    · exact h'
    · simp [World.cell?, Array.getElem?_eq_none h'] at h
  rw [hb.cell hlt]
  exact h
theorem GErr.below {w w' : World} (h : GErr w) (hb : Below w.heap.size w w') : GErr w' := by
  obtain ⟨t, p, h⟩ := h
  exact ⟨t, p, cell_stay h hb⟩
set_option maxRecDepth 100000 in
theorem wrap_any (t : TypeId) (p : Value) (s : ByteArray) (w : World) :
    Calls Tryd.prog 60 #[.iface t p, .string s] w fun E w' => (∃ t p, E = .returned (.iface t p)) ∧ Below w.heap.size w w' := by
  go_enter Tryd.func60, Tryd.ntmps60
  go_wp2
  go_ret
  exact ⟨⟨_, _, rfl⟩, by (repeat first | with_reducible exact Below.refl _ _ | with_reducible apply bl_drewN | with_reducible apply bl_drew | with_reducible apply bl_alloc | (with_reducible refine bl_trans ?_ (Hid.out (by assumption))))⟩
set_option maxRecDepth 100000 in
theorem wrapf_any (t : TypeId) (p : Value) (s : ByteArray) (v : Value) (w : World) :
    Calls Tryd.prog 48 #[.iface t p, .string s, v] w fun E w' => (∃ t p, E = .returned (.iface t p)) ∧ Below w.heap.size w w' := by
  go_enter Tryd.func48, Tryd.ntmps48
  go_wp2_with fail
  refine (wrap_any t p s w).mono ?_
  rintro E w1 ⟨⟨t1, p1, rfl⟩, hb⟩
  have HB := Lib.hid hb
  clear hb
  go_wp2
  go_ret
  exact ⟨⟨_, _, rfl⟩, HB.out⟩
set_option maxRecDepth 100000 in
theorem verify_any (A : Option Addr) (n c g : Nat) (l : List Int) (s : Int) (w : World) (h : Sl w A n (nums .u8 l)) (hB : Byt l) (hn : n ≤ 1000000) (hk : Blk w g 59 [.int .i32 0, .int .u64 s]) (hG : GErr w) :
    Calls Tryd.prog 28 #[.slice A n c, .pointer (some ⟨g, 0, none⟩)] w fun E w' => (∃ v, E = .returned v ∧ (crcOut l = s → v = .nilIface) ∧ (crcOut l ≠ s → ∃ t p, v = .iface t p)) ∧ Below w.heap.size w w' := by
  obtain ⟨gt, gp, hg⟩ := hG
  have hr := crcOut_in l hB
  obtain ⟨r0, r1⟩ := hr
  have hwr : IntKind.u64.wrap (crcOut l) = crcOut l := wrapU64 _ r0 (u32_64' r1).out
  have H := Lib.hid h
  have HB := Lib.hid hB
  have q0 : w.cell? ⟨g, 0, none⟩ = some (.int .i32 0) := by rw [hk.cell]; rfl
  have q1 : w.cell? ⟨g, 1, none⟩ = some (.int .u64 s) := by rw [hk.cell]; rfl
  clear h hB hk
  by_cases he : crcOut l = s
  · go_enter Tryd.func28, Tryd.ntmps28
    go_wp2_with fail
    refine (calculate_any A n c l w H.out HB.out hn).mono ?_
    rintro E w1 ⟨rfl, rfl⟩
    go_wp2
    go_ret
    exact ⟨⟨_, rfl, fun _ => rfl, fun h => absurd he h⟩, Below.refl _ _⟩
  · go_enter Tryd.func28, Tryd.ntmps28
    go_wp2_with fail
    refine (calculate_any A n c l w H.out HB.out hn).mono ?_
    rintro E w1 ⟨rfl, rfl⟩
    go_wp2_with fail
    refine Go.Proofs.YtbbncbjdpopkiaaDoorW.PrintLast.start_ (n := 11) (S := fun w' => w'.cell? ⟨0, 0, none⟩ = some (.iface gt gp) ∧ w'.cell? ⟨g, 1, none⟩ = some (.int .u64 s)) (ds := []) #[false, false, false, false, false, false, false, false, false, false, false] (by kernel_rfl) rfl rfl (⟨hg, q1⟩) (fun hHeld => ?_)
    have hb0 : Below w.heap.size w w.drew := (Below.refl _ w).drew
    have hh0 : w.drew.heap.size = w.heap.size := rfl
    clear hg q0 q1
    generalize w.drew = w3 at *
    refine Go.Proofs.YtbbncbjdpopkiaaDoorW.PrintLast.take_ (i := 0) (N := some 18) (v := ?_) (a' := ?_) #[true, false, false, false, false, false, false, false, false, false, false] rfl rfl (by kernel_rfl) (fun _ _ _ h => h) (Or.inl ⟨by rfl, ?_⟩) hHeld ?_ ?_
    rotate_left
    · rintro w' ⟨h0, h1⟩
      go_simp
      with_reducible rfl
    rotate_left
    · simp only [Act.put, List.setIfInBounds_toArray, List.set_cons_zero, List.set_cons_succ, Go.Proofs.YtbbncbjdpopkiaaDoorW.PrintLast.i64_w, Go.Proofs.YtbbncbjdpopkiaaDoorW.PrintLast.i32_w]
      rfl
    refine Go.Proofs.YtbbncbjdpopkiaaDoorW.PrintLast.pure_ (i := 1) (N := some 19) (v := ?_) (a' := ?_) #[true, true, false, false, false, false, false, false, false, false, false] rfl rfl (by kernel_rfl) (fun _ _ _ h => h) (Or.inl ⟨by rfl, ?_⟩) ?_ ?_
    rotate_left
    · intro w'
      go_simp
      with_reducible rfl
    rotate_left
    · simp only [Act.put, List.setIfInBounds_toArray, List.set_cons_zero, List.set_cons_succ, Go.Proofs.YtbbncbjdpopkiaaDoorW.PrintLast.i64_w, Go.Proofs.YtbbncbjdpopkiaaDoorW.PrintLast.i32_w]
      rfl
    refine Go.Proofs.YtbbncbjdpopkiaaDoorW.PrintLast.pure_ (i := 2) (N := some 20) (v := ?_) (a' := ?_) #[true, true, true, false, false, false, false, false, false, false, false] rfl rfl (by kernel_rfl) (fun _ _ _ h => h) (Or.inl ⟨by rfl, ?_⟩) ?_ ?_
    rotate_left
    · intro w'
      go_simp
      with_reducible rfl
    rotate_left
    · simp only [Act.put, List.setIfInBounds_toArray, List.set_cons_zero, List.set_cons_succ, Go.Proofs.YtbbncbjdpopkiaaDoorW.PrintLast.i64_w, Go.Proofs.YtbbncbjdpopkiaaDoorW.PrintLast.i32_w]
      rfl
    refine Go.Proofs.YtbbncbjdpopkiaaDoorW.PrintLast.pure_ (i := 3) (N := some 21) (v := ?_) (a' := ?_) #[true, true, true, true, false, false, false, false, false, false, false] rfl rfl (by kernel_rfl) (fun _ _ _ h => h) (Or.inl ⟨by rfl, ?_⟩) ?_ ?_
    rotate_left
    · intro w'
      go_simp
      with_reducible rfl
    rotate_left
    · simp only [Act.put, List.setIfInBounds_toArray, List.set_cons_zero, List.set_cons_succ, Go.Proofs.YtbbncbjdpopkiaaDoorW.PrintLast.i64_w, Go.Proofs.YtbbncbjdpopkiaaDoorW.PrintLast.i32_w]
      rfl
    refine Go.Proofs.YtbbncbjdpopkiaaDoorW.PrintLast.pure_ (i := 4) (N := some 22) (v := ?_) (a' := ?_) #[true, true, true, true, true, false, false, false, false, false, false] rfl rfl (by kernel_rfl) (fun _ _ _ h => h) (Or.inl ⟨by rfl, ?_⟩) ?_ ?_
    rotate_left
    · intro w'
      go_simp
      with_reducible rfl
    rotate_left
    · simp only [Act.put, List.setIfInBounds_toArray, List.set_cons_zero, List.set_cons_succ, Go.Proofs.YtbbncbjdpopkiaaDoorW.PrintLast.i64_w, Go.Proofs.YtbbncbjdpopkiaaDoorW.PrintLast.i32_w]
      rfl
    refine Go.Proofs.YtbbncbjdpopkiaaDoorW.PrintLast.pure_ (i := 5) (N := some 23) (v := ?_) (a' := ?_) #[true, true, true, true, true, true, false, false, false, false, false] rfl rfl (by kernel_rfl) (fun _ _ _ h => h) (Or.inl ⟨by rfl, ?_⟩) ?_ ?_
    rotate_left
    · intro w'
      go_simp
      with_reducible rfl
    rotate_left
    · simp only [Act.put, List.setIfInBounds_toArray, List.set_cons_zero, List.set_cons_succ, Go.Proofs.YtbbncbjdpopkiaaDoorW.PrintLast.i64_w, Go.Proofs.YtbbncbjdpopkiaaDoorW.PrintLast.i32_w]
      rfl
    refine Go.Proofs.YtbbncbjdpopkiaaDoorW.PrintLast.take_ (i := 6) (N := some 24) (v := ?_) (a' := ?_) #[true, true, true, true, true, true, true, false, false, false, false] rfl rfl (by kernel_rfl) (fun _ _ _ h => h) (Or.inl ⟨by rfl, ?_⟩) hHeld ?_ ?_
    rotate_left
    · rintro w' ⟨h0, h1⟩
      go_simp
      with_reducible rfl
    rotate_left
    · simp only [Act.put, List.setIfInBounds_toArray, List.set_cons_zero, List.set_cons_succ, Go.Proofs.YtbbncbjdpopkiaaDoorW.PrintLast.i64_w, Go.Proofs.YtbbncbjdpopkiaaDoorW.PrintLast.i32_w]
      rfl
    refine Go.Proofs.YtbbncbjdpopkiaaDoorW.PrintLast.pure_ (i := 7) (N := some 25) (v := ?_) (a' := ?_) #[true, true, true, true, true, true, true, true, false, false, false] rfl rfl (by kernel_rfl) (fun _ _ _ h => h) (Or.inl ⟨by rfl, ?_⟩) ?_ ?_
    rotate_left
    · intro w'
      go_simp
      with_reducible rfl
    rotate_left
    · simp only [Act.put, List.setIfInBounds_toArray, List.set_cons_zero, List.set_cons_succ, Go.Proofs.YtbbncbjdpopkiaaDoorW.PrintLast.i64_w, Go.Proofs.YtbbncbjdpopkiaaDoorW.PrintLast.i32_w]
      rfl
    refine Go.Proofs.YtbbncbjdpopkiaaDoorW.PrintLast.one_ (i := 8) (N := some 26) #[true, true, true, true, true, true, true, true, true, false, false] rfl rfl (by kernel_rfl) (by decide) (fun K hK => ?_)
    refine Go.Proofs.YtbbncbjdpopkiaaDoorW.PrintLast.value_ (v := .slice (some ⟨w3.heap.size, 0, none⟩) 2 2) (w1 := w3.alloc (.cells #[.iface 23 (.int .u64 (crcOut l)), .iface 23 (.int .u64 s)] 20)) (by rfl) rfl ?_ ?_
    · go_simp
      try rfl
    refine hK.out _ _ (⟨cell?_alloc_old _ hHeld.1, cell?_alloc_old _ hHeld.2⟩) (fun hHeld => ?_)
    clear hK K
    refine Go.Proofs.YtbbncbjdpopkiaaDoorW.PrintLast.norm_ (a' := ?_) ?_ ?_
    rotate_left
    · show Act.put _ (some 26) _ = _
      simp only [Act.put, List.setIfInBounds_toArray, List.set_cons_zero, List.set_cons_succ, Go.Proofs.YtbbncbjdpopkiaaDoorW.PrintLast.i64_w, Go.Proofs.YtbbncbjdpopkiaaDoorW.PrintLast.i32_w]
      rfl
    have hb1 : Below w.heap.size w (w3.alloc (.cells #[.iface 23 (.int .u64 (crcOut l)), .iface 23 (.int .u64 s)] 20)) := hb0.alloc (by omega) _
    generalize w3.alloc (.cells #[.iface 23 (.int .u64 (crcOut l)), .iface 23 (.int .u64 s)] 20) = w4 at *
    refine Go.Proofs.YtbbncbjdpopkiaaDoorW.PrintLast.one_ (i := 9) (N := some 27) #[true, true, true, true, true, true, true, true, true, true, false] rfl rfl (by kernel_rfl) (by decide) (fun K hK => ?_)
    refine Go.Proofs.YtbbncbjdpopkiaaDoorW.PrintLast.goes_ Tryd.func48 (by kernel_rfl) rfl #[.iface gt gp, .string ⟨#[97, 99, 116, 117, 97, 108, 58, 32, 37, 100, 44, 32, 101, 120, 112, 101, 99, 116, 101, 100, 58, 32, 37, 100]⟩, .slice (some ⟨w3.heap.size, 0, none⟩) 2 2] (by rfl) rfl rfl (by (try simp only [List.map_toArray, List.map_cons, List.map_nil]); first | done | rfl) ?_
    refine (wrapf_any _ _ _ _ w4).mono ?_
    rintro E w5 ⟨⟨t5, p5, rfl⟩, hb5⟩
    refine ⟨_, rfl, ?_⟩
    have hb6 : Below w.heap.size w w5 := hb1.trans (hb5.mono hb1.size)
    refine hK.out _ _ (⟨cell_stay hHeld.1 hb5, cell_stay hHeld.2 hb5⟩) (fun hHeld => ?_)
    clear hK K
    refine Go.Proofs.YtbbncbjdpopkiaaDoorW.PrintLast.norm_ (a' := ?_) ?_ ?_
    rotate_left
    · show Act.put _ (some 27) _ = _
      simp only [Act.put, List.setIfInBounds_toArray, List.set_cons_zero, List.set_cons_succ, Go.Proofs.YtbbncbjdpopkiaaDoorW.PrintLast.i64_w, Go.Proofs.YtbbncbjdpopkiaaDoorW.PrintLast.i32_w]
      rfl
    refine Go.Proofs.YtbbncbjdpopkiaaDoorW.PrintLast.pure_ (i := 10) (N := some 4) (v := ?_) (a' := ?_) #[true, true, true, true, true, true, true, true, true, true, true] rfl rfl (by kernel_rfl) (fun _ _ _ h => h) (Or.inl ⟨by rfl, ?_⟩) ?_ ?_
    rotate_left
    · intro w'
      go_simp
      with_reducible rfl
    rotate_left
    · simp only [Act.put, List.setIfInBounds_toArray, List.set_cons_zero, List.set_cons_succ, Go.Proofs.YtbbncbjdpopkiaaDoorW.PrintLast.i64_w, Go.Proofs.YtbbncbjdpopkiaaDoorW.PrintLast.i32_w]
      rfl
    refine Go.Proofs.YtbbncbjdpopkiaaDoorW.PrintLast.done_ (by kernel_rfl) ?_
    go_wp2
    go_ret
    exact ⟨⟨_, rfl, fun h => absurd h he, fun _ => ⟨_, _, rfl⟩⟩, hb6⟩
end Go.Proofs.YtbbncbjdpopkiaaDoor
