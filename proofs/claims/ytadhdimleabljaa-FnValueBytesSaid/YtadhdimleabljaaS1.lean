/- Where records lie: contracts. -/
import Derived.Test.YtadhdimleabljaaC9
import Derived.Test.YtadhdimleabljaaL1
import Derived.Test.YtadhdimleabljaaV2
namespace Go.Proofs.Ytadhdimleabljaa
open Go.RowKit
set_option linter.unusedVariables false
set_option linter.unusedSimpArgs false
/-- Spots: (log, length, offset). -/
def spotLt (a b c d e f : Int) : Bool := if a != d then decide (a < d) else if c != f then decide (c < f) else decide (b < e)
def Ret (w : World) (v : Value) (e : Ending) (w' : World) : Prop := e = .returned v ∧ Below w.heap.size w w'

theorem givenSpot_any (a b c : Int) (w : World) : Calls Try.prog 87 #[.agg #[.int .u32 a, .int .u32 b, .int .u32 c]] w (Ret w (.agg #[.int .u32 a, .int .u32 b, .int .u32 c])) := by
  go_enter Try.func87, Try.ntmps87
  go_wp2
  refine bodyPost_ret (v := .agg #[.int .u32 a, .int .u32 b, .int .u32 c]) (by simp [results, Try.results87, go_sem]) rfl ⟨rfl, ?_⟩
  exact bl_alloc (bl_alloc (Below.refl _ _) _) _
theorem vpLess_any (a b c d e f : Int) (w : World) : Calls Try.prog 136 #[.agg #[.int .u32 a, .int .u32 b, .int .u32 c], .agg #[.int .u32 d, .int .u32 e, .int .u32 f]] w (Ret w (.bool (spotLt a b c d e f))) := by
  unfold spotLt
  rcases hb : (a != d) with _ | _
  · rcases hb2 : (c != f) with _ | _
    · go_enter Try.func136, Try.ntmps136
      go_wp2
      go_ret
      exact ⟨rfl, by (repeat first | with_reducible exact Below.refl _ _ | with_reducible apply bl_drewN | with_reducible apply bl_drew | with_reducible apply bl_alloc | (with_reducible refine bl_trans ?_ (Hid.out (by assumption))))⟩
    · go_enter Try.func136, Try.ntmps136
      go_wp2
      go_ret
      exact ⟨rfl, by (repeat first | with_reducible exact Below.refl _ _ | with_reducible apply bl_drewN | with_reducible apply bl_drew | with_reducible apply bl_alloc | (with_reducible refine bl_trans ?_ (Hid.out (by assumption))))⟩
  · go_enter Try.func136, Try.ntmps136
    go_wp2
    go_ret
    exact ⟨rfl, by (repeat first | with_reducible exact Below.refl _ _ | with_reducible apply bl_drewN | with_reducible apply bl_drew | with_reducible apply bl_alloc | (with_reducible refine bl_trans ?_ (Hid.out (by assumption))))⟩
theorem placeLess_any (a b c d e f : Int) (w : World) : Calls Try.prog 86 #[.agg #[.int .u32 a, .int .u32 b, .int .u32 c], .agg #[.int .u32 d, .int .u32 e, .int .u32 f]] w (Ret w (.bool (spotLt a b c d e f))) := by
  go_enter Try.func86, Try.ntmps86
  go_wp2_with fail
  refine (vpLess_any a b c d e f _).mono ?_
  rintro e w1 ⟨rfl, hb1⟩
  have HB1 := Lib.hid hb1
  clear hb1
  go_wp2
  go_ret
  exact ⟨rfl, by (repeat first | with_reducible exact Below.refl _ _ | with_reducible apply bl_drewN | with_reducible apply bl_drew | with_reducible apply bl_alloc | (with_reducible refine bl_trans ?_ (Hid.out (by assumption))))⟩
theorem blk_new (w : World) (o : Obj) : (w.alloc o).heap[w.heap.size]? = some o := heap_alloc_new w o
theorem blk_old {w : World} {g : Nat} {o : Obj} (h : w.heap[g]? = some o) (o' : Obj) : (w.alloc o').heap[g]? = some o := (Below.heap_alloc w o' g (Array.getElem?_eq_some_iff.1 h).1).trans h
theorem blk_below {w w1 : World} {g : Nat} {o : Obj} (h : w.heap[g]? = some o) (hb : Below w.heap.size w w1) : w1.heap[g]? = some o := (hb.block g (Array.getElem?_eq_some_iff.1 h).1).trans h
theorem cell_keep {w w1 : World} {p : Addr} {v : Value} (hb : Hid (Below w.heap.size w w1)) (h : w.cell? p = some v) : w1.cell? p = some v := by
  rw [hb.out.cell (World.block_lt_of_cell? w _ h)]; exact h
theorem bl_keep {w w' w1 : World} (hb : Hid (Below w'.heap.size w' w1)) (h : Hid (Below w.heap.size w w')) : Hid (Below w.heap.size w w1) := bl_trans h.out hb.out
theorem cell_drew {w : World} {p : Addr} {v : Value} (h : w.cell? p = some v) : w.drew.cell? p = some v := h
theorem bl_keepD {w w1 : World} (h : Hid (Below w.heap.size w w1)) : Hid (Below w.heap.size w w1.drew) := bl_drew h.out
theorem cell_alloc {w : World} {p : Addr} {v : Value} (o : Obj) (h : w.cell? p = some v) : (w.alloc o).cell? p = some v := by
  rw [World.cell?_alloc_lt w o p (World.block_lt_of_cell? w _ h)]; exact h
theorem bl_keepA {w w1 : World} (o : Obj) (h : Hid (Below w.heap.size w w1)) : Hid (Below w.heap.size w (w1.alloc o)) := bl_alloc h.out o
/-- The cells of a block, one by one. -/
theorem cell_blk {w : World} {g t : Nat} {cs : Array Value} {fr : Nat × Nat} (h : w.heap[g]? = some (.cells cs t fr)) (i : Nat) (v : Value) (hv : cs[i]? = some v) : w.cell? ⟨g, i, none⟩ = some v := by
  simp [World.cell?, h, hv]
theorem implSpotLess_any (a b c d e f : Int) (w : World) : Calls Try.prog 28 #[.agg #[.int .u32 a, .int .u32 b, .int .u32 c], .agg #[.int .u32 d, .int .u32 e, .int .u32 f]] w (Ret w (.bool (spotLt a b c d e f))) := by
  go_enter Try.func28, Try.ntmps28
  go_wp2_with fail
  have hs : (w.alloc (.cells #[.int .u32 a, .int .u32 b, .int .u32 c] 24)).heap.size = w.heap.size + 1 := by rw [World.size_alloc]
  have h2 := blk_new (w.alloc (.cells #[.int .u32 a, .int .u32 b, .int .u32 c] 24)) (.cells #[.int .u32 d, .int .u32 e, .int .u32 f] 24)
  rw [hs] at h2
  clear hs
  have h1 := blk_old (blk_new w (.cells #[.int .u32 a, .int .u32 b, .int .u32 c] 24)) (.cells #[.int .u32 d, .int .u32 e, .int .u32 f] 24)
  have HB : Hid (Below w.heap.size w ((w.alloc (.cells #[.int .u32 a, .int .u32 b, .int .u32 c] 24)).alloc (.cells #[.int .u32 d, .int .u32 e, .int .u32 f] 24))) := bl_alloc (bl_alloc (Below.refl _ _) _) _
  generalize (w.alloc (.cells #[.int .u32 a, .int .u32 b, .int .u32 c] 24)).alloc (.cells #[.int .u32 d, .int .u32 e, .int .u32 f] 24) = w0 at *
  have q0 := cell_blk h1 0 _ rfl
  have q1 := cell_blk h1 1 _ rfl
  have q2 := cell_blk h1 2 _ rfl
  have q3 := cell_blk h2 0 _ rfl
  have q4 := cell_blk h2 1 _ rfl
  have q5 := cell_blk h2 2 _ rfl
  clear h1 h2
  go_region_held3 (fun w' => w'.cell? ⟨w.heap.size, 0, none⟩ = some (.int .u32 a) ∧ w'.cell? ⟨w.heap.size, 1, none⟩ = some (.int .u32 b) ∧ w'.cell? ⟨w.heap.size, 2, none⟩ = some (.int .u32 c) ∧ w'.cell? ⟨w.heap.size + 1, 0, none⟩ = some (.int .u32 d) ∧ w'.cell? ⟨w.heap.size + 1, 1, none⟩ = some (.int .u32 e) ∧ w'.cell? ⟨w.heap.size + 1, 2, none⟩ = some (.int .u32 f) ∧ Hid (Below w.heap.size w w')) (first | ((try go_split_ands); (repeat' with_reducible apply And.intro); all_goals first | exact cell_keep (by assumption) (by assumption) | exact bl_keep (by assumption) (by assumption) | exact cell_drew (by assumption) | exact bl_keepD (by assumption) | exact cell_alloc _ (by assumption) | exact bl_keepA _ (by assumption) | exact bl_keepN _ (by assumption) | exact cellOr_drew (by assumption) | exact fz_drew (by assumption) | exact cellOr_keep (by assumption) (by assumption) | exact fz_keep (by assumption) (by assumption) (by assumption) | exact cellOr_alloc _ (by assumption) | exact fz_alloc _ (by assumption) (by assumption) | (repeat first | exact fz_set (by assumption) | exact cellOr_set (by assumption) | assumption | refine fz_set ?_ | refine cellOr_set ?_ | (refine bl_set ?_ (by simp)) | (refine cell_far (by simp) ?_)))) (first | (go_at_call 87; refine (givenSpot_any _ _ _ _).mono ?_; rintro e w1 ⟨rfl, hb1⟩; have HB1 := Lib.hid hb1; clear hb1) | (go_at_call 86; refine (placeLess_any _ _ _ _ _ _ _).mono ?_; rintro e w1 ⟨rfl, hb1⟩; have HB1 := Lib.hid hb1; clear hb1))
  go_split_ands
  go_wp2
  go_ret
  exact ⟨rfl, by first | exact Hid.out (by assumption)⟩
def SpotWf (a b c : Int) : Prop := (Lit.int .u32 a).wf = true ∧ (Lit.int .u32 b).wf = true ∧ (Lit.int .u32 c).wf = true
theorem spotLess_walk0 (a b c d e f : Int) (w : World) : Calls Try.prog 3 #[.agg #[.int .u32 a, .int .u32 b, .int .u32 c], .agg #[.int .u32 d, .int .u32 e, .int .u32 f]] w (Holds w) := by
  have e0 : spotLt 0 0 0 1 0 0 = true := by decide
  have E0 := Lib.hid e0
  clear e0
  rcases hb : (a != d) with _ | _
  · rcases hb2 : (c != f) with _ | _
    · go_enter Try.func3, Try.ntmps3
      go_wp2_with fail
      refine (implSpotLess_any a b c d e f _).mono ?_
      rintro e w1 ⟨rfl, hb1⟩
      have HB1 := Lib.hid hb1
      clear hb1
      have HS : spotLt a b c d e f = decide (b < e) := by simp only [spotLt, hb, hb2, if_true, if_false, Bool.false_eq_true]
      rw [HS]
      clear HS
      go_wp2_with fail
      refine (implSpotLess_any 0 0 0 1 0 0 _).mono ?_
      rintro e w2 ⟨rfl, hb3⟩
      have HB3 := Lib.hid hb3
      clear hb3
      rw [E0.out]
      go_wp2
      go_ret
      exact ⟨by simp, by (repeat first | with_reducible exact Below.refl _ _ | with_reducible apply bl_drewN | with_reducible apply bl_drew | with_reducible apply bl_alloc | (with_reducible refine bl_trans ?_ (Hid.out (by assumption))))⟩
    · go_enter Try.func3, Try.ntmps3
      go_wp2_with fail
      refine (implSpotLess_any a b c d e f _).mono ?_
      rintro e w1 ⟨rfl, hb1⟩
      have HB1 := Lib.hid hb1
      clear hb1
      have HS : spotLt a b c d e f = decide (c < f) := by simp only [spotLt, hb, hb2, if_true, if_false, Bool.false_eq_true]
      rw [HS]
      clear HS
      go_wp2_with fail
      refine (implSpotLess_any 0 0 0 1 0 0 _).mono ?_
      rintro e w2 ⟨rfl, hb3⟩
      have HB3 := Lib.hid hb3
      clear hb3
      rw [E0.out]
      go_wp2
      go_ret
      exact ⟨by simp, by (repeat first | with_reducible exact Below.refl _ _ | with_reducible apply bl_drewN | with_reducible apply bl_drew | with_reducible apply bl_alloc | (with_reducible refine bl_trans ?_ (Hid.out (by assumption))))⟩
  · rcases hb2 : (c != f) with _ | _
    · go_enter Try.func3, Try.ntmps3
      go_wp2_with fail
      refine (implSpotLess_any a b c d e f _).mono ?_
      rintro e w1 ⟨rfl, hb1⟩
      have HB1 := Lib.hid hb1
      clear hb1
      have HS : spotLt a b c d e f = decide (a < d) := by simp only [spotLt, hb, hb2, if_true, if_false, Bool.false_eq_true]
      rw [HS]
      clear HS
      go_wp2_with fail
      refine (implSpotLess_any 0 0 0 1 0 0 _).mono ?_
      rintro e w2 ⟨rfl, hb3⟩
      have HB3 := Lib.hid hb3
      clear hb3
      rw [E0.out]
      go_wp2
      go_ret
      exact ⟨by simp, by (repeat first | with_reducible exact Below.refl _ _ | with_reducible apply bl_drewN | with_reducible apply bl_drew | with_reducible apply bl_alloc | (with_reducible refine bl_trans ?_ (Hid.out (by assumption))))⟩
    · go_enter Try.func3, Try.ntmps3
      go_wp2_with fail
      refine (implSpotLess_any a b c d e f _).mono ?_
      rintro e w1 ⟨rfl, hb1⟩
      have HB1 := Lib.hid hb1
      clear hb1
      have HS : spotLt a b c d e f = decide (a < d) := by simp only [spotLt, hb, hb2, if_true, if_false, Bool.false_eq_true]
      rw [HS]
      clear HS
      go_wp2_with fail
      refine (implSpotLess_any 0 0 0 1 0 0 _).mono ?_
      rintro e w2 ⟨rfl, hb3⟩
      have HB3 := Lib.hid hb3
      clear hb3
      rw [E0.out]
      go_wp2
      go_ret
      exact ⟨by simp, by (repeat first | with_reducible exact Below.refl _ _ | with_reducible apply bl_drewN | with_reducible apply bl_drew | with_reducible apply bl_alloc | (with_reducible refine bl_trans ?_ (Hid.out (by assumption))))⟩
theorem spotLess_walk (s t : SpotD) (w : World) (hs : s.ok) (ht : t.ok) : Calls Try.prog 3 #[s.val, t.val] w (Holds w) := by
  obtain ⟨a, b, c⟩ := s
  obtain ⟨d, e, f⟩ := t
  exact spotLess_walk0 a b c d e f w
end Go.Proofs.Ytadhdimleabljaa
