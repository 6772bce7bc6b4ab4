/- A manifest that is new. -/
import Derived.Test.YtpfmmbhbmdbmeaaDoorY5
namespace Go.Proofs.YtpfmmbhbmdbmeaaDoor
open Go.RowKit
set_option linter.unusedVariables false
set_option linter.unusedSimpArgs false
def NewP (w : World) (E : Ending) (w' : World) : Prop := ∃ A c bt, E = .returned (.agg #[.slice A 0 c, .map (some bt), .int .i64 0, .int .i64 0]) ∧ MapAt Tryd.prog w' 42 .u64 bt 0 (fun _ => none) ∧ w'.ownsRow w.heap.size 115 1 (.slice A 0 c) 0 [] ∧ Below w.heap.size w w' ∧ w.heap.size ≤ bt
theorem put4m {w w' : World} {b : Nat} (h : Below b w w') (v0 v1 v2 v3 : Value) : Below b w ((((w'.setCell ⟨b, 0, none⟩ v0).setCell ⟨b, 1, none⟩ v1).setCell ⟨b, 2, none⟩ v2).setCell ⟨b, 3, none⟩ v3) :=
  (((h.setCell (Nat.le_refl _) _).setCell (Nat.le_refl _) _).setCell (Nat.le_refl _) _).setCell (Nat.le_refl _) _
theorem frm4m (w : World) (b : Nat) (v0 v1 v2 v3 : Value) : Frm [b] w ((((w.setCell ⟨b, 0, none⟩ v0).setCell ⟨b, 1, none⟩ v1).setCell ⟨b, 2, none⟩ v2).setCell ⟨b, 3, none⟩ v3) :=
  ((((Frm.refl [b] w).andSet _ _ (.inl (by simp))).andSet _ _ (.inl (by simp))).andSet _ _ (.inl (by simp))).andSet _ _ (.inl (by simp))
/-- A result block is set: what else is known stays. -/
theorem newP_put {w w' : World} {A : Option Addr} {c bt : Nat} {cs : List Value} (hm : MapAt Tryd.prog w' 42 .u64 bt 0 (fun _ => none)) (ho : w'.ownsRow w.heap.size 115 1 (.slice A 0 c) 0 []) (hb : Below w.heap.size w w') (hbt : w.heap.size ≤ bt) (hz : Blk w' w.heap.size 54 cs) (v0 v1 v2 v3 : Value)
    (hv : v0 = .slice A 0 c ∧ v1 = .map (some bt) ∧ v2 = .int .i64 0 ∧ v3 = .int .i64 0) :
    NewP w (.returned (.agg #[v0, v1, v2, v3])) ((((w'.setCell ⟨w.heap.size, 0, none⟩ v0).setCell ⟨w.heap.size, 1, none⟩ v1).setCell ⟨w.heap.size, 2, none⟩ v2).setCell ⟨w.heap.size, 3, none⟩ v3) := by
  obtain ⟨rfl, rfl, rfl, rfl⟩ := hv
  refine ⟨A, c, bt, rfl, hm.frm (frm4m _ _ _ _ _ _) (by rw [List.mem_singleton]; exact hm.ne_blk hz), own_frm2 ho (frm4m _ _ _ _ _ _) (fun g e => ?_), put4m hb _ _ _ _, hbt⟩
  rw [List.mem_singleton]
  intro e2
  subst e2
  exact own_ne ho hz (by decide) e.symm
set_option maxRecDepth 100000 in
theorem createManifest_any (w : World) : Calls Tryd.prog 33 #[] w (NewP w) := by
  have hmm := @run_makeMap Tryd.prog
  obtain ⟨iM, hiM, hzM1, hzM2, hzM3⟩ := info_parts infoLM
  have HI := Lib.hid (And.intro hiM (And.intro hzM1 (And.intro hzM2 hzM3)))
  have HZ : Hid (Blk (w.alloc (.cells #[.slice none 0 0, .map none, .int .i64 0, .int .i64 0] 54)) w.heap.size 54 [.slice none 0 0, .map none, .int .i64 0, .int .i64 0]) := Blk.new w _ _
  have HB : Hid (Below w.heap.size w (w.alloc (.cells #[.slice none 0 0, .map none, .int .i64 0, .int .i64 0] 54))) := (Below.refl _ _).alloc (Nat.le_refl _) _
  clear hiM hzM1 hzM2 hzM3
  go_enter Tryd.func33, Tryd.ntmps33
  go_upto_region 1 with fail
  generalize w.alloc (.cells #[.slice none 0 0, .map none, .int .i64 0, .int .i64 0] 54) = w0 at *
  go_wp2_with (at_make; refine wpList_make_own _ rfl (.const (.int .i64 0)) (.const (.int .i64 0)) 51 rfl w.heap.size 115 iM (.agg #[.map none]) 1 Tryd.underlying51 HI.out.1 HI.out.2.1 HI.out.2.2.1 .i64 .i64 _ 0 rfl rfl rfl (by omega) (by simp only [maxLen]; omega) HB.out.size ?_; intro w1 hown1 hg1; have HO1 := Lib.hid hown1; have HB1 : Hid (Below w.heap.size w w1) := HB.out.grown hg1 HB.out.size (fun k e => by cases e); have HZ1 : Hid (Blk w1 w.heap.size 54 [.slice none 0 0, .map none, .int .i64 0, .int .i64 0]) := (hg1.block _ HZ.out.lt (by simp)).trans HZ.out; have HZ2 := Lib.hid (HZ1.out.alloc (.map #[] 0)); have r0 := HZ2.out.at_ (i := 0) rfl; have r1 := HZ2.out.at_ (i := 1) rfl; have r2 := HZ2.out.at_ (i := 2) rfl; have r3 := HZ2.out.at_ (i := 3) rfl; have z0 := HZ2.out.frozen 0; have z1 := HZ2.out.frozen 1; have z2 := HZ2.out.frozen 2; have z3 := HZ2.out.frozen 3; clear hown1 hg1)
  refine bodyPost_ret (v := .agg #[.slice (some ⟨w0.heap.size, 0, none⟩) 0 0, .map (some w1.heap.size), .int .i64 0, .int .i64 0]) (by simp [results, Tryd.results33, go_sem, r0, r1, r2, r3, z0, z1, z2, z3]) rfl ?_
  exact newP_put (MapAt.made Tryd.prog w1 42 .u64) (HO1.out.alloc _) (HB1.out.alloc HB1.out.size _) HB1.out.size HZ2.out _ _ _ _ ⟨rfl, rfl, rfl, rfl⟩
set_option maxRecDepth 100000 in
theorem newManifest_any (w : World) : Calls Tryd.prog 25 #[] w (NewP w) := by
  have HZ : Hid (Blk (w.alloc (.cells #[.slice none 0 0, .map none, .int .i64 0, .int .i64 0] 54)) w.heap.size 54 [.slice none 0 0, .map none, .int .i64 0, .int .i64 0]) := Blk.new w _ _
  have HB : Hid (Below w.heap.size w (w.alloc (.cells #[.slice none 0 0, .map none, .int .i64 0, .int .i64 0] 54))) := (Below.refl _ _).alloc (Nat.le_refl _) _
  go_enter Tryd.func25, Tryd.ntmps25
  go_wp2_with fail
  generalize w.alloc (.cells #[.slice none 0 0, .map none, .int .i64 0, .int .i64 0] 54) = w0 at *
  refine (createManifest_any w0).mono ?_
  rintro E w1 ⟨A, c, bt, rfl, hm, ho, hb, hbt⟩
  have HM := Lib.hid hm
  have HO := Lib.hid ho
  have HB1 : Hid (Below w.heap.size w w1) := HB.out.trans (hb.mono HB.out.size)
  have HBT : Hid (w.heap.size ≤ bt) := Nat.le_trans HB.out.size hbt
  have HZ1 : Hid (Blk w1 w.heap.size 54 [.slice none 0 0, .map none, .int .i64 0, .int .i64 0]) := HZ.out.frm (Frm.of_below hb) (by simp)
  have HSZ : Hid (w.heap.size ≤ w0.heap.size) := HB.out.size
  have r0 := HZ1.out.at_ (i := 0) rfl
  have r1 := HZ1.out.at_ (i := 1) rfl
  have r2 := HZ1.out.at_ (i := 2) rfl
  have r3 := HZ1.out.at_ (i := 3) rfl
  have z0 := HZ1.out.frozen 0
  have z1 := HZ1.out.frozen 1
  have z2 := HZ1.out.frozen 2
  have z3 := HZ1.out.frozen 3
  clear hm ho hb hbt
  go_wp2
  refine bodyPost_ret (v := .agg #[.slice A 0 c, .map (some bt), .int .i64 0, .int .i64 0]) (by simp [results, Tryd.results25, go_sem, r0, r1, r2, r3, z0, z1, z2, z3]) rfl ?_
  exact newP_put HM.out (own_weaken' HO.out HSZ.out) HB1.out HBT.out HZ1.out _ _ _ _ ⟨rfl, rfl, rfl, rfl⟩
end Go.Proofs.YtpfmmbhbmdbmeaaDoor
