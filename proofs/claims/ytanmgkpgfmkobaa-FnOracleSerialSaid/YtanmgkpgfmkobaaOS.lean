/- sort.Slice over a mark's row: by the shelf's contract. -/
import Derived.Test.YtanmgkpgfmkobaaOG
import Derived.Shelf.GgSortFunc.Whole
import Derived.Shelf.GgSortFunc.Tiny
import Derived.Shelf.Lay
import Derived.Deep.QuietTactic
import Derived.Ground.GgsProg
import Derived.Lib.RowBridge
import Derived.Lib.SortBridge
import Derived.Sort.LotA
import Derived.WalkKit
namespace Go.Proofs
open Go.Shelf
shelf_lay LaysGg.n6 Ggs 6 at Try as Try.sl6
end Go.Proofs
namespace Go.Proofs.Ytanmgkpgfmkobaa
open Go.Shelf Go.RowKit Go.Lib Go.Sort
set_option linter.unusedVariables false
set_option linter.unusedSimpArgs false
noncomputable def siT : TypeInfo := (Try.prog.info? 59).get (by kernel_rfl)
noncomputable def siE : TypeInfo := (Try.prog.info? 28).get (by kernel_rfl)
theorem siK (n : Nat) (h2 : 2 ≤ n) : Lib.swapperK n siE 11 = 5 := by
  have a : siE.hasPointers = false := by kernel_rfl
  have b : siE.bytes = 8 := by kernel_rfl
  have c : (n == 0) = false := by simp; omega
  have d : (n == 1) = false := by simp; omega
  simp [Lib.swapperK, a, b, c, d]
/-- At ints there is one sorted permutation. -/
theorem ints_sorted_eq (d d' : Array Int) (hp : PermIn 0 d.size d d') (hs : SortedIn ltInt 0 d.size d') : d' = (d.toList.mergeSort fun x y => decide (x ≤ y)).toArray := by
  have h := sorted_unique_holds (lt := ltInt) swo_ltInt (fun x y h1 h2 => by simp only [ltInt, decide_eq_false_iff_not] at h1 h2; omega) d d' hp hs
  have e : (fun x y : Int => !ltInt y x) = fun x y => decide (x ≤ y) := by
    funext x y
    simp only [ltInt]
    by_cases h : x ≤ y
    · first | (simp [h]; done) | (simp [h]; omega)
    · first | (simp [h]; done) | (simp [h]; omega)
  rw [e] at h
  rw [← h]
set_option maxHeartbeats 2000000 in
/-- The closure of the mark: bound to a pointer to the box of the mark's pointer. -/
theorem less_mark (blk off c Bx Bm size : Nat) (W : World) (G : Nat → Int) (hb : W.cell? ⟨Bx, 0, none⟩ = some (.pointer (some ⟨Bm, 0, none⟩))) (hs : W.cell? ⟨Bm, 0, none⟩ = some (.slice (some ⟨blk, off, none⟩) size c))
    (hc : ∀ t, t < size → W.cell? ⟨blk, off + t, none⟩ = some (.int .u64 (G t))) (i j : Nat) (hi : i < size) (hj : j < size) :
    Calls Try.prog 127 #[.int .i64 i, .int .i64 j, .pointer (some ⟨Bx, 0, none⟩)] W fun e w' => e = .returned (.bool (decide (G i < G j))) ∧ ∃ q, w' = W.drewN q := by
  have ci := hc i hi
  have cj := hc j hj
  go_enter Try.func127, Try.ntmps127
  go_wp2
  go_quiet (fail)
  go_wp2
  go_ret
  exact ⟨rfl, nq, rfl⟩
set_option maxHeartbeats 2000000 in
theorem sort_some (blk off c Bx Bm : Nat) (d : Array Int) (h2 : 2 ≤ d.size) (hsz : d.size < 4611686018427387904) (w : World) (hb : w.cell? ⟨Bx, 0, none⟩ = some (.pointer (some ⟨Bm, 0, none⟩))) (hs : w.cell? ⟨Bm, 0, none⟩ = some (.slice (some ⟨blk, off, none⟩) d.size c))
    (hH : Holds (Value.int .u64) w blk off d) (hblk : blk < w.heap.size) (hn1 : Bx ≠ blk) (hn2 : Bm ≠ blk) :
    Calls Try.prog 126 #[.iface 59 (.slice (some ⟨blk, off, none⟩) d.size c), .func (.func 127) #[] #[.pointer (some ⟨Bx, 0, none⟩)]] w fun e w' =>
      e = .returned (.tuple #[]) ∧ ∃ n os, w' = grow (putRow (Value.int .u64) (Sort.ahead w n) blk off (d.toList.mergeSort fun x y => decide (x ≤ y)).toArray) os := by
  have lx : Bx < w.heap.size := World.block_lt_of_cell? w _ hb
  have lm : Bm < w.heap.size := World.block_lt_of_cell? w _ hs
  have hless : LessReads Try.prog 127 #[.pointer (some ⟨Bx, 0, none⟩)] (Value.int .u64) ltInt blk off d.size w := by
    intro m os dk hsk i j hi hj
    have e : sortWorld (Value.int .u64) w blk off m dk os = putRow (Value.int .u64) (grow (Sort.ahead w m) os) blk off dk := by
      unfold sortWorld; rw [putRow_grow _ (Sort.ahead w m) _ blk off _ hblk]
    have hHg : Holds (Value.int .u64) (grow (Sort.ahead w m) os) blk off d := holds_grow _ _ _ blk off d hblk (holds_ahead _ _ _ _ _ _ hH)
    refine less_mark blk off c Bx Bm d.size _ (fun t => dk[t]!) ?_ ?_ (fun t ht => ?_) i j hi hj
    · rw [e, cell?_putRow_other _ _ blk off dk _ (Or.inl hn1), cell?_grow _ _ _ (show Bx < w.heap.size from lx)]
      exact hb
    · rw [e, cell?_putRow_other _ _ blk off dk _ (Or.inl hn2), cell?_grow _ _ _ (show Bm < w.heap.size from lm)]
      exact hs
    · rw [e]; exact cell?_putRow _ _ blk off d dk hHg hsk t (by omega)
  have hS := Any.sort_Slice_sorted Try.sl6 59 28 siT siE (by kernel_rfl) (by kernel_rfl) (by kernel_rfl) (by kernel_rfl) 11 (fun _ => by kernel_rfl) (by kernel_rfl) (fun _ => by kernel_rfl) (Value.int .u64) (fun _ => rfl) ltInt swo_ltInt 127 _
    (enters_of Try.func127 (by kernel_rfl) rfl) blk off c d h2 hsz 141 (by rw [siK _ h2]; kernel_rfl) true
    (fun args W => run_callFunc_extern Try.func141 (by kernel_rfl) (by kernel_rfl) (by kernel_rfl) (e := Extern.ReflectliteSwapper.swap true) (by kernel_rfl) args W) w hless hH hblk
  change Calls Try.prog 126 _ _ _ at hS
  refine hS.mono ?_
  rintro e w' ⟨he, d', n, os, hp, hso, hw⟩
  rw [ints_sorted_eq d d' hp hso] at hw
  exact ⟨he, n, os, hw⟩
theorem sort_none (lf : Fn) (la lb : Array Value) (p : Option Addr) (n c : Nat) (h1 : n ≤ 1) (w : World) :
    Calls Try.prog 126 #[.iface 59 (.slice p n c), .func lf la lb] w fun e w' => e = .returned (.tuple #[]) ∧ ∃ os, w' = grow w os := by
  have hK : Lib.swapperK n siE 11 = n + 1 := by
    rcases Nat.eq_zero_or_pos n with h | h
    · subst h; simp [Lib.swapperK]
    · obtain rfl : n = 1 := by omega
      simp [Lib.swapperK]
  have hS := Any.sort_Slice_tiny Try.sl6 59 28 siT siE (by kernel_rfl) (by kernel_rfl) (by kernel_rfl) (by kernel_rfl) 11 (fun _ => by kernel_rfl) p n c h1 (137 + n) (by
    rw [hK]
    rcases Nat.eq_zero_or_pos n with h | h
    · subst h; kernel_rfl
    · obtain rfl : n = 1 := by omega
      kernel_rfl) lf la lb w
  exact hS
theorem frm_ahead (w : World) (n : Nat) : Frm [] w (Sort.ahead w n) := ⟨rfl, rfl, rfl, Nat.le_refl _, fun _ _ _ => rfl⟩
theorem frm_grow (w : World) (os : Array Obj) : Frm [] w (grow w os) := ⟨rfl, rfl, rfl, by rw [size_grow]; omega, fun i hi _ => heap_grow_old w os hi⟩
/-- What sort.Slice leaves of a mark's row. -/
theorem sort_own (B blk off c Bx Bm : Nat) (cur : Array Value) (l : List Int) (w : World) (hlen : l.length < 4611686018427387904) (hb : w.cell? ⟨Bx, 0, none⟩ = some (.pointer (some ⟨Bm, 0, none⟩))) (hs : w.cell? ⟨Bm, 0, none⟩ = some (.slice (some ⟨blk, off, none⟩) l.length c))
    (hcur : w.heap[blk]? = some (.cells cur 28 (0, 0))) (hB : B ≤ blk) (hlc : l.length ≤ c) (hcm : c ≤ maxLen) (hoc : off + c ≤ cur.size) (htk : (cur.toList.drop off).take l.length = nums .u64 l) (hn1 : Bx ≠ blk) (hn2 : Bm ≠ blk) :
    Calls Try.prog 126 #[.iface 59 (.slice (some ⟨blk, off, none⟩) l.length c), .func (.func 127) #[] #[.pointer (some ⟨Bx, 0, none⟩)]] w fun e w' =>
      e = .returned (.tuple #[]) ∧ OwnO w' B 28 (.slice (some ⟨blk, off, none⟩) l.length c) (nums .u64 (l.mergeSort fun x y => decide (x ≤ y))) ∧ Frm [blk] w w' := by
  have hml : (l.mergeSort fun x y => decide (x ≤ y)).length = l.length := List.length_mergeSort _
  have hown : OwnO w B 28 (.slice (some ⟨blk, off, none⟩) l.length c) (nums .u64 l) := .inr ⟨blk, off, c, cur, by rw [nums_length], hB, hcur, by rw [nums_length]; exact hlc, hcm, hoc, by rw [nums_length]; exact htk⟩
  have hblk : blk < w.heap.size := (Array.getElem?_eq_some_iff.1 hcur).1
  by_cases h2 : 2 ≤ l.length
  · have hH : Holds (Value.int .u64) w blk off l.toArray := by
      intro j hj
      have hj : j < l.length := by simpa using hj
      have hcur2 : Blk w blk 28 cur.toList := by unfold Blk; rw [Array.toArray_toList]; exact hcur
      refine ⟨?_, hcur2.frozen _⟩
      rw [hcur2.cell]
      have h3 : (nums .u64 l)[j]? = some (.int .u64 l[j]) := by unfold nums; rw [List.getElem?_map, List.getElem?_eq_getElem hj]; rfl
      rw [← htk, List.getElem?_take_of_lt hj, List.getElem?_drop] at h3
      rw [h3]
      simp [hj]
    have h := sort_some blk off c Bx Bm l.toArray (by simpa using h2) (by simpa using hlen) w hb (by simpa using hs) hH hblk hn1 hn2
    simp only [List.size_toArray] at h
    refine h.mono ?_
    rintro e w' ⟨he, n, os, rfl⟩
    have hfr : ∀ (d' : Array Int), Frm [blk] w (grow (putRow (Value.int .u64) (Sort.ahead w n) blk off d') os) := fun d' => by
      refine ⟨rfl, rfl, rfl, ?_, fun i hi hn => ?_⟩
      · rw [size_grow]
        show _ ≤ ((Sort.ahead w n).heap.modify blk _).size + _
        rw [Array.size_modify]
        exact Nat.le_add_right _ _
      · rw [heap_grow_old _ os (by show i < ((Sort.ahead w n).heap.modify blk _).size; rw [Array.size_modify]; exact hi)]
        show ((Sort.ahead w n).heap.modify blk _)[i]? = _
        rw [Array.getElem?_modify, if_neg (fun e => hn (by simp [e]))]
        rfl
    refine ⟨he, .inr ⟨blk, off, c, putCells (Value.int .u64) off (l.mergeSort fun x y => decide (x ≤ y)).toArray cur, by rw [nums_length, hml], hB, ?_, by rw [nums_length, hml]; exact hlc, hcm, by unfold putCells; rw [Array.size_mapIdx]; exact hoc, ?_⟩, hfr _⟩
    · rw [heap_grow_old _ os (by show blk < ((Sort.ahead w n).heap.modify blk _).size; rw [Array.size_modify]; exact hblk)]
      show ((Sort.ahead w n).heap.modify blk _)[blk]? = _
      rw [Array.getElem?_modify, if_pos rfl]
      show (w.heap[blk]?).map _ = _
      rw [hcur]
      rfl
    · refine List.ext_getElem? fun j => ?_
      rw [nums_length, hml]
      by_cases hj : j < l.length
      · rw [List.getElem?_take_of_lt hj, List.getElem?_drop, Array.getElem?_toList]
        unfold putCells
        rw [Array.getElem?_mapIdx]
        have hlt : off + j < cur.size := by omega
        rw [Array.getElem?_eq_getElem hlt, Option.map_some, List.size_toArray, hml, if_pos ⟨by omega, by omega⟩, Nat.add_sub_cancel_left]
        unfold nums
        rw [List.getElem?_map, List.getElem?_eq_getElem (by rw [hml]; exact hj), Option.map_some]
        simp [hml, hj]
      · rw [List.getElem?_eq_none (by rw [List.length_take]; omega), List.getElem?_eq_none (by rw [nums_length, hml]; omega)]
  · have hm : l.mergeSort (fun x y => decide (x ≤ y)) = l := by
      match l, h2 with
      | [], _ => simp
      | [x], _ => simp
      | x :: y :: r, h => exact absurd (by simp) h
    refine (sort_none _ _ _ _ _ _ (by omega) w).mono ?_
    rintro e w' ⟨he, os, rfl⟩
    rw [hm]
    refine ⟨he, hown.frm (frm_grow w os) (by simp), (frm_grow w os).mono (fun i hi => by cases hi)⟩
end Go.Proofs.Ytanmgkpgfmkobaa
