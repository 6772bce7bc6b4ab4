/- A bytes.Buffer that is only written: the library's contracts in this seat's words. -/
import Derived.Test.YtbbncbjdpopkiaaDoorSh
import Derived.Test.YtbbncbjdpopkiaaDoorGB
import Derived.Lib.BufferOld
namespace Go.Proofs.YtbbncbjdpopkiaaDoor
open Go.RowKit
set_option linter.unusedVariables false
set_option linter.unusedSimpArgs false
/-- Block b (from B on) is a Buffer that holds these bytes. -/
def Buf (B b : Nat) (l : List Int) (w : World) : Prop := Lib.IsBuffer 94 5 B b (nums .u8 l) w
theorem Buf.old {B b : Nat} {l : List Int} {w w' : World} (h : Buf B b l w) (hb : Below w.heap.size w w') : Buf B b l w' := Lib.IsBuffer.old h hb
theorem Buf.alloc {B b : Nat} {l : List Int} {w : World} (h : Buf B b l w) (o : Obj) : Buf B b l (w.alloc o) := Lib.IsBuffer.alloc h o
theorem Buf.lt {B b : Nat} {l : List Int} {w : World} (h : Buf B b l w) : b < w.heap.size := Lib.IsBuffer.lt h
theorem Buf.le {B b : Nat} {l : List Int} {w : World} (h : Buf B b l w) : B ≤ b := h.1
/-- Writing a block that is newer than the buffer leaves it. -/
theorem Buf.new {w0 : World} {B b g t : Nat} {l : List Int} {cs : List Value} {w w' : World} (h : Buf B b l w0) (hb : Below w0.heap.size w0 w) (hg : w0.heap.size ≤ g) (hw : Wrote w g t cs w') : Buf B b l w' :=
  h.old (below_wrote hb hg hb.size hw)
theorem buf_start {base b g n c : Nat} {l : List Int} {w : World} (hb : base ≤ b) (hk : w.heap[b]? = some (.cells #[.slice (some ⟨g, 0, none⟩) n c, .int .i64 0, .int .i8 0] 94 (0, 0))) (ho : w.ownsRow base 5 1 (.slice (some ⟨g, 0, none⟩) n c) l.length (nums .u8 l)) (hne : g ≠ b) : Buf base b l w := by
  refine ⟨hb, _, _, hk, by rw [nums_length]; exact ho, ?_⟩
  simp only [Value.ownBlock, ne_eq, Option.some.injEq]
  exact hne
theorem buf_zero (w : World) : Buf w.heap.size w.heap.size [] (w.alloc (.cells #[.slice none 0 0, .int .i64 0, .int .i8 0] 94)) := Lib.fresh_isBuffer _ _ w
theorem bufByte_any (B b : Nat) (l : List Int) (x : Int) (w : World) (h : Buf B b l w) (hB : B ≤ w.heap.size) (hn : l.length ≤ 1000000000) :
    Calls Tryd.prog 52 #[.pointer (some ⟨b, 0, none⟩), .int .u8 x] w fun e w' => e = .returned .nilIface ∧ Buf B b (l ++ [x]) w' ∧ Below B w w' ∧ Lib.OthersKept 5 (some b) w w' := by
  have := Tryd.Buffer_WriteByte_kept B b (nums .u8 l) x w h hB (nums_one _ _) (by rw [nums_length]; omega)
  refine Calls.mono this fun e w' ⟨he, hb, hbl, hk⟩ => ⟨he, ?_, hbl, hk⟩
  show Lib.IsBuffer _ _ _ _ (nums .u8 (l ++ [x])) _
  rw [nums_snoc]
  exact hb
theorem bufWrite_any (B b : Nat) (l m : List Int) (g o n c : Nat) (w : World) (h : Buf B b l w) (hB : B ≤ w.heap.size) (hs : Sl w (some ⟨g, o, none⟩) n (nums .u8 m)) (hne : g ≠ b) (hn : l.length ≤ 1000000000) (hn2 : n ≤ 1000000000) :
    Calls Tryd.prog 53 #[.pointer (some ⟨b, 0, none⟩), .slice (some ⟨g, o, none⟩) n c] w fun e w' => e = .returned (.tuple #[.int .i64 n, .nilIface]) ∧ Buf B b (l ++ m) w' ∧ Below B w w' ∧ Lib.OthersKept 5 (some b) w w' := by
  have := Tryd.Buffer_Write_any B b (nums .u8 l) (nums .u8 m) ⟨g, o, none⟩ n c w h hB (nums_one _ _) hs.1 hne hs.adds (nums_one _ _) (by rw [nums_length]; omega)
  refine Calls.mono this fun e w' ⟨he, hb, hbl, hk⟩ => ⟨he, ?_, hbl, hk⟩
  show Lib.IsBuffer _ _ _ _ (nums .u8 (l ++ m)) _
  rw [nums_append]
  exact hb
theorem bufWrite_nil (B b c : Nat) (A : Option Addr) (l : List Int) (w : World) (h : Buf B b l w) (hB : B ≤ w.heap.size) :
    Calls Tryd.prog 53 #[.pointer (some ⟨b, 0, none⟩), .slice A 0 c] w fun e w' => e = .returned (.tuple #[.int .i64 0, .nilIface]) ∧ Buf B b l w' ∧ Below B w w' ∧ Lib.OthersKept 5 (some b) w w' := by
  have h : Lib.IsBuffer 94 5 B b (nums .u8 l) w := h
  obtain ⟨hB1, v0, lr, hbk, -, -⟩ := id h
  have c2 : w.cell? ⟨b, 2, none⟩ = some (.int .i8 lr) := by rw [Lib.cell_of_heap hbk]; rfl
  have f2 : w.frozen? ⟨b, 2, none⟩ = false := Lib.frozen_of_heap hbk 2
  have h' := h.setLast 0
  have hbel0 : Below B w (w.setCell ⟨b, 2, none⟩ (.int .i8 0)) := (Below.refl B w).setCell (p := ⟨b, 2, none⟩) hB1 _
  have hk0 : Lib.OthersKept 5 (some b) w (w.setCell ⟨b, 2, none⟩ (.int .i8 0)) := (Lib.OthersKept.refl _ _ w).setCell ⟨b, 2, none⟩ rfl _
  clear hbk v0
  have hce : ∀ d dLen dCap W, (Builtin.copy_ #[22, 22] 3 #[.slice d dLen dCap, .slice A 0 c]).run Tryd.prog W = .ok (goInt 0) W := fun d dLen dCap W => run_copy_none W 22 22 3 5 d A dLen dCap 0 c Tryd.underlying22 (by kernel_rfl) (by simp)
  have hT : ∀ W, Lib.IsBuffer 94 5 B b (nums .u8 l) W → Calls Tryd.prog 62 #[.pointer (some ⟨b, 0, none⟩), .int .i64 0] W _ := fun W hW => Tryd.Buffer_tryGrow_own B b 0 (nums .u8 l) W hW
  go_enter Tryd.func53, Tryd.ntmps53
  go_wp2_with (go_at_call 62; refine (hT _ ?_).mono ?_)
  · exact h'
  rintro e W1 (⟨rfl, xs, hxl, hI, hbel, hk, hg⟩ | ⟨rfl, rfl, hnr⟩)
  · clear h' c2 f2 hT
    have hx0 : xs = [] := List.eq_nil_of_length_eq_zero hxl
    subst hx0
    rw [List.append_nil] at hI
    obtain ⟨-, lr2, hc⟩ := hI.cases
    rcases hc with ⟨hb0, hbk2⟩ | ⟨g, cap, cur, hbk2, -, -, hnc, hcm, -, -, -⟩
    · have d0 : W1.cell? ⟨b, 0, none⟩ = some (.slice none 0 0) := by rw [Lib.cell_of_heap hbk2]; rfl
      rw [hb0] at *
      go_wp2
      all_goals (go_ret2; first | exact ⟨rfl, hI, hbel0.trans hbel, hk0.trans hk⟩ | exact ⟨by simp, by simpa using hI, hbel0.trans hbel, hk0.trans hk⟩)
    · have d0 : W1.cell? ⟨b, 0, none⟩ = some (.slice (some ⟨g, 0, none⟩) (nums .u8 l).length cap) := by rw [Lib.cell_of_heap hbk2]; rfl
      unfold maxLen at hcm
      go_wp2
      all_goals (go_ret2; first | exact ⟨rfl, hI, hbel0.trans hbel, hk0.trans hk⟩ | exact ⟨by simp, by simpa using hI, hbel0.trans hbel, hk0.trans hk⟩)
  · obtain ⟨_, _, _, _, hlt⟩ := hnr
    omega
/-- Write, of whatever bytes. -/
theorem bufWrite_all (B b : Nat) (l m : List Int) (A : Option Addr) (n c : Nat) (w : World) (h : Buf B b l w) (hB : B ≤ w.heap.size) (hs : Sl w A n (nums .u8 m)) (hne : 0 < n → ∀ g o, A = some ⟨g, o, none⟩ → g ≠ b) (hn : l.length ≤ 1000000000) (hn2 : n ≤ 1000000000) :
    Calls Tryd.prog 53 #[.pointer (some ⟨b, 0, none⟩), .slice A n c] w fun e w' => e = .returned (.tuple #[.int .i64 n, .nilIface]) ∧ Buf B b (l ++ m) w' ∧ Below B w w' ∧ Lib.OthersKept 5 (some b) w w' := by
  by_cases h0 : n = 0
  · subst h0
    have hm : m = [] := by have := hs.1; rw [nums_length] at this; exact List.eq_nil_of_length_eq_zero this
    subst hm
    rw [List.append_nil]
    exact bufWrite_nil B b c A l w h hB
  · obtain ⟨g, o, rfl⟩ := hs.addr (by omega)
    exact bufWrite_any B b l m g o n c w h hB hs (hne (by omega) g o rfl) hn hn2
theorem bufBytes_any (B b : Nat) (l : List Int) (w : World) (h : Buf B b l w) :
    Calls Tryd.prog 37 #[.pointer (some ⟨b, 0, none⟩)] w fun e w' => ∃ v, e = .returned v ∧ w'.ownsRow B 5 1 v l.length (nums .u8 l) ∧ ∃ n, w' = w.drewN n := by
  have := Tryd.Buffer_Bytes B b (nums .u8 l) w h
  refine Calls.mono this fun e w' ⟨v, he, ho, hw⟩ => ⟨v, he, ?_, hw⟩
  rwa [nums_length] at ho
/-- A copy is never nil. -/
theorem own_ptr (A : Option Addr) (n c : Nat) (l : List Int) (w : World) (h : Sl w A n (nums .u8 l)) (hn : n ≤ 140737488355328) :
    Calls Tryd.prog 29 #[.slice A n c] w fun e w' => ∃ g d, e = .returned (.slice (some ⟨g, 0, none⟩) n d) ∧ n ≤ d ∧ w'.ownsRow w.heap.size 5 1 (.slice (some ⟨g, 0, none⟩) n d) n (nums .u8 l) ∧ Below w.heap.size w w' := by
  have hlen : (nums .u8 l).length = n := h.1
  have Hl := Lib.hid hlen
  clear hlen
  go_enter Tryd.func29, Tryd.ntmps29
  go_wp2_with (at_builtin; refine wpList_append_sl _ rfl (.tmp 3) (.tmp 4) 22 rfl w.heap.size 5 (.int .u8 0) 1 Tryd.underlying22 infoU8 rfl (.slice (some ⟨w.heap.size, 0, none⟩) 0 0) 0 [] rfl ?c1 A n c (nums .u8 l) rfl (h.alloc _) (nums_one _ _) ?c2 (by omega) ?c3 ?_; (case c1 => exact World.ownsRow_made w #[] 0 (Nat.le_refl _) (by simp [maxLen]) rfl); (case c2 => omega); (case c3 => simp); intro v1 w1 hown1 hg1 hat1)
  go_ret
  rw [List.nil_append, Nat.zero_add] at hown1
  have hb : Below w.heap.size w w1 := ((Below.refl _ _).alloc (Nat.le_refl _) _).grown hg1 (by simp) (by simp [Value.ownBlock])
  rcases hown1.2 with ⟨rfl, h0⟩ | ⟨g, cap, cur, rfl, hg, hh, hnc, hcm, hcs, ht⟩
  · simp [Value.ownBlock] at hat1
  · exact ⟨g, cap, rfl, hnc, hown1, hb⟩
end Go.Proofs.YtbbncbjdpopkiaaDoor
