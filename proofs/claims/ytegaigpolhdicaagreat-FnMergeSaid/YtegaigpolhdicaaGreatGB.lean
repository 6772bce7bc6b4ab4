/- Texts that this claim shares with others, put together: L1 C8 C9 V V2 S1 H1 H2 H3. -/
import Derived.Test.YtegaigpolhdicaaGreatGA
import Derived.Test.YtegaigpolhdicaaGreatRows
import Derived.ProofKit
import Derived.OpenShut
import Derived.ShutString
import Derived.ChangeOld
import Derived.Below
import Derived.SizedLaws
import Derived.Deep.Slices
import Derived.BigRegion
import Derived.IntWalk
/- Walks of laws on keys. -/
namespace Go.Proofs.YtegaigpolhdicaaGreat
open Go.RowKit
set_option linter.unusedVariables false
set_option linter.unusedSimpArgs false

end Go.Proofs.YtegaigpolhdicaaGreat

/- Contracts: numbers in as few bytes as they need, written into a block and read. -/
namespace Go.Proofs.YtegaigpolhdicaaGreat
open Go.RowKit
set_option linter.unusedVariables false
set_option linter.unusedSimpArgs false

end Go.Proofs.YtegaigpolhdicaaGreat

/- Numbers in as few bytes as they need: what is written is read again; the thin package's and the reference's functions. -/
namespace Go.Proofs.YtegaigpolhdicaaGreat
open Go.RowKit
set_option linter.unusedVariables false
set_option linter.unusedSimpArgs false

end Go.Proofs.YtegaigpolhdicaaGreat

/- How a law's arguments come in: each as a value that reads as plain data. -/
namespace Go.Proofs.YtegaigpolhdicaaGreat
open Go.ChangeShapes Go.WideShapes Go.ChangeAt Go.RowKit
set_option linter.unusedVariables false

theorem lt_of_trod {H : Type} {enc : TypeId × Value → H} {P : Program} {W : World} {t : Nat} {v : Value} {d : DataW H} {p : List MemPlace} (h : DataW.Trod enc P W 0 (fun _ => true) true t v d p) : ∀ x ∈ p, x.block < W.heap.size := by
  obtain ⟨m, hm⟩ := h
  exact DataW.trod_lt m _ _ _ hm
theorem and2 {a b : Bool} (h : a = true) (k : b = true) : (a && b) = true := by rw [h, k]; rfl
theorem ownKnob' : ownKnob Tryz.prog.godebug = none := by kernel_rfl
theorem laidOut' : laidOutB Tryz.prog = true := by kernel_rfl
def headCodes : List Nat := [104, 97, 114, 110, 101, 115, 115]
def cutCodes : List Nat := [99, 117, 116]
def sumCodes : List Nat := [57, 49, 48, 48, 53, 48, 51, 101, 51, 53, 101, 55, 51, 54, 99, 48, 49, 51, 48, 49, 53, 49, 97, 54, 50, 53, 101, 48, 100, 50, 100, 101, 52, 52, 57, 50, 101, 53, 49, 53, 99, 100, 101, 56, 102, 50, 100, 98, 53, 51, 48, 53, 101, 100, 57, 100, 50, 98, 101, 51, 100, 101, 101, 98]
def restCodes : List Nat := [97, 116, 32, 108, 111, 111, 112, 46, 101, 120, 97, 109, 112, 108, 101, 47, 112, 117, 98, 45, 103, 48, 49, 53, 48, 49, 47, 108, 97, 119, 115, 46, 70, 110, 77, 101, 114, 103, 101]
theorem order_eq : Tryz.prog.initOrder = String.ofList ((headCodes ++ 32 :: (sumCodes ++ 32 :: (cutCodes ++ 32 :: restCodes))).map Char.ofNat) := by kernel_rfl
theorem words_cons (c : Char) (w : List Char) (ws : List (List Char)) (r : List Char) (h : c ≠ Char.ofNat 32) (hr : wordsSigns r = w :: ws) : wordsSigns (c :: r) = (c :: w) :: ws := by
  rw [wordsSigns.eq_3 c r (fun e => h e), hr]
theorem words_step (a r : List Char) (h : a.all (fun c => c != Char.ofNat 32) = true) : wordsSigns (a ++ Char.ofNat 32 :: r) = a :: wordsSigns r := by
  induction a with
  | nil => rfl
  | cons c a ih =>
    simp only [List.all_cons, Bool.and_eq_true, bne_iff_ne] at h
    exact words_cons c a _ _ h.1 (ih h.2)
theorem order_words : ∃ ws, wordsSigns Tryz.prog.initOrder.toList = "harness".toList :: sumCodes.map Char.ofNat :: "cut".toList :: ws := by
  refine ⟨wordsSigns (restCodes.map Char.ofNat), ?_⟩
  rw [order_eq, String.toList_ofList, List.map_append, List.map_cons, List.map_append, List.map_cons, List.map_append, List.map_cons,
    words_step _ _ (by decide +kernel), words_step _ _ (by decide +kernel), words_step _ _ (by decide +kernel)]
  have e1 : headCodes.map Char.ofNat = "harness".toList := by kernel_rfl
  have e2 : cutCodes.map Char.ofNat = "cut".toList := by kernel_rfl
  rw [e1, e2]
theorem behind {S : List Char} (hS : isSumSigns S = true) (r : List (List Char)) : behindMainWord ("harness".toList :: S :: r) = r := by
  show (if (("harness".toList == "harness".toList || "harness".toList == "ownmain".toList) && isSumSigns S) = true then r else _) = r
  rw [hS, if_pos]
  simp
theorem cutNe1 : ("cut".toList == "gc".toList) = false := by decide +kernel
theorem cutNe2 : ("cut".toList == "spec".toList) = false := by decide +kernel
theorem cutNe3 : ("cut".toList == "carried".toList) = false := by decide +kernel
theorem make_of {P : Program} {S : List Char} {ws : List (List Char)} (hS : isSumSigns S = true) (h : wordsSigns P.initOrder.toList = "harness".toList :: S :: "cut".toList :: ws) : P.make = some .cut := by
  unfold Program.make
  rw [h, behind hS]
  simp only [cutNe1, cutNe2, beq_self_eq_true]
  rfl
theorem strip (ws : List (List Char)) : stripLifts liftWords ("cut".toList :: ws) = ([], "cut".toList :: ws) := by kernel_rfl
theorem mayEnter_of {P : Program} {S : List Char} {ws : List (List Char)} (hS : isSumSigns S = true) (h : wordsSigns P.initOrder.toList = "harness".toList :: S :: "cut".toList :: ws)
    (h1 : P.laysLater = false) (h2 : P.bearsReflect = false) (h3 : P.doorFits [] = true) : P.mayEnter = true := by
  unfold Program.mayEnter
  rw [h, behind hS]
  simp only [cutNe1, cutNe2, cutNe3, strip, h1, h2, h3]
  simp
theorem lifts_of {P : Program} {S : List Char} {ws : List (List Char)} (hS : isSumSigns S = true) (h : wordsSigns P.initOrder.toList = "harness".toList :: S :: "cut".toList :: ws) : P.liftsFinal = false := by
  unfold Program.liftsFinal Program.headLifts
  rw [h, behind hS]
  simp only [strip]
  have : (("cut".toList :: ws).head? == some "carried".toList) = false := by
    show (some "cut".toList == some "carried".toList) = false
    decide +kernel
  rw [this]
  simp
theorem sumSigns : isSumSigns (sumCodes.map Char.ofNat) = true := by kernel_rfl
theorem laysLater' : Tryz.prog.laysLater = false := by kernel_rfl
theorem bears' : Tryz.prog.bearsReflect = false := by kernel_rfl
theorem door' : Tryz.prog.doorFits [] = true := by kernel_rfl
theorem make' : Tryz.prog.make = some .cut := by obtain ⟨ws, h⟩ := order_words; exact make_of sumSigns h
theorem mayEnter' : Tryz.prog.mayEnter = true := by obtain ⟨ws, h⟩ := order_words; exact mayEnter_of sumSigns h laysLater' bears' door'
theorem lifts' : Tryz.prog.liftsFinal = false := by obtain ⟨ws, h⟩ := order_words; exact lifts_of sumSigns h
end Go.Proofs.YtegaigpolhdicaaGreat

/- How struct arguments come in. -/
namespace Go.Proofs.YtegaigpolhdicaaGreat
open Go.ChangeShapes Go.WideShapes Go.ChangeAt Go.RowKit
set_option linter.unusedVariables false
section
variable {H : Type} {enc : TypeId × Value → H} {P : Program} {w : World} {base : Nat} {spare : Nat → Bool} {held : Bool}
theorem fields_of {t : TypeId} {fs : Array Field} {fuel : Nat} {cs : List Value} {x : DataW H × List MemPlace} (ht : P.underlying t = some (.struct fs)) (h : DataW.trod enc P w base spare held fuel t cs = some x) :
    cs.length = P.cellsOf t ∧ ∃ n, ∀ (i : Nat) (f : Field), fs[i]? = some f → ∃ y, DataW.trod enc P w base spare held n f.type ((cs.drop f.offset).take (P.cellsOf f.type)) = some y := by
  obtain ⟨xs, n, _, _, hl, hlen, hf⟩ := DataW.trod_struct ht h
  refine ⟨hl, n, fun i f hi => ?_⟩
  have hlt : i < xs.length := by
    rw [hlen]
    exact (Array.getElem?_eq_some_iff.1 hi).1
  exact ⟨xs[i], by rw [hf i f hi, List.getElem?_eq_getElem hlt]⟩
theorem int_cell {t : TypeId} {k : IntKind} {fuel : Nat} {cs : List Value} {y : DataW H × List MemPlace} (ht : P.underlying t = some (.int k)) (h : DataW.trod enc P w base spare held fuel t cs = some y) : ∃ n, cs = [.int k n] ∧ (Lit.int k n).wf = true := by
  obtain ⟨n, e, _, hw⟩ := DataW.trod_int ht h
  exact ⟨n, e, hw⟩
theorem two_of {α : Type} {l : List α} (h : l.length = 2) : ∃ a b, l = [a, b] := by
  match l, h with
  | [a, b], _ => exact ⟨a, b, rfl⟩
theorem three_of {α : Type} {l : List α} (h : l.length = 3) : ∃ a b c, l = [a, b, c] := by
  match l, h with
  | [a, b, c], _ => exact ⟨a, b, c, rfl⟩
end

section
variable {H : Type} {enc : TypeId × Value → H} {W : World} {base : Nat} {v : Value} {d : DataW H} {p : List MemPlace} {fuel : Nat} {cs : List Value} {y : DataW H × List MemPlace}
/-- A spot: log, length, offset. -/
structure SpotD where
  (a b c : Int)
def SpotD.val (s : SpotD) : Value := .agg #[.int .u32 s.a, .int .u32 s.b, .int .u32 s.c]
def SpotD.ok (s : SpotD) : Prop := (Lit.int .u32 s.a).wf = true ∧ (Lit.int .u32 s.b).wf = true ∧ (Lit.int .u32 s.c).wf = true
/-- The head of a record: key, data, time, both marks. -/
structure HeadD where
  (k d e m u : Int)
def HeadD.val (s : HeadD) : Value := .agg #[.int .u32 s.k, .int .u32 s.d, .int .u64 s.e, .int .u8 s.m, .int .u8 s.u]
def HeadD.ok (s : HeadD) : Prop := (Lit.int .u32 s.k).wf = true ∧ (Lit.int .u32 s.d).wf = true ∧ (Lit.int .u64 s.e).wf = true ∧ (Lit.int .u8 s.m).wf = true ∧ (Lit.int .u8 s.u).wf = true
/-- A value: both marks, time, data. -/
structure ValD where
  (m u e : Int) (A : Option Addr) (n c : Nat) (l : List Int)
def ValD.val (s : ValD) : Value := .agg #[.int .u8 s.m, .int .u8 s.u, .int .u64 s.e, .slice s.A s.n s.c]
def ValD.ok (W : World) (s : ValD) : Prop := (Lit.int .u8 s.m).wf = true ∧ (Lit.int .u8 s.u).wf = true ∧ (Lit.int .u64 s.e).wf = true ∧ s.n ≤ s.c ∧ Sl W s.A s.n (nums .u8 s.l) ∧ ∀ x ∈ s.l, (Lit.int .u8 x).wf = true
end
end Go.Proofs.YtegaigpolhdicaaGreat

/- Where records lie: contracts. -/
namespace Go.Proofs.YtegaigpolhdicaaGreat
open Go.RowKit
set_option linter.unusedVariables false
set_option linter.unusedSimpArgs false
theorem blk_new (w : World) (o : Obj) : (w.alloc o).heap[w.heap.size]? = some o := heap_alloc_new w o
theorem blk_below {w w1 : World} {g : Nat} {o : Obj} (h : w.heap[g]? = some o) (hb : Below w.heap.size w w1) : w1.heap[g]? = some o := (hb.block g (Array.getElem?_eq_some_iff.1 h).1).trans h
theorem cell_alloc {w : World} {p : Addr} {v : Value} (o : Obj) (h : w.cell? p = some v) : (w.alloc o).cell? p = some v := by
  rw [World.cell?_alloc_lt w o p (World.block_lt_of_cell? w _ h)]; exact h
end Go.Proofs.YtegaigpolhdicaaGreat

/- Heads of records: contracts. -/
namespace Go.Proofs.YtegaigpolhdicaaGreat
open Go.RowKit
set_option linter.unusedVariables false
set_option linter.unusedSimpArgs false
end Go.Proofs.YtegaigpolhdicaaGreat

/- Heads of records: more contracts. -/
namespace Go.Proofs.YtegaigpolhdicaaGreat
open Go.RowKit
set_option linter.unusedVariables false
set_option linter.unusedSimpArgs false
end Go.Proofs.YtegaigpolhdicaaGreat

/- The head of a record by the specification. -/
namespace Go.Proofs.YtegaigpolhdicaaGreat
open Go.RowKit
set_option linter.unusedVariables false
set_option linter.unusedSimpArgs false
theorem Sl.up {w w' : World} {A : Option Addr} {n : Nat} {xs : List Value} (h : Hid (Sl w A n xs)) (hb : Below w.heap.size w w') : Sl w' A n xs := h.out.below hb
end Go.Proofs.YtegaigpolhdicaaGreat
