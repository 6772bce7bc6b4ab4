/- How a law's arguments come in: each as a value that reads as plain data. -/
import Derived.Test.YtadhdimleabljaaRows
import Derived.Test.YtadhdimleabljaaM
import Derived.ProofKit
import Derived.OpenShut
import Derived.ShutString
import Derived.ChangeOld
import Derived.Below
import Derived.SizedLaws
import Derived.Deep.Slices
namespace Go.Proofs.Ytadhdimleabljaa
open Go.ChangeShapes Go.WideShapes Go.ChangeAt Go.RowKit
set_option linter.unusedVariables false

theorem wf_u8 {x : Int} (h : (Lit.int .u8 x).wf = true) : 0 ≤ x ∧ x ≤ 255 := by
  simp [Lit.wf, IntKind.min, IntKind.max, IntKind.bits, IntKind.signed] at h; omega

theorem view_ints {H : Type} {enc : TypeId × Value → H} {P : Program} {W : World} {base t e : Nat} {k : IntKind} {v : Value} {d : DataW H} {p : List MemPlace} (ht : P.underlying t = some (.slice e)) (he : P.underlying e = some (.int k)) (hce : P.cellsOf e = 1)
    (hok : Value.okWide P W .any base t v) (h : DataW.Trod enc P W 0 (fun _ => true) true t v d p) :
    ∃ A n c l, v = .slice A n c ∧ n ≤ c ∧ Sl W A n (nums k l) ∧ ∀ x ∈ l, (Lit.int k x).wf = true := by
  obtain ⟨A, n, c, rfl⟩ := okWide_slice ht hok
  obtain ⟨fuel, hf⟩ := h
  rcases open_ints ht he hce hf with ⟨hcs, _⟩ | ⟨x, l, cc, zs, hcs, _, hl, hm, hz, _, hcell, hwz⟩
  · simp [Value.cells] at hcs
    obtain ⟨rfl, rfl, rfl⟩ := hcs
    exact ⟨none, 0, 0, [], rfl, Nat.le_refl _, Sl.nil _ _, by simp⟩
  · simp [Value.cells] at hcs
    obtain ⟨rfl, rfl, rfl⟩ := hcs
    refine ⟨some x, n, c, zs.take n, rfl, hl, ⟨by rw [nums_length, List.length_take]; simp at hz; omega, fun hn => ?_⟩, fun y hy => hwz y (List.mem_of_mem_take hy)⟩
    obtain ⟨b, off, rfl, hc2⟩ := ints_at hcell (by simp at hz; omega)
    refine ⟨b, off, rfl, fun j u hu => ?_⟩
    have hj := (List.getElem?_eq_some_iff.1 hu).1
    rw [nums_length, List.length_take] at hj
    rw [hc2 j (by omega), ← hu, nums_get _ _ _ (by rw [List.length_take]; omega)]
    congr 2
    rw [List.getD_eq_getElem?_getD, List.getD_eq_getElem?_getD, List.getElem?_take_of_lt (by omega)]

theorem lt_of_trod {H : Type} {enc : TypeId × Value → H} {P : Program} {W : World} {t : Nat} {v : Value} {d : DataW H} {p : List MemPlace} (h : DataW.Trod enc P W 0 (fun _ => true) true t v d p) : ∀ x ∈ p, x.block < W.heap.size := by
  obtain ⟨m, hm⟩ := h
  exact DataW.trod_lt m _ _ _ hm
theorem and2 {a b : Bool} (h : a = true) (k : b = true) : (a && b) = true := by rw [h, k]; rfl
theorem ownKnob' : ownKnob Try.prog.godebug = none := by kernel_rfl
theorem laidOut' : laidOutB Try.prog = true := by kernel_rfl
theorem cells1 : Try.prog.cellsOf 5 = 1 := by kernel_rfl
set_option maxRecDepth 100000 in
theorem view_bytes {H : Type} {enc : TypeId × Value → H} {W : World} {base : Nat} {v : Value} {d : DataW H} {p : List MemPlace}
    (hok : Value.okWide Try.prog W .any base 26 v) (h : DataW.Trod enc Try.prog W 0 (fun _ => true) true 26 v d p) :
    ∃ A n c l, v = .slice A n c ∧ n ≤ c ∧ Sl W A n (nums .u8 l) ∧ ∀ x ∈ l, (Lit.int .u8 x).wf = true := view_ints Try.underlying26 Try.underlying5 cells1 hok h
theorem wf_u64 {x : Int} (h : (Lit.int .u64 x).wf = true) : 0 ≤ x ∧ Hid (x ≤ 18446744073709551615) := bounds_u64 h
def headCodes : List Nat := [104, 97, 114, 110, 101, 115, 115]
def cutCodes : List Nat := [99, 117, 116]
def sumCodes : List Nat := [51, 53, 53, 101, 100, 49, 55, 98, 57, 49, 48, 56, 99, 100, 97, 101, 101, 49, 55, 102, 99, 49, 99, 49, 54, 54, 57, 102, 49, 57, 99, 100, 100, 99, 50, 51, 55, 54, 51, 52, 54, 99, 50, 53, 51, 51, 99, 99, 98, 101, 51, 53, 50, 97, 49, 102, 99, 49, 101, 53, 49, 100, 57, 99]
def restCodes : List Nat := [97, 116, 32, 108, 111, 111, 112, 46, 101, 120, 97, 109, 112, 108, 101, 47, 112, 117, 98, 45, 103, 48, 49, 53, 48, 49, 47, 108, 97, 119, 115, 46, 70, 110, 83, 112, 111, 116, 76, 101, 115, 115, 32, 108, 111, 111, 112, 46, 101, 120, 97, 109, 112, 108, 101, 47, 112, 117, 98, 45, 103, 48, 49, 53, 48, 49, 47, 108, 97, 119, 115, 46, 70, 110, 75, 101, 121, 66, 121, 116, 101, 115, 32, 108, 111, 111, 112, 46, 101, 120, 97, 109, 112, 108, 101, 47, 112, 117, 98, 45, 103, 48, 49, 53, 48, 49, 47, 108, 97, 119, 115, 46, 70, 110, 86, 97, 114, 105, 110, 116, 67, 117, 116, 32, 108, 111, 111, 112, 46, 101, 120, 97, 109, 112, 108, 101, 47, 112, 117, 98, 45, 103, 48, 49, 53, 48, 49, 47, 108, 97, 119, 115, 46, 70, 110, 72, 101, 97, 100, 66, 121, 116, 101, 115, 32, 108, 111, 111, 112, 46, 101, 120, 97, 109, 112, 108, 101, 47, 112, 117, 98, 45, 103, 48, 49, 53, 48, 49, 47, 108, 97, 119, 115, 46, 70, 110, 78, 117, 109, 98, 101, 114, 115, 76, 105, 115, 116, 51, 50, 32, 108, 111, 111, 112, 46, 101, 120, 97, 109, 112, 108, 101, 47, 112, 117, 98, 45, 103, 48, 49, 53, 48, 49, 47, 108, 97, 119, 115, 46, 70, 110, 83, 117, 109, 32, 108, 111, 111, 112, 46, 101, 120, 97, 109, 112, 108, 101, 47, 112, 117, 98, 45, 103, 48, 49, 53, 48, 49, 47, 108, 97, 119, 115, 46, 70, 110, 75, 101, 121, 67, 111, 109, 112, 97, 114, 101, 32, 108, 111, 111, 112, 46, 101, 120, 97, 109, 112, 108, 101, 47, 112, 117, 98, 45, 103, 48, 49, 53, 48, 49, 47, 108, 97, 119, 115, 46, 70, 110, 78, 117, 109, 98, 101, 114, 115, 76, 105, 115, 116, 54, 52, 32, 108, 111, 111, 112, 46, 101, 120, 97, 109, 112, 108, 101, 47, 112, 117, 98, 45, 103, 48, 49, 53, 48, 49, 47, 108, 97, 119, 115, 46, 70, 110, 83, 112, 111, 116, 66, 97, 99, 107, 32, 108, 111, 111, 112, 46, 101, 120, 97, 109, 112, 108, 101, 47, 112, 117, 98, 45, 103, 48, 49, 53, 48, 49, 47, 108, 97, 119, 115, 46, 70, 110, 86, 97, 114, 105, 110, 116, 32, 108, 111, 111, 112, 46, 101, 120, 97, 109, 112, 108, 101, 47, 112, 117, 98, 45, 103, 48, 49, 53, 48, 49, 47, 108, 97, 119, 115, 46, 70, 110, 75, 101, 121, 83, 97, 109, 101, 32, 108, 111, 111, 112, 46, 101, 120, 97, 109, 112, 108, 101, 47, 112, 117, 98, 45, 103, 48, 49, 53, 48, 49, 47, 108, 97, 119, 115, 46, 70, 110, 82, 97, 110, 103, 101, 83, 97, 109, 101, 32, 108, 111, 111, 112, 46, 101, 120, 97, 109, 112, 108, 101, 47, 112, 117, 98, 45, 103, 48, 49, 53, 48, 49, 47, 108, 97, 119, 115, 46, 70, 110, 86, 97, 108, 117, 101, 66, 121, 116, 101, 115, 32, 108, 111, 111, 112, 46, 101, 120, 97, 109, 112, 108, 101, 47, 112, 117, 98, 45, 103, 48, 49, 53, 48, 49, 47, 108, 97, 119, 115, 46, 70, 110, 86, 97, 108, 117, 101, 83, 105, 122, 101, 32, 108, 111, 111, 112, 46, 101, 120, 97, 109, 112, 108, 101, 47, 112, 117, 98, 45, 103, 48, 49, 53, 48, 49, 47, 108, 97, 119, 115, 46, 70, 110, 75, 101, 121, 66, 97, 99, 107, 32, 108, 111, 111, 112, 46, 101, 120, 97, 109, 112, 108, 101, 47, 112, 117, 98, 45, 103, 48, 49, 53, 48, 49, 47, 108, 97, 119, 115, 46, 70, 110, 78, 117, 109, 98, 101, 114, 115, 32, 108, 111, 111, 112, 46, 101, 120, 97, 109, 112, 108, 101, 47, 112, 117, 98, 45, 103, 48, 49, 53, 48, 49, 47, 108, 97, 119, 115, 46, 70, 110, 72, 101, 97, 100, 66, 97, 99, 107, 32, 108, 111, 111, 112, 46, 101, 120, 97, 109, 112, 108, 101, 47, 112, 117, 98, 45, 103, 48, 49, 53, 48, 49, 47, 108, 97, 119, 115, 46, 70, 110, 83, 117, 109, 82, 101, 99, 111, 114, 100, 32, 108, 111, 111, 112, 46, 101, 120, 97, 109, 112, 108, 101, 47, 112, 117, 98, 45, 103, 48, 49, 53, 48, 49, 47, 108, 97, 119, 115, 46, 70, 110, 82, 97, 110, 103, 101, 79, 118, 101, 114, 108, 97, 112, 32, 108, 111, 111, 112, 46, 101, 120, 97, 109, 112, 108, 101, 47, 112, 117, 98, 45, 103, 48, 49, 53, 48, 49, 47, 108, 97, 119, 115, 46, 70, 110, 86, 97, 108, 117, 101, 66, 97, 99, 107, 32, 108, 111, 111, 112, 46, 101, 120, 97, 109, 112, 108, 101, 47, 112, 117, 98, 45, 103, 48, 49, 53, 48, 49, 47, 108, 97, 119, 115, 46, 70, 110, 70, 105, 108, 116, 101, 114, 72, 97, 115, 32, 108, 111, 111, 112, 46, 101, 120, 97, 109, 112, 108, 101, 47, 112, 117, 98, 45, 103, 48, 49, 53, 48, 49, 47, 108, 97, 119, 115, 46, 70, 110, 70, 105, 108, 116, 101, 114, 77, 111, 114, 101, 32, 108, 111, 111, 112, 46, 101, 120, 97, 109, 112, 108, 101, 47, 112, 117, 98, 45, 103, 48, 49, 53, 48, 49, 47, 108, 97, 119, 115, 46, 70, 110, 82, 97, 110, 103, 101, 69, 120, 116, 101, 110, 100, 32, 108, 111, 111, 112, 46, 101, 120, 97, 109, 112, 108, 101, 47, 112, 117, 98, 45, 103, 48, 49, 53, 48, 49, 47, 108, 97, 119, 115, 46, 70, 110, 70, 105, 108, 116, 101, 114, 75, 101, 121, 115, 32, 108, 111, 111, 112, 46, 101, 120, 97, 109, 112, 108, 101, 47, 112, 117, 98, 45, 103, 48, 49, 53, 48, 49, 47, 108, 97, 119, 115, 46, 70, 110, 67, 104, 97, 110, 103, 101, 115, 66, 97, 99, 107]
theorem order_eq : Try.prog.initOrder = String.ofList ((headCodes ++ 32 :: (sumCodes ++ 32 :: (cutCodes ++ 32 :: restCodes))).map Char.ofNat) := by kernel_rfl
theorem words_cons (c : Char) (w : List Char) (ws : List (List Char)) (r : List Char) (h : c ≠ Char.ofNat 32) (hr : wordsSigns r = w :: ws) : wordsSigns (c :: r) = (c :: w) :: ws := by
  rw [wordsSigns.eq_3 c r (fun e => h e), hr]
theorem words_step (a r : List Char) (h : a.all (fun c => c != Char.ofNat 32) = true) : wordsSigns (a ++ Char.ofNat 32 :: r) = a :: wordsSigns r := by
  induction a with
  | nil => rfl
  | cons c a ih =>
    simp only [List.all_cons, Bool.and_eq_true, bne_iff_ne] at h
    exact words_cons c a _ _ h.1 (ih h.2)
theorem order_words : ∃ ws, wordsSigns Try.prog.initOrder.toList = "harness".toList :: sumCodes.map Char.ofNat :: "cut".toList :: ws := by
  refine ⟨wordsSigns (restCodes.map Char.ofNat), ?_⟩
  rw [order_eq, String.toList_ofList, List.map_append, List.map_cons, List.map_append, List.map_cons, List.map_append, List.map_cons,
    words_step _ _ (by decide +kernel), words_step _ _ (by decide +kernel), words_step _ _ (by decide +kernel)]
  have e1 : headCodes.map Char.ofNat = "harness".toList := by kernel_rfl
  have e2 : cutCodes.map Char.ofNat = "cut".toList := by kernel_rfl
  rw [e1, e2]
theorem behind {S : List Char} (hS : isSumSigns S = true) (r : List (List Char)) : behindMainWord ("harness".toList :: S :: r) = r := by
  show (if (("harness".toList == "harness".toList || "harness".toList == "ownmain".toList) && isSumSigns S) = true then r else _) = r
  rw [hS, if_pos]
  simp
theorem cutNe1 : ("cut".toList == "gc".toList) = false := by decide +kernel
theorem cutNe2 : ("cut".toList == "spec".toList) = false := by decide +kernel
theorem cutNe3 : ("cut".toList == "carried".toList) = false := by decide +kernel
theorem make_of {P : Program} {S : List Char} {ws : List (List Char)} (hS : isSumSigns S = true) (h : wordsSigns P.initOrder.toList = "harness".toList :: S :: "cut".toList :: ws) : P.make = some .cut := by
  unfold Program.make
  rw [h, behind hS]
  simp only [cutNe1, cutNe2, beq_self_eq_true]
  rfl
theorem strip (ws : List (List Char)) : stripLifts liftWords ("cut".toList :: ws) = ([], "cut".toList :: ws) := by kernel_rfl
theorem mayEnter_of {P : Program} {S : List Char} {ws : List (List Char)} (hS : isSumSigns S = true) (h : wordsSigns P.initOrder.toList = "harness".toList :: S :: "cut".toList :: ws)
    (h1 : P.laysLater = false) (h2 : P.bearsReflect = false) (h3 : P.doorFits [] = true) : P.mayEnter = true := by
  unfold Program.mayEnter
  rw [h, behind hS]
  simp only [cutNe1, cutNe2, cutNe3, strip, h1, h2, h3]
  simp
theorem lifts_of {P : Program} {S : List Char} {ws : List (List Char)} (hS : isSumSigns S = true) (h : wordsSigns P.initOrder.toList = "harness".toList :: S :: "cut".toList :: ws) : P.liftsFinal = false := by
  unfold Program.liftsFinal Program.headLifts
  rw [h, behind hS]
  simp only [strip]
  have : (("cut".toList :: ws).head? == some "carried".toList) = false := by
    show (some "cut".toList == some "carried".toList) = false
    decide +kernel
  rw [this]
  simp
theorem sumSigns : isSumSigns (sumCodes.map Char.ofNat) = true := by kernel_rfl
theorem laysLater' : Try.prog.laysLater = false := by kernel_rfl
theorem bears' : Try.prog.bearsReflect = false := by kernel_rfl
theorem door' : Try.prog.doorFits [] = true := by kernel_rfl
theorem make' : Try.prog.make = some .cut := by obtain ⟨ws, h⟩ := order_words; exact make_of sumSigns h
theorem mayEnter' : Try.prog.mayEnter = true := by obtain ⟨ws, h⟩ := order_words; exact mayEnter_of sumSigns h laysLater' bears' door'
theorem lifts' : Try.prog.liftsFinal = false := by obtain ⟨ws, h⟩ := order_words; exact lifts_of sumSigns h
end Go.Proofs.Ytadhdimleabljaa
