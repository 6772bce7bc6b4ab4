/- Texts that this claim shares with others, put together: X0 X1 X3 W0. -/
import Derived.Test.YtegaigpolhdicaaGreatGA
import Derived.Test.YtegaigpolhdicaaGreatPB
import Derived.Test.YtegaigpolhdicaaGreatGB
/- From my words for memory to the print's, and back. -/
namespace Go.Proofs.YtegaigpolhdicaaGreatQ.Ext
open Go.RowKit Go.Proofs.YtegaigpolhdicaaGreatW.PrintWords
set_option linter.unusedVariables false
theorem plain_at {w : World} {ad : Addr} {v : Value} (h : w.cell? ad = some v) : ad = ⟨ad.block, ad.off, none⟩ := by
  obtain ⟨g, o, s⟩ := ad
  cases s with
  | none => rfl
  | some s =>
    unfold World.cell? at h
    split at h <;> simp at h
theorem sl_of_C {w : World} {A : Option Addr} {n : Nat} {k : IntKind} {l : List Int} (h : Kd.C (Kd.int k) w A n l) : YtegaigpolhdicaaGreat.Sl w A n (YtegaigpolhdicaaGreat.nums k l) := by
  obtain ⟨h1, h2, h3⟩ := h
  refine ⟨by rw [YtegaigpolhdicaaGreat.nums_length]; exact h1, fun hn => ?_⟩
  obtain ⟨ad, rfl, hc⟩ := h3 hn
  have key : ∀ j p, l[j]? = some p → w.cell? (ad.add j) = some (.int k p) := by
    intro j p hj
    obtain ⟨c, hl, hk, hcell⟩ := hc j p hj
    have hk : c = [Value.int k p] := hk
    subst hk
    have := hcell 0 _ rfl
    simpa [Kd.int, Kd.scalar] using this
  obtain ⟨x, hx⟩ : ∃ x, l[0]? = some x := ⟨l[0]'(by omega), List.getElem?_eq_getElem (by omega)⟩
  have h0 := key 0 x hx
  have e0 : ad.add 0 = ad := by unfold Addr.add; simp
  rw [e0] at h0
  have ep := plain_at h0
  refine ⟨ad.block, ad.off, by rw [← ep], fun j u hu => ?_⟩
  simp only [YtegaigpolhdicaaGreat.nums, List.getElem?_map, Option.map_eq_some_iff] at hu
  obtain ⟨p, hp, rfl⟩ := hu
  have := key j p hp
  rw [ep, YtegaigpolhdicaaGreat.add_none] at this
  exact this
theorem C_of_sl {w : World} {A : Option Addr} {n : Nat} {k : IntKind} {l : List Int} (h : YtegaigpolhdicaaGreat.Sl w A n (YtegaigpolhdicaaGreat.nums k l)) (hn : n ≤ 9223372036854775807) : Kd.C (Kd.int k) w A n l := by
  refine ⟨by have := h.1; rwa [YtegaigpolhdicaaGreat.nums_length] at this, hn, fun h0 => ?_⟩
  obtain ⟨g, o, rfl, hc⟩ := h.2 h0
  refine ⟨⟨g, o, none⟩, rfl, fun j p hj => ⟨[Value.int k p], rfl, rfl, fun i u hu => ?_⟩⟩
  cases i with
  | zero =>
    simp at hu
    subst hu
    have := hc j (.int k p) (by simp [YtegaigpolhdicaaGreat.nums, hj])
    rw [YtegaigpolhdicaaGreat.add_none]
    simpa [Kd.int, Kd.scalar] using this
  | succ i => simp at hu
theorem R_of_own {w : World} {base e : Nat} {k : IntKind} {v : Value} {l : List Int} (h : w.ownsRow base e 1 v l.length (YtegaigpolhdicaaGreat.nums k l)) : Kd.R (Kd.int k) e w base (fun _ => True) v l := by
  refine ⟨fun _ _ => trivial, YtegaigpolhdicaaGreat.nums k l, h, ⟨by simp [YtegaigpolhdicaaGreat.nums, Kd.int, Kd.scalar], fun j p hj => ?_⟩⟩
  show (List.take (Kd.int k).sz _) = [Value.int k p]
  have e1 : (Kd.int k).sz = 1 := rfl
  rw [e1, Nat.mul_one]
  have hlt : j < l.length := (List.getElem?_eq_some_iff.1 hj).1
  have hp : l[j] = p := (List.getElem?_eq_some_iff.1 hj).2
  rw [List.drop_eq_getElem_cons (by rw [YtegaigpolhdicaaGreat.nums_length]; exact hlt)]
  simp [YtegaigpolhdicaaGreat.nums, hp]
theorem own_of_R {w : World} {base e : Nat} {ok : Nat → Prop} {k : IntKind} {v : Value} {l : List Int} (h : Kd.R (Kd.int k) e w base ok v l) : w.ownsRow base e 1 v l.length (YtegaigpolhdicaaGreat.nums k l) := by
  obtain ⟨_, inner, ho, hr, hp⟩ := h
  have e1 : (Kd.int k).sz = 1 := rfl
  rw [e1] at ho hr hp
  have : inner = YtegaigpolhdicaaGreat.nums k l := by
    apply List.ext_getElem?
    intro j
    rcases Nat.lt_or_ge j l.length with hj | hj
    · have := hp j l[j] (List.getElem?_eq_getElem hj)
      have this : (inner.drop (j * 1)).take 1 = [Value.int k l[j]] := this
      have this := congrArg (fun l : List Value => l[0]?) this
      simp only [Nat.mul_one, List.getElem?_take, List.getElem?_drop, Nat.add_zero, if_pos (show 0 < 1 by omega), List.getElem?_cons_zero] at this
      rw [this]
      simp [YtegaigpolhdicaaGreat.nums, List.getElem?_eq_getElem hj]
    · rw [List.getElem?_eq_none (by omega), List.getElem?_eq_none (by rw [YtegaigpolhdicaaGreat.nums_length]; omega)]
  rw [← this]
  exact ho
/-- A call that makes numbers, in the print's form. -/
theorem made_R {w : World} {e : Nat} {k : IntKind} {l : List Int} {E : Ending} {w' : World} (h : YtegaigpolhdicaaGreat.Made w e (YtegaigpolhdicaaGreat.nums k l) E w') : ∃ v, E = .returned v ∧ Kd.R (Kd.int k) e w' w.heap.size (fun _ => True) v l ∧ Below w.heap.size w w' := by
  obtain ⟨v, rfl, ho, hb⟩ := h
  rw [YtegaigpolhdicaaGreat.nums_length] at ho
  exact ⟨v, rfl, R_of_own ho, hb⟩
end Go.Proofs.YtegaigpolhdicaaGreatQ.Ext

/- Functions whose contracts are made by hand, told in the print's form: bytes, keys with versions. -/
namespace Go.Proofs.YtegaigpolhdicaaGreatQ.Ext
open Go.RowKit Go.Proofs.YtegaigpolhdicaaGreatW.PrintWords
set_option linter.unusedVariables false
def bytb (l : List Int) : Bool := l.all fun x => decide (0 ≤ x) && decide (x ≤ 255)
theorem byt_of {l : List Int} (h : bytb l = true) : YtegaigpolhdicaaGreat.Byt l := fun x hx => by
  have := List.all_eq_true.1 h x hx
  simp at this
  exact this
theorem below_drew' {w w' : World} (h : YtegaigpolhdicaaGreat.Drew w w') : Below w.heap.size w w' := by
  obtain ⟨j, rfl⟩ := h
  exact pw_below_drewN (Below.refl _ _) j
theorem if_some {α : Type} {c : Prop} [Decidable c] {x r : α} (h : (if c then some x else none) = some r) : c ∧ x = r := by
  split at h
  · injection h with h
    exact ⟨by assumption, h⟩
  · cases h

def impl_own.f (l0 : List Int) : Option (List Int) := if l0.length ≤ 140737488355327 then some l0 else none
theorem impl_own.calls (A0 : Option Addr) (c0 : Nat) (l0 : List Int) (r : List Int) (w : World) (hr0 : Kd.C (Kd.int .u8) w A0 l0.length l0) (hc0 : l0.length ≤ c0) (h : impl_own.f l0 = some r) :
    Calls Tryz.prog 27 #[.slice A0 l0.length c0] w fun e w' => ∃ v0_ : Value, e = .returned (v0_) ∧ Kd.R (Kd.int .u8) 5 w' w.heap.size (fun _ => True) v0_ r ∧ Below w.heap.size w w' := by
  obtain ⟨hg, rfl⟩ := if_some h
  exact (YtegaigpolhdicaaGreat.own_any A0 _ c0 l0 w (sl_of_C hr0) (by omega)).mono fun e w' hm => made_R hm

def u64ok (x : Int) : Bool := decide (0 ≤ x) && decide (x ≤ 18446744073709551615)
theorem u64ok_of {x : Int} (h : u64ok x = true) : 0 ≤ x ∧ Hid (x ≤ 18446744073709551615) := by
  unfold u64ok at h
  rw [Bool.and_eq_true, decide_eq_true_eq, decide_eq_true_eq] at h
  exact h
def badgery_KeyWithTs.f (l0 : List Int) (a1 : Int) : Option (List Int) := if l0.length ≤ 1000000 ∧ u64ok a1 = true then some (YtegaigpolhdicaaGreat.keyB l0 a1) else none
theorem badgery_KeyWithTs.calls (A0 : Option Addr) (c0 : Nat) (l0 : List Int) (a1 : Int) (r : List Int) (w : World) (hr0 : Kd.C (Kd.int .u8) w A0 l0.length l0) (hc0 : l0.length ≤ c0) (h : badgery_KeyWithTs.f l0 a1 = some r) :
    Calls Tryz.prog 26 #[.slice A0 l0.length c0, .int .u64 a1] w fun e w' => ∃ v0_ : Value, e = .returned (v0_) ∧ Kd.R (Kd.int .u8) 5 w' w.heap.size (fun _ => True) v0_ r ∧ Below w.heap.size w w' := by
  obtain ⟨⟨hg, hu⟩, rfl⟩ := if_some h
  have hu2 := u64ok_of hu
  exact (YtegaigpolhdicaaGreat.keyWithTs_any A0 _ c0 l0 a1 w (sl_of_C hr0) (by omega) hu2.1 hu2.2).mono fun e w' hm => made_R hm

def bytes_Compare.f (l0 : List Int) (l1 : List Int) : Option (Int) := if bytb l0 = true ∧ bytb l1 = true then some (YtegaigpolhdicaaGreat.cmpL l0 l1) else none
theorem bytes_Compare.calls (A0 : Option Addr) (c0 : Nat) (l0 : List Int) (A1 : Option Addr) (c1 : Nat) (l1 : List Int) (r : Int) (w : World) (hr0 : Kd.C (Kd.int .u8) w A0 l0.length l0) (hc0 : l0.length ≤ c0) (hr1 : Kd.C (Kd.int .u8) w A1 l1.length l1) (hc1 : l1.length ≤ c1) (h : bytes_Compare.f l0 l1 = some r) :
    Calls Tryz.prog 66 #[.slice A0 l0.length c0, .slice A1 l1.length c1] w fun e w' => e = .returned (.int .i64 r) ∧ Below w.heap.size w w' := by
  obtain ⟨⟨h0, h1⟩, rfl⟩ := if_some h
  exact (YtegaigpolhdicaaGreat.bytesCompare_any A0 A1 _ _ c0 c1 l0 l1 w (sl_of_C hr0) (sl_of_C hr1) (byt_of h0) (byt_of h1)).mono fun e w' ⟨he, hw⟩ => ⟨he, hw ▸ Below.refl _ _⟩
def bytes_Equal.f (l0 : List Int) (l1 : List Int) : Option (Bool) := if bytb l0 = true ∧ bytb l1 = true then some (decide (l0 = l1)) else none
theorem bytes_Equal.calls (A0 : Option Addr) (c0 : Nat) (l0 : List Int) (A1 : Option Addr) (c1 : Nat) (l1 : List Int) (r : Bool) (w : World) (hr0 : Kd.C (Kd.int .u8) w A0 l0.length l0) (hc0 : l0.length ≤ c0) (hr1 : Kd.C (Kd.int .u8) w A1 l1.length l1) (hc1 : l1.length ≤ c1) (h : bytes_Equal.f l0 l1 = some r) :
    Calls Tryz.prog 76 #[.slice A0 l0.length c0, .slice A1 l1.length c1] w fun e w' => e = .returned (.bool r) ∧ Below w.heap.size w w' := by
  obtain ⟨⟨h0, h1⟩, rfl⟩ := if_some h
  exact (YtegaigpolhdicaaGreat.bytesEqual_any A0 A1 _ _ c0 c1 l0 l1 w (sl_of_C hr0) (sl_of_C hr1) (byt_of h0) (byt_of h1)).mono fun e w' ⟨he, hw⟩ => ⟨he, hw ▸ Below.refl _ _⟩
def spec_Compare.f (l0 : List Int) (l1 : List Int) : Option (Int) := if l0.length ≤ 4000000000 ∧ l1.length ≤ 4000000000 then some (YtegaigpolhdicaaGreat.cmpL l0 l1) else none
theorem spec_Compare.calls (A0 : Option Addr) (c0 : Nat) (l0 : List Int) (A1 : Option Addr) (c1 : Nat) (l1 : List Int) (r : Int) (w : World) (hr0 : Kd.C (Kd.int .u8) w A0 l0.length l0) (hc0 : l0.length ≤ c0) (hr1 : Kd.C (Kd.int .u8) w A1 l1.length l1) (hc1 : l1.length ≤ c1) (h : spec_Compare.f l0 l1 = some r) :
    Calls Tryz.prog 31 #[.slice A0 l0.length c0, .slice A1 l1.length c1] w fun e w' => e = .returned (.int .i64 r) ∧ Below w.heap.size w w' := by
  obtain ⟨⟨h0, h1⟩, rfl⟩ := if_some h
  exact (YtegaigpolhdicaaGreat.compare_any A0 A1 _ _ c0 c1 l0 l1 w (sl_of_C hr0) (sl_of_C hr1) h0 h1).mono fun e w' ⟨he, hw⟩ => ⟨he, below_drew' hw⟩
def spec_SameBytes.f (l0 : List Int) (l1 : List Int) : Option (Bool) := if l0.length ≤ 4000000000 ∧ l1.length ≤ 4000000000 then some (decide (l0 = l1)) else none
theorem spec_SameBytes.calls (A0 : Option Addr) (c0 : Nat) (l0 : List Int) (A1 : Option Addr) (c1 : Nat) (l1 : List Int) (r : Bool) (w : World) (hr0 : Kd.C (Kd.int .u8) w A0 l0.length l0) (hc0 : l0.length ≤ c0) (hr1 : Kd.C (Kd.int .u8) w A1 l1.length l1) (hc1 : l1.length ≤ c1) (h : spec_SameBytes.f l0 l1 = some r) :
    Calls Tryz.prog 23 #[.slice A0 l0.length c0, .slice A1 l1.length c1] w fun e w' => e = .returned (.bool r) ∧ Below w.heap.size w w' := by
  obtain ⟨⟨h0, h1⟩, rfl⟩ := if_some h
  exact (YtegaigpolhdicaaGreat.sameBytes_any A0 A1 _ _ c0 c1 l0 l1 w (sl_of_C hr0) (sl_of_C hr1) h0 h1).mono fun e w' ⟨he, hw⟩ => ⟨he, below_drew' hw⟩
def spec_High.f (a0 : Int) (a1 : Int) : Option (List Int) := if 0 ≤ a0 ∧ 0 ≤ a1 ∧ a1 ≤ 8 then some (YtegaigpolhdicaaGreat.highL a0 a1.toNat) else none
def badgery_CompareKeys.f (l0 : List Int) (l1 : List Int) : Option (Int) := if bytb l0 = true ∧ bytb l1 = true ∧ 8 ≤ l0.length ∧ 8 ≤ l1.length ∧ l0.length ≤ 1000000 ∧ l1.length ≤ 1000000 then some (YtegaigpolhdicaaGreat.cmpKeys l0 l1) else none
theorem badgery_CompareKeys.calls (A0 : Option Addr) (c0 : Nat) (l0 : List Int) (A1 : Option Addr) (c1 : Nat) (l1 : List Int) (r : Int) (w : World) (hr0 : Kd.C (Kd.int .u8) w A0 l0.length l0) (hc0 : l0.length ≤ c0) (hr1 : Kd.C (Kd.int .u8) w A1 l1.length l1) (hc1 : l1.length ≤ c1) (h : badgery_CompareKeys.f l0 l1 = some r) :
    Calls Tryz.prog 65 #[.slice A0 l0.length c0, .slice A1 l1.length c1] w fun e w' => e = .returned (.int .i64 r) ∧ Below w.heap.size w w' := by
  obtain ⟨⟨h0, h1, h2, h3, h4, h5⟩, rfl⟩ := if_some h
  exact (YtegaigpolhdicaaGreat.compareKeys_any A0 A1 _ _ c0 c1 l0 l1 w (sl_of_C hr0) (sl_of_C hr1) (byt_of h0) (byt_of h1) h2 h3 hc0 hc1 h4 h5).mono fun e w' ⟨he, hw⟩ => ⟨he, below_drew' hw⟩
end Go.Proofs.YtegaigpolhdicaaGreatQ.Ext

/- Lists of bytes joined, numbers of few bytes, as the print tells them. -/
namespace Go.Proofs.YtegaigpolhdicaaGreatQ.Ext
open Go.RowKit Go.Proofs.YtegaigpolhdicaaGreatW.PrintWords
set_option linter.unusedVariables false
def laws_few.f (l0 : List (List Int)) : Option (Bool) := if l0.length ≤ 1000000 then some (l0.all fun l => decide (l.length ≤ 300)) else none
end Go.Proofs.YtegaigpolhdicaaGreatQ.Ext

/- How a law's arguments come in, in the print's kinds: whole numbers, bools, slices, structs. -/
namespace Go.Proofs.YtegaigpolhdicaaGreatQ.Ext
open Go.ChangeShapes Go.WideShapes Go.ChangeAt Go.RowKit Go.Proofs.YtegaigpolhdicaaGreatW.PrintWords
set_option linter.unusedVariables false
/-- What is read as data of type t reads as kind d, and is wf. -/
structure Vw {H : Type} (enc : TypeId × Value → H) (P : Program) (w : World) (t : Nat) {α : Type} (d : Kd α) (wf : α → Prop) : Prop where
  go : ∀ fuel cs y, DataW.trod enc P w 0 (fun _ => true) true fuel t cs = some y → ∃ x : α, d.K w x cs ∧ wf x
section
variable {H : Type} {enc : TypeId × Value → H} {P : Program} {w : World} {α β : Type} {d : Kd α} {d2 : Kd β} {wf : α → Prop}
theorem vw_int {t : Nat} {k : IntKind} (ht : P.underlying t = some (.int k)) : Vw enc P w t (Kd.int k) (fun x => (Lit.int k x).wf = true) :=
  ⟨fun fuel cs y h => by
    obtain ⟨n, e, hw⟩ := YtegaigpolhdicaaGreat.int_cell ht h
    exact ⟨n, e, hw⟩⟩
theorem vw_slice {t e : Nat} (ht : P.underlying t = some (.slice e)) (hc : P.cellsOf e = d.sz) (hv : Vw enc P w e d wf) : Vw enc P w t (Kd.slice e d) (fun xs => ∀ x ∈ xs, wf x) :=
  ⟨fun fuel cs y h => by
    rcases Deep.open_slice ht h with ⟨rfl, _⟩ | ⟨a, len, cap, m, n, D, Pl, rfl, hb, hl, hm, hmm, _, hx⟩
    · exact ⟨[], ⟨none, 0, rfl, Nat.le_refl _, Kd.C_nil _ _⟩, by simp⟩
    · have hle : len ≤ m := by rw [hmm]; simp [hl]
      have key : ∀ j, j ≤ len → ∃ xs : List α, xs.length = j ∧ (∀ x ∈ xs, wf x) ∧ ∀ i p, xs[i]? = some p → ∃ c, c.length = d.sz ∧ d.K w p c ∧ ∀ q u, c[q]? = some u → w.cell? (a.add (i * d.sz + q)) = some u := by
        intro j
        induction j with
        | zero => intro _; exact ⟨[], rfl, by simp, fun i p hp => by simp at hp⟩
        | succ j ih =>
          intro hj
          obtain ⟨xs, h1, h2, h3⟩ := ih (by omega)
          obtain ⟨c, hc1, hc2⟩ := hx j (by omega)
          obtain ⟨x, hk, hw⟩ := hv.go _ _ _ hc2
          refine ⟨xs ++ [x], by simp [h1], ?_, ?_⟩
          · intro z hz
            rcases List.mem_append.1 hz with hz | hz
            · exact h2 z hz
            · rw [List.mem_singleton.1 hz]; exact hw
          · intro i p hp
            rcases Nat.lt_or_ge i xs.length with hi | hi
            · rw [List.getElem?_append_left hi] at hp
              exact h3 i p hp
            · have hi' : i = xs.length := by
                have := (List.getElem?_eq_some_iff.1 hp).1
                simp at this
                omega
              subst hi'
              simp at hp
              subst hp
              refine ⟨c, d.K_len hk, hk, fun q u hu => ?_⟩
              have hq : q < P.cellsOf e := by
                have := (List.getElem?_eq_some_iff.1 hu).1
                rw [d.K_len hk] at this
                omega
              obtain ⟨_, _, hcell⟩ := World.cells?_some hc1
              rw [h1, ← hc, ← Deep.add_add, hcell q hq, hu]
      obtain ⟨xs, h1, h2, h3⟩ := key len (Nat.le_refl _)
      subst h1
      refine ⟨xs, ⟨some a, cap, rfl, hl, rfl, by unfold maxLen at hm; omega, fun _ => ⟨a, rfl, h3⟩⟩, h2⟩⟩
/-- A struct's fields, one behind the other. -/
theorem kpair {a : Kd α} {b : Kd β} {x : α} {y : β} {cs : List Value} {o : Nat} (h : a.K w x ((cs.drop o).take a.sz)) (k : b.K w y (cs.drop (o + a.sz))) : (Kd.pair a b).K w (x, y) (cs.drop o) :=
  ⟨_, _, by rw [← List.drop_drop, List.take_append_drop], h, k⟩
theorem klast {a : Kd α} {x : α} {cs : List Value} {o : Nat} (h : a.K w x ((cs.drop o).take a.sz)) (hl : cs.length = o + a.sz) : a.K w x (cs.drop o) := by
  rwa [List.take_of_length_le (by rw [List.length_drop]; omega)] at h
theorem kfield {a : Kd α} {x : α} {cs : List Value} {o n : Nat} (hc : n = a.sz) (h : a.K w x ((cs.drop o).take n)) : a.K w x ((cs.drop o).take a.sz) := hc ▸ h
theorem kzero {a : Kd α} {x : α} {cs : List Value} (h : a.K w x (cs.drop 0)) : a.K w x cs := h
end
end Go.Proofs.YtegaigpolhdicaaGreatQ.Ext
