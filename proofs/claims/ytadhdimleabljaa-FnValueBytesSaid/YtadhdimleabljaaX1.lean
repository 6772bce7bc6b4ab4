/- Functions whose contracts are made by hand, told in the print's form: bytes, keys with versions. -/
import Derived.Test.YtadhdimleabljaaX0
import Derived.Test.YtadhdimleabljaaC7
import Derived.Test.YtadhdimleabljaaL1
namespace Go.Proofs.YtadhdimleabljaaQ.Ext
open Go.RowKit Go.Proofs.YtadhdimleabljaaW.PrintWords
set_option linter.unusedVariables false
def bytb (l : List Int) : Bool := l.all fun x => decide (0 ≤ x) && decide (x ≤ 255)
theorem byt_of {l : List Int} (h : bytb l = true) : Ytadhdimleabljaa.Byt l := fun x hx => by
  have := List.all_eq_true.1 h x hx
  simp at this
  exact this
theorem bytb_of {l : List Int} (h : Ytadhdimleabljaa.Byt l) : bytb l = true := List.all_eq_true.2 fun x hx => by
  have := h x hx
  simp [this.1, this.2]
theorem below_drew' {w w' : World} (h : Ytadhdimleabljaa.Drew w w') : Below w.heap.size w w' := by
  obtain ⟨j, rfl⟩ := h
  exact pw_below_drewN (Below.refl _ _) j
theorem if_some {α : Type} {c : Prop} [Decidable c] {x r : α} (h : (if c then some x else none) = some r) : c ∧ x = r := by
  split at h
  · injection h with h
    exact ⟨by assumption, h⟩
  · cases h

def impl_own.f (l0 : List Int) : Option (List Int) := if l0.length ≤ 140737488355327 then some l0 else none
theorem impl_own.calls (A0 : Option Addr) (c0 : Nat) (l0 : List Int) (r : List Int) (w : World) (hr0 : Kd.C (Kd.int .u8) w A0 l0.length l0) (hc0 : l0.length ≤ c0) (h : impl_own.f l0 = some r) :
    Calls Try.prog 89 #[.slice A0 l0.length c0] w fun e w' => ∃ v0_ : Value, e = .returned (v0_) ∧ Kd.R (Kd.int .u8) 5 w' w.heap.size (fun _ => True) v0_ r ∧ Below w.heap.size w w' := by
  obtain ⟨hg, rfl⟩ := if_some h
  exact (Ytadhdimleabljaa.own_any A0 _ c0 l0 w (sl_of_C hr0) (by omega)).mono fun e w' hm => made_R hm

def u64ok (x : Int) : Bool := decide (0 ≤ x) && decide (x ≤ 18446744073709551615)
theorem u64ok_of {x : Int} (h : u64ok x = true) : 0 ≤ x ∧ Hid (x ≤ 18446744073709551615) := by
  unfold u64ok at h
  rw [Bool.and_eq_true, decide_eq_true_eq, decide_eq_true_eq] at h
  exact h
theorem u64ok_mk {x : Int} (h : 0 ≤ x) (h2 : Hid (x ≤ 18446744073709551615)) : u64ok x = true := by
  unfold u64ok
  rw [Bool.and_eq_true, decide_eq_true_eq, decide_eq_true_eq]
  exact ⟨h, h2⟩
def badgery_KeyWithTs.f (l0 : List Int) (a1 : Int) : Option (List Int) := if l0.length ≤ 1000000 ∧ u64ok a1 = true then some (Ytadhdimleabljaa.keyB l0 a1) else none
theorem badgery_KeyWithTs.calls (A0 : Option Addr) (c0 : Nat) (l0 : List Int) (a1 : Int) (r : List Int) (w : World) (hr0 : Kd.C (Kd.int .u8) w A0 l0.length l0) (hc0 : l0.length ≤ c0) (h : badgery_KeyWithTs.f l0 a1 = some r) :
    Calls Try.prog 90 #[.slice A0 l0.length c0, .int .u64 a1] w fun e w' => ∃ v0_ : Value, e = .returned (v0_) ∧ Kd.R (Kd.int .u8) 5 w' w.heap.size (fun _ => True) v0_ r ∧ Below w.heap.size w w' := by
  obtain ⟨⟨hg, hu⟩, rfl⟩ := if_some h
  have hu2 := u64ok_of hu
  exact (Ytadhdimleabljaa.keyWithTs_any A0 _ c0 l0 a1 w (sl_of_C hr0) (by omega) hu2.1 hu2.2).mono fun e w' hm => made_R hm

def bytes_Compare.f (l0 : List Int) (l1 : List Int) : Option (Int) := if bytb l0 = true ∧ bytb l1 = true then some (Ytadhdimleabljaa.cmpL l0 l1) else none
theorem bytes_Compare.calls (A0 : Option Addr) (c0 : Nat) (l0 : List Int) (A1 : Option Addr) (c1 : Nat) (l1 : List Int) (r : Int) (w : World) (hr0 : Kd.C (Kd.int .u8) w A0 l0.length l0) (hc0 : l0.length ≤ c0) (hr1 : Kd.C (Kd.int .u8) w A1 l1.length l1) (hc1 : l1.length ≤ c1) (h : bytes_Compare.f l0 l1 = some r) :
    Calls Try.prog 141 #[.slice A0 l0.length c0, .slice A1 l1.length c1] w fun e w' => e = .returned (.int .i64 r) ∧ Below w.heap.size w w' := by
  obtain ⟨⟨h0, h1⟩, rfl⟩ := if_some h
  exact (Ytadhdimleabljaa.bytesCompare_any A0 A1 _ _ c0 c1 l0 l1 w (sl_of_C hr0) (sl_of_C hr1) (byt_of h0) (byt_of h1)).mono fun e w' ⟨he, hw⟩ => ⟨he, hw ▸ Below.refl _ _⟩
def bytes_Equal.f (l0 : List Int) (l1 : List Int) : Option (Bool) := if bytb l0 = true ∧ bytb l1 = true then some (decide (l0 = l1)) else none
theorem bytes_Equal.calls (A0 : Option Addr) (c0 : Nat) (l0 : List Int) (A1 : Option Addr) (c1 : Nat) (l1 : List Int) (r : Bool) (w : World) (hr0 : Kd.C (Kd.int .u8) w A0 l0.length l0) (hc0 : l0.length ≤ c0) (hr1 : Kd.C (Kd.int .u8) w A1 l1.length l1) (hc1 : l1.length ≤ c1) (h : bytes_Equal.f l0 l1 = some r) :
    Calls Try.prog 145 #[.slice A0 l0.length c0, .slice A1 l1.length c1] w fun e w' => e = .returned (.bool r) ∧ Below w.heap.size w w' := by
  obtain ⟨⟨h0, h1⟩, rfl⟩ := if_some h
  exact (Ytadhdimleabljaa.bytesEqual_any A0 A1 _ _ c0 c1 l0 l1 w (sl_of_C hr0) (sl_of_C hr1) (byt_of h0) (byt_of h1)).mono fun e w' ⟨he, hw⟩ => ⟨he, hw ▸ Below.refl _ _⟩
def spec_Compare.f (l0 : List Int) (l1 : List Int) : Option (Int) := if l0.length ≤ 4000000000 ∧ l1.length ≤ 4000000000 then some (Ytadhdimleabljaa.cmpL l0 l1) else none
theorem spec_Compare.calls (A0 : Option Addr) (c0 : Nat) (l0 : List Int) (A1 : Option Addr) (c1 : Nat) (l1 : List Int) (r : Int) (w : World) (hr0 : Kd.C (Kd.int .u8) w A0 l0.length l0) (hc0 : l0.length ≤ c0) (hr1 : Kd.C (Kd.int .u8) w A1 l1.length l1) (hc1 : l1.length ≤ c1) (h : spec_Compare.f l0 l1 = some r) :
    Calls Try.prog 88 #[.slice A0 l0.length c0, .slice A1 l1.length c1] w fun e w' => e = .returned (.int .i64 r) ∧ Below w.heap.size w w' := by
  obtain ⟨⟨h0, h1⟩, rfl⟩ := if_some h
  exact (Ytadhdimleabljaa.compare_any A0 A1 _ _ c0 c1 l0 l1 w (sl_of_C hr0) (sl_of_C hr1) h0 h1).mono fun e w' ⟨he, hw⟩ => ⟨he, below_drew' hw⟩
def spec_SameBytes.f (l0 : List Int) (l1 : List Int) : Option (Bool) := if l0.length ≤ 4000000000 ∧ l1.length ≤ 4000000000 then some (decide (l0 = l1)) else none
theorem spec_SameBytes.calls (A0 : Option Addr) (c0 : Nat) (l0 : List Int) (A1 : Option Addr) (c1 : Nat) (l1 : List Int) (r : Bool) (w : World) (hr0 : Kd.C (Kd.int .u8) w A0 l0.length l0) (hc0 : l0.length ≤ c0) (hr1 : Kd.C (Kd.int .u8) w A1 l1.length l1) (hc1 : l1.length ≤ c1) (h : spec_SameBytes.f l0 l1 = some r) :
    Calls Try.prog 30 #[.slice A0 l0.length c0, .slice A1 l1.length c1] w fun e w' => e = .returned (.bool r) ∧ Below w.heap.size w w' := by
  obtain ⟨⟨h0, h1⟩, rfl⟩ := if_some h
  exact (Ytadhdimleabljaa.sameBytes_any A0 A1 _ _ c0 c1 l0 l1 w (sl_of_C hr0) (sl_of_C hr1) h0 h1).mono fun e w' ⟨he, hw⟩ => ⟨he, below_drew' hw⟩
def spec_High.f (a0 : Int) (a1 : Int) : Option (List Int) := if 0 ≤ a0 ∧ 0 ≤ a1 ∧ a1 ≤ 8 then some (Ytadhdimleabljaa.highL a0 a1.toNat) else none
theorem spec_High.calls (a0 : Int) (a1 : Int) (r : List Int) (w : World) (h : spec_High.f a0 a1 = some r) :
    Calls Try.prog 64 #[.int .u64 a0, .int .i64 a1] w fun e w' => ∃ v0_ : Value, e = .returned (v0_) ∧ Kd.R (Kd.int .u8) 5 w' w.heap.size (fun _ => True) v0_ r ∧ Below w.heap.size w w' := by
  obtain ⟨⟨h0, h1, h2⟩, rfl⟩ := if_some h
  have := (Ytadhdimleabljaa.high_any a0 a1.toNat w h0 (by omega)).mono fun e w' hm => made_R hm
  rwa [Int.toNat_of_nonneg h1] at this
def badgery_CompareKeys.f (l0 : List Int) (l1 : List Int) : Option (Int) := if bytb l0 = true ∧ bytb l1 = true ∧ 8 ≤ l0.length ∧ 8 ≤ l1.length ∧ l0.length ≤ 1000000 ∧ l1.length ≤ 1000000 then some (Ytadhdimleabljaa.cmpKeys l0 l1) else none
theorem badgery_CompareKeys.calls (A0 : Option Addr) (c0 : Nat) (l0 : List Int) (A1 : Option Addr) (c1 : Nat) (l1 : List Int) (r : Int) (w : World) (hr0 : Kd.C (Kd.int .u8) w A0 l0.length l0) (hc0 : l0.length ≤ c0) (hr1 : Kd.C (Kd.int .u8) w A1 l1.length l1) (hc1 : l1.length ≤ c1) (h : badgery_CompareKeys.f l0 l1 = some r) :
    Calls Try.prog 97 #[.slice A0 l0.length c0, .slice A1 l1.length c1] w fun e w' => e = .returned (.int .i64 r) ∧ Below w.heap.size w w' := by
  obtain ⟨⟨h0, h1, h2, h3, h4, h5⟩, rfl⟩ := if_some h
  exact (Ytadhdimleabljaa.compareKeys_any A0 A1 _ _ c0 c1 l0 l1 w (sl_of_C hr0) (sl_of_C hr1) (byt_of h0) (byt_of h1) h2 h3 hc0 hc1 h4 h5).mono fun e w' ⟨he, hw⟩ => ⟨he, below_drew' hw⟩
end Go.Proofs.YtadhdimleabljaaQ.Ext
