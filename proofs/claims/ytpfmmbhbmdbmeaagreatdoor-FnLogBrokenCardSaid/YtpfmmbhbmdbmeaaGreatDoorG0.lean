/- A byte that is changed changes the checksum: plain. -/
import Derived.Test.YtpfmmbhbmdbmeaaGreatDoorKC
namespace Go.Proofs.YtpfmmbhbmdbmeaaGreatDoor
open Go.RowKit
set_option linter.unusedVariables false
set_option linter.unusedSimpArgs false
theorem xor_right (a b x : Int) (ha : In32 a) (hb : In32 b) (hx : In32 x) (h : bits .xor .u32 a x = bits .xor .u32 b x) : a = b := by
  obtain ⟨a0, a1⟩ := ha
  obtain ⟨b0, b1⟩ := hb
  obtain ⟨x0, x1⟩ := hx
  rw [u32_xor a x a0 (by omega) x0 (by omega), u32_xor b x b0 (by omega) x0 (by omega)] at h
  have h1 : a.toNat ^^^ x.toNat = b.toNat ^^^ x.toNat := Int.ofNat.inj h
  have h2 : (a.toNat ^^^ x.toNat) ^^^ x.toNat = (b.toNat ^^^ x.toNat) ^^^ x.toNat := by rw [h1]
  rw [Nat.xor_assoc, Nat.xor_assoc, Nat.xor_self, Nat.xor_zero, Nat.xor_zero] at h2
  omega
theorem xor_left (x a b : Int) (ha : In32 a) (hb : In32 b) (hx : In32 x) (h : bits .xor .u32 x a = bits .xor .u32 x b) : a = b := by
  obtain ⟨a0, a1⟩ := ha
  obtain ⟨b0, b1⟩ := hb
  obtain ⟨x0, x1⟩ := hx
  refine xor_right a b x ⟨a0, a1⟩ ⟨b0, b1⟩ ⟨x0, x1⟩ ?_
  rw [u32_xor x a x0 (by omega) a0 (by omega), u32_xor x b x0 (by omega) b0 (by omega)] at h
  rw [u32_xor a x a0 (by omega) x0 (by omega), u32_xor b x b0 (by omega) x0 (by omega), Nat.xor_comm a.toNat, Nat.xor_comm b.toNat]
  exact h
theorem and_one (s : Int) (h : In32 s) : bits .and .u32 s 1 = s % 2 := by
  obtain ⟨h0, h1⟩ := h
  rw [u32_and s 1 h0 (by omega) (by omega) (by omega)]
  have : (1 : Int).toNat = 1 := rfl
  rw [this, Nat.and_one_is_mod]
  omega
theorem poly_big (n : Nat) (h : n < 2147483648) : 2147483648 ≤ n ^^^ 2197175160 := by
  rcases Nat.lt_or_ge (n ^^^ 2197175160) 2147483648 with h1 | h1
  · exfalso
    have e : (n ^^^ 2197175160).testBit 31 = false := Nat.testBit_lt_two_pow h1
    have f : n.testBit 31 = false := Nat.testBit_lt_two_pow h
    rw [Nat.testBit_xor, f] at e
    revert e
    decide
  · exact h1
theorem crcBit_inj (s t : Int) (hs : In32 s) (ht : In32 t) (h : crcBit s = crcBit t) : s = t := by
  have as1 := and_one s hs
  have at' := and_one t ht
  obtain ⟨s0, s1⟩ := hs
  obtain ⟨t0, t1⟩ := ht
  have big : ∀ n : Int, 0 ≤ n → n < 2147483648 → 2147483648 ≤ bits .xor .u32 n 2197175160 := by
    intro n h0 h1
    rw [u32_xor n 2197175160 h0 (by omega) (by omega) (by omega)]
    have := poly_big n.toNat (by omega)
    show (2147483648 : Int) ≤ ((n.toNat ^^^ (2197175160 : Int).toNat : Nat) : Int)
    have e : (2197175160 : Int).toNat = 2197175160 := rfl
    rw [e]
    omega
  unfold crcBit at h
  rw [as1, at'] at h
  have bs := big (s / 2) (by omega) (by omega)
  have bt := big (t / 2) (by omega) (by omega)
  split at h
  · split at h
    · have := xor_right (s / 2) (t / 2) 2197175160 ⟨by omega, by omega⟩ ⟨by omega, by omega⟩ ⟨by omega, by omega⟩ h
      omega
    · omega
  · split at h
    · omega
    · omega
theorem crcI_inj (i : Nat) (s t : Int) (hs : In32 s) (ht : In32 t) (h : crcI s i = crcI t i) : s = t := by
  induction i with
  | zero => exact h
  | succ i ih => exact ih (crcBit_inj _ _ (crcI_in s hs i) (crcI_in t ht i) h)
theorem crcByte_left (s t x : Int) (hs : In32 s) (ht : In32 t) (hx : In32 x) (h : crcByte s x = crcByte t x) : s = t :=
  xor_right s t x hs ht hx (crcI_inj 8 _ _ (xor_in _ _ hs hx) (xor_in _ _ ht hx) h)
theorem crcByte_right (s x y : Int) (hs : In32 s) (hx : In32 x) (hy : In32 y) (h : crcByte s x = crcByte s y) : x = y :=
  xor_left s x y hx hy hs (crcI_inj 8 _ _ (xor_in _ _ hs hx) (xor_in _ _ hs hy) h)
theorem crcFold_inj (l : List Int) (hl : In8L l) (s t : Int) (hs : In32 s) (ht : In32 t) (h : l.foldl crcByte s = l.foldl crcByte t) : s = t := by
  induction l generalizing s t with
  | nil => exact h
  | cons x l ih =>
    have hx := hl x (List.mem_cons_self ..)
    exact crcByte_left s t x hs ht hx (ih (fun y hy => hl y (List.mem_cons_of_mem _ hy)) _ _ (crcByte_in s x hs hx) (crcByte_in t x ht hx) h)
/-- One byte changed. -/
theorem crcOut_set (l : List Int) (hB : Byt l) (i : Nat) (x y : Int) (hi : l[i]? = some x) (hy : 0 ≤ y ∧ y ≤ 255) (h : crcOut (l.set i y) = crcOut l) : y = x := by
  have h8 := in8L_of hB
  have hy32 : In32 y := ⟨hy.1, by have := hy.2; omega⟩
  have hl : i < l.length := by
    rcases Nat.lt_or_ge i l.length with h | h
    · exact h
    · rw [List.getElem?_eq_none h] at hi; cases hi
  have hxe : l[i] = x := by rw [List.getElem?_eq_getElem hl] at hi; exact Option.some.inj hi
  have hx32 : In32 x := h8 x (hxe ▸ List.getElem_mem hl)
  have e1 : l = l.take i ++ x :: l.drop (i + 1) := by
    rw [← hxe, List.getElem_cons_drop hl, List.take_append_drop]
  have e2 : l.set i y = l.take i ++ y :: l.drop (i + 1) := by rw [List.set_eq_take_append_cons_drop, if_pos hl]
  have h8s : In8L (l.set i y) := by
    intro z hz
    rcases List.mem_or_eq_of_mem_set hz with h | h
    · exact h8 z h
    · exact h ▸ hy32
  have h1 := xor_left _ _ _ (crcL_in _ h8s) (crcL_in _ h8) ⟨by decide, by decide⟩ h
  rw [e2] at h1
  rw [crcL, crcL, List.foldl_append, List.foldl_cons] at h1
  conv at h1 => rhs; rw [e1]
  rw [List.foldl_append, List.foldl_cons] at h1
  have hs : In32 ((l.take i).foldl crcByte 4294967295) := crcFold_in _ (h8.take i) _ ⟨by decide, by decide⟩
  have hd : In8L (l.drop (i + 1)) := fun z hz => h8 z (List.mem_of_mem_drop hz)
  exact crcByte_right _ _ _ hs hy32 hx32 (crcFold_inj _ hd _ _ (crcByte_in _ _ hs hy32) (crcByte_in _ _ hs hx32) h1)
end Go.Proofs.YtpfmmbhbmdbmeaaGreatDoor
