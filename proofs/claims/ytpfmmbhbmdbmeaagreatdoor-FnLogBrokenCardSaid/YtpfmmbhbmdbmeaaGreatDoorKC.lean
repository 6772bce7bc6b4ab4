/- The checksum. -/
import Derived.Test.YtpfmmbhbmdbmeaaGreatDoorGB
import Derived.IntWalk
namespace Go.Proofs.YtpfmmbhbmdbmeaaGreatDoor
open Go.RowKit
set_option linter.unusedVariables false
set_option linter.unusedSimpArgs false
/-- One turn of the register, eight of them, a byte, and all bytes. -/
def crcBit (s : Int) : Int := if bits .and .u32 s 1 = 1 then bits .xor .u32 (s / 2) 2197175160 else s / 2
def crcI (s : Int) : Nat → Int
  | 0 => s
  | i + 1 => crcBit (crcI s i)
def crcByte (s x : Int) : Int := crcI (bits .xor .u32 s x) 8
def crcL (l : List Int) : Int := l.foldl crcByte 4294967295
def In32 (x : Int) : Prop := 0 ≤ x ∧ x ≤ 4294967295
theorem xor_in (a b : Int) (ha : In32 a) (hb : In32 b) : In32 (bits .xor .u32 a b) := by
  obtain ⟨a0, a1⟩ := ha
  obtain ⟨b0, b1⟩ := hb
  rw [u32_xor a b a0 (by omega) b0 (by omega)]
  have : a.toNat ^^^ b.toNat < 2 ^ 32 := Nat.xor_lt_two_pow (by omega) (by omega)
  exact ⟨by omega, by omega⟩
theorem crcBit_in (s : Int) (h : In32 s) : In32 (crcBit s) := by
  obtain ⟨h0, h1⟩ := h
  unfold crcBit
  split
  · exact xor_in _ _ ⟨by omega, by omega⟩ ⟨by omega, by omega⟩
  · exact ⟨by omega, by omega⟩
theorem crcI_in (s : Int) (h : In32 s) (i : Nat) : In32 (crcI s i) := by
  induction i with
  | zero => exact h
  | succ i ih => exact crcBit_in _ ih
theorem crcByte_in (s x : Int) (h : In32 s) (hx : In32 x) : In32 (crcByte s x) := crcI_in _ (xor_in _ _ h hx) 8
theorem crcFold_in (l : List Int) (hl : ∀ x ∈ l, In32 x) (s : Int) (h : In32 s) : In32 (l.foldl crcByte s) := by
  induction l generalizing s with
  | nil => exact h
  | cons x l ih => exact ih (fun y hy => hl y (List.mem_cons_of_mem _ hy)) _ (crcByte_in s x h (hl x (List.mem_cons_self ..)))
theorem crcL_in (l : List Int) (hl : ∀ x ∈ l, In32 x) : In32 (crcL l) := crcFold_in l hl _ ⟨by omega, by omega⟩
theorem crc_snoc (l : List Int) (x : Int) : crcL (l ++ [x]) = crcByte (crcL l) x := by simp [crcL]
theorem bit_two (s : Int) (h : In32 s) : bits .and .u32 s 1 = 0 ∨ bits .and .u32 s 1 = 1 := by
  obtain ⟨h0, h1⟩ := h
  rw [u32_and s 1 h0 (by omega) (by omega) (by omega)]
  have : (1 : Int).toNat = 1 := rfl
  rw [this, Nat.and_one_is_mod]
  omega
def In8L (l : List Int) : Prop := ∀ x ∈ l, In32 x
theorem in8L_of {l : List Int} (h : Byt l) : In8L l := fun x hx => by
  have := h x hx
  exact ⟨by have := this.1; omega, by have := this.2; omega⟩
theorem In8L.take {l : List Int} (h : In8L l) (i : Nat) : In8L (l.take i) := fun x hx => h x (List.mem_of_mem_take hx)

def crcOut (l : List Int) : Int := bits .xor .u32 IntKind.u32.max (crcL l)
theorem crcOut_in (l : List Int) (h : Byt l) : In32 (crcOut l) := xor_in _ _ ⟨by decide, by decide⟩ (crcL_in l (in8L_of h))

theorem specCastagnoli_any (A : Option Addr) (n c : Nat) (l : List Int) (w : World) (h : Sl w A n (nums .u8 l)) (hB : Byt l) (hn : n ≤ 1000000) :
    Calls Tryz.prog 24 #[.slice A n c] w fun e w' => e = .returned (.int .u32 (crcOut l)) ∧ w = w' := by
  have H := Lib.hid h
  have HB := Lib.hid hB
  have hlen : l.length = n := by have := h.1; rwa [nums_length] at this
  have HL := Lib.hid hlen
  have HI := Lib.hid (in8L_of hB)
  clear h hlen hB
  go_enter Tryz.func24, Tryz.ntmps24
  go_wp2
  go_loopg [3, 5, 6, 9] n (fun q v3 v5 v6 v9 wr => ∃ (i : Nat) (s : Int), v3 = .int .u32 s ∧ v9 = .int .i64 i ∧ i ≤ n ∧ Hid (i + q = n) ∧ Hid (s = crcL (l.take i)) ∧ 0 ≤ s ∧ s ≤ 4294967295 ∧ w = wr)
  case atStart => exact ⟨0, _, rfl, rfl, by omega, by simp [Hid], rfl, by omega, by omega, rfl⟩
  case round =>
    obtain ⟨i, s, rfl, rfl, hi, hq, hs, hs0, hs1, rfl⟩ := hrel
    by_cases h1 : i < n
    · obtain ⟨g, o, x, rfl, hl, hc⟩ := H.out.num h1
      have hx : In8 x := HB.out _ (List.mem_of_getElem? hl.out)
      obtain ⟨hx0, hx1⟩ := hx
      have hxi : In32 (bits .xor .u32 s x) := xor_in _ _ ⟨hs0, hs1⟩ ⟨hx0, by omega⟩
      obtain ⟨gkO, rfl⟩ : ∃ q, gk = q + 1 := ⟨gk - 1, by have := hq.out; omega⟩
      have hgk := hq
      go_wp2
      go_loopg [3, 6, 17] 8 (fun q2 v3 v6 v17 wr => ∃ (k : Nat) (y : Int), v3 = .int .u32 y ∧ v17 = .int .i64 k ∧ k ≤ 8 ∧ Hid (k + q2 = 8) ∧ Hid (y = crcI (bits .xor .u32 s x) k) ∧ 0 ≤ y ∧ y ≤ 4294967295 ∧ w = wr)
      case atStart => exact ⟨0, _, rfl, rfl, by omega, by simp [Hid], rfl, hxi.1, hxi.2, rfl⟩
      case round =>
        obtain ⟨k, y, rfl, rfl, hk, hq2, hy, hy0, hy1, rfl⟩ := hrel
        by_cases hk8 : k < 8
        · have hyb := crcBit_in y ⟨hy0, hy1⟩
          rcases bit_two y ⟨hy0, hy1⟩ with ha | ha
          · have hcb : crcBit y = y / 2 := by unfold crcBit; rw [ha]; rfl
            rw [hcb] at hyb
            have HCB := Lib.hid hcb
            clear hcb
            go_wp2
            cases gk with
            | zero => exact absurd hq2.out (by omega)
            | succ k2 =>
              go_roundg k2
              case measure => omega
              case rel => exact ⟨k + 1, y / 2, by simp, by go_num, by omega, by have := hq2.out; show _ = _; omega, by show _ = _; rw [crcI, ← hy.out, HCB.out], hyb.1, hyb.2, rfl⟩
          · have hcb : crcBit y = bits .xor .u32 (y / 2) 2197175160 := by unfold crcBit; rw [ha]; rfl
            rw [hcb] at hyb
            have HCB := Lib.hid hcb
            clear hcb
            go_wp2
            cases gk with
            | zero => exact absurd hq2.out (by omega)
            | succ k2 =>
              go_roundg k2
              case measure => omega
              case rel => exact ⟨k + 1, bits .xor .u32 (y / 2) 2197175160, by simp, by go_num, by omega, by have := hq2.out; show _ = _; omega, by show _ = _; rw [crcI, ← hy.out, HCB.out], hyb.1, hyb.2, rfl⟩
        · obtain rfl : k = 8 := by omega
          have hys : Hid (y = crcL (l.take (i + 1))) := by
            obtain ⟨g1, rfl⟩ := List.getElem?_eq_some_iff.1 hl.out
            show _ = _
            rw [List.take_succ_eq_append_getElem g1, crc_snoc, ← hs.out, crcByte]
            exact hy.out
          go_wp2
          go_roundg gkO
          case measure => omega
          case rel => exact ⟨i + 1, y, by simp, by go_num, by omega, by have := hgk.out; show _ = _; omega, hys, hy0, hy1, rfl⟩
    · obtain rfl : i = n := by omega
      have hcl : crcL (l.take i) = crcL l := by rw [List.take_of_length_le (by have := HL.out; omega)]
      go_wp2
      go_ret
      exact ⟨by rw [crcOut, ← hcl, ← hs.out]; rfl, rfl⟩

end Go.Proofs.YtpfmmbhbmdbmeaaGreatDoor
