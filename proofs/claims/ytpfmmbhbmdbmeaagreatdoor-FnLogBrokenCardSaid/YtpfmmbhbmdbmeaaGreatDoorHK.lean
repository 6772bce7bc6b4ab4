/- A number in decimal, read; the reader of a log. -/
import Derived.Test.YtpfmmbhbmdbmeaaGreatDoorHJ
import Derived.Test.YtpfmmbhbmdbmeaaGreatDoorSp
import Derived.Lib.AtoiErrMem
namespace Go.Proofs
theorem YtpfmmbhbmdbmeaaGreatDoor.frm_bytes (w : World) (e : TypeId) (s : ByteArray) : YtpfmmbhbmdbmeaaGreatDoor.Frm [] w (Lib.bytesWorld w e s) := YtpfmmbhbmdbmeaaGreatDoor.Frm.of_below (Lib.bytesWorld_below w e s)
set_option maxRecDepth 100000 in
theorem YtpfmmbhbmdbmeaaGreatDoor.parse_in (t : ByteArray) (u : Nat) (hne : t.size ≠ 0) (hmax : t.size ≤ 1000000) (h : Lib.parseUint10 0 t.data.toList = .ok u) (w : World) :
    Calls Tryz.prog 65 #[.string t, .int .i64 10, .int .i64 64] w fun e w' => e = .returned (.tuple #[.int .u64 u, .nilIface]) ∧ YtpfmmbhbmdbmeaaGreatDoor.Frm [] w w' := by
  refine (Tryz.internal_strconv_ParseUint_10_b64 t hne (by omega) w).mono ?_
  rintro e w' ⟨he, rfl⟩
  rw [h] at he
  exact ⟨he, YtpfmmbhbmdbmeaaGreatDoor.frm_bytes w _ t⟩
end Go.Proofs
namespace Go.Proofs.YtpfmmbhbmdbmeaaGreatDoor
open Go.RowKit
set_option linter.unusedVariables false
set_option linter.unusedSimpArgs false
set_option maxRecDepth 100000 in
theorem parse_any (t : ByteArray) (u : Nat) (hne : t.size ≠ 0) (hmax : t.size ≤ 1000000) (h : Lib.parseUint10 0 t.data.toList = .ok u) (w : World) :
    Calls Tryz.prog 51 #[.string t, .int .i64 10, .int .i64 64] w fun e w' => e = .returned (.tuple #[.int .u64 u, .nilIface]) ∧ Frm [] w w' := by
  have HU := Lib.hid h
  clear h
  go_enter Tryz.func51, Tryz.ntmps51
  go_wp2_with fail
  refine (parse_in t u hne hmax HU.out w).mono ?_
  rintro E w1 ⟨rfl, hf⟩
  have HF := Lib.hid hf
  clear hf
  go_wp2
  go_ret2
  exact ⟨rfl, HF.out⟩
/-- The digits' number. -/
def digN : Nat → List Int → Nat
  | acc, [] => acc
  | acc, c :: r => digN (acc * 10 + (c.toNat - 48)) r
theorem parse_dig : ∀ (l : List Int) (acc : Nat), (∀ c ∈ l, 48 ≤ c ∧ c ≤ 57) → digN acc l ≤ 1000000 → Lib.parseUint10 acc (l.map fun c => UInt8.ofNat c.toNat) = .ok (digN acc l) := by
  have mono : ∀ (l : List Int) (acc : Nat), acc ≤ digN acc l := by
    intro l
    induction l with
    | nil => intro acc; exact Nat.le_refl _
    | cons c r ih => intro acc; exact Nat.le_trans (by omega) (ih (acc * 10 + (c.toNat - 48)))
  intro l
  induction l with
  | nil => intro acc _ _; rfl
  | cons c r ih =>
    intro acc hc hb
    have h1 := hc c (List.mem_cons_self ..)
    have e1 : (UInt8.ofNat c.toNat).toNat = c.toNat := by
      rw [UInt8.toNat_ofNat']
      exact Nat.mod_eq_of_lt (by omega)
    have hm := mono r (acc * 10 + (c.toNat - 48))
    have hb' : digN (acc * 10 + (c.toNat - 48)) r ≤ 1000000 := hb
    rw [List.map_cons, Lib.parseUint10, e1, if_pos (by omega), if_neg (by omega), if_neg (by omega)]
    exact ih _ (fun x hx => hc x (List.mem_cons_of_mem _ hx)) hb'
abbrev strB (l : List Int) : ByteArray := strOfNums l
theorem strB_list (l : List Int) : (strB l).data.toList = l.map fun c => UInt8.ofNat c.toNat := strOfNums_data l
theorem strB_size (l : List Int) : (strB l).size = l.length := strOfNums_size l
set_option maxRecDepth 100000 in
theorem newReader_any (g n c at' : Nat) (A : Option Addr) (cs : List Value) (w : World) (h : Blk w g 86 (.slice A n c :: cs)) : Calls Tryz.prog 47 #[.pointer (some ⟨g, 0, none⟩), .int .i64 (at' : Int)] w (fun E w' => E = .returned (.pointer (some ⟨w.heap.size, 0, none⟩)) ∧ w' = w.alloc (.cells #[.slice A n c, .int .i64 at'] 134)) := by
  have q0 := h.at_ (i := 0) rfl
  go_enter Tryz.func47, Tryz.ntmps47
  go_wp2
  go_ret
  exact ⟨rfl, rfl⟩
set_option maxRecDepth 100000 in
theorem isZero_any (g k c t : Nat) (A : Option Addr) (cs : List Value) (w : World) (h : Blk w g 91 (.slice A k c :: cs)) (hk : 1 ≤ k) (hk2 : k ≤ 1000000) : Calls Tryz.prog 49 #[.pointer (some ⟨g, 0, none⟩)] w (fun E w' => E = .returned (.bool false) ∧ w' = w) := by
  have q0 := h.at_ (i := 0) rfl
  have h0 : ((k : Int) == 0) = false := by rw [beq_eq_false_iff_ne]; omega
  go_enter Tryz.func49, Tryz.ntmps49
  go_wp2
  go_ret
  exact ⟨rfl, rfl⟩
end Go.Proofs.YtpfmmbhbmdbmeaaGreatDoor
