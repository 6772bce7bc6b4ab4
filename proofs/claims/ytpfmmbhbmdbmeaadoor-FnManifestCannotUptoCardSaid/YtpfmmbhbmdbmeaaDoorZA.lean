/- The bytes of a manifest. -/
import Derived.Test.YtpfmmbhbmdbmeaaDoorF6
import Derived.Test.YtpfmmbhbmdbmeaaDoorF4
import Derived.Test.YtpfmmbhbmdbmeaaDoorKC
import Derived.Test.YtpfmmbhbmdbmeaaDoorX2
import Derived.Test.YtpfmmbhbmdbmeaaDoorY9
namespace Go.Proofs.YtpfmmbhbmdbmeaaDoor
open Go.RowKit
set_option linter.unusedVariables false
set_option linter.unusedSimpArgs false
/-- A set of changes in a manifest: its length, its checksum, its bytes. -/
def setB (l : List Chg) : List Int := be32 (chgsB l).length ++ (be32 (crcOut (chgsB l)) ++ chgsB l)
def headM (m : Int) : List Int := [66, 100, 103, 114, m / 256, m % 256, 0, 8]
def manB (m : Int) (ls : List (List Chg)) : List Int := headM m ++ ls.flatMap setB
theorem be32_len4 (v : Int) : (be32 v).length = 4 := rfl
theorem setB_len (l : List Chg) : (setB l).length = 8 + (chgsB l).length := by
  unfold setB
  rw [List.length_append, List.length_append, be32_len4, be32_len4]
  omega
theorem setB_le (l : List Chg) : (setB l).length ≤ 8 + 77 * l.length := by rw [setB_len]; have := chgsB_len l; omega
theorem setsB_le : ∀ (ls : List (List Chg)), (ls.flatMap setB).length ≤ 8 * ls.length + 77 * ls.flatten.length := by
  intro ls
  induction ls with
  | nil => simp
  | cons a r ih =>
    have := setB_le a
    rw [List.flatMap_cons, List.length_append, List.length_cons, List.flatten_cons, List.length_append]
    omega
set_option maxRecDepth 100000 in
theorem head_any (m : Int) (w : World) (h0 : 0 ≤ m) (h1 : m ≤ 65535) : Calls Tryd.prog 18 #[.int .u16 m] w (Made w 5 (nums .u8 (headM m))) := by
  have e1 : IntKind.u8.wrap (m / 256) = m / 256 := by unfold IntKind.wrap; simp [IntKind.signed, IntKind.bits]; omega
  have e2 : IntKind.u8.wrap m = m % 256 := by unfold IntKind.wrap; simp [IntKind.signed, IntKind.bits]
  have HO : Hid ((w.alloc (.cells #[.int .u8 66, .int .u8 100, .int .u8 103, .int .u8 114, .int .u8 (m / 256), .int .u8 (m % 256), .int .u8 0, .int .u8 8] 5)).ownsRow w.heap.size 5 1 (.slice (some ⟨w.heap.size, 0, none⟩) 8 8) 8 (nums .u8 (headM m))) := World.ownsRow_lit w #[.int .u8 66, .int .u8 100, .int .u8 103, .int .u8 114, .int .u8 (m / 256), .int .u8 (m % 256), .int .u8 0, .int .u8 8] 8 (Nat.le_refl _) (by simp [maxLen]) rfl
  have HB : Hid (Below w.heap.size w (w.alloc (.cells #[.int .u8 66, .int .u8 100, .int .u8 103, .int .u8 114, .int .u8 (m / 256), .int .u8 (m % 256), .int .u8 0, .int .u8 8] 5))) := (Below.refl _ _).alloc (Nat.le_refl _) _
  go_enter Tryd.func18, Tryd.ntmps18
  go_wp2_with (at_builtin; go_loud (refine wpList_append_sl _ rfl (.tmp 8) (.const (.slice none 0 0)) 30 rfl w.heap.size 5 (.int .u8 0) 1 Tryd.underlying30 infoU8 rfl (.slice (some ⟨w.heap.size, 0, none⟩) 8 8) 8 (nums .u8 (headM m)) rfl HO.out none 0 0 [] rfl (Sl.nil _ _) (by simp) (by omega) (by omega) HB.out.size ?_; intro v9 w9 ho9 hg9 hat9; have HO9 := Lib.hid ho9; have HG9 := Lib.hid hg9; clear ho9 hg9 hat9))
  go_ret
  refine ⟨_, rfl, ?_, HB.out.grown HG9.out HB.out.size (fun k e => (HO.out.lt k e).1)⟩
  have h := HO9.out
  rw [List.append_nil, Nat.add_zero] at h
  exact h
theorem sl_row {w w' : World} {A : Option Addr} {n : Nat} {xs : List Value} {r : Option Nat} (h : Sl w A n xs) (hg : w.grownBy w' r) (hr : ∀ g o, A = some ⟨g, o, none⟩ → some g ≠ r) : Sl w' A n xs :=
  h.frm (frmRow hg) (fun b o e hi => hr b o e (by cases r with | none => cases hi | some q => rw [Option.toList_some, List.mem_singleton] at hi; rw [hi]))
theorem own_keep {w w' : World} {base e s n : Nat} {v : Value} {xs : List Value} (h : w.ownsRow base e s v n xs) (hb : Below w.heap.size w w') : w'.ownsRow base e s v n xs := own_frm2 h (Frm.of_below hb) (fun x e hx => by cases hx)
set_option maxRecDepth 100000 in
set_option maxHeartbeats 4000000 in
theorem appendSet_any (base n c m d b : Nat) (A B : Option Addr) (xs : List Int) (gs : List Nat) (l : List Chg) (w : World) (ho : w.ownsRow base 5 1 (.slice A n c) n (nums .u8 xs)) (hbase : base ≤ w.heap.size) (hp : Sl w B m (ptrV gs)) (hpt : Ptrs w b gs l) (hok : ∀ x ∈ l, Chg.ok x) (hm : m ≤ 1000) (hn : n ≤ 1000000) :
    Calls Tryd.prog 19 #[.slice A n c, .slice B m d] w (fun E w' => ∃ v, E = .returned v ∧ w'.ownsRow base 5 1 v (xs ++ setB l).length (nums .u8 (xs ++ setB l)) ∧ Below base w w') := by
  have hxl : xs.length = n := by have := ho.1; rwa [nums_length, Nat.mul_one] at this
  have hml : l.length = m := by have h1 := hpt.1; have h2 := hp.1; rw [ptrV, List.length_map] at h2; omega
  have HO := Lib.hid (ho.alloc (.cells #[.slice B m d] 63))
  have HP : Hid (Sl (w.alloc (.cells #[.slice B m d] 63)) B m (ptrV gs)) := hp.alloc _
  have HT : Hid (Ptrs (w.alloc (.cells #[.slice B m d] 63)) b gs l) := hpt.alloc _
  have HK := Lib.hid hok
  have HB : Hid (Below base w (w.alloc (.cells #[.slice B m d] 63))) := (Below.refl _ _).alloc hbase _
  have HC : Hid ((w.alloc (.cells #[.slice B m d] 63)).cell? ⟨w.heap.size, 0, none⟩ = some (.slice B m d)) := by
    have := (Blk.new w 63 [.slice B m d]).cell 0
    exact this
  have HSZ : Hid (w.heap.size ≤ (w.alloc (.cells #[.slice B m d] 63)).heap.size) := by show _ ≤ _; rw [World.size_alloc]; omega
  have HL : Hid (∀ x, (Value.slice A n c).ownBlock = some x → x < w.heap.size) := fun x e => (ho.lt x e).2
  have HCL : Hid ((chgsB l).length ≤ 77000) := by have := chgsB_len l; show _ ≤ _; omega
  have HCI := Lib.hid (crcOut_in (chgsB l) (chgsB_byt l hok))
  have HBY := Lib.hid (chgsB_byt l hok)
  clear ho hp hpt hok
  go_enter Tryd.func19, Tryd.ntmps19
  go_wp2_with fail
  generalize w.alloc (.cells #[.slice B m d] 63) = w0 at *
  refine (marshal_any b w.heap.size (.pointer none) B m d gs l w0 HP.out HC.out HT.out HK.out hm).mono ?_
  intro E w1 h1
  obtain ⟨A2, c2, rfl, hc2, hs2, hb2, ho2⟩ := h1.sv
  have HS2 := hs2
  have HO1 := Lib.hid (own_keep HO.out hb2.out)
  have HB1 : Hid (Below base w w1) := HB.out.trans (hb2.out.mono (Nat.le_trans hbase HSZ.out))
  have HA2 : Hid (∀ g o, A2 = some ⟨g, o, none⟩ → w0.heap.size ≤ g ∧ g < w1.heap.size) := fun g o e => ho2.lt g (by rw [e]; rfl)
  have HZ1 : Hid (w.heap.size ≤ w1.heap.size) := Nat.le_trans HSZ.out hb2.out.size
  clear h1 hb2 hs2 ho2 HP HT HC HO HB
  have hlen : ((chgsB l).length : Int) % 4294967296 = (chgsB l).length := by have := HCL.out; omega
  go_wp2_with fail
  refine (u32Bytes1_any _ w1 (by omega) (by have := HCL.out; omega)).mono ?_
  rintro E w2 ⟨A3, c3, rfl, hc3, hs3, hb3⟩
  have HO2 := Lib.hid (own_keep HO1.out hb3.out)
  have HB2 : Hid (Below base w w2) := HB1.out.trans (hb3.out.mono (Nat.le_trans hbase HZ1.out))
  have HS2' := Lib.hid (HS2.out.below hb3.out)
  have HS3 := hs3
  have HZ2 := Lib.hid hb3.out.size
  clear hs3 hb3 HO1 HB1 HS2
  go_wp2_with (at_builtin; go_loud (refine wpList_append_sl _ rfl (.tmp 10) (.tmp 14) 30 rfl base 5 (.int .u8 0) 1 Tryd.underlying30 infoU8 rfl (.slice A n c) n (nums .u8 xs) rfl HO2.out A3 _ c3 _ rfl HS3.out (nums_one _ _) (by rw [be32_len4]; omega) (by omega) (Nat.le_trans hbase HB2.out.size) ?_; intro v9 w9 ho9 hg9 hat9; have HO9 := Lib.hid ho9; have HG9 := Lib.hid hg9; have HAT9 := Lib.hid hat9; clear ho9 hg9 hat9))
  have HNE : Hid (∀ g o, A2 = some ⟨g, o, none⟩ → some g ≠ (Value.slice A n c).ownBlock) := fun g o e h => by have h1 := HL.out g h.symm; have h2 := (HA2.out g o e).1; have := HSZ.out; omega
  have HS9 := Lib.hid (sl_row HS2'.out HG9.out HNE.out)
  have HNE9 : Hid (∀ g o, A2 = some ⟨g, o, none⟩ → some g ≠ v9.ownBlock) := fun g o e h => by
    rcases HAT9.out with h1 | h1
    · rw [h1] at h; exact HNE.out g o e h
    · rw [h1] at h
      injection h with h
      have h2 := (HA2.out g o e).2
      have h3 := HZ2.out
      omega
  have HB9 : Hid (Below base w w9) := HB2.out.grown HG9.out (Nat.le_trans hbase HB2.out.size) (fun k e => (HO2.out.lt k e).1)
  rw [be32_len4] at HO9
  have HZ9 : Hid (w1.heap.size ≤ w9.heap.size) := Nat.le_trans HZ2.out HG9.out.size
  clear HS2' HG9 HO2 HB2 HS3 HAT9 HNE HZ2
  go_wp2_with fail
  refine (pubCastagnoli_any A2 _ c2 (chgsB l) w9 HS9.out HBY.out (by have := HCL.out; omega)).mono ?_
  rintro E wx ⟨rfl, hwx⟩
  subst hwx
  go_wp2_with fail
  refine (u32Bytes1_any _ w9 HCI.out.1 HCI.out.2).mono ?_
  rintro E w3 ⟨A5, c5, rfl, hc5, hs5, hb5⟩
  have HO3 := Lib.hid (own_keep HO9.out hb5.out)
  have HB3 : Hid (Below base w w3) := HB9.out.trans (hb5.out.mono (Nat.le_trans hbase HB9.out.size))
  have HSA := Lib.hid (HS9.out.below hb5.out)
  have HS5 := hs5
  have HA3 : Hid (∀ g o, A2 = some ⟨g, o, none⟩ → g < w3.heap.size) := fun g o e => Nat.lt_of_lt_of_le (HA2.out g o e).2 (Nat.le_trans HZ9.out hb5.out.size)
  clear hs5 hb5 HO9 HB9 HS9
  go_upto_region 5 with (at_builtin; go_loud (refine wpList_append_sl _ rfl (.tmp 16) (.tmp 19) 30 rfl base 5 (.int .u8 0) 1 Tryd.underlying30 infoU8 rfl v9 (n + 4) _ rfl HO3.out A5 _ c5 _ rfl HS5.out (nums_one _ _) (by rw [be32_len4]; omega) (by omega) (Nat.le_trans hbase HB3.out.size) ?_; intro v6 w6 ho6 hg6 hat6; have HO6 := Lib.hid ho6; have HG6 := Lib.hid hg6; have HAT6 := Lib.hid hat6; clear ho6 hg6 hat6))
  have HS6 := Lib.hid (sl_row HSA.out HG6.out HNE9.out)
  have HNE6 : Hid (∀ g o, A2 = some ⟨g, o, none⟩ → some g ≠ v6.ownBlock) := fun g o e h => by
    rcases HAT6.out with h1 | h1
    · rw [h1] at h; exact HNE9.out g o e h
    · rw [h1] at h
      injection h with h
      have h2 := HA3.out g o e
      omega
  have HB6 : Hid (Below base w w6) := HB3.out.grown HG6.out (Nat.le_trans hbase HB3.out.size) (fun k e => (HO3.out.lt k e).1)
  rw [be32_len4] at HO6
  clear HSA HG6 HO3 HB3 HS5 HAT6 HNE9 HA3
  go_wp2_with (at_builtin; go_loud (refine wpList_append_sl _ rfl (.tmp 21) (.tmp 22) 30 rfl base 5 (.int .u8 0) 1 Tryd.underlying30 infoU8 rfl v6 (n + 4 + 4) _ rfl HO6.out A2 _ c2 _ rfl HS6.out (nums_one _ _) (by have := HCL.out; omega) (by omega) (Nat.le_trans hbase HB6.out.size) ?_; intro v7 w7 ho7 hg7 hat7; have HO7 := Lib.hid ho7; have HG7 := Lib.hid hg7; clear ho7 hg7 hat7))
  go_ret
  refine ⟨_, rfl, ?_, HB6.out.grown HG7.out (Nat.le_trans hbase HB6.out.size) (fun k e => (HO6.out.lt k e).1)⟩
  have h := HO7.out
  have e1 : nums .u8 (xs ++ setB l) = ((nums .u8 xs ++ nums .u8 (be32 (chgsB l).length)) ++ nums .u8 (be32 (crcOut (chgsB l)))) ++ nums .u8 (chgsB l) := by
    unfold setB nums
    simp only [List.map_append, List.append_assoc]
  have e2 : (xs ++ setB l).length = n + 4 + 4 + (chgsB l).length := by rw [List.length_append, setB_len, hxl]; omega
  rw [e1, e2]
  exact h
end Go.Proofs.YtpfmmbhbmdbmeaaDoor
