/- Texts that this claim shares with others, put together: E4 X2 B1 B2 B5 B6 B7 B8. -/
import Derived.Test.YtpfmmbhbmdbmeaaGreatDoorGE
import Derived.Test.YtpfmmbhbmdbmeaaGreatDoorGB
import Derived.Test.YtpfmmbhbmdbmeaaGreatDoorGX
import Derived.Test.YtpfmmbhbmdbmeaaGreatDoorSh
import Derived.Lib.BufferOld
import Derived.Test.YtpfmmbhbmdbmeaaGreatDoorKC
import Derived.StillTailTactics
import Derived.Deep.RegionHeld3
section
/- Values in bytes: the thin package's contracts. -/
namespace Go.Proofs.YtpfmmbhbmdbmeaaGreatDoor
open Go.RowKit
open Go.Proofs.YtpfmmbhbmdbmeaaGreatDoorQ.Ext (sl_of_C C_of_sl own_of_R R_of_own)
open Go.Proofs.YtpfmmbhbmdbmeaaGreatDoorW.PrintWords (Kd)
set_option linter.unusedVariables false
set_option linter.unusedSimpArgs false
end Go.Proofs.YtpfmmbhbmdbmeaaGreatDoor
end
section
/- Numbers of 16, 32 and 64 bits in bytes. -/
namespace Go.Proofs.YtpfmmbhbmdbmeaaGreatDoor
open Go.RowKit
set_option linter.unusedVariables false
set_option linter.unusedSimpArgs false
theorem arr4 : Tryz.prog.arrayLen 107 = 4 := by kernel_rfl
theorem gave_blk {w w1 : World} {t : Nat} {l : List Int} {cs : List Value} (hl : l.length = cs.length) (hb : Below w.heap.size w w1) (h : Blk w1 w.heap.size t (splice cs 0 (nums .u8 l))) : Gave w l (.returned (.slice (some ⟨w.heap.size, 0, none⟩) l.length l.length)) w1 := by
  rw [splice_zero _ _ (by rw [nums_length]; exact hl)] at h
  have := h.sl (off := 0) (n := l.length) (by rw [nums_length]; omega)
  rw [List.drop_zero, List.take_of_length_le (by rw [nums_length]; omega)] at this
  exact ⟨_, _, rfl, Nat.le_refl _, this, hb⟩
set_option maxRecDepth 100000 in
theorem u32Bytes1_any (v : Int) (w : World) (h0 : 0 ≤ v) (h1 : v ≤ 4294967295) : Calls Tryz.prog 44 #[.int .u32 v] w (Gave w (be32 v)) := by
  have hB : Blk (w.alloc (.cells (List.replicate 4 (Value.int .u8 0)).toArray 107)) w.heap.size 107 (List.replicate 4 (Value.int .u8 0)) := Blk.new _ _ _
  have HB := Lib.hid hB
  have ha := arr4
  clear hB
  go_enter Tryz.func44, Tryz.ntmps44
  go_wp2_with fail
  refine (put32_any w.heap.size 0 4 4 107 v _ _ HB.out (by omega) (by omega) (by simp) h0 h1).mono ?_
  rintro E w1 ⟨rfl, hw1⟩
  have HW := Lib.hid hw1
  clear hw1 HB
  go_wp2
  go_ret
  exact gave_blk (by simp [be32, be16]) (below_wrote (bl_alloc (Below.refl _ _) _) (Nat.le_refl _) (by simp) HW.out) HW.out.1
end Go.Proofs.YtpfmmbhbmdbmeaaGreatDoor
namespace Go.Proofs.YtpfmmbhbmdbmeaaGreatDoorQ.Ext
open Go.RowKit Go.Proofs.YtpfmmbhbmdbmeaaGreatDoorW.PrintWords
set_option linter.unusedVariables false
end Go.Proofs.YtpfmmbhbmdbmeaaGreatDoorQ.Ext
end
section
/- A bytes.Buffer that is only written: the library's contracts in this seat's words. -/
namespace Go.Proofs.YtpfmmbhbmdbmeaaGreatDoor
open Go.RowKit
set_option linter.unusedVariables false
set_option linter.unusedSimpArgs false
/-- Block b (from B on) is a Buffer that holds these bytes. -/
def Buf (B b : Nat) (l : List Int) (w : World) : Prop := Lib.IsBuffer 80 5 B b (nums .u8 l) w
theorem Buf.old {B b : Nat} {l : List Int} {w w' : World} (h : Buf B b l w) (hb : Below w.heap.size w w') : Buf B b l w' := Lib.IsBuffer.old h hb
theorem Buf.alloc {B b : Nat} {l : List Int} {w : World} (h : Buf B b l w) (o : Obj) : Buf B b l (w.alloc o) := Lib.IsBuffer.alloc h o
theorem Buf.lt {B b : Nat} {l : List Int} {w : World} (h : Buf B b l w) : b < w.heap.size := Lib.IsBuffer.lt h
theorem Buf.le {B b : Nat} {l : List Int} {w : World} (h : Buf B b l w) : B ≤ b := h.1
theorem buf_zero (w : World) : Buf w.heap.size w.heap.size [] (w.alloc (.cells #[.slice none 0 0, .int .i64 0, .int .i8 0] 80)) := Lib.fresh_isBuffer _ _ w
theorem bufWrite_any (B b : Nat) (l m : List Int) (g o n c : Nat) (w : World) (h : Buf B b l w) (hB : B ≤ w.heap.size) (hs : Sl w (some ⟨g, o, none⟩) n (nums .u8 m)) (hne : g ≠ b) (hn : l.length ≤ 1000000000) (hn2 : n ≤ 1000000000) :
    Calls Tryz.prog 46 #[.pointer (some ⟨b, 0, none⟩), .slice (some ⟨g, o, none⟩) n c] w fun e w' => e = .returned (.tuple #[.int .i64 n, .nilIface]) ∧ Buf B b (l ++ m) w' ∧ Below B w w' ∧ Lib.OthersKept 5 (some b) w w' := by
  have := Tryz.Buffer_Write_any B b (nums .u8 l) (nums .u8 m) ⟨g, o, none⟩ n c w h hB (nums_one _ _) hs.1 hne hs.adds (nums_one _ _) (by rw [nums_length]; omega)
  refine Calls.mono this fun e w' ⟨he, hb, hbl, hk⟩ => ⟨he, ?_, hbl, hk⟩
  show Lib.IsBuffer _ _ _ _ (nums .u8 (l ++ m)) _
  rw [nums_append]
  exact hb
theorem bufWrite_nil (B b c : Nat) (A : Option Addr) (l : List Int) (w : World) (h : Buf B b l w) (hB : B ≤ w.heap.size) :
    Calls Tryz.prog 46 #[.pointer (some ⟨b, 0, none⟩), .slice A 0 c] w fun e w' => e = .returned (.tuple #[.int .i64 0, .nilIface]) ∧ Buf B b l w' ∧ Below B w w' ∧ Lib.OthersKept 5 (some b) w w' := by
  have h : Lib.IsBuffer 80 5 B b (nums .u8 l) w := h
  obtain ⟨hB1, v0, lr, hbk, -, -⟩ := id h
  have c2 : w.cell? ⟨b, 2, none⟩ = some (.int .i8 lr) := by rw [Lib.cell_of_heap hbk]; rfl
  have f2 : w.frozen? ⟨b, 2, none⟩ = false := Lib.frozen_of_heap hbk 2
  have h' := h.setLast 0
  have hbel0 : Below B w (w.setCell ⟨b, 2, none⟩ (.int .i8 0)) := (Below.refl B w).setCell (p := ⟨b, 2, none⟩) hB1 _
  have hk0 : Lib.OthersKept 5 (some b) w (w.setCell ⟨b, 2, none⟩ (.int .i8 0)) := (Lib.OthersKept.refl _ _ w).setCell ⟨b, 2, none⟩ rfl _
  clear hbk v0
  have hce : ∀ d dLen dCap W, (Builtin.copy_ #[27, 27] 3 #[.slice d dLen dCap, .slice A 0 c]).run Tryz.prog W = .ok (goInt 0) W := fun d dLen dCap W => run_copy_none W 27 27 3 5 d A dLen dCap 0 c Tryz.underlying27 (by kernel_rfl) (by simp)
  have hT : ∀ W, Lib.IsBuffer 80 5 B b (nums .u8 l) W → Calls Tryz.prog 57 #[.pointer (some ⟨b, 0, none⟩), .int .i64 0] W _ := fun W hW => Tryz.Buffer_tryGrow_own B b 0 (nums .u8 l) W hW
  go_enter Tryz.func46, Tryz.ntmps46
  go_wp2_with (go_at_call 57; refine (hT _ ?_).mono ?_)
  · exact h'
  rintro e W1 (⟨rfl, xs, hxl, hI, hbel, hk, hg⟩ | ⟨rfl, rfl, hnr⟩)
  · clear h' c2 f2 hT
    have hx0 : xs = [] := List.eq_nil_of_length_eq_zero hxl
    subst hx0
    rw [List.append_nil] at hI
    obtain ⟨-, lr2, hc⟩ := hI.cases
    rcases hc with ⟨hb0, hbk2⟩ | ⟨g, cap, cur, hbk2, -, -, hnc, hcm, -, -, -⟩
    · have d0 : W1.cell? ⟨b, 0, none⟩ = some (.slice none 0 0) := by rw [Lib.cell_of_heap hbk2]; rfl
      rw [hb0] at *
      go_wp2
      all_goals (go_ret2; first | exact ⟨rfl, hI, hbel0.trans hbel, hk0.trans hk⟩ | exact ⟨by simp, by simpa using hI, hbel0.trans hbel, hk0.trans hk⟩)
    · have d0 : W1.cell? ⟨b, 0, none⟩ = some (.slice (some ⟨g, 0, none⟩) (nums .u8 l).length cap) := by rw [Lib.cell_of_heap hbk2]; rfl
      unfold maxLen at hcm
      go_wp2
      all_goals (go_ret2; first | exact ⟨rfl, hI, hbel0.trans hbel, hk0.trans hk⟩ | exact ⟨by simp, by simpa using hI, hbel0.trans hbel, hk0.trans hk⟩)
  · obtain ⟨_, _, _, _, hlt⟩ := hnr
    omega
/-- Write, of whatever bytes. -/
theorem bufWrite_all (B b : Nat) (l m : List Int) (A : Option Addr) (n c : Nat) (w : World) (h : Buf B b l w) (hB : B ≤ w.heap.size) (hs : Sl w A n (nums .u8 m)) (hne : 0 < n → ∀ g o, A = some ⟨g, o, none⟩ → g ≠ b) (hn : l.length ≤ 1000000000) (hn2 : n ≤ 1000000000) :
    Calls Tryz.prog 46 #[.pointer (some ⟨b, 0, none⟩), .slice A n c] w fun e w' => e = .returned (.tuple #[.int .i64 n, .nilIface]) ∧ Buf B b (l ++ m) w' ∧ Below B w w' ∧ Lib.OthersKept 5 (some b) w w' := by
  by_cases h0 : n = 0
  · subst h0
    have hm : m = [] := by have := hs.1; rw [nums_length] at this; exact List.eq_nil_of_length_eq_zero this
    subst hm
    rw [List.append_nil]
    exact bufWrite_nil B b c A l w h hB
  · obtain ⟨g, o, rfl⟩ := hs.addr (by omega)
    exact bufWrite_any B b l m g o n c w h hB hs (hne (by omega) g o rfl) hn hn2
theorem bufBytes_any (B b : Nat) (l : List Int) (w : World) (h : Buf B b l w) :
    Calls Tryz.prog 37 #[.pointer (some ⟨b, 0, none⟩)] w fun e w' => ∃ v, e = .returned v ∧ w'.ownsRow B 5 1 v l.length (nums .u8 l) ∧ ∃ n, w' = w.drewN n := by
  have := Tryz.Buffer_Bytes B b (nums .u8 l) w h
  refine Calls.mono this fun e w' ⟨v, he, ho, hw⟩ => ⟨v, he, ?_, hw⟩
  rwa [nums_length] at ho
end Go.Proofs.YtpfmmbhbmdbmeaaGreatDoor
end
section
/- A value put behind other bytes: the package's and the thin package's contracts. -/
namespace Go.Proofs.YtpfmmbhbmdbmeaaGreatDoor
open Go.RowKit
set_option linter.unusedVariables false
set_option linter.unusedSimpArgs false
end Go.Proofs.YtpfmmbhbmdbmeaaGreatDoor
end
section
/- The checksum that is made as bytes come. -/
namespace Go.Proofs.YtpfmmbhbmdbmeaaGreatDoor
open Go.RowKit
set_option linter.unusedVariables false
set_option linter.unusedSimpArgs false
theorem newCRC_any (w : World) :
    Calls Tryz.prog 41 #[] w fun E w' => E = .returned (.pointer (some ⟨w.heap.size, 0, none⟩)) ∧ w' = w.alloc (.cells #[.int .u32 4294967295] 127) := by
  go_enter Tryz.func41, Tryz.ntmps41
  go_wp2
  go_ret
  exact ⟨rfl, rfl⟩
theorem sum32_any (g : Nat) (s : Int) (w : World) (hc : w.cell? ⟨g, 0, none⟩ = some (.int .u32 s)) :
    Calls Tryz.prog 45 #[.pointer (some ⟨g, 0, none⟩)] w fun E w' => E = .returned (.int .u32 (bits .xor .u32 IntKind.u32.max s)) ∧ w' = w := by
  go_enter Tryz.func45, Tryz.ntmps45
  go_wp2
  go_ret
  exact ⟨rfl, rfl⟩
theorem crc_step (l : List Int) (i : Nat) (x s0 : Int) (h : l[i]? = some x) : (l.take (i + 1)).foldl crcByte s0 = crcByte ((l.take i).foldl crcByte s0) x := by
  obtain ⟨g1, rfl⟩ := List.getElem?_eq_some_iff.1 h
  rw [List.take_succ_eq_append_getElem g1, List.foldl_append]
  rfl
set_option maxRecDepth 100000 in
theorem crcWrite_any (g n c : Nat) (A : Option Addr) (l : List Int) (s0 : Int) (w : World) (hk : Blk w g 127 [.int .u32 s0]) (h : Sl w A n (nums .u8 l)) (hB : Byt l) (hA : 0 < n → ∀ b o, A = some ⟨b, o, none⟩ → b ≠ g) (hs : In32 s0) (hn : n ≤ 1000000) :
    Calls Tryz.prog 55 #[.pointer (some ⟨g, 0, none⟩), .slice A n c] w fun E w' => E = .returned (.tuple #[.int .i64 n, .nilIface]) ∧ Wrote w g 127 [.int .u32 (l.foldl crcByte s0)] w' := by
  have H := Lib.hid h
  have HB := Lib.hid hB
  have HA := Lib.hid hA
  have hlen : l.length = n := by have := h.1; rwa [nums_length] at this
  have HL := Lib.hid hlen
  have HK : Hid (Wrote w g 127 [.int .u32 s0] w) := ⟨hk, World.grownBy.refl w _⟩
  obtain ⟨hs0, hs1⟩ := hs
  clear h hlen hB hA hk
  go_enter Tryz.func55, Tryz.ntmps55
  go_wp2
  go_loopg [7, 8, 11] n (fun q v7 v8 v11 wr => ∃ (i : Nat) (s : Int), v11 = .int .i64 i ∧ i ≤ n ∧ Hid (i + q = n) ∧ Hid (s = (l.take i).foldl crcByte s0) ∧ 0 ≤ s ∧ s ≤ 4294967295 ∧ Hid (Wrote w g 127 [.int .u32 s] wr))
  case atStart => exact ⟨0, s0, rfl, by omega, by simp [Hid], rfl, hs0, hs1, HK.out⟩
  case round =>
    obtain ⟨i, s, rfl, hi, hq, hs, hs0, hs1, hw⟩ := hrel
    by_cases h1 : i < n
    · obtain ⟨gA, o, x, hAe, hl, hc⟩ := H.out.num h1
      have hne := HA.out (by omega) gA o hAe
      subst hAe
      have hcx := cell_wrote hw.out hne hc
      have hx : In8 x := HB.out _ (List.mem_of_getElem? hl.out)
      obtain ⟨hx0, hx1⟩ := hx
      have hxi : In32 (bits .xor .u32 s x) := xor_in _ _ ⟨hs0, hs1⟩ ⟨hx0, by omega⟩
      have hq0 : wr.cell? ⟨g, 0, none⟩ = some (.int .u32 s) := by rw [hw.out.1.cell]; rfl
      have hf0 := hw.out.1.frozen 0
      obtain ⟨gkO, rfl⟩ : ∃ q, gk = q + 1 := ⟨gk - 1, by have := hq.out; omega⟩
      have hgk := hq
      have hw1 : Wrote w g 127 [.int .u32 (bits .xor .u32 s x)] (wr.setCell ⟨g, 0, none⟩ (.int .u32 (bits .xor .u32 s x))) := hw.out.trans (Wrote.sets hw.out.1 0 _)
      have HW1 := Lib.hid hw1
      clear hw1
      go_wp2
      go_loopg [8] 8 (fun q2 v8 w2 => ∃ (k : Nat) (y : Int), v8 = .int .i64 k ∧ k ≤ 8 ∧ Hid (k + q2 = 8) ∧ Hid (y = crcI (bits .xor .u32 s x) k) ∧ 0 ≤ y ∧ y ≤ 4294967295 ∧ Hid (Wrote w g 127 [.int .u32 y] w2))
      case atStart => exact ⟨0, _, rfl, by omega, by simp [Hid], rfl, hxi.1, hxi.2, HW1.out⟩
      case round =>
        obtain ⟨k, y, rfl, hk, hq2, hy, hy0, hy1, hw2⟩ := hrel
        by_cases hk8 : k < 8
        · have hyb := crcBit_in y ⟨hy0, hy1⟩
          have hq0 : wr.cell? ⟨g, 0, none⟩ = some (.int .u32 y) := by rw [hw2.out.1.cell]; rfl
          have hf0 := hw2.out.1.frozen 0
          rcases bit_two y ⟨hy0, hy1⟩ with ha | ha
          · have hcb : crcBit y = y / 2 := by unfold crcBit; rw [ha]; rfl
            rw [hcb] at hyb
            have HCB := Lib.hid hcb
            clear hcb
            have HN : Hid (Wrote w g 127 [.int .u32 (y / 2)] (wr.setCell ⟨g, 0, none⟩ (.int .u32 (y / 2)))) := hw2.out.trans (Wrote.sets hw2.out.1 0 _)
            go_wp2
            cases gk with
            | zero => exact absurd hq2.out (by omega)
            | succ k2 =>
              go_roundg k2
              case measure => omega
              case rel => exact ⟨k + 1, y / 2, by go_num, by omega, by have := hq2.out; show _ = _; omega, by show _ = _; rw [crcI, ← hy.out, HCB.out], hyb.1, hyb.2, HN.out⟩
          · have hcb : crcBit y = bits .xor .u32 (y / 2) 2197175160 := by unfold crcBit; rw [ha]; rfl
            rw [hcb] at hyb
            have HCB := Lib.hid hcb
            clear hcb
            have HN : Hid (Wrote w g 127 [.int .u32 (bits .xor .u32 (y / 2) 2197175160)] (wr.setCell ⟨g, 0, none⟩ (.int .u32 (bits .xor .u32 (y / 2) 2197175160)))) := hw2.out.trans (Wrote.sets hw2.out.1 0 _)
            go_wp2
            cases gk with
            | zero => exact absurd hq2.out (by omega)
            | succ k2 =>
              go_roundg k2
              case measure => omega
              case rel => exact ⟨k + 1, bits .xor .u32 (y / 2) 2197175160, by go_num, by omega, by have := hq2.out; show _ = _; omega, by show _ = _; rw [crcI, ← hy.out, HCB.out], hyb.1, hyb.2, HN.out⟩
        · obtain rfl : k = 8 := by omega
          have hys : Hid (y = (l.take (i + 1)).foldl crcByte s0) := by
            show _ = _
            rw [crc_step l i x s0 hl.out, ← hs.out, crcByte]
            exact hy.out
          go_wp2
          go_roundg gkO
          case measure => omega
          case rel => exact ⟨i + 1, y, by go_num, by omega, by have := hgk.out; show _ = _; omega, hys, hy0, hy1, hw2.out⟩
    · obtain rfl : i = n := by omega
      have hcl : l.take i = l := List.take_of_length_le (by have := HL.out; omega)
      go_wp2
      go_ret2
      exact ⟨rfl, by rw [← hcl, ← hs.out]; exact hw.out⟩
end Go.Proofs.YtpfmmbhbmdbmeaaGreatDoor
end
section
/- A record in bytes: the package's contracts. -/
namespace Go.Proofs.YtpfmmbhbmdbmeaaGreatDoor
open Go.Proofs.YtpfmmbhbmdbmeaaGreatDoorW.PrintLast
open Go.RowKit
set_option linter.unusedVariables false
set_option linter.unusedSimpArgs false
theorem kept_blk {b g t : Nat} {cs : List Value} {w w' : World} (h : Blk w g t cs) (k : Lib.OthersKept 5 (some b) w w') (hg : g ≠ b) (ht : t ≠ 5) : Blk w' g t cs :=
  k g _ h (by simpa using hg) (fun c fz e => by injection e with _ e _; exact ht e)
theorem sl_wrote2 {w w' : World} {g t n : Nat} {cs : List Value} {A : Option Addr} {xs : List Value} (h : Wrote w g t cs w') (hne : 0 < n → ∀ b o, A = some ⟨b, o, none⟩ → b ≠ g) (hs : Sl w A n xs) : Sl w' A n xs :=
  ⟨hs.1, fun hn => by
    obtain ⟨b, o, e, hc⟩ := hs.2 hn
    exact ⟨b, o, e, fun j u hu => cell_wrote h (hne hn b o e) (hc j u hu)⟩⟩
/-- What a write to both leaves: all but the buffer, the checksum and rows of bytes. -/
def Fr (b g : Nat) (w w' : World) : Prop := ∀ k o, w.heap[k]? = some o → k ≠ b → k ≠ g → (∀ c fz, o ≠ .cells c 5 fz) → w'.heap[k]? = some o
theorem Fr.blk {b g x t : Nat} {cs : List Value} {w w' : World} (h : Fr b g w w') (k : Blk w x t cs) (h1 : x ≠ b) (h2 : x ≠ g) (ht : t ≠ 5) : Blk w' x t cs :=
  h x _ k h1 h2 (fun c fz e => by injection e with _ e _; exact ht e)
theorem Fr.trans {b g : Nat} {w w1 w2 : World} (h : Fr b g w w1) (k : Fr b g w1 w2) : Fr b g w w2 := fun x o h1 h2 h3 h4 => k x o (h x o h1 h2 h3 h4) h2 h3 h4
/-- Both writers: the buffer and the checksum. -/
def Both (B b g : Nat) (l : List Int) (w : World) : Prop := Buf B b l w ∧ Blk w g 127 [.int .u32 (crcL l)] ∧ B ≤ g
set_option maxRecDepth 100000 in
theorem bothWrite_any (B b g n c : Nat) (A : Option Addr) (l m : List Int) (w : World) (h : Both B b g l w) (hgb : g ≠ b) (hB : B ≤ w.heap.size) (hs : Sl w A n (nums .u8 m)) (hA : 0 < n → ∀ x o, A = some ⟨x, o, none⟩ → x ≠ b ∧ x ≠ g)
    (hm : Byt m) (hl : Byt l) (hn : l.length ≤ 1000000) (hn2 : n ≤ 1000000) :
    Calls Tryz.prog 43 #[.agg #[.pointer (some ⟨b, 0, none⟩), .pointer (some ⟨g, 0, none⟩)], .slice A n c] w fun E w' => E = .returned (.tuple #[.int .i64 n, .nilIface]) ∧ Both B b g (l ++ m) w' ∧ Below B w w' ∧ Fr b g w w' := by
  obtain ⟨h1, h2, h3⟩ := h
  have H1 := Lib.hid h1
  have H2 := Lib.hid h2
  have HS := Lib.hid hs
  have HA := Lib.hid hA
  clear h1 h2 hs hA
  go_enter Tryz.func43, Tryz.ntmps43
  go_wp2_with fail
  have hbox : Blk (w.alloc (.cells #[.pointer (some ⟨b, 0, none⟩), .pointer (some ⟨g, 0, none⟩)] 103)) w.heap.size 103 [.pointer (some ⟨b, 0, none⟩), .pointer (some ⟨g, 0, none⟩)] := Blk.new _ _ _
  have HX := Lib.hid hbox
  have HB1 : Hid (Below w.heap.size w (w.alloc (.cells #[.pointer (some ⟨b, 0, none⟩), .pointer (some ⟨g, 0, none⟩)] 103))) := (Below.refl _ _).alloc (Nat.le_refl _) _
  clear hbox
  generalize w.alloc (.cells #[.pointer (some ⟨b, 0, none⟩), .pointer (some ⟨g, 0, none⟩)] 103) = w1 at *
  have hk1 : Blk w1 g 127 [.int .u32 (crcL l)] := H2.out.below HB1.out H2.out.lt
  refine (crcWrite_any g n c A m (crcL l) w1 hk1 (HS.out.below HB1.out) hm (fun h0 x o e => (HA.out h0 x o e).2) (crcL_in l (in8L_of hl)) hn2).mono ?_
  rintro E w2 ⟨rfl, hw2⟩
  have hlt := H2.out.lt
  have hltb := H1.out.lt
  have HG : Hid (w.heap.size ≠ g) := by show _ ≠ _; omega
  have HX2 : Hid (Blk w2 w.heap.size 103 [.pointer (some ⟨b, 0, none⟩), .pointer (some ⟨g, 0, none⟩)]) := hw2.far_blk HX.out HG.out
  have q0 : w2.cell? ⟨w.heap.size, 0, none⟩ = some (.pointer (some ⟨b, 0, none⟩)) := by rw [HX2.out.cell]; rfl
  have HK2 := Lib.hid hw2.1
  have hb2 : Buf B b l w2 := by
    have hb1 := H1.out.old HB1.out
    obtain ⟨p1, v, lr, p2, p3, p4⟩ := hb1
    have hgr : w1.grownBy w2 (some g) := hw2.2
    refine ⟨p1, v, lr, ?_, ?_, p4⟩
    · rw [hgr.block b (by have := HB1.out.size; omega) (by simpa using hgb.symm)]; exact p2
    · refine Go.Proofs.YtpfmmbhbmdbmeaaGreatDoorW.PrintWords.own_move p3 (fun k hk => hgr.block k (p3.lt k hk).2 ?_)
      intro e
      injection e with e
      subst e
      rcases p3.2 with ⟨rfl, _⟩ | ⟨g', cap, cur, rfl, hg', hh, _⟩
      · simp [Value.ownBlock] at hk
      · simp only [Value.ownBlock, Option.some.injEq] at hk
        subst hk
        have := hk1
        unfold Blk at this
        rw [this] at hh
        injection hh with hh
        injection hh with _ h5 _
        exact absurd h5 (by decide)
  have HB2 := Lib.hid hb2
  have HS2 : Hid (Sl w2 A n (nums .u8 m)) := sl_wrote2 hw2 (fun h0 x o e => (HA.out h0 x o e).2) (HS.out.below HB1.out)
  have HL2 : Hid (Below B w w2) := (HB1.out.mono hB).grown hw2.2 (Nat.le_trans hB HB1.out.size) (fun k e => by injection e with e; omega)
  have HF2 : Hid (Fr b g w w2) := fun k o h1 _ h3 _ => by
    have hk := (Array.getElem?_eq_some_iff.1 h1).1
    rw [hw2.2.block k (by have := HB1.out.size; omega) (by simpa using h3), HB1.out.block k hk, h1]
  clear hw2 hk1 HX hb2
  go_wp2_with fail
  refine (bufWrite_all B b l m A n c w2 HB2.out (Nat.le_trans hB HL2.out.size) HS2.out (fun h0 x o e => (HA.out h0 x o e).1) (by omega) (by omega)).mono ?_
  rintro E w3 ⟨rfl, hb3, hl3, hk3⟩
  have HB3 := Lib.hid hb3
  have HL3 : Hid (Below B w w3) := HL2.out.trans hl3
  have HK3 : Hid (Blk w3 g 127 [.int .u32 (crcL (l ++ m))]) := by
    have := kept_blk HK2.out hk3 hgb (by decide)
    show Blk _ _ _ _
    unfold crcL at this ⊢
    rw [List.foldl_append]
    exact this
  have HF3 : Hid (Fr b g w w3) := HF2.out.trans fun k o h1 h2 _ h4 => hk3 k o h1 (by simpa using h2) h4
  clear hb3 hl3 hk3
  go_wp2
  go_ret2
  exact ⟨rfl, ⟨HB3.out, HK3.out, h3⟩, HL3.out, HF3.out⟩
theorem sl_low {w w' : World} {A : Option Addr} {B n : Nat} {xs : List Value} (h : Sl w A n xs) (hA : 0 < n → ∀ x o, A = some ⟨x, o, none⟩ → x < B) (hb : Below B w w') : Sl w' A n xs :=
  ⟨h.1, fun h0 => by
    obtain ⟨g, o, e, hc⟩ := h.2 h0
    exact ⟨g, o, e, fun j v hv => by rw [hb.cell (hA h0 g o e)]; exact hc j v hv⟩⟩
theorem bel_drew {B : Nat} {w w' : World} (h : Below B w.drew w') : Below B w w' := ⟨h.os, h.tape, h.output, h.size, h.block⟩
theorem headB_byt (k d e m u : Int) (hk0 : 0 ≤ k) (hk : k ≤ 4294967295) (hd0 : 0 ≤ d) (hd : d ≤ 4294967295) (he0 : 0 ≤ e) (he : Hid (e ≤ 18446744073709551615)) (hm : In8 m) (hu : In8 u) : Byt (headB k d e m u) := by
  have h1 : Byt [m, u] := fun x hx => by
    simp at hx
    rcases hx with rfl | rfl
    · exact hm
    · exact hu
  unfold headB
  first
  | exact h1.append ((vint_byt' k hk0 (u32_64 hk)).append ((vint_byt' d hd0 (u32_64 hd)).append (vint_byt' e he0 he)))
  | exact ((h1.append (vint_byt' k hk0 (u32_64 hk))).append (vint_byt' d hd0 (u32_64 hd))).append (vint_byt' e he0 he)
/-- A record in bytes. -/
def recP (m u e : Int) (k d : List Int) : List Int := headB k.length d.length e m u ++ (k ++ d)
def recB (m u e : Int) (k d : List Int) : List Int := recP m u e k d ++ be32 (crcOut (recP m u e k d))
theorem arr22' : Tryz.prog.arrayLen 104 = 22 := by kernel_rfl
set_option maxHeartbeats 8000000 in
set_option maxRecDepth 100000 in
theorem encodeEntry_any (B b ge glf n1 c1 n2 c2 : Nat) (A1 A2 : Option Addr) (m u e of_ : Int) (l1 l2 : List Int) (v3 v4 v7 v8 : Value) (w : World)
    (he : Blk w ge 91 [.slice A1 n1 c1, .slice A2 n2 c2, .int .u64 e, v3, v4, .int .u8 u, .int .u8 m, v7, v8]) (hb : Buf B b [] w) (hgb : ge ≠ b) (hB : B ≤ w.heap.size)
    (hs1 : Sl w A1 n1 (nums .u8 l1)) (hs2 : Sl w A2 n2 (nums .u8 l2)) (hA1 : 0 < n1 → ∀ x o, A1 = some ⟨x, o, none⟩ → x < B) (hA2 : 0 < n2 → ∀ x o, A2 = some ⟨x, o, none⟩ → x < B)
    (hn1 : n1 ≤ 100000) (hn2 : n2 ≤ 100000) (hb1 : Byt l1) (hb2 : Byt l2) (he0 : 0 ≤ e) (he1 : Hid (e ≤ 18446744073709551615)) (hm : In8 m) (hu : In8 u) :
    Calls Tryz.prog 36 #[.pointer (some ⟨glf, 0, none⟩), .pointer (some ⟨b, 0, none⟩), .pointer (some ⟨ge, 0, none⟩), .int .u32 of_] w fun E w' => (∃ N, E = .returned (.tuple #[.int .i64 N, .nilIface])) ∧ Buf B b (recB m u e l1 l2) w' ∧ Below B w w' := by
  have HE := Lib.hid he
  have HB := Lib.hid hb
  have HS1 := Lib.hid hs1
  have HS2 := Lib.hid hs2
  have q0 : w.cell? ⟨ge, 0, none⟩ = some (.slice A1 n1 c1) := by rw [he.cell]; rfl
  have q1 : w.cell? ⟨ge, 1, none⟩ = some (.slice A2 n2 c2) := by rw [he.cell]; rfl
  have q2 : w.cell? ⟨ge, 2, none⟩ = some (.int .u64 e) := by rw [he.cell]; rfl
  have q5 : w.cell? ⟨ge, 5, none⟩ = some (.int .u8 u) := by rw [he.cell]; rfl
  have q6 : w.cell? ⟨ge, 6, none⟩ = some (.int .u8 m) := by rw [he.cell]; rfl
  clear he hb hs1 hs2
  go_enter Tryz.func36, Tryz.ntmps36
  have wl1 : IntKind.u32.wrap (n1 : Int) = (n1 : Int) := by show _ = _; unfold IntKind.wrap; simp [IntKind.signed, IntKind.bits]; omega
  have wl2 : IntKind.u32.wrap (n2 : Int) = (n2 : Int) := by show _ = _; unfold IntKind.wrap; simp [IntKind.signed, IntKind.bits]; omega
  go_wp2_with fail
  have HBw : Hid (Below w.heap.size w w) := Below.refl _ _
  go_region_held3 (fun w' => w'.cell? ⟨ge, 0, none⟩ = some (.slice A1 n1 c1) ∧ w'.cell? ⟨ge, 1, none⟩ = some (.slice A2 n2 c2) ∧ w'.cell? ⟨ge, 2, none⟩ = some (.int .u64 e) ∧ w'.cell? ⟨ge, 5, none⟩ = some (.int .u8 u) ∧ w'.cell? ⟨ge, 6, none⟩ = some (.int .u8 m) ∧ Hid (Below w.heap.size w w')) (first | exact ⟨q0, q1, q2, q5, q6, HBw⟩ | ((try go_split_ands); (repeat' with_reducible apply And.intro); all_goals first | exact cell_keep (by assumption) (by assumption) | exact bl_keep (by assumption) (by assumption) | exact cell_drew (by assumption) | exact bl_keepD (by assumption) | exact cell_alloc _ (by assumption) | exact bl_keepA _ (by assumption) | exact bl_keepN _ (by assumption)) | exact ⟨cell_drew (cell_alloc _ q0), cell_drew (cell_alloc _ q1), cell_drew (cell_alloc _ q2), cell_drew (cell_alloc _ q5), cell_drew (cell_alloc _ q6), bl_drew (bl_alloc (Below.refl _ _) _)⟩) (fail)
  have hh : Blk (w.alloc (.cells #[.int .u32 (n1 : Int), .int .u32 (n2 : Int), .int .u64 e, .int .u8 m, .int .u8 u] 99)).drew w.heap.size 99 [.int .u32 (n1 : Int), .int .u32 (n2 : Int), .int .u64 e, .int .u8 m, .int .u8 u] := (Blk.new w 99 _).drew
  have HH := Lib.hid hh
  have HL1 : Hid (Below w.heap.size w (w.alloc (.cells #[.int .u32 (n1 : Int), .int .u32 (n2 : Int), .int .u64 e, .int .u8 m, .int .u8 u] 99)).drew) := bl_drew (bl_alloc (Below.refl _ _) _)
  clear hh q0 q1 q2 q5 q6 HBw
  generalize (w.alloc (.cells #[.int .u32 (n1 : Int), .int .u32 (n2 : Int), .int .u64 e, .int .u8 m, .int .u8 u] 99)).drew = w1 at *
  go_wp2_with fail
  refine (newCRC_any w1).mono ?_
  rintro E w2 ⟨rfl, rfl⟩
  have hc2 : Blk (w1.alloc (.cells #[.int .u32 4294967295] 127)) w1.heap.size 127 [.int .u32 4294967295] := Blk.new _ _ _
  have HC2 := Lib.hid hc2
  have HL2 : Hid (Below w.heap.size w (w1.alloc (.cells #[.int .u32 4294967295] 127))) := bl_alloc HL1.out _
  have HH2 : Hid (Blk (w1.alloc (.cells #[.int .u32 4294967295] 127)) w.heap.size 99 [.int .u32 (n1 : Int), .int .u32 (n2 : Int), .int .u64 e, .int .u8 m, .int .u8 u]) := HH.out.alloc _
  have HG : Hid (w.heap.size < w1.heap.size ∧ w1.heap.size < (w1.alloc (.cells #[.int .u32 4294967295] 127)).heap.size) := ⟨HH.out.lt, by rw [World.size_alloc]; omega⟩
  clear hc2
  generalize w1.alloc (.cells #[.int .u32 4294967295] 127) = w2 at *
  generalize hg : w1.heap.size = g at *
  clear hg HH HL1
  go_wp2_with fail
  have hw3 : Blk (w2.alloc (.cells #[.pointer (some ⟨b, 0, none⟩), .pointer (some ⟨g, 0, none⟩)] 103)) w2.heap.size 103 [.pointer (some ⟨b, 0, none⟩), .pointer (some ⟨g, 0, none⟩)] := Blk.new _ _ _
  have hz : (w2.alloc (.cells #[.pointer (some ⟨b, 0, none⟩), .pointer (some ⟨g, 0, none⟩)] 103)).heap.size = w2.heap.size + 1 := by rw [World.size_alloc]
  have hw4 : Blk ((w2.alloc (.cells #[.pointer (some ⟨b, 0, none⟩), .pointer (some ⟨g, 0, none⟩)] 103)).alloc (.cells #[.int .u8 0, .int .u8 0, .int .u8 0, .int .u8 0, .int .u8 0, .int .u8 0, .int .u8 0, .int .u8 0, .int .u8 0, .int .u8 0, .int .u8 0, .int .u8 0, .int .u8 0, .int .u8 0, .int .u8 0, .int .u8 0, .int .u8 0, .int .u8 0, .int .u8 0, .int .u8 0, .int .u8 0, .int .u8 0] 104)) (w2.heap.size + 1) 104 (List.replicate 22 (.int .u8 0)) := by
    have := Blk.new (w2.alloc (.cells #[.pointer (some ⟨b, 0, none⟩), .pointer (some ⟨g, 0, none⟩)] 103)) 104 (List.replicate 22 (.int .u8 0))
    rwa [hz] at this
  have HW4 := Lib.hid hw4
  have HP4 := Lib.hid (hw3.alloc (.cells #[.int .u8 0, .int .u8 0, .int .u8 0, .int .u8 0, .int .u8 0, .int .u8 0, .int .u8 0, .int .u8 0, .int .u8 0, .int .u8 0, .int .u8 0, .int .u8 0, .int .u8 0, .int .u8 0, .int .u8 0, .int .u8 0, .int .u8 0, .int .u8 0, .int .u8 0, .int .u8 0, .int .u8 0, .int .u8 0] 104))
  have HH4 := Lib.hid ((HH2.out.alloc (.cells #[.pointer (some ⟨b, 0, none⟩), .pointer (some ⟨g, 0, none⟩)] 103)).alloc (.cells #[.int .u8 0, .int .u8 0, .int .u8 0, .int .u8 0, .int .u8 0, .int .u8 0, .int .u8 0, .int .u8 0, .int .u8 0, .int .u8 0, .int .u8 0, .int .u8 0, .int .u8 0, .int .u8 0, .int .u8 0, .int .u8 0, .int .u8 0, .int .u8 0, .int .u8 0, .int .u8 0, .int .u8 0, .int .u8 0] 104))
  have HC4 := Lib.hid ((HC2.out.alloc (.cells #[.pointer (some ⟨b, 0, none⟩), .pointer (some ⟨g, 0, none⟩)] 103)).alloc (.cells #[.int .u8 0, .int .u8 0, .int .u8 0, .int .u8 0, .int .u8 0, .int .u8 0, .int .u8 0, .int .u8 0, .int .u8 0, .int .u8 0, .int .u8 0, .int .u8 0, .int .u8 0, .int .u8 0, .int .u8 0, .int .u8 0, .int .u8 0, .int .u8 0, .int .u8 0, .int .u8 0, .int .u8 0, .int .u8 0] 104))
  have HL4 : Hid (Below w.heap.size w ((w2.alloc (.cells #[.pointer (some ⟨b, 0, none⟩), .pointer (some ⟨g, 0, none⟩)] 103)).alloc (.cells #[.int .u8 0, .int .u8 0, .int .u8 0, .int .u8 0, .int .u8 0, .int .u8 0, .int .u8 0, .int .u8 0, .int .u8 0, .int .u8 0, .int .u8 0, .int .u8 0, .int .u8 0, .int .u8 0, .int .u8 0, .int .u8 0, .int .u8 0, .int .u8 0, .int .u8 0, .int .u8 0, .int .u8 0, .int .u8 0] 104))) := bl_alloc (bl_alloc HL2.out _) _
  clear hw3 hw4 hz HC2 HH2 HL2
  generalize (w2.alloc (.cells #[.pointer (some ⟨b, 0, none⟩), .pointer (some ⟨g, 0, none⟩)] 103)).alloc (.cells #[.int .u8 0, .int .u8 0, .int .u8 0, .int .u8 0, .int .u8 0, .int .u8 0, .int .u8 0, .int .u8 0, .int .u8 0, .int .u8 0, .int .u8 0, .int .u8 0, .int .u8 0, .int .u8 0, .int .u8 0, .int .u8 0, .int .u8 0, .int .u8 0, .int .u8 0, .int .u8 0, .int .u8 0, .int .u8 0] 104) = w4 at *
  generalize hg2 : w2.heap.size = g2 at *
  clear hg2
  have r0 : w4.cell? ⟨w.heap.size, 0, none⟩ = some (.int .u32 (n1 : Int)) := by rw [HH4.out.cell]; rfl
  have r1 : w4.cell? ⟨w.heap.size, 1, none⟩ = some (.int .u32 (n2 : Int)) := by rw [HH4.out.cell]; rfl
  have r2 : w4.cell? ⟨w.heap.size, 2, none⟩ = some (.int .u64 e) := by rw [HH4.out.cell]; rfl
  have r3 : w4.cell? ⟨w.heap.size, 3, none⟩ = some (.int .u8 m) := by rw [HH4.out.cell]; rfl
  have r4 : w4.cell? ⟨w.heap.size, 4, none⟩ = some (.int .u8 u) := by rw [HH4.out.cell]; rfl
  go_still_tail 2, (by kernel_rfl)
  change wpList _ _ _ _ _ w4.drew
  go_wp2_with fail
  refine (headEncode_any (g2 + 1) 22 104 22 n1 n2 e m u _ w4.drew HW4.out (by omega) (by omega) (by simp) (by omega) (by omega) (by omega) (by omega) he0 he1).mono ?_
  rintro E w5 ⟨rfl, hw5⟩
  have hL := headB_len (n1 : Int) (n2 : Int) e m u (by omega) (by omega)
  have HW5 := Lib.hid hw5
  clear hw5 r0 r1 r2 r3 r4
  have hbl := HB.out.lt
  have hel := HE.out.lt
  have HL5 : Hid (Below w.heap.size w w5) := below_wrote (bl_drew HL4.out) (by have := HG.out; omega) HL4.out.size HW5.out
  have HB5 : Hid (Both B b g [] w5) := ⟨HB.out.old HL5.out, HW5.out.far_blk HC4.out (by have := HG.out; omega), by have := HG.out; omega⟩
  have HP5 : Hid (Blk w5 g2 103 [.pointer (some ⟨b, 0, none⟩), .pointer (some ⟨g, 0, none⟩)]) := HW5.out.far_blk HP4.out (by omega)
  have HE5 := Lib.hid (HE.out.below HL5.out hel)
  have HH5 : Hid (Sl w5 (some ⟨g2 + 1, 0, none⟩) (headB n1 n2 e m u).length (nums .u8 (headB n1 n2 e m u))) := by
    have := HW5.out.1.sl (off := 0) (n := (headB n1 n2 e m u).length) (by rw [splice_len _ _ _ (by rw [nums_length]; simp; omega)]; simp; omega)
    rw [List.drop_zero, splice, List.take_zero, List.nil_append, List.take_append_of_le_length (by rw [nums_length]; omega), List.take_of_length_le (by rw [nums_length]; omega)] at this
    exact this
  have hgs : g ≠ b ∧ g2 ≠ b ∧ g2 ≠ g ∧ g2 + 1 ≠ b ∧ g2 + 1 ≠ g ∧ ge ≠ g := by have := HG.out; omega
  obtain ⟨hgs1, hgs2, hgs3, hgs4, hgs5, hgs6⟩ := hgs
  have HLB5 : Hid (Below B w w5) := HL5.out.mono hB
  have ha2 : ((headB n1 n2 e m u).length : Int) ≤ ((Tryz.prog.arrayLen 104 : Nat) : Int) := by rw [arr22']; omega
  have ha3 : ((headB n1 n2 e m u).length : Int) ≤ 22 := by omega
  have hByh : Byt (headB n1 n2 e m u) := headB_byt _ _ _ _ _ (by omega) (by omega) (by omega) (by omega) he0 he1 hm hu
  have p0 : w5.cell? ⟨g2, 0, none⟩ = some (.pointer (some ⟨b, 0, none⟩)) := by rw [HP5.out.cell]; rfl
  have p1 : w5.cell? ⟨g2, 1, none⟩ = some (.pointer (some ⟨g, 0, none⟩)) := by rw [HP5.out.cell]; rfl
  clear HW5 HP4 HC4 HH4 HW4 HL4 HB HE
  go_wp2_with fail
  go_still_tail 3, (by kernel_rfl)
  change wpList _ _ _ _ _ w5.drew
  go_wp2_with fail
  refine (bothWrite_any B b g _ _ _ [] (headB n1 n2 e m u) w5.drew HB5.out hgs1 (Nat.le_trans hB HL5.out.size) HH5.out (fun _ x o ex => by injection ex with ex; injection ex with ex _; subst ex; exact ⟨hgs4, hgs5⟩) hByh (fun x hx => by cases hx) (by simp) (by omega)).mono ?_
  rintro E w6 ⟨rfl, hb6, hl6, hf6⟩
  have HB6 := Lib.hid hb6
  have HLB6 : Hid (Below B w w6) := HLB5.out.trans (bel_drew hl6)
  have HP6 := Lib.hid (hf6.blk HP5.out hgs2 hgs3 (by decide))
  have HE6 := Lib.hid (hf6.blk HE5.out hgb hgs6 (by decide))
  have HZ6 : Hid (w.heap.size ≤ w6.heap.size) := Nat.le_trans HL5.out.size hl6.size
  clear hb6 hl6 hf6 HB5 HP5 HE5 HH5 p0 p1
  have p0 : w6.cell? ⟨g2, 0, none⟩ = some (.pointer (some ⟨b, 0, none⟩)) := by rw [HP6.out.cell]; rfl
  have p1 : w6.cell? ⟨g2, 1, none⟩ = some (.pointer (some ⟨g, 0, none⟩)) := by rw [HP6.out.cell]; rfl
  have e0 : w6.cell? ⟨ge, 0, none⟩ = some (.slice A1 n1 c1) := by rw [HE6.out.cell]; rfl
  have hlen1 : l1.length = n1 := by have := HS1.out.1; rwa [nums_length] at this
  have hlen2 : l2.length = n2 := by have := HS2.out.1; rwa [nums_length] at this
  have HS16 := Lib.hid (sl_low HS1.out hA1 HLB6.out)
  have hbB := HB6.out.1.le
  have hgB := HB6.out.2.2
  go_wp2_with fail
  go_still_tail 5, (by kernel_rfl)
  change wpList _ _ _ _ _ w6.drew
  go_wp2_with fail
  refine (bothWrite_any B b g n1 c1 A1 _ l1 w6.drew HB6.out hgs1 (Nat.le_trans hB HZ6.out) HS16.out (fun h0 x o ex => by have := hA1 h0 x o ex; omega) hb1 (by simpa using hByh) (by simp; omega) (by omega)).mono ?_
  rintro E w7 ⟨rfl, hb7, hl7, hf7⟩
  have HB7 := Lib.hid hb7
  have HLB7 : Hid (Below B w w7) := HLB6.out.trans (bel_drew hl7)
  have HP7 := Lib.hid (hf7.blk HP6.out hgs2 hgs3 (by decide))
  have HE7 := Lib.hid (hf7.blk HE6.out hgb hgs6 (by decide))
  have HZ7 : Hid (w.heap.size ≤ w7.heap.size) := Nat.le_trans HZ6.out hl7.size
  clear hb7 hl7 hf7 HB6 HP6 HE6 HS16 p0 p1 e0
  have p0 : w7.cell? ⟨g2, 0, none⟩ = some (.pointer (some ⟨b, 0, none⟩)) := by rw [HP7.out.cell]; rfl
  have p1 : w7.cell? ⟨g2, 1, none⟩ = some (.pointer (some ⟨g, 0, none⟩)) := by rw [HP7.out.cell]; rfl
  have e1 : w7.cell? ⟨ge, 1, none⟩ = some (.slice A2 n2 c2) := by rw [HE7.out.cell]; rfl
  have HS27 := Lib.hid (sl_low HS2.out hA2 HLB7.out)
  go_wp2_with fail
  go_still_tail 5, (by kernel_rfl)
  change wpList _ _ _ _ _ w7.drew
  go_wp2_with fail
  refine (bothWrite_any B b g n2 c2 A2 _ l2 w7.drew HB7.out hgs1 (Nat.le_trans hB HZ7.out) HS27.out (fun h0 x o ex => by have := hA2 h0 x o ex; omega) hb2 (by have := hByh.append hb1; simpa using this) (by simp; omega) (by omega)).mono ?_
  rintro E w8 ⟨rfl, hb8, hl8, hf8⟩
  have HB8 : Hid (Both B b g (recP m u e l1 l2) w8) := by
    show Both _ _ _ _ _
    unfold recP
    rw [hlen1, hlen2, ← List.append_assoc]
    exact hb8
  have HLB8 : Hid (Below B w w8) := HLB7.out.trans (bel_drew hl8)
  have HE8 := Lib.hid (hf8.blk HE7.out hgb hgs6 (by decide))
  have HZ8 : Hid (w.heap.size ≤ w8.heap.size) := Nat.le_trans HZ7.out hl8.size
  clear hb8 hl8 hf8 HB7 HP7 HE7 HS27 p0 p1 e1 HZ6 HZ7 HLB6 HLB7
  have hpl : (recP m u e l1 l2).length ≤ 200022 := by
    unfold recP
    rw [hlen1, hlen2]
    simp
    omega
  have hcin := crcOut_in (recP m u e l1 l2) (by unfold recP; rw [hlen1, hlen2]; exact hByh.append (hb1.append hb2))
  go_wp2_with fail
  have hk9 : Blk (w8.alloc (.cells #[.int .u8 0, .int .u8 0, .int .u8 0, .int .u8 0] 107)) w8.heap.size 107 (List.replicate 4 (.int .u8 0)) := Blk.new w8 107 (List.replicate 4 (.int .u8 0))
  have HK9 := Lib.hid hk9
  have HB9 := Lib.hid (HB8.out.1.alloc (.cells #[.int .u8 0, .int .u8 0, .int .u8 0, .int .u8 0] 107))
  have HE9 := Lib.hid (HE8.out.alloc (.cells #[.int .u8 0, .int .u8 0, .int .u8 0, .int .u8 0] 107))
  have HLB9 : Hid (Below B w (w8.alloc (.cells #[.int .u8 0, .int .u8 0, .int .u8 0, .int .u8 0] 107))) := HLB8.out.alloc (Nat.le_trans hB HZ8.out) _
  have HL9 : Hid (Below w8.heap.size w8 (w8.alloc (.cells #[.int .u8 0, .int .u8 0, .int .u8 0, .int .u8 0] 107))) := (Below.refl _ _).alloc (Nat.le_refl _) _
  have HZ9 : Hid (w8.heap.size < (w8.alloc (.cells #[.int .u8 0, .int .u8 0, .int .u8 0, .int .u8 0] 107)).heap.size) := by show _ < _; rw [World.size_alloc]; omega
  have s0 : (w8.alloc (.cells #[.int .u8 0, .int .u8 0, .int .u8 0, .int .u8 0] 107)).cell? ⟨g, 0, none⟩ = some (.int .u32 (crcL (recP m u e l1 l2))) := by rw [(HB8.out.2.1.alloc _).cell]; rfl
  generalize w8.alloc (.cells #[.int .u8 0, .int .u8 0, .int .u8 0, .int .u8 0] 107) = w9 at *
  clear hk9
  refine start_ (n := 5) (S := fun _ => True) (ds := []) #[ff,ff,ff,ff,ff] (by kernel_rfl) rfl rfl (trivial) (fun hHeld => ?_)
  refine pure_ (i := 0) (N := some 64) (v := ?_) (a' := ?_) #[tt,ff,ff,ff,ff] rfl rfl (by kernel_rfl) (fun _ _ _ h => h) (Or.inl ⟨by rfl, ?_⟩) ?_ ?_; rotate_left; (intro w'; go_simp; with_reducible rfl); rotate_left; (simp only [Act.put, List.setIfInBounds_toArray, List.set_cons_zero, List.set_cons_succ, i64_w, i32_w]; rfl)
  refine pure_ (i := 1) (N := some 65) (v := ?_) (a' := ?_) #[tt,tt,ff,ff,ff] rfl rfl (by kernel_rfl) (fun _ _ _ h => h) (Or.inl ⟨by rfl, ?_⟩) ?_ ?_; rotate_left; (intro w'; go_simp; with_reducible rfl); rotate_left; (simp only [Act.put, List.setIfInBounds_toArray, List.set_cons_zero, List.set_cons_succ, i64_w, i32_w]; rfl)
  refine one_ (i := 2) (N := some 66) #[tt,tt,tt,ff,ff] rfl rfl (by kernel_rfl) (by decide) (fun K hK => ?_); refine goes_ Tryz.func45 (by kernel_rfl) rfl #[.pointer (some ⟨g, 0, none⟩)] (by rfl) rfl rfl (by (try simp only [List.map_toArray, List.map_cons, List.map_nil]); first | done | rfl) ?_
  refine (sum32_any g (crcL (recP m u e l1 l2)) w9.drew s0).mono ?_
  rintro E w9' ⟨rfl, rfl⟩
  refine ⟨_, rfl, ?_⟩
  refine hK.out _ _ (trivial) (fun hHeld => ?_); clear hK K; refine norm_ (a' := ?_) ?_ ?_; rotate_left; (show Act.put _ (some 66) _ = _; simp only [Act.put, List.setIfInBounds_toArray, List.set_cons_zero, List.set_cons_succ, i64_w, i32_w]; rfl)
  refine one_ (i := 3) (N := some 67) #[tt,tt,tt,tt,ff] rfl rfl (by kernel_rfl) (by decide) (fun K hK => ?_); refine goes_ Tryz.func44 (by kernel_rfl) rfl #[.int .u32 (crcOut (recP m u e l1 l2))] (by rfl) rfl rfl (by (try simp only [List.map_toArray, List.map_cons, List.map_nil]); first | done | rfl) ?_
  refine (u32Bytes1_any (crcOut (recP m u e l1 l2)) w9.drew hcin.1 hcin.2).mono ?_
  rintro E w10 ⟨A10, c10, rfl, hc10, hs10, hl10⟩
  refine ⟨_, rfl, ?_⟩
  refine hK.out _ _ (trivial) (fun hHeld => ?_); clear hK K; refine norm_ (a' := ?_) ?_ ?_; rotate_left; (show Act.put _ (some 67) _ = _; simp only [Act.put, List.setIfInBounds_toArray, List.set_cons_zero, List.set_cons_succ, i64_w, i32_w]; rfl)
  refine one_ (i := 4) (N := some 68) #[tt,tt,tt,tt,tt] rfl rfl (by kernel_rfl) (by decide) (fun K hK => ?_)
  have hl10' : Below w8.heap.size w9 w10 := bel_drew (hl10.out.mono (Nat.le_of_lt HZ9.out))
  have hk10 : Blk w10 w8.heap.size 107 (List.replicate 4 (.int .u8 0)) := HK9.out.below (bel_drew hl10.out) HZ9.out
  refine step_copy_splice rfl (.tmp 64) (.tmp 67) 27 27 rfl 5 Tryz.underlying27 sizeU8 (some ⟨w8.heap.size, 0, none⟩) A10 4 4 4 c10 rfl rfl w8.heap.size 0 (List.replicate 4 (.int .u8 0)) 107 hk10 (nums .u8 (be32 (crcOut (recP m u e l1 l2)))) (by simp [nums, be32, be16]) ?cp (by simp [nums, be32, be16]) (nums_one _ _) w8.heap.size w9 hl10' (Nat.le_refl _) ?_
  case cp =>
    intro _
    obtain ⟨gx, ox, ex, hcx⟩ := hs10.out.2 (by simp [be32, be16])
    exact ⟨rfl, _, ex, fun j v hv => by rw [add_none]; exact hcx j v hv⟩
  intro w11 hg11 hl11
  refine hK.out _ _ (trivial) (fun hHeld => ?_); clear hK K; refine norm_ (a' := ?_) ?_ ?_; rotate_left; (show Act.put _ (some 68) _ = _; simp only [Act.put, List.setIfInBounds_toArray, List.set_cons_zero, List.set_cons_succ, i64_w, i32_w]; rfl)
  refine done_ (by kernel_rfl) ?_
  have HB11 : Hid (Buf B b (recP m u e l1 l2) w11) := HB8.out.1.old (HL9.out.trans hl11)
  have HE11 : Hid (Blk w11 ge 91 [.slice A1 n1 c1, .slice A2 n2 c2, .int .u64 e, v3, v4, .int .u8 u, .int .u8 m, v7, v8]) := HE8.out.below (HL9.out.trans hl11) HE8.out.lt
  have HLB11 : Hid (Below B w w11) := HLB9.out.trans (hl11.mono (Nat.le_trans hB HZ8.out))
  have hk11 : Blk w11 w8.heap.size 107 (nums .u8 (be32 (crcOut (recP m u e l1 l2)))) := by
    have := hg11.out
    rw [splice_zero _ _ (by simp [nums, be32, be16])] at this
    exact this
  have HS11 : Hid (Sl w11 (some ⟨w8.heap.size, 0, none⟩) 4 (nums .u8 (be32 (crcOut (recP m u e l1 l2))))) := by
    have := hk11.sl (off := 0) (n := 4) (by simp [nums, be32, be16])
    rw [List.drop_zero, List.take_of_length_le (by simp [nums, be32, be16])] at this
    exact this
  have HW11 : Hid (w9.heap.size ≤ w11.heap.size) := hl11.size
  have hneb : w8.heap.size ≠ b := by have := HB8.out.1.lt; omega
  clear hk10 hl10' hg11 hl11 hk11 hs10 hl10 HK9 HB9 HE9 s0 HLB9
  go_wp2_with fail
  refine (bufWrite_any B b (recP m u e l1 l2) (be32 (crcOut (recP m u e l1 l2))) w8.heap.size 0 4 4 w11 HB11.out (Nat.le_trans hB (Nat.le_trans HZ8.out (Nat.le_of_lt (Nat.lt_of_lt_of_le HZ9.out HW11.out)))) HS11.out hneb (by omega) (by omega)).mono ?_
  rintro E w12 ⟨rfl, hb12, hl12, hk12⟩
  have HB12 : Hid (Buf B b (recB m u e l1 l2) w12) := hb12
  have HL12 : Hid (Below B w w12) := HLB11.out.trans hl12
  have he12 := kept_blk HE11.out hk12 hgb (by decide)
  have e0 : w12.cell? ⟨ge, 0, none⟩ = some (.slice A1 n1 c1) := by rw [he12.cell]; rfl
  have e1 : w12.cell? ⟨ge, 1, none⟩ = some (.slice A2 n2 c2) := by rw [he12.cell]; rfl
  clear hb12 hl12 hk12 he12 HB11 HE11 HS11
  go_wp2
  go_still_tail 16, (by kernel_rfl)
  change wpList _ _ _ _ _ w12.drew
  go_wp2
  go_ret2
  refine ⟨⟨_, rfl⟩, HB12.out, ?_⟩
  have := HL12.out
  exact ⟨this.os, this.tape, this.output, this.size, this.block⟩
end Go.Proofs.YtpfmmbhbmdbmeaaGreatDoor
end
section
/- A record in bytes: EncodeEntry and the thin package. -/
namespace Go.Proofs.YtpfmmbhbmdbmeaaGreatDoor
open Go.RowKit
open Go.Proofs.YtpfmmbhbmdbmeaaGreatDoorQ.Ext (sl_of_C C_of_sl own_of_R R_of_own)
set_option linter.unusedVariables false
set_option linter.unusedSimpArgs false
theorem recB_len (m u e : Int) (l1 l2 : List Int) (h1 : l1.length ≤ 100000) (h2 : l2.length ≤ 100000) : (recB m u e l1 l2).length = (headB l1.length l2.length e m u).length + l1.length + l2.length + 4 ∧ (recB m u e l1 l2).length ≤ 200026 := by
  have := headB_len (l1.length : Int) (l2.length : Int) e m u (by omega) (by omega)
  have h3 : (recB m u e l1 l2).length = (headB l1.length l2.length e m u).length + l1.length + l2.length + 4 := by
    unfold recB recP
    simp [be32, be16]
    omega
  exact ⟨h3, by omega⟩
set_option maxRecDepth 100000 in
theorem encEntry_any (n1 c1 n2 c2 : Nat) (A1 A2 : Option Addr) (m u e : Int) (l1 l2 : List Int) (w : World)
    (hs1 : Sl w A1 n1 (nums .u8 l1)) (hs2 : Sl w A2 n2 (nums .u8 l2)) 
    (hn1 : n1 ≤ 100000) (hn2 : n2 ≤ 100000) (hb1 : Byt l1) (hb2 : Byt l2) (he0 : 0 ≤ e) (he1 : Hid (e ≤ 18446744073709551615)) (hm : In8 m) (hu : In8 u) :
    Calls Tryz.prog 31 #[.agg #[.slice A1 n1 c1, .slice A2 n2 c2, .int .u64 e, .int .u8 m, .int .u8 u]] w (Made w 5 (nums .u8 (recB m u e l1 l2))) := by
  have HS1 := Lib.hid hs1
  have HS2 := Lib.hid hs2
  have hlow : ∀ {A : Option Addr} {n : Nat} {xs : List Value}, Sl w A n xs → 0 < n → ∀ x o, A = some ⟨x, o, none⟩ → x < w.heap.size := by
    intro A n xs h h0 x o ex
    obtain ⟨v, hv⟩ : ∃ v, xs[0]? = some v := ⟨_, List.getElem?_eq_getElem (by rw [h.1]; exact h0)⟩
    obtain ⟨g, o', e', hc⟩ := h.2 h0
    rw [ex] at e'; injection e' with e'; injection e' with e1 _; subst e1
    exact World.block_lt_of_cell? w _ (hc 0 v hv)
  have HA := Lib.hid (And.intro (hlow HS1.out) (hlow HS2.out))
  clear hlow
  clear hs1 hs2
  go_enter Tryz.func31, Tryz.ntmps31
  go_wp2_with fail
  have z1 : (w.alloc (.cells #[.slice A1 n1 c1, .slice A2 n2 c2, .int .u64 e, .int .u8 m, .int .u8 u] 51)).heap.size = w.heap.size + 1 := by rw [World.size_alloc]
  have z3 : (((w.alloc (.cells #[.slice A1 n1 c1, .slice A2 n2 c2, .int .u64 e, .int .u8 m, .int .u8 u] 51)).alloc (.cells #[.slice none 0 0, .int .i64 0, .int .i8 0] 80)).alloc (.cells #[.slice none 0 0, .string { data := #[] }, .int .u32 0, .int .u32 0] 86)).heap.size = w.heap.size + 3 := by rw [World.size_alloc, World.size_alloc, World.size_alloc]
  have hb : Buf (w.heap.size + 1) (w.heap.size + 1) [] ((((w.alloc (.cells #[.slice A1 n1 c1, .slice A2 n2 c2, .int .u64 e, .int .u8 m, .int .u8 u] 51)).alloc (.cells #[.slice none 0 0, .int .i64 0, .int .i8 0] 80)).alloc (.cells #[.slice none 0 0, .string { data := #[] }, .int .u32 0, .int .u32 0] 86)).alloc (.cells #[.slice A1 n1 c1, .slice A2 n2 c2, .int .u64 e, .int .u64 0, .int .u32 0, .int .u8 u, .int .u8 m, .int .i64 0, .int .i64 0] 91)) := by
    have := ((buf_zero (w.alloc (.cells #[.slice A1 n1 c1, .slice A2 n2 c2, .int .u64 e, .int .u8 m, .int .u8 u] 51))).alloc (.cells #[.slice none 0 0, .string { data := #[] }, .int .u32 0, .int .u32 0] 86)).alloc (.cells #[.slice A1 n1 c1, .slice A2 n2 c2, .int .u64 e, .int .u64 0, .int .u32 0, .int .u8 u, .int .u8 m, .int .i64 0, .int .i64 0] 91)
    rw [z1] at this
    exact this
  have he : Blk ((((w.alloc (.cells #[.slice A1 n1 c1, .slice A2 n2 c2, .int .u64 e, .int .u8 m, .int .u8 u] 51)).alloc (.cells #[.slice none 0 0, .int .i64 0, .int .i8 0] 80)).alloc (.cells #[.slice none 0 0, .string { data := #[] }, .int .u32 0, .int .u32 0] 86)).alloc (.cells #[.slice A1 n1 c1, .slice A2 n2 c2, .int .u64 e, .int .u64 0, .int .u32 0, .int .u8 u, .int .u8 m, .int .i64 0, .int .i64 0] 91)) (w.heap.size + 1 + 1 + 1) 91 [.slice A1 n1 c1, .slice A2 n2 c2, .int .u64 e, .int .u64 0, .int .u32 0, .int .u8 u, .int .u8 m, .int .i64 0, .int .i64 0] := by
    have := Blk.new (((w.alloc (.cells #[.slice A1 n1 c1, .slice A2 n2 c2, .int .u64 e, .int .u8 m, .int .u8 u] 51)).alloc (.cells #[.slice none 0 0, .int .i64 0, .int .i8 0] 80)).alloc (.cells #[.slice none 0 0, .string { data := #[] }, .int .u32 0, .int .u32 0] 86)) 91 [.slice A1 n1 c1, .slice A2 n2 c2, .int .u64 e, .int .u64 0, .int .u32 0, .int .u8 u, .int .u8 m, .int .i64 0, .int .i64 0]
    rw [z3] at this
    exact this
  have hbl : Below w.heap.size w ((((w.alloc (.cells #[.slice A1 n1 c1, .slice A2 n2 c2, .int .u64 e, .int .u8 m, .int .u8 u] 51)).alloc (.cells #[.slice none 0 0, .int .i64 0, .int .i8 0] 80)).alloc (.cells #[.slice none 0 0, .string { data := #[] }, .int .u32 0, .int .u32 0] 86)).alloc (.cells #[.slice A1 n1 c1, .slice A2 n2 c2, .int .u64 e, .int .u64 0, .int .u32 0, .int .u8 u, .int .u8 m, .int .i64 0, .int .i64 0] 91)) := bl_alloc (bl_alloc (bl_alloc (bl_alloc (Below.refl _ _) _) _) _) _
  have hz : w.heap.size + 1 ≤ ((((w.alloc (.cells #[.slice A1 n1 c1, .slice A2 n2 c2, .int .u64 e, .int .u8 m, .int .u8 u] 51)).alloc (.cells #[.slice none 0 0, .int .i64 0, .int .i8 0] 80)).alloc (.cells #[.slice none 0 0, .string { data := #[] }, .int .u32 0, .int .u32 0] 86)).alloc (.cells #[.slice A1 n1 c1, .slice A2 n2 c2, .int .u64 e, .int .u64 0, .int .u32 0, .int .u8 u, .int .u8 m, .int .i64 0, .int .i64 0] 91)).heap.size := by rw [World.size_alloc, z3]; omega
  have HBL := Lib.hid hbl
  have HZ := Lib.hid hz
  have HBu := Lib.hid hb
  have HEn := Lib.hid he
  clear z1 z3 hb he hbl hz
  generalize ((((w.alloc (.cells #[.slice A1 n1 c1, .slice A2 n2 c2, .int .u64 e, .int .u8 m, .int .u8 u] 51)).alloc (.cells #[.slice none 0 0, .int .i64 0, .int .i8 0] 80)).alloc (.cells #[.slice none 0 0, .string { data := #[] }, .int .u32 0, .int .u32 0] 86)).alloc (.cells #[.slice A1 n1 c1, .slice A2 n2 c2, .int .u64 e, .int .u64 0, .int .u32 0, .int .u8 u, .int .u8 m, .int .i64 0, .int .i64 0] 91)) = w4 at *
  refine (encodeEntry_any (w.heap.size + 1) (w.heap.size + 1) (w.heap.size + 1 + 1 + 1) _ n1 c1 n2 c2 A1 A2 m u e 0 l1 l2 _ _ _ _ w4 HEn.out HBu.out (by omega) HZ.out (HS1.out.below HBL.out) (HS2.out.below HBL.out) (fun h0 x o ex => by have := HA.out.1 h0 x o ex; omega) (fun h0 x o ex => by have := HA.out.2 h0 x o ex; omega) hn1 hn2 hb1 hb2 he0 he1 hm hu).mono ?_
  rintro E w5 ⟨⟨N, rfl⟩, hb5, hl5⟩
  have HB5 := Lib.hid hb5
  have HL5 : Hid (Below w.heap.size w w5) := HBL.out.trans (hl5.mono (by omega))
  clear hb5 hl5
  go_wp2_with fail
  refine (bufBytes_any (w.heap.size + 1) (w.heap.size + 1) _ w5 HB5.out).mono ?_
  rintro E w6 ⟨v6, rfl, ho6, j, rfl⟩
  have HO6 := Lib.hid ho6
  clear ho6
  go_wp2
  go_ret
  exact ⟨_, rfl, by rw [nums_length]; exact own_weaken' HO6.out (by omega), bl_drewN HL5.out j⟩
end Go.Proofs.YtpfmmbhbmdbmeaaGreatDoor
end
section
/- Records in bytes, as the print tells them. -/
namespace Go.Proofs.YtpfmmbhbmdbmeaaGreatDoorQ.Ext
open Go.RowKit Go.Proofs.YtpfmmbhbmdbmeaaGreatDoorW.PrintWords
set_option linter.unusedVariables false
def in8 (x : Int) : Bool := decide (0 ≤ x) && decide (x ≤ 255)
theorem in8_of {x : Int} (h : in8 x = true) : YtpfmmbhbmdbmeaaGreatDoor.In8 x := by
  unfold in8 at h
  simp at h
  exact h
theorem in8_mk {x : Int} (h : 0 ≤ x ∧ x ≤ 255) : in8 x = true := by
  unfold in8
  simp [h.1, h.2]
def spec_Castagnoli.f (l0 : List Int) : Option Int := if l0.length ≤ 1000000 ∧ bytb l0 = true then some (YtpfmmbhbmdbmeaaGreatDoor.crcOut l0) else none
theorem spec_Castagnoli.calls (A0 : Option Addr) (c0 : Nat) (l0 : List Int) (r : Int) (w : World) (hr0 : Kd.C (Kd.int .u8) w A0 l0.length l0) (hc0 : l0.length ≤ c0) (h : spec_Castagnoli.f l0 = some r) :
    Calls Tryz.prog 24 #[.slice A0 l0.length c0] w fun e w' => e = .returned (.int .u32 r) ∧ Below w.heap.size w w' := by
  obtain ⟨⟨h0, h1⟩, rfl⟩ := if_some h
  exact (YtpfmmbhbmdbmeaaGreatDoor.specCastagnoli_any A0 _ c0 l0 w (sl_of_C hr0) (byt_of h1) h0).mono fun e w' hp => ⟨hp.1, hp.2 ▸ Below.refl _ _⟩
def spec_HeadBytes.f (a0_0 : Int) (a0_1 : Int) (a0_2 : Int) (a0_3 : Int) (a0_4 : Int) : Option (List Int) := if (0 ≤ a0_0 ∧ a0_0 ≤ 4294967295) ∧ (0 ≤ a0_1 ∧ a0_1 ≤ 4294967295) ∧ u64ok a0_2 = true then some (YtpfmmbhbmdbmeaaGreatDoor.headB a0_0 a0_1 a0_2 a0_3 a0_4) else none
theorem spec_HeadBytes.calls (a0_0 : Int) (a0_1 : Int) (a0_2 : Int) (a0_3 : Int) (a0_4 : Int) (r : List Int) (w : World) (h : spec_HeadBytes.f a0_0 a0_1 a0_2 a0_3 a0_4 = some r) :
    Calls Tryz.prog 10 #[.agg #[.int .u32 a0_0, .int .u32 a0_1, .int .u64 a0_2, .int .u8 a0_3, .int .u8 a0_4]] w fun e w' => ∃ v0_ : Value, e = .returned (v0_) ∧ Kd.R (Kd.int .u8) 5 w' w.heap.size (fun _ => True) v0_ r ∧ Below w.heap.size w w' := by
  obtain ⟨⟨⟨h0, h1⟩, ⟨h2, h3⟩, h4⟩, rfl⟩ := if_some h
  exact (YtpfmmbhbmdbmeaaGreatDoor.specHead_any a0_0 a0_1 a0_2 a0_3 a0_4 w h0 h1 h2 h3 (u64ok_of h4).1 (u64ok_of h4).2).mono fun e w' hm => made_R hm
def spec_KeyBytes.f (l0 : List Int) (a1 : Int) : Option (List Int) := if l0.length ≤ 1000000 ∧ u64ok a1 = true then some (YtpfmmbhbmdbmeaaGreatDoor.keyB l0 a1) else none
theorem spec_KeyBytes.calls (A0 : Option Addr) (c0 : Nat) (l0 : List Int) (a1 : Int) (r : List Int) (w : World) (hr0 : Kd.C (Kd.int .u8) w A0 l0.length l0) (hc0 : l0.length ≤ c0) (h : spec_KeyBytes.f l0 a1 = some r) :
    Calls Tryz.prog 29 #[.slice A0 l0.length c0, .int .u64 a1] w fun e w' => ∃ v0_ : Value, e = .returned (v0_) ∧ Kd.R (Kd.int .u8) 5 w' w.heap.size (fun _ => True) v0_ r ∧ Below w.heap.size w w' := by
  obtain ⟨⟨h0, h1⟩, rfl⟩ := if_some h
  exact (YtpfmmbhbmdbmeaaGreatDoor.specKeyBytes_any A0 _ c0 l0 a1 w (sl_of_C hr0) hc0 h0 (u64ok_of h1).1 (u64ok_of h1).2).mono fun e w' hm => made_R hm
def badgerlog_EncodeEntry.f (l0_0 : List Int) (l0_1 : List Int) (a0_2 : Int) (a0_3 : Int) (a0_4 : Int) : Option (List Int) := if (l0_0.length ≤ 100000 ∧ l0_1.length ≤ 100000) ∧ (bytb l0_0 = true ∧ bytb l0_1 = true) ∧ u64ok a0_2 = true ∧ in8 a0_3 = true ∧ in8 a0_4 = true then some (YtpfmmbhbmdbmeaaGreatDoor.recB a0_3 a0_4 a0_2 l0_0 l0_1) else none
theorem badgerlog_EncodeEntry.calls (A0_0 : Option Addr) (c0_0 : Nat) (l0_0 : List Int) (A0_1 : Option Addr) (c0_1 : Nat) (l0_1 : List Int) (a0_2 : Int) (a0_3 : Int) (a0_4 : Int) (r : List Int) (w : World) (hr0_0 : Kd.C (Kd.int .u8) w A0_0 l0_0.length l0_0) (hc0_0 : l0_0.length ≤ c0_0) (hr0_1 : Kd.C (Kd.int .u8) w A0_1 l0_1.length l0_1) (hc0_1 : l0_1.length ≤ c0_1) (h : badgerlog_EncodeEntry.f l0_0 l0_1 a0_2 a0_3 a0_4 = some r) :
    Calls Tryz.prog 31 #[.agg #[.slice A0_0 l0_0.length c0_0, .slice A0_1 l0_1.length c0_1, .int .u64 a0_2, .int .u8 a0_3, .int .u8 a0_4]] w fun e w' => ∃ v0_ : Value, e = .returned (v0_) ∧ Kd.R (Kd.int .u8) 5 w' w.heap.size (fun _ => True) v0_ r ∧ Below w.heap.size w w' := by
  obtain ⟨⟨⟨h0, h1⟩, ⟨h2, h3⟩, h4, h5, h6⟩, rfl⟩ := if_some h
  exact (YtpfmmbhbmdbmeaaGreatDoor.encEntry_any _ c0_0 _ c0_1 A0_0 A0_1 a0_3 a0_4 a0_2 l0_0 l0_1 w (sl_of_C hr0_0) (sl_of_C hr0_1) h0 h1 (byt_of h2) (byt_of h3) (u64ok_of h4).1 (u64ok_of h4).2 (in8_of h5) (in8_of h6)).mono fun e w' hm => made_R hm
def impl_EncodeRec.f (l0_0 : List Int) (l0_1 : List Int) (a0_2 : Int) (a0_3 : Int) (a0_4 : Int) : Option (List Int) := if (l0_0.length ≤ 100000 ∧ l0_1.length ≤ 100000) ∧ (bytb l0_0 = true ∧ bytb l0_1 = true) ∧ u64ok a0_2 = true ∧ in8 a0_3 = true ∧ in8 a0_4 = true then some (YtpfmmbhbmdbmeaaGreatDoor.recB a0_3 a0_4 a0_2 l0_0 l0_1) else none
end Go.Proofs.YtpfmmbhbmdbmeaaGreatDoorQ.Ext
end
