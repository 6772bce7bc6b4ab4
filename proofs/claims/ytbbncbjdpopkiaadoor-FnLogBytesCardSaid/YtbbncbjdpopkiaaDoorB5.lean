/- The checksum that is made as bytes come. -/
import Derived.Test.YtbbncbjdpopkiaaDoorB1
import Derived.Test.YtbbncbjdpopkiaaDoorK1
import Derived.StillTailTactics
namespace Go.Proofs.YtbbncbjdpopkiaaDoor
open Go.RowKit
set_option linter.unusedVariables false
set_option linter.unusedSimpArgs false
theorem newCRC_any (w : World) :
    Calls Tryd.prog 64 #[] w fun E w' => E = .returned (.pointer (some ⟨w.heap.size, 0, none⟩)) ∧ w' = w.alloc (.cells #[.int .u32 4294967295] 132) := by
  go_enter Tryd.func64, Tryd.ntmps64
  go_wp2
  go_ret
  exact ⟨rfl, rfl⟩
theorem sum32_any (g : Nat) (s : Int) (w : World) (hc : w.cell? ⟨g, 0, none⟩ = some (.int .u32 s)) :
    Calls Tryd.prog 68 #[.pointer (some ⟨g, 0, none⟩)] w fun E w' => E = .returned (.int .u32 (bits .xor .u32 IntKind.u32.max s)) ∧ w' = w := by
  go_enter Tryd.func68, Tryd.ntmps68
  go_wp2
  go_ret
  exact ⟨rfl, rfl⟩
theorem crc_step (l : List Int) (i : Nat) (x s0 : Int) (h : l[i]? = some x) : (l.take (i + 1)).foldl crcByte s0 = crcByte ((l.take i).foldl crcByte s0) x := by
  obtain ⟨g1, rfl⟩ := List.getElem?_eq_some_iff.1 h
  rw [List.take_succ_eq_append_getElem g1, List.foldl_append]
  rfl
set_option maxRecDepth 100000 in
theorem crcWrite_any (g n c : Nat) (A : Option Addr) (l : List Int) (s0 : Int) (w : World) (hk : Blk w g 132 [.int .u32 s0]) (h : Sl w A n (nums .u8 l)) (hB : Byt l) (hA : 0 < n → ∀ b o, A = some ⟨b, o, none⟩ → b ≠ g) (hs : In32 s0) (hn : n ≤ 1000000) :
    Calls Tryd.prog 74 #[.pointer (some ⟨g, 0, none⟩), .slice A n c] w fun E w' => E = .returned (.tuple #[.int .i64 n, .nilIface]) ∧ Wrote w g 132 [.int .u32 (l.foldl crcByte s0)] w' := by
  have H := Lib.hid h
  have HB := Lib.hid hB
  have HA := Lib.hid hA
  have hlen : l.length = n := by have := h.1; rwa [nums_length] at this
  have HL := Lib.hid hlen
  have HK : Hid (Wrote w g 132 [.int .u32 s0] w) := ⟨hk, World.grownBy.refl w _⟩
  obtain ⟨hs0, hs1⟩ := hs
  clear h hlen hB hA hk
  go_enter Tryd.func74, Tryd.ntmps74
  go_wp2
  go_loopg [7, 8, 11] n (fun q v7 v8 v11 wr => ∃ (i : Nat) (s : Int), v11 = .int .i64 i ∧ i ≤ n ∧ Hid (i + q = n) ∧ Hid (s = (l.take i).foldl crcByte s0) ∧ 0 ≤ s ∧ s ≤ 4294967295 ∧ Hid (Wrote w g 132 [.int .u32 s] wr))
  case atStart => exact ⟨0, s0, rfl, by omega, by simp [Hid], rfl, hs0, hs1, HK.out⟩
  case round =>
    obtain ⟨i, s, rfl, hi, hq, hs, hs0, hs1, hw⟩ := hrel
    by_cases h1 : i < n
    · obtain ⟨gA, o, x, hAe, hl, hc⟩ := H.out.num h1
      have hne := HA.out (by omega) gA o hAe
      subst hAe
      have hcx := cell_wrote hw.out hne hc
      have hx : In8 x := HB.out _ (List.mem_of_getElem? hl.out)
      obtain ⟨hx0, hx1⟩ := hx
      have hxi : In32 (bits .xor .u32 s x) := xor_in _ _ ⟨hs0, hs1⟩ ⟨hx0, by omega⟩
      have hq0 : wr.cell? ⟨g, 0, none⟩ = some (.int .u32 s) := by rw [hw.out.1.cell]; rfl
      have hf0 := hw.out.1.frozen 0
      obtain ⟨gkO, rfl⟩ : ∃ q, gk = q + 1 := ⟨gk - 1, by have := hq.out; omega⟩
      have hgk := hq
      have hw1 : Wrote w g 132 [.int .u32 (bits .xor .u32 s x)] (wr.setCell ⟨g, 0, none⟩ (.int .u32 (bits .xor .u32 s x))) := hw.out.trans (Wrote.sets hw.out.1 0 _)
      have HW1 := Lib.hid hw1
      clear hw1
      go_wp2
      go_loopg [8] 8 (fun q2 v8 w2 => ∃ (k : Nat) (y : Int), v8 = .int .i64 k ∧ k ≤ 8 ∧ Hid (k + q2 = 8) ∧ Hid (y = crcI (bits .xor .u32 s x) k) ∧ 0 ≤ y ∧ y ≤ 4294967295 ∧ Hid (Wrote w g 132 [.int .u32 y] w2))
      case atStart => exact ⟨0, _, rfl, by omega, by simp [Hid], rfl, hxi.1, hxi.2, HW1.out⟩
      case round =>
        obtain ⟨k, y, rfl, hk, hq2, hy, hy0, hy1, hw2⟩ := hrel
        by_cases hk8 : k < 8
        · have hyb := crcBit_in y ⟨hy0, hy1⟩
          have hq0 : wr.cell? ⟨g, 0, none⟩ = some (.int .u32 y) := by rw [hw2.out.1.cell]; rfl
          have hf0 := hw2.out.1.frozen 0
          rcases bit_two y ⟨hy0, hy1⟩ with ha | ha
          · have hcb : crcBit y = y / 2 := by unfold crcBit; rw [ha]; rfl
            rw [hcb] at hyb
            have HCB := Lib.hid hcb
            clear hcb
            have HN : Hid (Wrote w g 132 [.int .u32 (y / 2)] (wr.setCell ⟨g, 0, none⟩ (.int .u32 (y / 2)))) := hw2.out.trans (Wrote.sets hw2.out.1 0 _)
            go_wp2
            cases gk with
            | zero => exact absurd hq2.out (by omega)
            | succ k2 =>
              go_roundg k2
              case measure => omega
              case rel => exact ⟨k + 1, y / 2, by go_num, by omega, by have := hq2.out; show _ = _; omega, by show _ = _; rw [crcI, ← hy.out, HCB.out], hyb.1, hyb.2, HN.out⟩
          · have hcb : crcBit y = bits .xor .u32 (y / 2) 2197175160 := by unfold crcBit; rw [ha]; rfl
            rw [hcb] at hyb
            have HCB := Lib.hid hcb
            clear hcb
            have HN : Hid (Wrote w g 132 [.int .u32 (bits .xor .u32 (y / 2) 2197175160)] (wr.setCell ⟨g, 0, none⟩ (.int .u32 (bits .xor .u32 (y / 2) 2197175160)))) := hw2.out.trans (Wrote.sets hw2.out.1 0 _)
            go_wp2
            cases gk with
            | zero => exact absurd hq2.out (by omega)
            | succ k2 =>
              go_roundg k2
              case measure => omega
              case rel => exact ⟨k + 1, bits .xor .u32 (y / 2) 2197175160, by go_num, by omega, by have := hq2.out; show _ = _; omega, by show _ = _; rw [crcI, ← hy.out, HCB.out], hyb.1, hyb.2, HN.out⟩
        · obtain rfl : k = 8 := by omega
          have hys : Hid (y = (l.take (i + 1)).foldl crcByte s0) := by
            show _ = _
            rw [crc_step l i x s0 hl.out, ← hs.out, crcByte]
            exact hy.out
          go_wp2
          go_roundg gkO
          case measure => omega
          case rel => exact ⟨i + 1, y, by go_num, by omega, by have := hgk.out; show _ = _; omega, hys, hy0, hy1, hw2.out⟩
    · obtain rfl : i = n := by omega
      have hcl : l.take i = l := List.take_of_length_le (by have := HL.out; omega)
      go_wp2
      go_ret2
      exact ⟨rfl, by rw [← hcl, ← hs.out]; exact hw.out⟩
end Go.Proofs.YtbbncbjdpopkiaaDoor
