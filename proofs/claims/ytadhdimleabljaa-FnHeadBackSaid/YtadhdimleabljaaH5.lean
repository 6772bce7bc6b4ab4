/- Heads of records are read again: the rest. -/
import Derived.Test.YtadhdimleabljaaH4
namespace Go.Proofs.Ytadhdimleabljaa
open Go.RowKit
set_option linter.unusedVariables false
set_option linter.unusedSimpArgs false
theorem decodeHeader_any (g2 o n c : Nat) (k d e m u : Int) (rest : List Int) (w : World) (hs : Sl w (some ⟨g2, o, none⟩) n (nums .u8 (headB k d e m u ++ rest)))
    (hc : n ≤ c) (hn : n ≤ 1000000) (hr : Byt rest) (hk0 : 0 ≤ k) (hk : k ≤ 4294967295) (hd0 : 0 ≤ d) (hd : d ≤ 4294967295) (he0 : 0 ≤ e) (he : Hid (e ≤ 18446744073709551615)) :
    Calls Try.prog 120 #[.slice (some ⟨g2, o, none⟩) n c] w
      (Ret w (.tuple #[.int .u32 k, .int .u32 d, .int .u64 e, .int .u8 m, .int .u8 u, .int .i64 (headB k d e m u).length])) := by
  have hB : Blk (w.alloc (.cells #[.int .u32 0, .int .u32 0, .int .u64 0, .int .u8 0, .int .u8 0] 152)) w.heap.size 152 [.int .u32 0, .int .u32 0, .int .u64 0, .int .u8 0, .int .u8 0] := Blk.new _ _ _
  have HB := Lib.hid hB
  have hpos : 0 < n := by have h1 := hs.1; rw [nums_length, List.length_append] at h1; have := headB_len k d e m u hk hd; omega
  have hlt : g2 ≠ w.heap.size := by
    obtain ⟨g', o', u', e1, _, hcell⟩ := hs.at_ hpos
    injection e1 with e1
    injection e1 with e1 e2
    subst e1 e2
    have := World.block_lt_of_cell? w _ hcell
    simp at this
    omega
  have HS := Lib.hid (hs.alloc (.cells #[.int .u32 0, .int .u32 0, .int .u64 0, .int .u8 0, .int .u8 0] 152))
  clear hB hs
  go_enter Try.func120, Try.ntmps120
  go_wp2_with fail
  refine (headDecode_any w.heap.size 152 g2 o n c k d e m u rest _ _ _ _ _ _ HB.out HS.out hlt hc hn hr hk0 hk hd0 hd he0 he).mono ?_
  rintro E w1 ⟨rfl, hw1⟩
  have hb1 : Below w.heap.size w w1 := below_wrote (bl_alloc (Below.refl _ _) _) (Nat.le_refl _) (by simp) hw1
  have HB1 := Lib.hid hb1
  have q0 : w1.cell? ⟨w.heap.size, 0, none⟩ = some (.int .u32 k) := by rw [hw1.1.cell]; rfl
  have q1 : w1.cell? ⟨w.heap.size, 1, none⟩ = some (.int .u32 d) := by rw [hw1.1.cell]; rfl
  have q2 : w1.cell? ⟨w.heap.size, 2, none⟩ = some (.int .u64 e) := by rw [hw1.1.cell]; rfl
  have q3 : w1.cell? ⟨w.heap.size, 3, none⟩ = some (.int .u8 m) := by rw [hw1.1.cell]; rfl
  have q4 : w1.cell? ⟨w.heap.size, 4, none⟩ = some (.int .u8 u) := by rw [hw1.1.cell]; rfl
  clear hw1 hb1 HB HS hlt
  go_wp2_with fail
  go_quiet (fail)
  go_wp2
  exact bodyPost_ret (v := .tuple #[.int .u32 k, .int .u32 d, .int .u64 e, .int .u8 m, .int .u8 u, .int .i64 (headB k d e m u).length]) (by simp [results, Try.results120]) rfl ⟨rfl, by (repeat first | with_reducible exact Below.refl _ _ | with_reducible apply bl_drewN | with_reducible apply bl_drew | with_reducible apply bl_alloc | (with_reducible refine bl_trans ?_ (Hid.out (by assumption))))⟩
theorem implDecode_any (A : Option Addr) (n c : Nat) (k d e m u : Int) (rest : List Int) (w : World) (hs : Sl w A n (nums .u8 (headB k d e m u ++ rest)))
    (hn : n ≤ 1000000) (hr : Byt rest) (hk0 : 0 ≤ k) (hk : k ≤ 4294967295) (hd0 : 0 ≤ d) (hd : d ≤ 4294967295) (he0 : 0 ≤ e) (he : Hid (e ≤ 18446744073709551615)) :
    Calls Try.prog 68 #[.slice A n c] w (Ret w (.tuple #[.agg #[.int .u32 k, .int .u32 d, .int .u64 e, .int .u8 m, .int .u8 u], .int .i64 (headB k d e m u).length])) := by
  have HS := Lib.hid hs
  have hlen : (headB k d e m u ++ rest).length = n := by have := hs.1; rwa [nums_length] at this
  have hL := headB_len k d e m u hk hd
  obtain ⟨hL1, hL2⟩ := hL
  have HN := Lib.hid hlen
  clear hs hlen
  go_enter Try.func68, Try.ntmps68
  go_wp2_with fail
  refine (own_any A n c (headB k d e m u ++ rest) _ (HS.out.alloc _) (by omega)).mono ?_
  intro E w1 h1
  obtain ⟨A1, c1, rfl, hc1, hs1, hb1, ho1⟩ := h1.sv
  clear h1 ho1
  rw [HN.out] at hs1 hc1 ⊢
  obtain ⟨g2, o, rfl⟩ := hs1.out.addr (by have := HN.out; rw [List.length_append] at this; omega)
  have hb := blk_below (blk_new w (.cells #[.int .u32 0, .int .u32 0, .int .u64 0, .int .u8 0, .int .u8 0] 37)) hb1.out
  go_wp2_with fail
  refine (decodeHeader_any g2 o n c1 k d e m u rest w1 hs1.out hc1 hn hr hk0 hk hd0 hd he0 he).mono ?_
  rintro E w2 ⟨rfl, hb2⟩
  have HB2 := Lib.hid hb2
  have hq := blk_below hb hb2
  have p0 := cell_blk hq 0 (.int .u32 0) rfl
  have p1 := cell_blk hq 1 (.int .u32 0) rfl
  have p2 := cell_blk hq 2 (.int .u64 0) rfl
  have p3 := cell_blk hq 3 (.int .u8 0) rfl
  have p4 := cell_blk hq 4 (.int .u8 0) rfl
  have f0 := (show Blk w2 w.heap.size 37 [.int .u32 0, .int .u32 0, .int .u64 0, .int .u8 0, .int .u8 0] from hq).frozen 0
  have f1 := (show Blk w2 w.heap.size 37 [.int .u32 0, .int .u32 0, .int .u64 0, .int .u8 0, .int .u8 0] from hq).frozen 1
  have f2 := (show Blk w2 w.heap.size 37 [.int .u32 0, .int .u32 0, .int .u64 0, .int .u8 0, .int .u8 0] from hq).frozen 2
  have f3 := (show Blk w2 w.heap.size 37 [.int .u32 0, .int .u32 0, .int .u64 0, .int .u8 0, .int .u8 0] from hq).frozen 3
  have f4 := (show Blk w2 w.heap.size 37 [.int .u32 0, .int .u32 0, .int .u64 0, .int .u8 0, .int .u8 0] from hq).frozen 4
  clear hb hb2
  go_wp2
  refine bodyPost_ret (v := .tuple #[.agg #[.int .u32 k, .int .u32 d, .int .u64 e, .int .u8 m, .int .u8 u], .int .i64 (headB k d e m u).length]) (by simp [results, Try.results68, go_sem, p0, p1, p2, p3, p4]) rfl ⟨rfl, ?_⟩
  have hw2 : Below w.heap.size w w2 := by (repeat first | with_reducible exact Below.refl _ _ | with_reducible apply bl_drewN | with_reducible apply bl_drew | with_reducible apply bl_alloc | (with_reducible refine bl_trans ?_ (Hid.out (by assumption))))
  have e (i : Nat) : w.heap.size ≤ (⟨w.heap.size, i, none⟩ : Addr).block := Nat.le_refl _
  exact ((((hw2.setCell (e 0) _).setCell (e 1) _).setCell (e 2) _).setCell (e 3) _).setCell (e 4) _
end Go.Proofs.Ytadhdimleabljaa
