/- A new oracle. -/
import Derived.Test.YtanmgkpgfmkobaaOU
namespace Go.Proofs.Ytanmgkpgfmkobaa
open Go.RowKit
set_option linter.unusedVariables false
set_option linter.unusedSimpArgs false
set_option maxRecDepth 100000
theorem proc_zero : (OMk.mk [] 0).proc 0 (-1) = ⟨[], 0⟩ := by
  show popM [(0, -1)] 0 = _
  unfold popM
  rw [if_neg (by omega)]
  rfl
theorem newOracle_any (cf : Bool) (w : World) :
    Calls Try.prog 54 #[.bool cf] w fun E w' => ∃ p ow, E = .returned (.pointer (some ⟨p.P, 0, none⟩)) ∧ Ora w.heap.size 1 p cf ⟨oInit, ⟨[], 0⟩, []⟩ w' ow ∧ Below w.heap.size w w' := by
  go_enter Try.func54, Try.ntmps54
  go_wp2_with fail
  refine (newMark_any w.heap.size w (Nat.le_refl _)).mono ?_
  rintro E w1 ⟨rfl, hm2, hf1, hz1⟩
  have HM2 := Lib.hid hm2
  have HF1 := Lib.hid hf1
  have HZ1 := Lib.hid hz1
  clear hm2 hf1 hz1
  go_wp2_with fail
  refine (newMark_any w.heap.size w1 HF1.out.size).mono ?_
  rintro E w2 ⟨rfl, hm1, hf2, hz2⟩
  have HM1 := Lib.hid hm1
  have HM22 : Hid (MkS w2 w.heap.size (w.heap.size + 1) w.heap.size 0 (.slice none 0 0) [] 0) := HM2.out.frm hf2 (by simp)
  have HF2 : Hid (Frm [] w w2) := HF1.out.trans hf2 (fun b hb => by cases hb)
  have HZ2 : Hid (w2.heap.size = w.heap.size + 4) := by have := HZ1.out; rw [Hid]; omega
  rw [HZ1.out] at HM1
  have hz1 := HZ1.out
  rw [hz1]
  clear hm1 hf2 hz2 hz1 HM2 HF1 HZ1
  go_upto_region 2 with fail
  have hkO : Hid (Blk (w2.alloc (.cells #[.bool false, .bool cf, .int .u64 0, .pointer (some ⟨w.heap.size + 2 + 1, 0, none⟩), .int .u64 0, .pointer (some ⟨w.heap.size + 1, 0, none⟩), .slice none 0 0, .int .u64 0] 145)) w2.heap.size 145 [.bool false, .bool cf, .int .u64 0, .pointer (some ⟨w.heap.size + 2 + 1, 0, none⟩), .int .u64 0, .pointer (some ⟨w.heap.size + 1, 0, none⟩), .slice none 0 0, .int .u64 0]) := Blk.new w2 _ _
  have HM1a : Hid (MkS (w2.alloc (.cells #[.bool false, .bool cf, .int .u64 0, .pointer (some ⟨w.heap.size + 2 + 1, 0, none⟩), .int .u64 0, .pointer (some ⟨w.heap.size + 1, 0, none⟩), .slice none 0 0, .int .u64 0] 145)) w.heap.size (w.heap.size + 2 + 1) (w.heap.size + 2) 0 (.slice none 0 0) [] 0) := HM1.out.frm (Frm.alloc w2 _) (by simp)
  have HM2a : Hid (MkS (w2.alloc (.cells #[.bool false, .bool cf, .int .u64 0, .pointer (some ⟨w.heap.size + 2 + 1, 0, none⟩), .int .u64 0, .pointer (some ⟨w.heap.size + 1, 0, none⟩), .slice none 0 0, .int .u64 0] 145)) w.heap.size (w.heap.size + 1) w.heap.size 0 (.slice none 0 0) [] 0) := HM22.out.frm (Frm.alloc w2 _) (by simp)
  have HFa : Hid (Frm [] w (w2.alloc (.cells #[.bool false, .bool cf, .int .u64 0, .pointer (some ⟨w.heap.size + 2 + 1, 0, none⟩), .int .u64 0, .pointer (some ⟨w.heap.size + 1, 0, none⟩), .slice none 0 0, .int .u64 0] 145))) := HF2.out.andAlloc _
  have HZa : Hid ((w2.alloc (.cells #[.bool false, .bool cf, .int .u64 0, .pointer (some ⟨w.heap.size + 2 + 1, 0, none⟩), .int .u64 0, .pointer (some ⟨w.heap.size + 1, 0, none⟩), .slice none 0 0, .int .u64 0] 145)).heap.size = w.heap.size + 5) := by rw [Hid, World.size_alloc, HZ2.out]
  have hz2 := HZ2.out
  rw [hz2] at hkO
  rw [hz2]
  clear hz2 HZ2 HF2 HM1 HM22
  generalize w2.alloc (.cells #[.bool false, .bool cf, .int .u64 0, .pointer (some ⟨w.heap.size + 2 + 1, 0, none⟩), .int .u64 0, .pointer (some ⟨w.heap.size + 1, 0, none⟩), .slice none 0 0, .int .u64 0] 145) = wa at *
  have o3 : wa.cell? ⟨w.heap.size + 4, 3, none⟩ = some (.pointer (some ⟨w.heap.size + 2 + 1, 0, none⟩)) := hkO.out.at_ rfl
  have o2 : wa.cell? ⟨w.heap.size + 4, 2, none⟩ = some (.int .u64 0) := hkO.out.at_ rfl
  go_still_tail 8, (by kernel_rfl)
  change wpList _ _ _ _ _ wa.drew
  have hkOd : Hid (Blk wa.drew (w.heap.size + 4) 145 [.bool false, .bool cf, .int .u64 0, .pointer (some ⟨w.heap.size + 2 + 1, 0, none⟩), .int .u64 0, .pointer (some ⟨w.heap.size + 1, 0, none⟩), .slice none 0 0, .int .u64 0]) := hkO.out
  have HM1d : Hid (MkS wa.drew w.heap.size (w.heap.size + 2 + 1) (w.heap.size + 2) 0 (.slice none 0 0) [] 0) := HM1a.out.frm (Frm.refl [] wa).drew (by simp)
  have HM2d : Hid (MkS wa.drew w.heap.size (w.heap.size + 1) w.heap.size 0 (.slice none 0 0) [] 0) := HM2a.out.frm (Frm.refl [] wa).drew (by simp)
  have HFd : Hid (Frm [] w wa.drew) := HFa.out.drew
  have HZd : Hid (wa.drew.heap.size = w.heap.size + 5) := HZa.out
  clear o3 o2 hkO HM1a HM2a HFa HZa
  generalize wa.drew = wd at *
  have HD : Hid (Calls Try.prog 84 #[.pointer (some ⟨w.heap.size + 2 + 1, 0, none⟩), .int .u64 0] wd (ProcP w.heap.size (w.heap.size + 2 + 1) (w.heap.size + 2) 0 (.slice none 0 0) ((OMk.mk [] 0).proc 0 (-1)) wd)) :=
    done_any (i := 0) (m := ⟨[], 0⟩) HM1d.out (MB.nil 0 0) (by omega) (by omega) (by omega) (by have := HZd.out; omega)
  rw [proc_zero] at HD
  go_wp2_with fail
  refine HD.out.mono ?_
  rintro E w3 ⟨rfl, v1, hmk1, hf3, hat3⟩
  have HMK1 := Lib.hid hmk1
  have HAT1 : Hid (∀ k ∈ v1.ownBlock.toList, w.heap.size + 5 ≤ k) := fun k hk => by
    rcases hat3 k hk with h | h
    · cases h
    · have := HZd.out; omega
  have hk3 : Hid (Blk w3 (w.heap.size + 4) 145 [.bool false, .bool cf, .int .u64 0, .pointer (some ⟨w.heap.size + 2 + 1, 0, none⟩), .int .u64 0, .pointer (some ⟨w.heap.size + 1, 0, none⟩), .slice none 0 0, .int .u64 0]) := hkOd.out.frm hf3 (by simp only [footM, Value.ownBlock, Option.toList_none, List.mem_cons, List.not_mem_nil, or_false]; omega)
  have HM23 : Hid (MkS w3 w.heap.size (w.heap.size + 1) w.heap.size 0 (.slice none 0 0) [] 0) := HM2d.out.frm hf3 (fun k hk => by simp only [footM, Value.ownBlock, Option.toList_none, List.mem_cons, List.not_mem_nil, or_false] at hk ⊢; omega)
  have HF3 : Hid (Frm [] w w3) := HFd.out.trans hf3 (fun b hb => .inr (by simp only [footM, Value.ownBlock, Option.toList_none, List.mem_cons, List.not_mem_nil, or_false] at hb; omega))
  have HZ3 : Hid (w.heap.size + 5 ≤ w3.heap.size) := by have h1 := hf3.size; have h2 := HZd.out; rw [Hid]; omega
  clear hmk1 hf3 hat3 hkOd HM1d HM2d HFd HZd HD
  go_upto_region 3 with fail
  have o5 : w3.cell? ⟨w.heap.size + 4, 5, none⟩ = some (.pointer (some ⟨w.heap.size + 1, 0, none⟩)) := hk3.out.at_ rfl
  have o2 : w3.cell? ⟨w.heap.size + 4, 2, none⟩ = some (.int .u64 0) := hk3.out.at_ rfl
  go_still_tail 8, (by kernel_rfl)
  change wpList _ _ _ _ _ w3.drew
  have hk3d : Hid (Blk w3.drew (w.heap.size + 4) 145 [.bool false, .bool cf, .int .u64 0, .pointer (some ⟨w.heap.size + 2 + 1, 0, none⟩), .int .u64 0, .pointer (some ⟨w.heap.size + 1, 0, none⟩), .slice none 0 0, .int .u64 0]) := hk3.out
  have HM1d : Hid (MkS w3.drew w.heap.size (w.heap.size + 2 + 1) (w.heap.size + 2) 1 v1 [] 0) := HMK1.out.frm (L := []) (Frm.refl [] w3).drew (by simp)
  have HM2d : Hid (MkS w3.drew w.heap.size (w.heap.size + 1) w.heap.size 0 (.slice none 0 0) [] 0) := HM23.out.frm (Frm.refl [] w3).drew (by simp)
  have HFd : Hid (Frm [] w w3.drew) := HF3.out.drew
  have HZd : Hid (w3.drew.heap.size = w3.heap.size) := rfl
  have HL1 : Hid (∀ k ∈ footM (w.heap.size + 2 + 1) (w.heap.size + 2) v1, k < w3.heap.size) := HMK1.out.lt
  clear o5 o2 hk3 HMK1 HM23 HF3
  generalize w3.drew = we at *
  have HD : Hid (Calls Try.prog 84 #[.pointer (some ⟨w.heap.size + 1, 0, none⟩), .int .u64 0] we (ProcP w.heap.size (w.heap.size + 1) w.heap.size 0 (.slice none 0 0) ((OMk.mk [] 0).proc 0 (-1)) we)) :=
    done_any (i := 0) (m := ⟨[], 0⟩) HM2d.out (MB.nil 0 0) (by omega) (by omega) (by omega) HFd.out.size
  rw [proc_zero] at HD
  go_wp2_with fail
  refine HD.out.mono ?_
  rintro E w4 ⟨rfl, v2, hmk2, hf4, hat4⟩
  have HMK2 := Lib.hid hmk2
  have HAT2 : Hid (∀ k ∈ v2.ownBlock.toList, w3.heap.size ≤ k) := fun k hk => by
    rcases hat4 k hk with h | h
    · cases h
    · have := HZd.out; omega
  have hk4 : Hid (Blk w4 (w.heap.size + 4) 145 [.bool false, .bool cf, .int .u64 0, .pointer (some ⟨w.heap.size + 2 + 1, 0, none⟩), .int .u64 0, .pointer (some ⟨w.heap.size + 1, 0, none⟩), .slice none 0 0, .int .u64 0]) := hk3d.out.frm hf4 (by simp only [footM, Value.ownBlock, Option.toList_none, List.mem_cons, List.not_mem_nil, or_false]; omega)
  have HM14 : Hid (MkS w4 w.heap.size (w.heap.size + 2 + 1) (w.heap.size + 2) 1 v1 [] 0) := HM1d.out.frm hf4 (fun k hk => by
    have h1 : k = w.heap.size + 2 + 1 ∨ k = w.heap.size + 2 ∨ k ∈ v1.ownBlock.toList := by simpa [footM] using hk
    have h2 : k ∈ v1.ownBlock.toList → w.heap.size + 5 ≤ k := HAT1.out k
    simp only [footM, Value.ownBlock, Option.toList_none, List.mem_cons, List.not_mem_nil, or_false]
    rcases h1 with h1 | h1 | h1
    · omega
    · omega
    · have := h2 h1; omega)
  have HF4 : Hid (Frm [] w w4) := HFd.out.trans hf4 (fun b hb => .inr (by simp only [footM, Value.ownBlock, Option.toList_none, List.mem_cons, List.not_mem_nil, or_false] at hb; omega))
  have HZ4 : Hid (w3.heap.size ≤ w4.heap.size) := by have h1 := hf4.size; have h2 := HZd.out; rw [Hid]; omega
  clear hmk2 hf4 hat4 hk3d HM1d HM2d HFd HD
  go_wp2_with fail
  refine (incrementNextTs_any (w.heap.size + 4) _ w4 hk4.out rfl).mono ?_
  rintro E w5 ⟨rfl, rfl⟩
  have hfs : Hid (Frm [w.heap.size + 4] w4 (w4.setCell ⟨w.heap.size + 4, 2, none⟩ (.int .u64 1))) := Frm.set w4 ⟨w.heap.size + 4, 2, none⟩ _
  have hk5 := Lib.hid (hk4.out.set_ 2 (.int .u64 1))
  have HL2 : Hid (∀ k ∈ footM (w.heap.size + 1) w.heap.size v2, k < w4.heap.size) := HMK2.out.lt
  have HM15 : Hid (MkS (w4.setCell ⟨w.heap.size + 4, 2, none⟩ (.int .u64 1)) w.heap.size (w.heap.size + 2 + 1) (w.heap.size + 2) 1 v1 [] 0) := HM14.out.frm hfs.out (fun k hk => by
    have h1 : k = w.heap.size + 2 + 1 ∨ k = w.heap.size + 2 ∨ k ∈ v1.ownBlock.toList := by simpa [footM] using hk
    have h2 : k ∈ v1.ownBlock.toList → w.heap.size + 5 ≤ k := HAT1.out k
    rw [List.mem_singleton]
    rcases h1 with h1 | h1 | h1
    · omega
    · omega
    · have := h2 h1; omega)
  have HM25 : Hid (MkS (w4.setCell ⟨w.heap.size + 4, 2, none⟩ (.int .u64 1)) w.heap.size (w.heap.size + 1) w.heap.size 1 v2 [] 0) := HMK2.out.frm hfs.out (fun k hk => by
    have h1 : k = w.heap.size + 1 ∨ k = w.heap.size ∨ k ∈ v2.ownBlock.toList := by simpa [footM] using hk
    have h2 : k ∈ v2.ownBlock.toList → w3.heap.size ≤ k := HAT2.out k
    have h3 := HZ3.out
    rw [List.mem_singleton]
    rcases h1 with h1 | h1 | h1
    · omega
    · omega
    · have := h2 h1; omega)
  have HF5 : Hid (Frm [] w (w4.setCell ⟨w.heap.size + 4, 2, none⟩ (.int .u64 1))) := HF4.out.trans hfs.out (fun b hb => .inr (by rw [List.mem_singleton] at hb; omega))
  have HZ5 : Hid ((w4.setCell ⟨w.heap.size + 4, 2, none⟩ (.int .u64 1)).heap.size = w4.heap.size) := by simp [Hid, World.setCell]
  clear hk4 HMK2 HM14 HF4 hfs
  generalize w4.setCell ⟨w.heap.size + 4, 2, none⟩ (.int .u64 1) = w5 at *
  go_wp2
  go_ret
  have hz5 := HZ5.out
  have hz4 := HZ4.out
  have hz3 := HZ3.out
  have G1 : ∀ k ∈ footM (w.heap.size + 2 + 1) (w.heap.size + 2) v1, (k = w.heap.size + 3 ∨ k = w.heap.size + 2 ∨ w.heap.size + 5 ≤ k) ∧ k < w3.heap.size := fun k hk => by
    refine ⟨?_, HL1.out k hk⟩
    have h1 : k = w.heap.size + 2 + 1 ∨ k = w.heap.size + 2 ∨ k ∈ v1.ownBlock.toList := by simpa [footM] using hk
    rcases h1 with h1 | h1 | h1
    · exact .inl (by omega)
    · exact .inr (.inl h1)
    · exact .inr (.inr (HAT1.out k h1))
  have G2 : ∀ k ∈ footM (w.heap.size + 1) w.heap.size v2, (k = w.heap.size + 1 ∨ k = w.heap.size ∨ w3.heap.size ≤ k) ∧ k < w4.heap.size := fun k hk => by
    refine ⟨?_, HL2.out k hk⟩
    have h1 : k = w.heap.size + 1 ∨ k = w.heap.size ∨ k ∈ v2.ownBlock.toList := by simpa [footM] using hk
    rcases h1 with h1 | h1 | h1
    · exact .inl h1
    · exact .inr (.inl h1)
    · exact .inr (.inr (HAT2.out k h1))
  have hsP : (w5.alloc (.cells #[.pointer (some ⟨w.heap.size + 4, 0, none⟩)] 147)).heap.size = w4.heap.size + 1 := by rw [World.size_alloc, hz5]
  have hkP := Blk.new w5 147 [.pointer (some ⟨w.heap.size + 4, 0, none⟩)]
  refine ⟨⟨w5.heap.size, w.heap.size + 4, w.heap.size + 2 + 1, w.heap.size + 2, w.heap.size + 1, w.heap.size⟩, fun b => if b ∈ footM (w.heap.size + 2 + 1) (w.heap.size + 2) v1 then 2 else if b ∈ footM (w.heap.size + 1) w.heap.size v2 then 3 else if b = w.heap.size + 4 ∨ b = w5.heap.size then 1 else 0, rfl, ⟨?_, fun b hb => ?_, fun b hb => ?_, rfl, fun k => ?_⟩, ?_⟩
  · rw [hsP]; omega
  · show (if _ then _ else if _ then _ else if _ then _ else _) = 0
    rw [if_neg (fun h => by have := G1 b h; omega), if_neg (fun h => by have := G2 b h; omega), if_neg (by omega)]
  · have hb : w4.heap.size + 1 ≤ b := by rw [← hsP]; exact hb
    show (if _ then _ else if _ then _ else if _ then _ else _) = 0
    rw [if_neg (fun h => by have := G1 b h; omega), if_neg (fun h => by have := G2 b h; omega), if_neg (by omega)]
  · match k with
    | 0 => trivial
    | 1 =>
      refine ⟨.slice none 0 0, hkP, ?_, ⟨rfl, .inl ⟨rfl, rfl⟩⟩, (fun c hc => by cases hc), fun b hb => ?_⟩
      · exact hk5.out.alloc _
      · have hb : b = w5.heap.size ∨ b = w.heap.size + 4 := by simpa [Value.ownBlock] using hb
        show (if _ then _ else if _ then _ else if _ then _ else _) = 1
        rw [if_neg (fun h => by have := G1 b h; omega), if_neg (fun h => by have := G2 b h; omega), if_pos (by omega)]
    | 2 => exact ⟨v1, HM15.out.frm (L := []) (Frm.alloc w5 _) (by simp), fun b hb => if_pos hb⟩
    | 3 =>
      refine ⟨v2, HM25.out.frm (L := []) (Frm.alloc w5 _) (by simp), fun b hb => ?_⟩
      show (if _ then _ else if _ then _ else if _ then _ else _) = 3
      rw [if_neg (fun h => by have := G1 b h; have := G2 b hb; omega), if_pos hb]
    | t + 4 => exact fun x q hx hq => by cases hx
  · exact (HF5.out.andAlloc _).below (Nat.le_refl _) (fun i hi => by cases hi)
end Go.Proofs.Ytanmgkpgfmkobaa
