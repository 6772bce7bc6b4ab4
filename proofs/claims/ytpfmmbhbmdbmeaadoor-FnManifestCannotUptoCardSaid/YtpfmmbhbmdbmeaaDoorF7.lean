/- The same changes. -/
import Derived.Test.YtpfmmbhbmdbmeaaDoorF2
import Derived.Test.YtpfmmbhbmdbmeaaDoorPB
import Derived.Stop.LaidErr
namespace Go.Proofs.YtpfmmbhbmdbmeaaDoor
open Go.Proofs.YtpfmmbhbmdbmeaaDoorW.PrintLast
open Go.RowKit
set_option linter.unusedVariables false
set_option linter.unusedSimpArgs false
set_option maxRecDepth 100000 in
theorem sameChanges_any (A B : Option Addr) (n c d : Nat) (l : List Chg) (w : World) (h : Slc w A n l) (k : Slc w B n l) (hn : n ≤ 1000000) :
    Calls Tryd.prog 23 #[.slice A n c, .slice B n d] w (Ret w (.bool true)) := by
  have H : Hid (Slc w A n l) := h
  have K2 : Hid (Slc w B n l) := k
  clear h k
  go_enter Tryd.func23, Tryd.ntmps23
  go_wp2
  go_loopg [14] n (fun q v14 wr => ∃ (i : Nat), v14 = .int .i64 i ∧ i ≤ n ∧ Hid (i + q = n) ∧ Hid (Below w.heap.size w wr))
  case atStart => exact ⟨0, rfl, by omega, by simp [Hid], Below.refl _ _⟩
  case round =>
    obtain ⟨i, rfl, hi1, hq, hbl⟩ := hrel
    by_cases h1 : i < n
    · obtain ⟨gkO, rfl⟩ : ∃ q, gk = q + 1 := ⟨gk - 1, by have := hq.out; omega⟩
      obtain ⟨gA, oA, x, rfl, hx, a0, a1, a2, a3, a4⟩ := (H.out.below hbl.out).num h1
      obtain ⟨gB, oB, y, rfl, hy, b0, b1, b2, b3, b4⟩ := (K2.out.below hbl.out).num h1
      obtain rfl : x = y := Option.some.inj (hx.out.symm.trans hy.out)
      clear hy
      have hk := Lib.hid (Blk.new wr 45 x.cells)
      have z0 : (wr.alloc (.cells #[.int .u64 x.id, .bool x.gone, .int .u32 x.level, .int .u64 x.keyId, .int .u32 x.comp] 45)).cell? ⟨wr.heap.size, 0, none⟩ = some (.int .u64 x.id) := by have := hk.out.cell 0; exact this
      have z1 : (wr.alloc (.cells #[.int .u64 x.id, .bool x.gone, .int .u32 x.level, .int .u64 x.keyId, .int .u32 x.comp] 45)).cell? ⟨wr.heap.size, 1, none⟩ = some (.bool x.gone) := by have := hk.out.cell 1; exact this
      have z2 : (wr.alloc (.cells #[.int .u64 x.id, .bool x.gone, .int .u32 x.level, .int .u64 x.keyId, .int .u32 x.comp] 45)).cell? ⟨wr.heap.size, 2, none⟩ = some (.int .u32 x.level) := by have := hk.out.cell 2; exact this
      have z3 : (wr.alloc (.cells #[.int .u64 x.id, .bool x.gone, .int .u32 x.level, .int .u64 x.keyId, .int .u32 x.comp] 45)).cell? ⟨wr.heap.size, 3, none⟩ = some (.int .u64 x.keyId) := by have := hk.out.cell 3; exact this
      have z4 : (wr.alloc (.cells #[.int .u64 x.id, .bool x.gone, .int .u32 x.level, .int .u64 x.keyId, .int .u32 x.comp] 45)).cell? ⟨wr.heap.size, 4, none⟩ = some (.int .u32 x.comp) := by have := hk.out.cell 4; exact this
      have y0 := cell?_alloc_old (.cells #[.int .u64 x.id, .bool x.gone, .int .u32 x.level, .int .u64 x.keyId, .int .u32 x.comp] 45) b0
      have y1 := cell?_alloc_old (.cells #[.int .u64 x.id, .bool x.gone, .int .u32 x.level, .int .u64 x.keyId, .int .u32 x.comp] 45) b1
      have y2 := cell?_alloc_old (.cells #[.int .u64 x.id, .bool x.gone, .int .u32 x.level, .int .u64 x.keyId, .int .u32 x.comp] 45) b2
      have y3 := cell?_alloc_old (.cells #[.int .u64 x.id, .bool x.gone, .int .u32 x.level, .int .u64 x.keyId, .int .u32 x.comp] 45) b3
      have y4 := cell?_alloc_old (.cells #[.int .u64 x.id, .bool x.gone, .int .u32 x.level, .int .u64 x.keyId, .int .u32 x.comp] 45) b4
      have hb2 : Hid (Below w.heap.size w (wr.alloc (.cells #[.int .u64 x.id, .bool x.gone, .int .u32 x.level, .int .u64 x.keyId, .int .u32 x.comp] 45)).drew) := (hbl.out.alloc hbl.out.size _).drew
      go_wp2_with fail
      refine start_ (n := 6) (S := fun w' => w'.cell? ⟨wr.heap.size, 0, none⟩ = some (.int .u64 x.id) ∧ w'.cell? ⟨wr.heap.size, 1, none⟩ = some (.bool x.gone) ∧ w'.cell? ⟨wr.heap.size, 2, none⟩ = some (.int .u32 x.level) ∧ w'.cell? ⟨wr.heap.size, 3, none⟩ = some (.int .u64 x.keyId) ∧ w'.cell? ⟨wr.heap.size, 4, none⟩ = some (.int .u32 x.comp) ∧ w'.cell? ⟨gB, oB + i * 5, none⟩ = some (.int .u64 x.id) ∧ w'.cell? ⟨gB, oB + i * 5 + 1, none⟩ = some (.bool x.gone) ∧ w'.cell? ⟨gB, oB + i * 5 + 2, none⟩ = some (.int .u32 x.level) ∧ w'.cell? ⟨gB, oB + i * 5 + 3, none⟩ = some (.int .u64 x.keyId) ∧ w'.cell? ⟨gB, oB + i * 5 + 4, none⟩ = some (.int .u32 x.comp)) (ds := []) #[ff,ff,ff,ff,ff,ff] (by kernel_rfl) rfl rfl (⟨z0, z1, z2, z3, z4, y0, y1, y2, y3, y4⟩) (fun hHeld => ?_)
      clear z0 z1 z2 z3 z4 y0 y1 y2 y3 y4 hk a0 a1 a2 a3 a4 b0 b1 b2 b3 b4
      refine take_ (i := 0) (N := some 19) (v := ?_) (a' := ?_) #[tt,ff,ff,ff,ff,ff] rfl rfl (by kernel_rfl) (fun _ _ _ h => h) (Or.inl ⟨by rfl, ?_⟩) hHeld ?_ ?_; rotate_left; (rintro w' ⟨z0, z1, z2, z3, z4, y0, y1, y2, y3, y4⟩; go_simp; with_reducible rfl); rotate_left; (simp only [Act.put, List.setIfInBounds_toArray, List.set_cons_zero, List.set_cons_succ, i64_w, i32_w]; rfl)
      refine pure_ (i := 1) (N := some 20) (v := ?_) (a' := ?_) #[tt,tt,ff,ff,ff,ff] rfl rfl (by kernel_rfl) (fun _ _ _ h => h) (Or.inl ⟨by rfl, ?_⟩) ?_ ?_; rotate_left; (intro w'; go_simp; with_reducible rfl); rotate_left; (simp only [Act.put, List.setIfInBounds_toArray, List.set_cons_zero, List.set_cons_succ, i64_w, i32_w]; rfl)
      refine pure_ (i := 2) (N := some 21) (v := ?_) (a' := ?_) #[tt,tt,tt,ff,ff,ff] rfl rfl (by kernel_rfl) (fun _ _ _ h => h) (Or.inl ⟨by rfl, ?_⟩) ?_ ?_; rotate_left; (intro w'; go_simp; with_reducible rfl); rotate_left; (simp only [Act.put, List.setIfInBounds_toArray, List.set_cons_zero, List.set_cons_succ, i64_w, i32_w]; rfl)
      refine pure_ (i := 3) (N := some 22) (v := ?_) (a' := ?_) #[tt,tt,tt,tt,ff,ff] rfl rfl (by kernel_rfl) (fun _ _ _ h => h) (Or.inl ⟨by rfl, ?_⟩) ?_ ?_; rotate_left; (intro w'; go_simp; with_reducible rfl); rotate_left; (simp only [Act.put, List.setIfInBounds_toArray, List.set_cons_zero, List.set_cons_succ, i64_w, i32_w]; rfl)
      refine take_ (i := 4) (N := some 23) (v := ?_) (a' := ?_) #[tt,tt,tt,tt,tt,ff] rfl rfl (by kernel_rfl) (fun _ _ _ h => h) (Or.inl ⟨by rfl, ?_⟩) hHeld ?_ ?_; rotate_left; (rintro w' ⟨z0, z1, z2, z3, z4, y0, y1, y2, y3, y4⟩; go_simp; with_reducible rfl); rotate_left; (simp only [Act.put, List.setIfInBounds_toArray, List.set_cons_zero, List.set_cons_succ, i64_w, i32_w]; rfl)
      refine pure_ (i := 5) (N := some 24) (v := ?_) (a' := ?_) #[tt,tt,tt,tt,tt,tt] rfl rfl (by kernel_rfl) (fun _ _ _ h => h) (Or.inl ⟨by rfl, ?_⟩) ?_ ?_; rotate_left; (intro w'; go_simp; with_reducible rfl); rotate_left; (simp only [Act.put, List.setIfInBounds_toArray, List.set_cons_zero, List.set_cons_succ, i64_w, i32_w]; rfl)
      refine done_ (by kernel_rfl) ?_
      go_wp2
      clear hHeld
      go_roundg gkO
      case measure => omega
      case rel => exact ⟨i + 1, by go_num, by omega, by have := hq.out; show _ = _; omega, hb2⟩
    · obtain rfl : i = n := by omega
      go_wp2
      go_ret
      exact ⟨rfl, hbl.out⟩
end Go.Proofs.YtpfmmbhbmdbmeaaDoor
