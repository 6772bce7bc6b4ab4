/- Changes in bytes. -/
import Derived.Test.YtpfmmbhbmdbmeaaDoorF2
import Derived.Stop.LaidErr
namespace Go.Proofs.YtpfmmbhbmdbmeaaDoor
open Go.Proofs.YtpfmmbhbmdbmeaaDoorW.PrintLast
open Go.RowKit
set_option linter.unusedVariables false
set_option linter.unusedSimpArgs false
/-- A change in bytes, and changes. -/
def chgB (c : Chg) : List Int := fieldB 8 c.id ++ fieldB 16 c.op ++ fieldB 24 c.level ++ fieldB 32 c.keyId ++ fieldB 48 c.comp
def chgR (c : Chg) : List Int := 10 :: vint 9 (chgB c).length ++ chgB c
def chgsB (l : List Chg) : List Int := l.flatMap chgR
/-- The words of a change are what its types hold. -/
def Chg.ok (c : Chg) : Prop := (0 ≤ c.id ∧ c.id ≤ 18446744073709551615) ∧ (0 ≤ c.level ∧ c.level ≤ 4294967295) ∧ (0 ≤ c.keyId ∧ c.keyId ≤ 18446744073709551615) ∧ (0 ≤ c.comp ∧ c.comp ≤ 4294967295)
/-- The words of a change as they are written, and the bytes of the first ones. -/
def fv (c : Chg) : List Int := [c.id, c.op, c.level, c.keyId, 0, c.comp]
def fld (c : Chg) : Nat → List Int
  | 0 => []
  | j + 1 => fld c j ++ fieldB (((j : Int) + 1) * 8) ((fv c).getD j 0)
theorem fieldB_len (k v : Int) : (fieldB k v).length ≤ 11 := by
  unfold fieldB
  split
  · simp
  · have := vint_len 9 v
    rw [List.length_cons]
    omega
theorem fld_len (c : Chg) (j : Nat) : (fld c j).length ≤ 11 * j := by
  induction j with
  | zero => simp [fld]
  | succ j ih =>
    have := fieldB_len (((j : Int) + 1) * 8) ((fv c).getD j 0)
    rw [fld, List.length_append]
    omega
theorem fld_six (c : Chg) : fld c 6 = chgB c := by simp [fld, fv, chgB, fieldB]
theorem chgB_len (c : Chg) : (chgB c).length ≤ 66 := by
  rw [← fld_six]
  exact fld_len c 6
theorem chgsB_len (l : List Chg) : (chgsB l).length ≤ 77 * l.length := by
  induction l with
  | nil => simp [chgsB]
  | cons d l ih =>
    have h1 := chgB_len d
    have h2 := vint_len 9 (chgB d).length
    have e : (chgsB (d :: l)).length = 1 + (vint 9 (chgB d).length).length + (chgB d).length + (chgsB l).length := by simp [chgsB, chgR]; omega
    rw [e, List.length_cons]
    omega
theorem chgsB_snoc (l : List Chg) (d : Chg) : chgsB (l ++ [d]) = chgsB l ++ [10] ++ vint 9 (chgB d).length ++ chgB d := by simp [chgsB, chgR]
theorem sl_grown {w w' : World} {A : Option Addr} {n : Nat} {xs : List Value} {row : Option Nat} (h : Sl w A n xs) (hg : w.grownBy w' row) (hne : ∀ g o, A = some ⟨g, o, none⟩ → row ≠ some g) : Sl w' A n xs :=
  ⟨h.1, fun hn => by
    obtain ⟨g, o, e, hc⟩ := h.2 hn
    exact ⟨g, o, e, fun j u hu => cell_appF hg (hne g o e) (hc j u hu)⟩⟩
theorem six_alloc {w : World} {p0 p1 p2 p3 p4 p5 : Addr} {v0 v1 v2 v3 v4 v5 : Value} (o : Obj) (h : w.cell? p0 = some v0 ∧ w.cell? p1 = some v1 ∧ w.cell? p2 = some v2 ∧ w.cell? p3 = some v3 ∧ w.cell? p4 = some v4 ∧ w.cell? p5 = some v5) :
    (w.alloc o).cell? p0 = some v0 ∧ (w.alloc o).cell? p1 = some v1 ∧ (w.alloc o).cell? p2 = some v2 ∧ (w.alloc o).cell? p3 = some v3 ∧ (w.alloc o).cell? p4 = some v4 ∧ (w.alloc o).cell? p5 = some v5 := by
  obtain ⟨e0, e1, e2, e3, e4, e5⟩ := h
  exact ⟨cell?_alloc_old _ e0, cell?_alloc_old _ e1, cell?_alloc_old _ e2, cell?_alloc_old _ e3, cell?_alloc_old _ e4, cell?_alloc_old _ e5⟩
set_option maxRecDepth 100000 in
theorem marshal_any (b g : Nat) (V : Value) (A : Option Addr) (n c : Nat) (gs : List Nat) (l : List Chg) (w : World) (h : Sl w A n (ptrV gs)) (hs : w.cell? ⟨g, 0, none⟩ = some (.slice A n c)) (hp : Ptrs w b gs l) (hok : ∀ c ∈ l, Chg.ok c) (hn : n ≤ 1000) :
    Calls Tryd.prog 24 #[.pointer (some ⟨g, 0, none⟩)] w (Made w 5 (nums .u8 (chgsB l))) := by
  have H : Hid (Sl w A n (ptrV gs)) := h
  have HP : Hid (Ptrs w b gs l) := hp
  have HK : Hid (∀ c ∈ l, Chg.ok c) := hok
  clear h hp hok
  go_enter Tryd.func24, Tryd.ntmps24
  go_wp2
  go_loopg [3, 16] n (fun q v3 v16 wr => ∃ (i : Nat), v16 = .int .i64 i ∧ i ≤ n ∧ Hid (i + q = n) ∧ Hid (wr.ownsRow w.heap.size 5 1 v3 (chgsB (l.take i)).length (nums .u8 (chgsB (l.take i)))) ∧ Hid (Below w.heap.size w wr))
  case atStart => exact ⟨0, rfl, by omega, by simp [Hid], World.ownsRow_nil _ _ _ _, Below.refl _ _⟩
  case round =>
    obtain ⟨i, rfl, hi1, hq, ho, hbl⟩ := hrel
    by_cases h1 : i < n
    · obtain ⟨gkO, rfl⟩ : ∃ q, gk = q + 1 := ⟨gk - 1, by have := hq.out; omega⟩
      obtain ⟨d, gi, hd, hgi⟩ : ∃ d gi, l[i]? = some d ∧ gs[i]? = some gi := by
        have e1 := HP.out.1
        have e2 := H.out.1
        rw [ptrV, List.length_map] at e2
        exact ⟨_, _, List.getElem?_eq_getElem (by omega), List.getElem?_eq_getElem (by omega)⟩
      obtain ⟨hb0, hblk0⟩ := HP.out.2 i gi d hgi hd
      have hblk : Hid (Blk wr gi 76 d.row) := hblk0.below hbl.out hblk0.lt
      clear hb0 hblk0
      obtain ⟨ga, oa, u, rfl, hu, hcell⟩ := (H.out.below hbl.out).at_ h1
      have hu2 : u = .pointer (some ⟨gi, 0, none⟩) := by
        rw [ptrV, List.getElem?_map, hgi] at hu
        exact (Option.some.inj hu).symm
      subst hu2
      clear hu
      have hc := hblk.out
      have hdo := HK.out d (List.mem_of_getElem? hd)
      obtain ⟨⟨i0, i1⟩, ⟨l0, l1⟩, ⟨k0, k1⟩, ⟨c0, c1⟩⟩ := hdo
      have hop : d.op = 0 ∨ d.op = 1 := by unfold Chg.op; split <;> simp
      have hw0 : IntKind.u64.wrap d.op = d.op := by rcases hop with h | h <;> rw [h] <;> rfl
      have hw1 : IntKind.u64.wrap d.level = d.level := wrapU64 _ l0 (by omega)
      have hw2 : IntKind.u64.wrap d.comp = d.comp := wrapU64 _ c0 (by omega)
      have e0 : wr.cell? ⟨gi, 0, none⟩ = some (.int .u64 d.id) := by rw [hc.cell]; rfl
      have e1 : wr.cell? ⟨gi, 1, none⟩ = some (.int .i32 d.op) := by rw [hc.cell]; rfl
      have e2 : wr.cell? ⟨gi, 2, none⟩ = some (.int .u32 d.level) := by rw [hc.cell]; rfl
      have e3 : wr.cell? ⟨gi, 3, none⟩ = some (.int .u64 d.keyId) := by rw [hc.cell]; rfl
      have e4 : wr.cell? ⟨gi, 4, none⟩ = some (.int .i32 0) := by rw [hc.cell]; rfl
      have e5 : wr.cell? ⟨gi, 5, none⟩ = some (.int .u32 d.comp) := by rw [hc.cell]; rfl
      clear hc
      go_wp2_with fail
      refine start_ (n := 31) (S := fun w' => w'.cell? ⟨gi, 0, none⟩ = some (.int .u64 d.id) ∧ w'.cell? ⟨gi, 1, none⟩ = some (.int .i32 d.op) ∧ w'.cell? ⟨gi, 2, none⟩ = some (.int .u32 d.level) ∧ w'.cell? ⟨gi, 3, none⟩ = some (.int .u64 d.keyId) ∧ w'.cell? ⟨gi, 4, none⟩ = some (.int .i32 0) ∧ w'.cell? ⟨gi, 5, none⟩ = some (.int .u32 d.comp)) (ds := []) #[ff,ff,ff,ff,ff,ff,ff,ff,ff,ff,ff,ff,ff,ff,ff,ff,ff,ff,ff,ff,ff,ff,ff,ff,ff,ff,ff,ff,ff,ff,ff] (by kernel_rfl) rfl rfl (⟨e0, e1, e2, e3, e4, e5⟩) (fun hHeld => ?_)
      have hb6 : Hid (Below w.heap.size w wr.drew) := hbl.out.drew
      have ho6 : Hid (wr.drew.ownsRow w.heap.size 5 1 u3 (chgsB (l.take i)).length (nums .u8 (chgsB (l.take i)))) := ho.out
      clear e0 e1 e2 e3 e4 e5 ho hbl hblk hcell
      generalize wr.drew = w6 at *
      refine pure_ (i := 0) (N := some 20) (v := ?_) (a' := ?_) #[tt,ff,ff,ff,ff,ff,ff,ff,ff,ff,ff,ff,ff,ff,ff,ff,ff,ff,ff,ff,ff,ff,ff,ff,ff,ff,ff,ff,ff,ff,ff] rfl rfl (by kernel_rfl) (fun _ _ _ h => h) (Or.inl ⟨by rfl, ?_⟩) ?_ ?_; rotate_left; (intro w'; go_simp; with_reducible rfl); rotate_left; (simp only [Act.put, List.setIfInBounds_toArray, List.set_cons_zero, List.set_cons_succ, i64_w, i32_w]; rfl)
      refine pure_ (i := 1) (N := some 21) (v := ?_) (a' := ?_) #[tt,tt,ff,ff,ff,ff,ff,ff,ff,ff,ff,ff,ff,ff,ff,ff,ff,ff,ff,ff,ff,ff,ff,ff,ff,ff,ff,ff,ff,ff,ff] rfl rfl (by kernel_rfl) (fun _ _ _ h => h) (Or.inl ⟨by rfl, ?_⟩) ?_ ?_; rotate_left; (intro w'; go_simp; with_reducible rfl); rotate_left; (simp only [Act.put, List.setIfInBounds_toArray, List.set_cons_zero, List.set_cons_succ, i64_w, i32_w]; rfl)
      refine pure_ (i := 2) (N := some 22) (v := ?_) (a' := ?_) #[tt,tt,tt,ff,ff,ff,ff,ff,ff,ff,ff,ff,ff,ff,ff,ff,ff,ff,ff,ff,ff,ff,ff,ff,ff,ff,ff,ff,ff,ff,ff] rfl rfl (by kernel_rfl) (fun _ _ _ h => h) (Or.inl ⟨by rfl, ?_⟩) ?_ ?_; rotate_left; (intro w'; go_simp; with_reducible rfl); rotate_left; (simp only [Act.put, List.setIfInBounds_toArray, List.set_cons_zero, List.set_cons_succ, i64_w, i32_w]; rfl)
      refine take_ (i := 3) (N := some 23) (v := ?_) (a' := ?_) #[tt,tt,tt,tt,ff,ff,ff,ff,ff,ff,ff,ff,ff,ff,ff,ff,ff,ff,ff,ff,ff,ff,ff,ff,ff,ff,ff,ff,ff,ff,ff] rfl rfl (by kernel_rfl) (fun _ _ _ h => h) (Or.inl ⟨by rfl, ?_⟩) hHeld ?_ ?_; rotate_left; (rintro w' ⟨e0, e1, e2, e3, e4, e5⟩; go_simp; with_reducible rfl); rotate_left; (simp only [Act.put, List.setIfInBounds_toArray, List.set_cons_zero, List.set_cons_succ, i64_w, i32_w]; rfl)
      refine pure_ (i := 4) (N := some 24) (v := ?_) (a' := ?_) #[tt,tt,tt,tt,tt,ff,ff,ff,ff,ff,ff,ff,ff,ff,ff,ff,ff,ff,ff,ff,ff,ff,ff,ff,ff,ff,ff,ff,ff,ff,ff] rfl rfl (by kernel_rfl) (fun _ _ _ h => h) (Or.inl ⟨by rfl, ?_⟩) ?_ ?_; rotate_left; (intro w'; go_simp; with_reducible rfl); rotate_left; (simp only [Act.put, List.setIfInBounds_toArray, List.set_cons_zero, List.set_cons_succ, i64_w, i32_w]; rfl)
      refine pure_ (i := 5) (N := some 25) (v := ?_) (a' := ?_) #[tt,tt,tt,tt,tt,tt,ff,ff,ff,ff,ff,ff,ff,ff,ff,ff,ff,ff,ff,ff,ff,ff,ff,ff,ff,ff,ff,ff,ff,ff,ff] rfl rfl (by kernel_rfl) (fun _ _ _ h => h) (Or.inl ⟨by rfl, ?_⟩) ?_ ?_; rotate_left; (intro w'; go_simp; with_reducible rfl); rotate_left; (simp only [Act.put, List.setIfInBounds_toArray, List.set_cons_zero, List.set_cons_succ, i64_w, i32_w]; rfl)
      refine pure_ (i := 6) (N := some 26) (v := ?_) (a' := ?_) #[tt,tt,tt,tt,tt,tt,tt,ff,ff,ff,ff,ff,ff,ff,ff,ff,ff,ff,ff,ff,ff,ff,ff,ff,ff,ff,ff,ff,ff,ff,ff] rfl rfl (by kernel_rfl) (fun _ _ _ h => h) (Or.inl ⟨by rfl, ?_⟩) ?_ ?_; rotate_left; (intro w'; go_simp; with_reducible rfl); rotate_left; (simp only [Act.put, List.setIfInBounds_toArray, List.set_cons_zero, List.set_cons_succ, i64_w, i32_w]; rfl)
      refine take_ (i := 7) (N := some 27) (v := ?_) (a' := ?_) #[tt,tt,tt,tt,tt,tt,tt,tt,ff,ff,ff,ff,ff,ff,ff,ff,ff,ff,ff,ff,ff,ff,ff,ff,ff,ff,ff,ff,ff,ff,ff] rfl rfl (by kernel_rfl) (fun _ _ _ h => h) (Or.inl ⟨by rfl, ?_⟩) hHeld ?_ ?_; rotate_left; (rintro w' ⟨e0, e1, e2, e3, e4, e5⟩; go_simp; with_reducible rfl); rotate_left; (simp only [Act.put, List.setIfInBounds_toArray, List.set_cons_zero, List.set_cons_succ, i64_w, i32_w]; rfl)
      refine pure_ (i := 8) (N := some 28) (v := ?_) (a' := ?_) #[tt,tt,tt,tt,tt,tt,tt,tt,tt,ff,ff,ff,ff,ff,ff,ff,ff,ff,ff,ff,ff,ff,ff,ff,ff,ff,ff,ff,ff,ff,ff] rfl rfl (by kernel_rfl) (fun _ _ _ h => h) (Or.inl ⟨by rfl, ?_⟩) ?_ ?_; rotate_left; (intro w'; go_simp; with_reducible rfl); rotate_left; (simp only [Act.put, List.setIfInBounds_toArray, List.set_cons_zero, List.set_cons_succ, i64_w, i32_w]; rfl)
      refine pure_ (i := 9) (N := some 29) (v := ?_) (a' := ?_) #[tt,tt,tt,tt,tt,tt,tt,tt,tt,tt,ff,ff,ff,ff,ff,ff,ff,ff,ff,ff,ff,ff,ff,ff,ff,ff,ff,ff,ff,ff,ff] rfl rfl (by kernel_rfl) (fun _ _ _ h => h) (Or.inl ⟨by rfl, ?_⟩) ?_ ?_; rotate_left; (intro w'; go_simp; with_reducible rfl); rotate_left; (simp only [Act.put, List.setIfInBounds_toArray, List.set_cons_zero, List.set_cons_succ, i64_w, i32_w]; rfl)
      refine pure_ (i := 10) (N := some 30) (v := ?_) (a' := ?_) #[tt,tt,tt,tt,tt,tt,tt,tt,tt,tt,tt,ff,ff,ff,ff,ff,ff,ff,ff,ff,ff,ff,ff,ff,ff,ff,ff,ff,ff,ff,ff] rfl rfl (by kernel_rfl) (fun _ _ _ h => h) (Or.inl ⟨by rfl, ?_⟩) ?_ ?_; rotate_left; (intro w'; go_simp; with_reducible rfl); rotate_left; (simp only [Act.put, List.setIfInBounds_toArray, List.set_cons_zero, List.set_cons_succ, i64_w, i32_w]; rfl)
      refine pure_ (i := 11) (N := some 31) (v := ?_) (a' := ?_) #[tt,tt,tt,tt,tt,tt,tt,tt,tt,tt,tt,tt,ff,ff,ff,ff,ff,ff,ff,ff,ff,ff,ff,ff,ff,ff,ff,ff,ff,ff,ff] rfl rfl (by kernel_rfl) (fun _ _ _ h => h) (Or.inl ⟨by rfl, ?_⟩) ?_ ?_; rotate_left; (intro w'; go_simp; with_reducible rfl); rotate_left; (simp only [Act.put, List.setIfInBounds_toArray, List.set_cons_zero, List.set_cons_succ, i64_w, i32_w]; rfl)
      refine take_ (i := 12) (N := some 32) (v := ?_) (a' := ?_) #[tt,tt,tt,tt,tt,tt,tt,tt,tt,tt,tt,tt,tt,ff,ff,ff,ff,ff,ff,ff,ff,ff,ff,ff,ff,ff,ff,ff,ff,ff,ff] rfl rfl (by kernel_rfl) (fun _ _ _ h => h) (Or.inl ⟨by rfl, ?_⟩) hHeld ?_ ?_; rotate_left; (rintro w' ⟨e0, e1, e2, e3, e4, e5⟩; go_simp; with_reducible rfl); rotate_left; (simp only [Act.put, List.setIfInBounds_toArray, List.set_cons_zero, List.set_cons_succ, i64_w, i32_w]; rfl)
      refine pure_ (i := 13) (N := some 33) (v := ?_) (a' := ?_) #[tt,tt,tt,tt,tt,tt,tt,tt,tt,tt,tt,tt,tt,tt,ff,ff,ff,ff,ff,ff,ff,ff,ff,ff,ff,ff,ff,ff,ff,ff,ff] rfl rfl (by kernel_rfl) (fun _ _ _ h => h) (Or.inl ⟨by rfl, ?_⟩) ?_ ?_; rotate_left; (intro w'; go_simp; with_reducible rfl); rotate_left; (simp only [Act.put, List.setIfInBounds_toArray, List.set_cons_zero, List.set_cons_succ, i64_w, i32_w]; rfl)
      refine pure_ (i := 14) (N := some 34) (v := ?_) (a' := ?_) #[tt,tt,tt,tt,tt,tt,tt,tt,tt,tt,tt,tt,tt,tt,tt,ff,ff,ff,ff,ff,ff,ff,ff,ff,ff,ff,ff,ff,ff,ff,ff] rfl rfl (by kernel_rfl) (fun _ _ _ h => h) (Or.inl ⟨by rfl, ?_⟩) ?_ ?_; rotate_left; (intro w'; go_simp; with_reducible rfl); rotate_left; (simp only [Act.put, List.setIfInBounds_toArray, List.set_cons_zero, List.set_cons_succ, i64_w, i32_w]; rfl)
      refine pure_ (i := 15) (N := some 35) (v := ?_) (a' := ?_) #[tt,tt,tt,tt,tt,tt,tt,tt,tt,tt,tt,tt,tt,tt,tt,tt,ff,ff,ff,ff,ff,ff,ff,ff,ff,ff,ff,ff,ff,ff,ff] rfl rfl (by kernel_rfl) (fun _ _ _ h => h) (Or.inl ⟨by rfl, ?_⟩) ?_ ?_; rotate_left; (intro w'; go_simp; with_reducible rfl); rotate_left; (simp only [Act.put, List.setIfInBounds_toArray, List.set_cons_zero, List.set_cons_succ, i64_w, i32_w]; rfl)
      refine pure_ (i := 16) (N := some 36) (v := ?_) (a' := ?_) #[tt,tt,tt,tt,tt,tt,tt,tt,tt,tt,tt,tt,tt,tt,tt,tt,tt,ff,ff,ff,ff,ff,ff,ff,ff,ff,ff,ff,ff,ff,ff] rfl rfl (by kernel_rfl) (fun _ _ _ h => h) (Or.inl ⟨by rfl, ?_⟩) ?_ ?_; rotate_left; (intro w'; go_simp; with_reducible rfl); rotate_left; (simp only [Act.put, List.setIfInBounds_toArray, List.set_cons_zero, List.set_cons_succ, i64_w, i32_w]; rfl)
      refine take_ (i := 17) (N := some 37) (v := ?_) (a' := ?_) #[tt,tt,tt,tt,tt,tt,tt,tt,tt,tt,tt,tt,tt,tt,tt,tt,tt,tt,ff,ff,ff,ff,ff,ff,ff,ff,ff,ff,ff,ff,ff] rfl rfl (by kernel_rfl) (fun _ _ _ h => h) (Or.inl ⟨by rfl, ?_⟩) hHeld ?_ ?_; rotate_left; (rintro w' ⟨e0, e1, e2, e3, e4, e5⟩; go_simp; with_reducible rfl); rotate_left; (simp only [Act.put, List.setIfInBounds_toArray, List.set_cons_zero, List.set_cons_succ, i64_w, i32_w]; rfl)
      refine pure_ (i := 18) (N := some 38) (v := ?_) (a' := ?_) #[tt,tt,tt,tt,tt,tt,tt,tt,tt,tt,tt,tt,tt,tt,tt,tt,tt,tt,tt,ff,ff,ff,ff,ff,ff,ff,ff,ff,ff,ff,ff] rfl rfl (by kernel_rfl) (fun _ _ _ h => h) (Or.inl ⟨by rfl, ?_⟩) ?_ ?_; rotate_left; (intro w'; go_simp; with_reducible rfl); rotate_left; (simp only [Act.put, List.setIfInBounds_toArray, List.set_cons_zero, List.set_cons_succ, i64_w, i32_w]; rfl)
      refine pure_ (i := 19) (N := some 39) (v := ?_) (a' := ?_) #[tt,tt,tt,tt,tt,tt,tt,tt,tt,tt,tt,tt,tt,tt,tt,tt,tt,tt,tt,tt,ff,ff,ff,ff,ff,ff,ff,ff,ff,ff,ff] rfl rfl (by kernel_rfl) (fun _ _ _ h => h) (Or.inl ⟨by rfl, ?_⟩) ?_ ?_; rotate_left; (intro w'; go_simp; with_reducible rfl); rotate_left; (simp only [Act.put, List.setIfInBounds_toArray, List.set_cons_zero, List.set_cons_succ, i64_w, i32_w]; rfl)
      refine pure_ (i := 20) (N := some 40) (v := ?_) (a' := ?_) #[tt,tt,tt,tt,tt,tt,tt,tt,tt,tt,tt,tt,tt,tt,tt,tt,tt,tt,tt,tt,tt,ff,ff,ff,ff,ff,ff,ff,ff,ff,ff] rfl rfl (by kernel_rfl) (fun _ _ _ h => h) (Or.inl ⟨by rfl, ?_⟩) ?_ ?_; rotate_left; (intro w'; go_simp; with_reducible rfl); rotate_left; (simp only [Act.put, List.setIfInBounds_toArray, List.set_cons_zero, List.set_cons_succ, i64_w, i32_w]; rfl)
      refine take_ (i := 21) (N := some 41) (v := ?_) (a' := ?_) #[tt,tt,tt,tt,tt,tt,tt,tt,tt,tt,tt,tt,tt,tt,tt,tt,tt,tt,tt,tt,tt,tt,ff,ff,ff,ff,ff,ff,ff,ff,ff] rfl rfl (by kernel_rfl) (fun _ _ _ h => h) (Or.inl ⟨by rfl, ?_⟩) hHeld ?_ ?_; rotate_left; (rintro w' ⟨e0, e1, e2, e3, e4, e5⟩; go_simp; with_reducible rfl); rotate_left; (simp only [Act.put, List.setIfInBounds_toArray, List.set_cons_zero, List.set_cons_succ, i64_w, i32_w]; rfl)
      refine pure_ (i := 22) (N := some 42) (v := ?_) (a' := ?_) #[tt,tt,tt,tt,tt,tt,tt,tt,tt,tt,tt,tt,tt,tt,tt,tt,tt,tt,tt,tt,tt,tt,tt,ff,ff,ff,ff,ff,ff,ff,ff] rfl rfl (by kernel_rfl) (fun _ _ _ h => h) (Or.inl ⟨by rfl, ?_⟩) ?_ ?_; rotate_left; (intro w'; go_simp; with_reducible rfl); rotate_left; (simp only [Act.put, List.setIfInBounds_toArray, List.set_cons_zero, List.set_cons_succ, i64_w, i32_w]; rfl)
      refine pure_ (i := 23) (N := some 43) (v := ?_) (a' := ?_) #[tt,tt,tt,tt,tt,tt,tt,tt,tt,tt,tt,tt,tt,tt,tt,tt,tt,tt,tt,tt,tt,tt,tt,tt,ff,ff,ff,ff,ff,ff,ff] rfl rfl (by kernel_rfl) (fun _ _ _ h => h) (Or.inl ⟨by rfl, ?_⟩) ?_ ?_; rotate_left; (intro w'; go_simp; with_reducible rfl); rotate_left; (simp only [Act.put, List.setIfInBounds_toArray, List.set_cons_zero, List.set_cons_succ, i64_w, i32_w]; rfl)
      refine pure_ (i := 24) (N := some 44) (v := ?_) (a' := ?_) #[tt,tt,tt,tt,tt,tt,tt,tt,tt,tt,tt,tt,tt,tt,tt,tt,tt,tt,tt,tt,tt,tt,tt,tt,tt,ff,ff,ff,ff,ff,ff] rfl rfl (by kernel_rfl) (fun _ _ _ h => h) (Or.inl ⟨by rfl, ?_⟩) ?_ ?_; rotate_left; (intro w'; go_simp; with_reducible rfl); rotate_left; (simp only [Act.put, List.setIfInBounds_toArray, List.set_cons_zero, List.set_cons_succ, i64_w, i32_w]; rfl)
      refine pure_ (i := 25) (N := some 45) (v := ?_) (a' := ?_) #[tt,tt,tt,tt,tt,tt,tt,tt,tt,tt,tt,tt,tt,tt,tt,tt,tt,tt,tt,tt,tt,tt,tt,tt,tt,tt,ff,ff,ff,ff,ff] rfl rfl (by kernel_rfl) (fun _ _ _ h => h) (Or.inl ⟨by rfl, ?_⟩) ?_ ?_; rotate_left; (intro w'; go_simp; with_reducible rfl); rotate_left; (simp only [Act.put, List.setIfInBounds_toArray, List.set_cons_zero, List.set_cons_succ, i64_w, i32_w]; rfl)
      refine take_ (i := 26) (N := some 46) (v := ?_) (a' := ?_) #[tt,tt,tt,tt,tt,tt,tt,tt,tt,tt,tt,tt,tt,tt,tt,tt,tt,tt,tt,tt,tt,tt,tt,tt,tt,tt,tt,ff,ff,ff,ff] rfl rfl (by kernel_rfl) (fun _ _ _ h => h) (Or.inl ⟨by rfl, ?_⟩) hHeld ?_ ?_; rotate_left; (rintro w' ⟨e0, e1, e2, e3, e4, e5⟩; go_simp; with_reducible rfl); rotate_left; (simp only [Act.put, List.setIfInBounds_toArray, List.set_cons_zero, List.set_cons_succ, i64_w, i32_w]; rfl)
      refine pure_ (i := 27) (N := some 47) (v := ?_) (a' := ?_) #[tt,tt,tt,tt,tt,tt,tt,tt,tt,tt,tt,tt,tt,tt,tt,tt,tt,tt,tt,tt,tt,tt,tt,tt,tt,tt,tt,tt,ff,ff,ff] rfl rfl (by kernel_rfl) (fun _ _ _ h => h) (Or.inl ⟨by rfl, ?_⟩) ?_ ?_; rotate_left; (intro w'; go_simp; with_reducible rfl); rotate_left; (simp only [Act.put, List.setIfInBounds_toArray, List.set_cons_zero, List.set_cons_succ, i64_w, i32_w]; rfl)
      refine pure_ (i := 30) (N := some 50) (v := ?_) (a' := ?_) #[tt,tt,tt,tt,tt,tt,tt,tt,tt,tt,tt,tt,tt,tt,tt,tt,tt,tt,tt,tt,tt,tt,tt,tt,tt,tt,tt,tt,ff,ff,tt] rfl rfl (by kernel_rfl) (fun _ _ _ h => h) (Or.inl ⟨by rfl, ?_⟩) ?_ ?_; rotate_left; (intro w'; go_simp; with_reducible rfl); rotate_left; (simp only [Act.put, List.setIfInBounds_toArray, List.set_cons_zero, List.set_cons_succ, i64_w, i32_w]; rfl)
      refine one_ (i := 28) (N := some 48) #[tt,tt,tt,tt,tt,tt,tt,tt,tt,tt,tt,tt,tt,tt,tt,tt,tt,tt,tt,tt,tt,tt,tt,tt,tt,tt,tt,tt,tt,ff,tt] rfl rfl (by kernel_rfl) (by decide) (fun K hK => ?_)
      refine Go.Proofs.YtpfmmbhbmdbmeaaDoorW.PrintLast.value_ (v := .slice (some ⟨w6.heap.size, 0, none⟩) 6 6) (w1 := w6.alloc (.cells #[.int .u64 d.id, .int .u64 d.op, .int .u64 d.level, .int .u64 d.keyId, .int .u64 0, .int .u64 d.comp] 42)) (by rfl) rfl ?_ ?_
      · go_simp
        try rfl
      refine hK.out _ _ (six_alloc _ hHeld) (fun hHeld => ?_); clear hK K; refine norm_ (a' := ?_) ?_ ?_; rotate_left; (show Act.put _ (some 48) _ = _; simp only [Act.put, List.setIfInBounds_toArray, List.set_cons_zero, List.set_cons_succ, i64_w, i32_w]; rfl)
      refine pure_ (i := 29) (N := some 49) (v := ?_) (a' := ?_) #[tt,tt,tt,tt,tt,tt,tt,tt,tt,tt,tt,tt,tt,tt,tt,tt,tt,tt,tt,tt,tt,tt,tt,tt,tt,tt,tt,tt,tt,tt,tt] rfl rfl (by kernel_rfl) (fun _ _ _ h => h) (Or.inl ⟨by rfl, ?_⟩) ?_ ?_; rotate_left; (intro w'; go_simp; with_reducible rfl); rotate_left; (simp only [Act.put, List.setIfInBounds_toArray, List.set_cons_zero, List.set_cons_succ, i64_w, i32_w]; rfl)
      refine done_ (by kernel_rfl) ?_
      have HV7 : Hid (Sl (w6.alloc (.cells #[.int .u64 d.id, .int .u64 d.op, .int .u64 d.level, .int .u64 d.keyId, .int .u64 0, .int .u64 d.comp] 42)) (some ⟨w6.heap.size, 0, none⟩) 6 (nums .u64 (fv d))) := (Blk.new w6 42 [.int .u64 d.id, .int .u64 d.op, .int .u64 d.level, .int .u64 d.keyId, .int .u64 0, .int .u64 d.comp]).sl (off := 0) (n := 6) (by simp)
      have ho7 : Hid ((w6.alloc (.cells #[.int .u64 d.id, .int .u64 d.op, .int .u64 d.level, .int .u64 d.keyId, .int .u64 0, .int .u64 d.comp] 42)).ownsRow w.heap.size 5 1 u3 (chgsB (l.take i)).length (nums .u8 (chgsB (l.take i)))) := ho6.out.alloc _
      have hb7 : Hid (Below w.heap.size w (w6.alloc (.cells #[.int .u64 d.id, .int .u64 d.op, .int .u64 d.level, .int .u64 d.keyId, .int .u64 0, .int .u64 d.comp] 42))) := hb6.out.alloc hb6.out.size _
      clear hHeld ho6 hb6
      generalize w6.alloc (.cells #[.int .u64 d.id, .int .u64 d.op, .int .u64 d.level, .int .u64 d.keyId, .int .u64 0, .int .u64 d.comp] 42) = w7 at *
      generalize w6.heap.size = gv at *
      go_wp2
      go_loopg [6, 50] 6 (fun q v6 v50 wk => ∃ (j : Nat), v50 = .int .i64 j ∧ j ≤ 6 ∧ Hid (j + q = 6) ∧ Hid (wk.ownsRow w7.heap.size 5 1 v6 (fld d j).length (nums .u8 (fld d j))) ∧ Hid (Below w7.heap.size w7 wk))
      case atStart => exact ⟨0, rfl, by omega, rfl, World.ownsRow_nil _ _ _ _, Below.refl _ _⟩
      case round =>
        obtain ⟨j, rfl, hj1, hjq, hoj, hbj⟩ := hrel
        by_cases hj : j < 6
        · have hvj : Hid (Sl wr (some ⟨gv, 0, none⟩) 6 (nums .u64 (fv d))) := HV7.out.below hbj.out
          obtain ⟨gv', ov', uv, ev, hx, hvc⟩ := hvj.out.at_ hj
          obtain ⟨rfl, rfl⟩ : gv = gv' ∧ 0 = ov' := by injection ev with ev; injection ev with a b; exact ⟨a, b⟩
          have hvl := nums_get .u64 (fv d) j (by show j < 6; exact hj)
          rw [hx] at hvl
          obtain rfl := Option.some.inj hvl
          clear hx hvl ev
          obtain ⟨vj, hvje⟩ : ∃ vj, (fv d).getD j 0 = vj := ⟨_, rfl⟩
          rw [hvje] at hvc
          have hvw : 0 ≤ vj ∧ vj ≤ 18446744073709551615 := by
            rw [← hvje]
            have : d.op ≤ 1 ∧ 0 ≤ d.op := by rcases hop with h | h <;> omega
            match j, hj with
            | 0, _ => exact ⟨i0, i1⟩
            | 1, _ => exact ⟨this.2, by show d.op ≤ _; omega⟩
            | 2, _ => exact ⟨l0, by show d.level ≤ _; omega⟩
            | 3, _ => exact ⟨k0, k1⟩
            | 4, _ => exact ⟨Int.le_refl _, by show (0 : Int) ≤ _; omega⟩
            | 5, _ => exact ⟨c0, by show d.comp ≤ _; omega⟩
          rw [Nat.zero_add] at hvc
          go_wp2_with fail
          refine (appendField_any w7.heap.size (((j : Int) + 1) * 8) vj (fld d j) u6 wr hbj.out.size (by have := fld_len d j; omega) hoj.out hvw.1 hvw.2).mono ?_
          rintro e w8 ⟨v8, rfl, ho8, hon8⟩
          have HO8 := Lib.hid ho8
          have HG8 := Lib.hid hon8.1
          clear ho8 hon8
          go_wp2
          cases gk with
          | zero => exact absurd hjq.out (by omega)
          | succ k1 =>
            go_roundg k1
            case measure => omega
            case rel => exact ⟨j + 1, by go_num, by omega, by have := hjq.out; show _ = _; omega, by rw [fld, hvje]; exact HO8.out, hbj.out.grown HG8.out hbj.out.size (fun k hk => (hoj.out.lt k hk).1)⟩
        · obtain rfl : j = 6 := by omega
          rw [fld_six] at hoj
          have hlb := chgB_len d
          have hll := chgsB_len (l.take i)
          have hll2 : (chgsB (l.take i)).length ≤ 77000 := by rw [List.length_take] at hll; omega
          obtain ⟨A6, c6, rfl, hc6, hs6⟩ := own_sl hoj.out
          have ho8 : Hid (wr.ownsRow w.heap.size 5 1 u3 (chgsB (l.take i)).length (nums .u8 (chgsB (l.take i)))) := Go.Proofs.YtpfmmbhbmdbmeaaDoorW.PrintWords.own_move ho7.out (fun g hg => hbj.out.block g (ho7.out.lt g hg).2)
          have HA6 : Hid (∀ g o, A6 = some ⟨g, o, none⟩ → w7.heap.size ≤ g ∧ g < wr.heap.size) := fun g o e => by subst e; exact hoj.out.lt g rfl
          have HU3 : Hid (∀ g, u3.ownBlock = some g → g < w7.heap.size) := fun g hg => (ho7.out.lt g hg).2
          have hb8 : Hid (Below w.heap.size w wr) := hb7.out.trans (hbj.out.mono hb7.out.size)
          have hz8 : Hid (w7.heap.size ≤ wr.heap.size) := hbj.out.size
          have hb7s : Hid (w.heap.size ≤ w7.heap.size) := hb7.out.size
          have HS6 := Lib.hid hs6
          clear hoj hs6 ho7 hb7 hbj HV7 hll
          have hcl : IntKind.u64.wrap ((chgB d).length : Int) = (chgB d).length := wrapU64 _ (by omega) (by omega)
          go_wp2_with fail
          have HK : Hid (Blk (wr.alloc (.cells #[.int .u8 0, .int .u8 0, .int .u8 0, .int .u8 0, .int .u8 0, .int .u8 0, .int .u8 0, .int .u8 0, .int .u8 0, .int .u8 0] 81)) wr.heap.size 81 (List.replicate 10 (.int .u8 0))) := Blk.new wr 81 (List.replicate 10 (.int .u8 0))
          have hb9 : Hid (Below w.heap.size w (wr.alloc (.cells #[.int .u8 0, .int .u8 0, .int .u8 0, .int .u8 0, .int .u8 0, .int .u8 0, .int .u8 0, .int .u8 0, .int .u8 0, .int .u8 0] 81))) := hb8.out.alloc hb8.out.size _
          have ho9 : Hid ((wr.alloc (.cells #[.int .u8 0, .int .u8 0, .int .u8 0, .int .u8 0, .int .u8 0, .int .u8 0, .int .u8 0, .int .u8 0, .int .u8 0, .int .u8 0] 81)).ownsRow w.heap.size 5 1 u3 (chgsB (l.take i)).length (nums .u8 (chgsB (l.take i)))) := ho8.out.alloc _
          have hs9 : Hid (Sl (wr.alloc (.cells #[.int .u8 0, .int .u8 0, .int .u8 0, .int .u8 0, .int .u8 0, .int .u8 0, .int .u8 0, .int .u8 0, .int .u8 0, .int .u8 0] 81)) A6 (chgB d).length (nums .u8 (chgB d))) := HS6.out.alloc _
          have hz9 : Hid (wr.heap.size < (wr.alloc (.cells #[.int .u8 0, .int .u8 0, .int .u8 0, .int .u8 0, .int .u8 0, .int .u8 0, .int .u8 0, .int .u8 0, .int .u8 0, .int .u8 0] 81)).heap.size) := by show _ < _; rw [World.size_alloc]; omega
          clear hb8 ho8 HS6
          generalize wr.alloc (.cells #[.int .u8 0, .int .u8 0, .int .u8 0, .int .u8 0, .int .u8 0, .int .u8 0, .int .u8 0, .int .u8 0, .int .u8 0, .int .u8 0] 81) = w9 at *
          generalize wr.heap.size = gz at *
          have hvl := vint_len 9 (chgB d).length
          have HVL := Lib.hid hvl
          clear hvl
          refine (pubPut_any gz 0 10 10 81 (chgB d).length _ w9 HK.out (by have := HVL.out; omega) (by simp) (by omega) (by show _ ≤ _; omega)).mono ?_
          rintro E w10 ⟨rfl, hw10⟩
          have HW10 := Lib.hid hw10
          clear hw10
          have hle : w.heap.size ≤ gz := by have := hb9.out.size; have := hz8.out; have h7 := hb7s.out; omega
          have hb10 : Hid (Below w.heap.size w w10) := below_wrote hb9.out hle hb9.out.size HW10.out
          have ho10 : Hid (w10.ownsRow w.heap.size 5 1 u3 (chgsB (l.take i)).length (nums .u8 (chgsB (l.take i)))) := Go.Proofs.YtpfmmbhbmdbmeaaDoorW.PrintWords.own_move ho9.out (fun g hg => HW10.out.2.block g (ho9.out.lt g hg).2 (by have := HU3.out g hg; have := hz8.out; simp; omega))
          have hs10 : Hid (Sl w10 A6 (chgB d).length (nums .u8 (chgB d))) := sl_grown hs9.out HW10.out.2 (fun g o e h => by have := HA6.out g o e; injection h with h; omega)
          have hvs10 : Hid (Sl w10 (some ⟨gz, 0, none⟩) (vint 9 (chgB d).length).length (nums .u8 (vint 9 (chgB d).length))) := by
            have hvv := HVL.out
            have := HW10.out.1.sl (off := 0) (n := (vint 9 (chgB d).length).length) (by rw [splice_len _ _ _ (by rw [nums_length]; simp; omega)]; simp; omega)
            rw [List.drop_zero, splice, List.take_zero, List.nil_append, List.take_append_of_le_length (by rw [nums_length]; omega), List.take_of_length_le (by rw [nums_length]; omega)] at this
            exact this
          have hz10 : Hid (gz < w10.heap.size) := Nat.lt_of_lt_of_le hz9.out HW10.out.2.size
          have ha2 : ((vint 9 (chgB d).length).length : Int) ≤ ((Tryd.prog.arrayLen 81 : Nat) : Int) := by rw [arr10f]; have := HVL.out; omega
          have ha3 : ((vint 9 (chgB d).length).length : Int) ≤ 10 := by have := HVL.out; omega
          clear HW10 HK hb9 ho9 hs9 hz9 hHeld
          go_wp2_with fail
          refine start_ (n := 9) (S := fun _ => True) (ds := []) #[ff,ff,ff,ff,ff,ff,ff,ff,ff] (by kernel_rfl) rfl rfl (trivial) (fun hHeld => ?_)
          have hb11 : Hid (Below w.heap.size w w10.drew) := hb10.out.drew
          have ho11 : Hid (w10.drew.ownsRow w.heap.size 5 1 u3 (chgsB (l.take i)).length (nums .u8 (chgsB (l.take i)))) := ho10.out
          have hs11 : Hid (Sl w10.drew A6 (chgB d).length (nums .u8 (chgB d))) := hs10.out
          have hvs11 : Hid (Sl w10.drew (some ⟨gz, 0, none⟩) (vint 9 (chgB d).length).length (nums .u8 (vint 9 (chgB d).length))) := hvs10.out
          have hz11 : Hid (gz < w10.drew.heap.size) := hz10.out
          clear hb10 ho10 hs10 hvs10 hz10 hHeld
          generalize w10.drew = w11 at *
          refine pure_ (i := 0) (N := some 68) (v := ?_) (a' := ?_) #[tt,ff,ff,ff,ff,ff,ff,ff,ff] rfl rfl (by kernel_rfl) (fun _ _ _ h => h) (Or.inl ⟨by rfl, ?_⟩) ?_ ?_; rotate_left; (intro w'; go_simp; with_reducible rfl); rotate_left; (simp only [Act.put, List.setIfInBounds_toArray, List.set_cons_zero, List.set_cons_succ, i64_w, i32_w]; rfl)
          refine pure_ (i := 3) (N := some 71) (v := ?_) (a' := ?_) #[tt,ff,ff,tt,ff,ff,ff,ff,ff] rfl rfl (by kernel_rfl) (fun _ _ _ h => h) (Or.inl ⟨by rfl, ?_⟩) ?_ ?_; rotate_left; (intro w'; go_simp; with_reducible rfl); rotate_left; (simp only [Act.put, List.setIfInBounds_toArray, List.set_cons_zero, List.set_cons_succ, i64_w, i32_w]; rfl)
          refine pure_ (i := 4) (N := some 72) (v := ?_) (a' := ?_) #[tt,ff,ff,tt,tt,ff,ff,ff,ff] rfl rfl (by kernel_rfl) (fun _ _ _ h => h) (Or.inl ⟨by rfl, ?_⟩) ?_ ?_; rotate_left; (intro w'; go_simp; with_reducible rfl); rotate_left; (simp only [Act.put, List.setIfInBounds_toArray, List.set_cons_zero, List.set_cons_succ, i64_w, i32_w]; rfl)
          refine pure_ (i := 6) (N := some 74) (v := ?_) (a' := ?_) #[tt,ff,ff,tt,tt,ff,tt,ff,ff] rfl rfl (by kernel_rfl) (fun _ _ _ h => h) (Or.inl ⟨by rfl, ?_⟩) ?_ ?_; rotate_left; (intro w'; go_simp; with_reducible rfl); rotate_left; (simp only [Act.put, List.setIfInBounds_toArray, List.set_cons_zero, List.set_cons_succ, i64_w, i32_w]; rfl)
          refine one_ (i := 1) (N := some 69) #[tt,tt,ff,tt,tt,ff,tt,ff,ff] rfl rfl (by kernel_rfl) (by decide) (fun K hK => ?_)
          refine Go.Proofs.YtpfmmbhbmdbmeaaDoorW.PrintLast.value_ (v := .slice (some ⟨w11.heap.size, 0, none⟩) 1 1) (w1 := w11.alloc (.cells #[.int .u8 10] 5)) (by rfl) rfl ?_ ?_
          · go_simp
            try rfl
          refine hK.out _ _ (trivial) (fun hHeld => ?_); clear hK K; refine norm_ (a' := ?_) ?_ ?_; rotate_left; (show Act.put _ (some 69) _ = _; simp only [Act.put, List.setIfInBounds_toArray, List.set_cons_zero, List.set_cons_succ, i64_w, i32_w]; rfl)
          have hb12 : Hid (Below w.heap.size w (w11.alloc (.cells #[.int .u8 10] 5))) := hb11.out.alloc hb11.out.size _
          have ho12 : Hid ((w11.alloc (.cells #[.int .u8 10] 5)).ownsRow w.heap.size 5 1 u3 (chgsB (l.take i)).length (nums .u8 (chgsB (l.take i)))) := ho11.out.alloc _
          have hs12 : Hid (Sl (w11.alloc (.cells #[.int .u8 10] 5)) A6 (chgB d).length (nums .u8 (chgB d))) := hs11.out.alloc _
          have hvs12 : Hid (Sl (w11.alloc (.cells #[.int .u8 10] 5)) (some ⟨gz, 0, none⟩) (vint 9 (chgB d).length).length (nums .u8 (vint 9 (chgB d).length))) := hvs11.out.alloc _
          have hk12 : Hid (Sl (w11.alloc (.cells #[.int .u8 10] 5)) (some ⟨w11.heap.size, 0, none⟩) 1 (nums .u8 [10])) := sl_one w11 (.int .u8 10) 5
          have hz12 : Hid (gz < (w11.alloc (.cells #[.int .u8 10] 5)).heap.size) := by show _ < _; rw [World.size_alloc]; have := hz11.out; omega
          clear hb11 ho11 hs11 hvs11 hz11
          generalize w11.heap.size = g11 at *
          generalize w11.alloc (.cells #[.int .u8 10] 5) = w12 at *
          refine one_ (i := 2) (N := some 70) #[tt,tt,tt,tt,tt,ff,tt,ff,ff] rfl rfl (by kernel_rfl) (by decide) (fun K hK => ?_)
          refine step_append_sl rfl (.tmp 68) (.tmp 69) 30 rfl w.heap.size 5 (.int .u8 0) 1 Tryd.underlying30 infoU8 rfl u3 (chgsB (l.take i)).length (nums .u8 (chgsB (l.take i))) rfl ho12.out (some ⟨g11, 0, none⟩) 1 1 (nums .u8 [10]) rfl hk12.out (nums_one _ _) (by omega) (by omega) hb12.out.size ?_
          intro v13 w13 ho13 hg13 hat13
          have HO13 := Lib.hid ho13
          have hn13 : Hid (∀ g, v13.ownBlock = some g → g < w7.heap.size ∨ gz < g) := fun g hg => by
            rcases hat13 with h | h
            · exact .inl (HU3.out g (h ▸ hg))
            · rw [h] at hg; injection hg with hg; have := hz12.out; exact .inr (by omega)
          have hs13 : Hid (Sl w13 A6 (chgB d).length (nums .u8 (chgB d))) := sl_grown hs12.out hg13 (fun g o e h => by have := HA6.out g o e; have := HU3.out g h; omega)
          have hvs13 : Hid (Sl w13 (some ⟨gz, 0, none⟩) (vint 9 (chgB d).length).length (nums .u8 (vint 9 (chgB d).length))) := sl_grown hvs12.out hg13 (fun g o e h => by injection e with e; injection e with e _; have := HU3.out g h; have := hz8.out; omega)
          have hb13 : Hid (Below w.heap.size w w13) := hb12.out.grown hg13 hb12.out.size (fun k hk => (ho12.out.lt k hk).1)
          have hz13 : Hid (gz < w13.heap.size) := Nat.lt_of_lt_of_le hz12.out hg13.size
          clear ho13 hg13 hat13 hb12 ho12 hs12 hvs12 hk12 hz12
          refine hK.out _ _ (trivial) (fun hHeld => ?_); clear hK K; refine norm_ (a' := ?_) ?_ ?_; rotate_left; (show Act.put _ (some 70) _ = _; simp only [Act.put, List.setIfInBounds_toArray, List.set_cons_zero, List.set_cons_succ, i64_w, i32_w]; rfl)
          refine one_ (i := 5) (N := some 73) #[tt,tt,tt,tt,tt,tt,tt,ff,ff] rfl rfl (by kernel_rfl) (by decide) (fun K hK => ?_)
          refine step_append_sl rfl (.tmp 70) (.tmp 72) 30 rfl w.heap.size 5 (.int .u8 0) 1 Tryd.underlying30 infoU8 rfl v13 ((chgsB (l.take i)).length + 1) (nums .u8 (chgsB (l.take i)) ++ nums .u8 [10]) rfl HO13.out (some ⟨gz, 0, none⟩) (vint 9 (chgB d).length).length 10 (nums .u8 (vint 9 (chgB d).length)) rfl hvs13.out (nums_one _ _) (by have := HVL.out; omega) (by omega) hb13.out.size ?_
          intro v14 w14 ho14 hg14 hat14
          have HO14 := Lib.hid ho14
          have hs14 : Hid (Sl w14 A6 (chgB d).length (nums .u8 (chgB d))) := sl_grown hs13.out hg14 (fun g o e h => by have := HA6.out g o e; have := hn13.out g h; omega)
          have hb14 : Hid (Below w.heap.size w w14) := hb13.out.grown hg14 hb13.out.size (fun k hk => (HO13.out.lt k hk).1)
          clear ho14 hg14 hat14 hb13 hs13 hvs13
          refine hK.out _ _ (trivial) (fun hHeld => ?_); clear hK K; refine norm_ (a' := ?_) ?_ ?_; rotate_left; (show Act.put _ (some 73) _ = _; simp only [Act.put, List.setIfInBounds_toArray, List.set_cons_zero, List.set_cons_succ, i64_w, i32_w]; rfl)
          refine one_ (i := 7) (N := some 75) #[tt,tt,tt,tt,tt,tt,tt,tt,ff] rfl rfl (by kernel_rfl) (by decide) (fun K hK => ?_)
          refine step_append_sl rfl (.tmp 73) (.tmp 74) 30 rfl w.heap.size 5 (.int .u8 0) 1 Tryd.underlying30 infoU8 rfl v14 ((chgsB (l.take i)).length + 1 + (vint 9 (chgB d).length).length) (nums .u8 (chgsB (l.take i)) ++ nums .u8 [10] ++ nums .u8 (vint 9 (chgB d).length)) rfl HO14.out A6 (chgB d).length c6 (nums .u8 (chgB d)) rfl hs14.out (nums_one _ _) (by have := HVL.out; omega) (by omega) hb14.out.size ?_
          intro v15 w15 ho15 hg15 hat15
          have HO15 := Lib.hid ho15
          have hb15 : Hid (Below w.heap.size w w15) := hb14.out.grown hg15 hb14.out.size (fun k hk => (HO14.out.lt k hk).1)
          clear ho15 hg15 hat15 hb14 hs14
          refine hK.out _ _ (trivial) (fun hHeld => ?_); clear hK K; refine norm_ (a' := ?_) ?_ ?_; rotate_left; (show Act.put _ (some 75) _ = _; simp only [Act.put, List.setIfInBounds_toArray, List.set_cons_zero, List.set_cons_succ, i64_w, i32_w]; rfl)
          refine pure_ (i := 8) (N := some 3) (v := ?_) (a' := ?_) #[tt,tt,tt,tt,tt,tt,tt,tt,tt] rfl rfl (by kernel_rfl) (fun _ _ _ h => h) (Or.inl ⟨by rfl, ?_⟩) ?_ ?_; rotate_left; (intro w'; go_simp; with_reducible rfl); rotate_left; (simp only [Act.put, List.setIfInBounds_toArray, List.set_cons_zero, List.set_cons_succ, i64_w, i32_w]; rfl)
          refine done_ (by kernel_rfl) ?_
          have HO16 : Hid (w15.ownsRow w.heap.size 5 1 v15 (chgsB (l.take (i + 1))).length (nums .u8 (chgsB (l.take (i + 1))))) := by
            have := HO15.out
            rw [take_snoc l i d hd, chgsB_snoc]
            rw [nums_append, nums_append, nums_append]
            simp only [List.length_append, List.length_cons, List.length_nil]
            exact this
          clear HO13 HO14 HO15 hHeld
          go_wp2
          go_roundg gkO
          case measure => omega
          case rel => exact ⟨i + 1, by go_num, by omega, by have := hq.out; show _ = _; omega, HO16, hb15⟩
    · obtain rfl : i = n := by omega
      go_wp2
      go_ret
      refine ⟨_, rfl, ?_, hbl.out⟩
      have := ho.out
      have e1 : l.length = i := by
        have e1 := HP.out.1
        have e2 := H.out.1
        rw [ptrV, List.length_map] at e2
        omega
      rw [List.take_of_length_le (by omega)] at this
      rw [nums_length]
      exact this
end Go.Proofs.YtpfmmbhbmdbmeaaDoor
