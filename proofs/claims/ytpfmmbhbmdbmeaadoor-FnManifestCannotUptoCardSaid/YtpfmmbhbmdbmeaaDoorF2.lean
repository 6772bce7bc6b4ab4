/- Changes: as the law has them, and as the package has them. -/
import Derived.Test.YtpfmmbhbmdbmeaaDoorF1
namespace Go.Proofs.YtpfmmbhbmdbmeaaDoor
open Go.RowKit
set_option linter.unusedVariables false
set_option linter.unusedSimpArgs false
/-- A change, plain. -/
structure Chg where
  id : Int
  gone : Bool
  level : Int
  keyId : Int
  comp : Int
def Chg.op (c : Chg) : Int := if c.gone then 1 else 0
def Chg.cells (c : Chg) : List Value := [.int .u64 c.id, .bool c.gone, .int .u32 c.level, .int .u64 c.keyId, .int .u32 c.comp]
def Chg.row (c : Chg) : List Value := [.int .u64 c.id, .int .i32 c.op, .int .u32 c.level, .int .u64 c.keyId, .int .i32 0, .int .u32 c.comp]
/-- A slice of changes that reads as a list. -/
def Slc (w : World) (A : Option Addr) (n : Nat) (l : List Chg) : Prop :=
  l.length = n ∧ (0 < n → ∃ g o, A = some ⟨g, o, none⟩ ∧ ∀ j c, l[j]? = some c → ∀ k u, c.cells[k]? = some u → w.cell? ⟨g, o + j * 5 + k, none⟩ = some u)
theorem Slc.below {w w' : World} {A : Option Addr} {n : Nat} {l : List Chg} (h : Slc w A n l) (hb : Below w.heap.size w w') : Slc w' A n l :=
  ⟨h.1, fun hn => by
    obtain ⟨g, o, e, hc⟩ := h.2 hn
    refine ⟨g, o, e, fun j c hj k u hk => ?_⟩
    have h1 := hc j c hj k u hk
    rw [hb.cell (World.block_lt_of_cell? w _ h1)]
    exact h1⟩
theorem Slc.num {w : World} {A : Option Addr} {n : Nat} {l : List Chg} (h : Slc w A n l) {j : Nat} (hj : j < n) :
    ∃ g o c, A = some ⟨g, o, none⟩ ∧ Hid (l[j]? = some c) ∧ w.cell? ⟨g, o + j * 5, none⟩ = some (.int .u64 c.id) ∧ w.cell? ⟨g, o + j * 5 + 1, none⟩ = some (.bool c.gone) ∧ w.cell? ⟨g, o + j * 5 + 2, none⟩ = some (.int .u32 c.level) ∧ w.cell? ⟨g, o + j * 5 + 3, none⟩ = some (.int .u64 c.keyId) ∧ w.cell? ⟨g, o + j * 5 + 4, none⟩ = some (.int .u32 c.comp) := by
  obtain ⟨g, o, e, hc⟩ := h.2 (by omega)
  have hl : j < l.length := by have := h.1; omega
  have hc := hc j _ (List.getElem?_eq_getElem hl)
  exact ⟨g, o, l[j], e, List.getElem?_eq_getElem hl, hc 0 _ rfl, hc 1 _ rfl, hc 2 _ rfl, hc 3 _ rfl, hc 4 _ rfl⟩
/-- Pointers to changes as the package has them, each at a block of its own that came behind base. -/
def ptrV (gs : List Nat) : List Value := gs.map fun g => .pointer (some ⟨g, 0, none⟩)
def Ptrs (w : World) (base : Nat) (gs : List Nat) (l : List Chg) : Prop :=
  gs.length = l.length ∧ ∀ (j g : Nat) (c : Chg), gs[j]? = some g → l[j]? = some c → base ≤ g ∧ Blk w g 76 c.row
theorem Ptrs.nil (w : World) (base : Nat) : Ptrs w base [] [] := ⟨rfl, fun j g c h => by simp at h⟩
theorem Ptrs.snoc {w w' : World} {base g : Nat} {gs : List Nat} {l : List Chg} {c : Chg} (h : Ptrs w base gs l) (hb : ∀ k cs, Blk w k 76 cs → Blk w' k 76 cs) (hg : base ≤ g) (hk : Blk w' g 76 c.row) : Ptrs w' base (gs ++ [g]) (l ++ [c]) := by
  refine ⟨by simp [h.1], fun j k d hj hd => ?_⟩
  by_cases hl : j < gs.length
  · rw [List.getElem?_append_left hl] at hj
    rw [List.getElem?_append_left (by rw [← h.1]; exact hl)] at hd
    obtain ⟨h1, h2⟩ := h.2 j k d hj hd
    exact ⟨h1, hb _ _ h2⟩
  · rw [List.getElem?_append_right (by omega)] at hj
    rw [List.getElem?_append_right (by rw [← h.1]; omega)] at hd
    have e1 : j - gs.length = 0 := by
      have := (List.getElem?_eq_some_iff.1 hj).1
      simp at this
      omega
    have e2 : j - l.length = 0 := by rw [← h.1]; exact e1
    rw [e1] at hj
    rw [e2] at hd
    simp only [List.getElem?_cons_zero, Option.some.injEq] at hj hd
    subst hj; subst hd
    exact ⟨hg, hk⟩
theorem own_ne {w : World} {base e s n k t : Nat} {v : Value} {xs cs : List Value} (h : w.ownsRow base e s v n xs) (hk : Blk w k t cs) (hne : t ≠ e) : some k ≠ v.ownBlock := by
  rcases h.2 with ⟨rfl, _⟩ | ⟨g, cap, cur, rfl, _, hh, _⟩
  · intro h; cases h
  · intro h
    simp only [Value.ownBlock, Option.some.injEq] at h
    subst h
    unfold Blk at hk
    rw [hk] at hh
    simp only [Option.some.injEq, Obj.cells.injEq] at hh
    exact hne hh.2.1
theorem infoMC : (Tryd.prog.info? 73).map (fun i => (i.zero, i.size, i.bytes)) = some (some (.pointer none), 1, 8) := by kernel_rfl
theorem ptrV_snoc (gs : List Nat) (g : Nat) : ptrV (gs ++ [g]) = ptrV gs ++ [.pointer (some ⟨g, 0, none⟩)] := by simp [ptrV]
theorem take_snoc {α : Type} (l : List α) (i : Nat) (d : α) (h : l[i]? = some d) : l.take (i + 1) = l.take i ++ [d] := by
  obtain ⟨g, rfl⟩ := List.getElem?_eq_some_iff.1 h
  exact List.take_succ_eq_append_getElem g
set_option maxRecDepth 100000 in
theorem givenChanges_any (A : Option Addr) (n c : Nat) (l : List Chg) (w : World) (h : Slc w A n l) (hn : n ≤ 1000000) :
    Calls Tryd.prog 20 #[.slice A n c] w fun E w' => ∃ v gs, E = .returned v ∧ w'.ownsRow w.heap.size 73 1 v n (ptrV gs) ∧ Ptrs w' w.heap.size gs l ∧ Below w.heap.size w w' := by
  have H : Hid (Slc w A n l) := h
  clear h
  go_enter Tryd.func20, Tryd.ntmps20
  go_wp2
  go_loopg [3, 10] n (fun q v3 v10 wr => ∃ (i : Nat) (gs : List Nat), v10 = .int .i64 i ∧ i ≤ n ∧ Hid (i + q = n) ∧ Hid (wr.ownsRow w.heap.size 73 1 v3 gs.length (ptrV gs)) ∧ Hid (Ptrs wr w.heap.size gs (l.take i)) ∧ Hid (Below w.heap.size w wr))
  case atStart => exact ⟨0, [], rfl, by omega, by simp [Hid], World.ownsRow_made w #[] 0 (Nat.le_refl _) (by simp [maxLen]) rfl, Ptrs.nil _ _, (Below.refl _ _).alloc (Nat.le_refl _) _⟩
  case round =>
    obtain ⟨i, gs, rfl, hi1, hq, ho, hp, hbl⟩ := hrel
    by_cases h1 : i < n
    · obtain ⟨g, o, d, rfl, hl, hc0, hc1, hc2, hc3, hc4⟩ := (H.out.below hbl.out).num h1
      cases hgone : d.gone
      · rw [hgone] at hc1
        have hop : d.op = 0 := by simp [Chg.op, hgone]
        have hgl : gs.length = i := by have := hp.out.1; rw [List.length_take, H.out.1] at this; omega
        have hs1 : Hid (Sl (((wr.alloc (.cells #[.int .u64 d.id, .bool false, .int .u32 d.level, .int .u64 d.keyId, .int .u32 d.comp] 45)).alloc (.cells #[.int .u64 d.id, .int .i32 0, .int .u32 d.level, .int .u64 d.keyId, .int .i32 0, .int .u32 d.comp] 76)).alloc (.cells #[.pointer (some ⟨wr.heap.size + 1, 0, none⟩)] 73)) (some ⟨wr.heap.size + 1 + 1, 0, none⟩) 1 [.pointer (some ⟨wr.heap.size + 1, 0, none⟩)]) := by
          have := sl_one ((wr.alloc (.cells #[.int .u64 d.id, .bool false, .int .u32 d.level, .int .u64 d.keyId, .int .u32 d.comp] 45)).alloc (.cells #[.int .u64 d.id, .int .i32 0, .int .u32 d.level, .int .u64 d.keyId, .int .i32 0, .int .u32 d.comp] 76)) (.pointer (some ⟨wr.heap.size + 1, 0, none⟩)) 73
          rwa [World.size_alloc, World.size_alloc] at this
        have ho1 : Hid ((((wr.alloc (.cells #[.int .u64 d.id, .bool false, .int .u32 d.level, .int .u64 d.keyId, .int .u32 d.comp] 45)).alloc (.cells #[.int .u64 d.id, .int .i32 0, .int .u32 d.level, .int .u64 d.keyId, .int .i32 0, .int .u32 d.comp] 76)).alloc (.cells #[.pointer (some ⟨wr.heap.size + 1, 0, none⟩)] 73)).ownsRow w.heap.size 73 1 u3 gs.length (ptrV gs)) := ((ho.out.alloc _).alloc _).alloc _
        have hk1 : Hid (Blk (((wr.alloc (.cells #[.int .u64 d.id, .bool false, .int .u32 d.level, .int .u64 d.keyId, .int .u32 d.comp] 45)).alloc (.cells #[.int .u64 d.id, .int .i32 0, .int .u32 d.level, .int .u64 d.keyId, .int .i32 0, .int .u32 d.comp] 76)).alloc (.cells #[.pointer (some ⟨wr.heap.size + 1, 0, none⟩)] 73)) (wr.heap.size + 1) 76 d.row) := by
          have := (Blk.new (wr.alloc (.cells #[.int .u64 d.id, .bool false, .int .u32 d.level, .int .u64 d.keyId, .int .u32 d.comp] 45)) 76 d.row).alloc (.cells #[.pointer (some ⟨wr.heap.size + 1, 0, none⟩)] 73)
          rw [World.size_alloc] at this
          rw [Chg.row, hop] at this
          rw [Chg.row, hop]
          exact this
        have hb1 : Hid (Below w.heap.size w (((wr.alloc (.cells #[.int .u64 d.id, .bool false, .int .u32 d.level, .int .u64 d.keyId, .int .u32 d.comp] 45)).alloc (.cells #[.int .u64 d.id, .int .i32 0, .int .u32 d.level, .int .u64 d.keyId, .int .i32 0, .int .u32 d.comp] 76)).alloc (.cells #[.pointer (some ⟨wr.heap.size + 1, 0, none⟩)] 73))) := ((hbl.out.alloc hbl.out.size _).alloc (by have := hbl.out.size; simp; omega) _).alloc (by have := hbl.out.size; simp; omega) _
        have hz1 : Hid (w.heap.size ≤ (((wr.alloc (.cells #[.int .u64 d.id, .bool false, .int .u32 d.level, .int .u64 d.keyId, .int .u32 d.comp] 45)).alloc (.cells #[.int .u64 d.id, .int .i32 0, .int .u32 d.level, .int .u64 d.keyId, .int .i32 0, .int .u32 d.comp] 76)).alloc (.cells #[.pointer (some ⟨wr.heap.size + 1, 0, none⟩)] 73)).heap.size) := hb1.out.size
        have hz0 : Hid (w.heap.size ≤ wr.heap.size) := hbl.out.size
        have hp1 : Hid (∀ k cs, Blk wr k 76 cs → Blk (((wr.alloc (.cells #[.int .u64 d.id, .bool false, .int .u32 d.level, .int .u64 d.keyId, .int .u32 d.comp] 45)).alloc (.cells #[.int .u64 d.id, .int .i32 0, .int .u32 d.level, .int .u64 d.keyId, .int .i32 0, .int .u32 d.comp] 76)).alloc (.cells #[.pointer (some ⟨wr.heap.size + 1, 0, none⟩)] 73)) k 76 cs) := fun k cs h => ((h.alloc _).alloc _).alloc _
        go_wp2_with (at_builtin; refine wpList_append_sl _ rfl (.tmp 16) (.tmp 28) 49 rfl w.heap.size 73 (.pointer none) 8 Tryd.underlying49 infoMC rfl u3 _ _ rfl ho1.out _ 1 1 [.pointer (some ⟨wr.heap.size + 1, 0, none⟩)] rfl hs1.out (by simp [Value.oneCell']) ?c2 (by omega) hz1.out ?_; (case c2 => rw [hgl]; omega); intro v1 w1 hown1 hg1 hat1)
        cases gk with
        | zero => exact absurd hq.out (by omega)
        | succ k1 =>
          go_roundg k1
          case measure => omega
          case rel =>
            refine ⟨i + 1, gs ++ [wr.heap.size + 1], by go_num, by omega, by have := hq.out; show _ = _; omega, ?_, ?_, hb1.out.grown hg1 hz1.out (fun k hk => (ho1.out.lt k hk).1)⟩
            · show World.ownsRow _ _ _ _ _ _ _
              rw [ptrV_snoc, List.length_append]
              exact hown1
            · show Ptrs _ _ _ _
              rw [take_snoc l i d hl.out]
              exact hp.out.snoc (fun k cs h => (hp1.out k cs h).grown hg1 (own_ne ho1.out (hp1.out k cs h) (by decide))) (by have := hz0.out; omega) (hk1.out.grown hg1 (own_ne ho1.out hk1.out (by decide)))
      · rw [hgone] at hc1
        have hop : d.op = 1 := by simp [Chg.op, hgone]
        have hgl : gs.length = i := by have := hp.out.1; rw [List.length_take, H.out.1] at this; omega
        have hs1 : Hid (Sl (((wr.alloc (.cells #[.int .u64 d.id, .bool true, .int .u32 d.level, .int .u64 d.keyId, .int .u32 d.comp] 45)).alloc (.cells #[.int .u64 d.id, .int .i32 1, .int .u32 d.level, .int .u64 d.keyId, .int .i32 0, .int .u32 d.comp] 76)).alloc (.cells #[.pointer (some ⟨wr.heap.size + 1, 0, none⟩)] 73)) (some ⟨wr.heap.size + 1 + 1, 0, none⟩) 1 [.pointer (some ⟨wr.heap.size + 1, 0, none⟩)]) := by
          have := sl_one ((wr.alloc (.cells #[.int .u64 d.id, .bool true, .int .u32 d.level, .int .u64 d.keyId, .int .u32 d.comp] 45)).alloc (.cells #[.int .u64 d.id, .int .i32 1, .int .u32 d.level, .int .u64 d.keyId, .int .i32 0, .int .u32 d.comp] 76)) (.pointer (some ⟨wr.heap.size + 1, 0, none⟩)) 73
          rwa [World.size_alloc, World.size_alloc] at this
        have ho1 : Hid ((((wr.alloc (.cells #[.int .u64 d.id, .bool true, .int .u32 d.level, .int .u64 d.keyId, .int .u32 d.comp] 45)).alloc (.cells #[.int .u64 d.id, .int .i32 1, .int .u32 d.level, .int .u64 d.keyId, .int .i32 0, .int .u32 d.comp] 76)).alloc (.cells #[.pointer (some ⟨wr.heap.size + 1, 0, none⟩)] 73)).ownsRow w.heap.size 73 1 u3 gs.length (ptrV gs)) := ((ho.out.alloc _).alloc _).alloc _
        have hk1 : Hid (Blk (((wr.alloc (.cells #[.int .u64 d.id, .bool true, .int .u32 d.level, .int .u64 d.keyId, .int .u32 d.comp] 45)).alloc (.cells #[.int .u64 d.id, .int .i32 1, .int .u32 d.level, .int .u64 d.keyId, .int .i32 0, .int .u32 d.comp] 76)).alloc (.cells #[.pointer (some ⟨wr.heap.size + 1, 0, none⟩)] 73)) (wr.heap.size + 1) 76 d.row) := by
          have := (Blk.new (wr.alloc (.cells #[.int .u64 d.id, .bool true, .int .u32 d.level, .int .u64 d.keyId, .int .u32 d.comp] 45)) 76 d.row).alloc (.cells #[.pointer (some ⟨wr.heap.size + 1, 0, none⟩)] 73)
          rw [World.size_alloc] at this
          rw [Chg.row, hop] at this
          rw [Chg.row, hop]
          exact this
        have hb1 : Hid (Below w.heap.size w (((wr.alloc (.cells #[.int .u64 d.id, .bool true, .int .u32 d.level, .int .u64 d.keyId, .int .u32 d.comp] 45)).alloc (.cells #[.int .u64 d.id, .int .i32 1, .int .u32 d.level, .int .u64 d.keyId, .int .i32 0, .int .u32 d.comp] 76)).alloc (.cells #[.pointer (some ⟨wr.heap.size + 1, 0, none⟩)] 73))) := ((hbl.out.alloc hbl.out.size _).alloc (by have := hbl.out.size; simp; omega) _).alloc (by have := hbl.out.size; simp; omega) _
        have hz1 : Hid (w.heap.size ≤ (((wr.alloc (.cells #[.int .u64 d.id, .bool true, .int .u32 d.level, .int .u64 d.keyId, .int .u32 d.comp] 45)).alloc (.cells #[.int .u64 d.id, .int .i32 1, .int .u32 d.level, .int .u64 d.keyId, .int .i32 0, .int .u32 d.comp] 76)).alloc (.cells #[.pointer (some ⟨wr.heap.size + 1, 0, none⟩)] 73)).heap.size) := hb1.out.size
        have hz0 : Hid (w.heap.size ≤ wr.heap.size) := hbl.out.size
        have hp1 : Hid (∀ k cs, Blk wr k 76 cs → Blk (((wr.alloc (.cells #[.int .u64 d.id, .bool true, .int .u32 d.level, .int .u64 d.keyId, .int .u32 d.comp] 45)).alloc (.cells #[.int .u64 d.id, .int .i32 1, .int .u32 d.level, .int .u64 d.keyId, .int .i32 0, .int .u32 d.comp] 76)).alloc (.cells #[.pointer (some ⟨wr.heap.size + 1, 0, none⟩)] 73)) k 76 cs) := fun k cs h => ((h.alloc _).alloc _).alloc _
        go_wp2_with (at_builtin; refine wpList_append_sl _ rfl (.tmp 16) (.tmp 28) 49 rfl w.heap.size 73 (.pointer none) 8 Tryd.underlying49 infoMC rfl u3 _ _ rfl ho1.out _ 1 1 [.pointer (some ⟨wr.heap.size + 1, 0, none⟩)] rfl hs1.out (by simp [Value.oneCell']) ?c2 (by omega) hz1.out ?_; (case c2 => rw [hgl]; omega); intro v1 w1 hown1 hg1 hat1)
        cases gk with
        | zero => exact absurd hq.out (by omega)
        | succ k1 =>
          go_roundg k1
          case measure => omega
          case rel =>
            refine ⟨i + 1, gs ++ [wr.heap.size + 1], by go_num, by omega, by have := hq.out; show _ = _; omega, ?_, ?_, hb1.out.grown hg1 hz1.out (fun k hk => (ho1.out.lt k hk).1)⟩
            · show World.ownsRow _ _ _ _ _ _ _
              rw [ptrV_snoc, List.length_append]
              exact hown1
            · show Ptrs _ _ _ _
              rw [take_snoc l i d hl.out]
              exact hp.out.snoc (fun k cs h => (hp1.out k cs h).grown hg1 (own_ne ho1.out (hp1.out k cs h) (by decide))) (by have := hz0.out; omega) (hk1.out.grown hg1 (own_ne ho1.out hk1.out (by decide)))
    · obtain rfl : i = n := by omega
      have hgl : gs.length = i := by have := hp.out.1; rw [List.length_take, H.out.1] at this; omega
      go_wp2
      go_ret
      have ho2 := ho.out
      have hp2 := hp.out
      rw [List.take_of_length_le (by rw [H.out.1]; exact Nat.le_refl _)] at hp2
      rw [hgl] at ho2
      exact ⟨_, gs, rfl, ho2, hp2, hbl.out⟩
end Go.Proofs.YtpfmmbhbmdbmeaaDoor
