/- Changes made set by set, and the changes that make a manifest anew. -/
import Derived.Test.YtpfmmbhbmdbmeaaDoorY8
import Derived.Test.YtpfmmbhbmdbmeaaDoorY6
import Derived.Test.YtpfmmbhbmdbmeaaDoorY5
import Derived.Test.YtpfmmbhbmdbmeaaDoorY4
import Derived.Test.YtpfmmbhbmdbmeaaDoorPB
import Derived.Lib.SmallJoins
namespace Go.Proofs.YtpfmmbhbmdbmeaaDoor
open Go.RowKit
set_option linter.unusedVariables false
set_option linter.unusedSimpArgs false
theorem stepM_ins {m : MF} {c : Chg} (hg : c.gone = false) (hn : hitC m.l c.id = false) : stepM m c = some ⟨insC m.l c, m.come + 1, m.gone⟩ := by
  unfold stepM
  rw [if_pos (by rw [hg, hn]), hg]
  rfl
theorem hit_none {l : List Chg} (hs : SortedC l) {x : Int} (h : ∀ a ∈ l, a.id ≠ x) : hitC l x = false := by
  cases hh : hitC l x with
  | false => rfl
  | true =>
    obtain ⟨a, ha, hax⟩ := (hit_iff hs x).1 hh
    exact absurd hax (h a ha)
theorem allM_new : ∀ (ord : List Chg) (m : MF), SortedC m.l → (∀ x ∈ ord, x.gone = false) → ord.Pairwise (fun a b => a.id ≠ b.id) → (∀ x ∈ ord, ∀ y ∈ m.l, y.id ≠ x.id) →
    ∃ m', allM m ord = some m' ∧ SortedC m'.l ∧ (∀ x, x ∈ m'.l ↔ x ∈ m.l ∨ x ∈ ord) ∧ m'.l.length = m.l.length + ord.length ∧ m'.come = m.come + ord.length ∧ m'.gone = m.gone := by
  intro ord
  induction ord with
  | nil => intro m hs _ _ _; exact ⟨m, rfl, hs, fun x => by simp, by simp, by simp, rfl⟩
  | cons c r ih =>
    intro m hs hg hp hd
    have hh : hitC m.l c.id = false := hit_none hs (hd c (List.mem_cons_self ..))
    have hp2 := List.pairwise_cons.1 hp
    obtain ⟨m', h1, h2, h3, h4, h5, h6⟩ := ih ⟨insC m.l c, m.come + 1, m.gone⟩ (insC_sorted hs hh) (fun x hx => hg x (List.mem_cons_of_mem _ hx)) hp2.2 (fun x hx y hy => by
      rcases mem_insC.1 hy with rfl | hy
      · exact hp2.1 x hx
      · exact hd x (List.mem_cons_of_mem _ hx) y hy)
    refine ⟨m', ?_, h2, fun x => ?_, ?_, ?_, h6⟩
    · show (stepM m c).bind _ = _
      rw [stepM_ins (hg c (List.mem_cons_self ..)) hh]
      exact h1
    · rw [h3 x, mem_insC, List.mem_cons]
      constructor
      · rintro ((h | h) | h)
        · exact .inr (.inl h)
        · exact .inl h
        · exact .inr (.inr h)
      · rintro (h | h | h)
        · exact .inl (.inr h)
        · exact .inl (.inl h)
        · exact .inr h
    · rw [h4, insC_len, List.length_cons]; omega
    · rw [h5, List.length_cons]; push_cast; omega
/-- A manifest's tables, put anew in any order, give them again. -/
theorem allM_anew {l ord : List Chg} (hs : SortedC l) (hg : ∀ x ∈ l, x.gone = false) (hm : ∀ x, x ∈ ord ↔ x ∈ l) (hp : ord.Pairwise (fun a b => a.id ≠ b.id)) : allM ⟨[], 0, 0⟩ ord = some ⟨l, l.length, 0⟩ ∧ ord.length = l.length := by
  obtain ⟨m', h1, h2, h3, h4, h5, h6⟩ := allM_new ord ⟨[], 0, 0⟩ List.Pairwise.nil (fun x hx => hg x ((hm x).1 hx)) hp (fun x _ y hy => by cases hy)
  have e : m'.l = l := sorted_ext _ _ h2 hs (fun x => by rw [h3 x, ← hm x]; exact ⟨fun h => h.elim (fun h => by cases h) id, .inr⟩)
  have e2 : ord.length = l.length := by rw [← e, h4]; exact (Nat.zero_add _).symm
  refine ⟨?_, e2⟩
  rw [h1]
  obtain ⟨a, b, c⟩ := m'
  obtain rfl : a = l := e
  have h5' : b = (0 : Int) + ord.length := h5
  have h6' : c = 0 := h6
  rw [h5', h6', e2, Int.zero_add]
theorem mem_delC_sub {l : List Chg} {x : Int} {a : Chg} (h : a ∈ delC l x) : a ∈ l := by
  unfold delC at h
  rcases List.mem_append.1 h with h | h
  · exact List.mem_of_mem_take h
  · exact List.mem_of_mem_drop h
theorem delC_len (l : List Chg) (x : Int) : (delC l x).length ≤ l.length := by
  unfold delC
  rw [List.length_append, List.length_take, List.length_drop]
  omega
theorem stepM_mem {m m' : MF} {c : Chg} (h : stepM m c = some m') : (∀ x ∈ m'.l, x ∈ m.l ∨ (x = c ∧ x.gone = false)) ∧ m'.l.length ≤ m.l.length + 1 := by
  unfold stepM at h
  split at h
  · injection h with h
    subst h
    cases hg : c.gone with
    | true => exact ⟨fun x hx => .inl (mem_delC_sub hx), Nat.le_succ_of_le (delC_len _ _)⟩
    | false =>
      refine ⟨fun x hx => ?_, Nat.le_of_eq (insC_len _ _)⟩
      rcases mem_insC.1 hx with rfl | h
      · exact .inr ⟨rfl, hg⟩
      · exact .inl h
  · cases h
theorem allM_mem : ∀ (l : List Chg) {m m' : MF}, allM m l = some m' → (∀ x ∈ m'.l, x ∈ m.l ∨ (x ∈ l ∧ x.gone = false)) ∧ m'.l.length ≤ m.l.length + l.length ∧ m'.come ≤ m.come + l.length ∧ m.come ≤ m'.come ∧ m'.gone ≤ m.gone + l.length ∧ m.gone ≤ m'.gone := by
  intro l
  induction l with
  | nil => intro m m' h; injection h with h; subst h; exact ⟨fun x hx => .inl hx, by simp, by simp, by simp, by simp, by simp⟩
  | cons c r ih =>
    intro m m' h
    change (stepM m c).bind (fun m' => allM m' r) = some m' at h
    cases hm : stepM m c with
    | none => rw [hm] at h; cases h
    | some m2 =>
      rw [hm] at h
      obtain ⟨h1, h2, h3, h4, h5, h6⟩ := ih h
      obtain ⟨k1, k2⟩ := stepM_mem hm
      have k3 := stepM_come hm
      refine ⟨fun x hx => ?_, by rw [List.length_cons]; omega, by rw [List.length_cons]; push_cast; omega, by omega, by rw [List.length_cons]; push_cast; omega, by omega⟩
      rcases h1 x hx with h | ⟨h, hg⟩
      · rcases k1 x h with h | ⟨rfl, hg⟩
        · exact .inl h
        · exact .inr ⟨List.mem_cons_self .., hg⟩
      · exact .inr ⟨List.mem_cons_of_mem _ h, hg⟩
/-- Sets of changes in memory. -/
def Sets (w : World) (A : Option Addr) (m : Nat) (ls : List (List Chg)) : Prop :=
  ls.length = m ∧ ∀ j, j < m → ∃ g o l B c, A = some ⟨g, o, none⟩ ∧ ls[j]? = some l ∧ w.cell? ⟨g, o + j, none⟩ = some (.slice B l.length c) ∧ Slc w B l.length l
theorem Sets.below {w w' : World} {A : Option Addr} {m : Nat} {ls : List (List Chg)} (h : Sets w A m ls) (hb : Below w.heap.size w w') : Sets w' A m ls :=
  ⟨h.1, fun j hj => by
    obtain ⟨g, o, l, B, c, e, hl, hc, hs⟩ := h.2 j hj
    exact ⟨g, o, l, B, c, e, hl, by rw [hb.cell (World.block_lt_of_cell? w _ hc)]; exact hc, hs.below hb⟩⟩
theorem mst_new {w : World} {gm bt base c : Nat} {A : Option Addr} (hb : Blk w gm 54 [.slice A 0 c, .map (some bt), .int .i64 0, .int .i64 0]) (hm : MapAt Tryd.prog w 42 .u64 bt 0 (fun _ => none)) (ho : w.ownsRow base 115 1 (.slice A 0 c) 0 []) : MSt w gm bt 0 A c [] ⟨[], 0, 0⟩ :=
  ⟨⟨hb, Joins.ownsRow_le ho (Nat.zero_le _), hm, fun b hb => (by cases hb), (by simp)⟩, fun c hc => (by cases hc), List.Pairwise.nil, (by simp)⟩
theorem foot_ge {w : World} {gm bt base c : Nat} {A : Option Addr} {es : List Value} (hg : base ≤ gm) (hb : base ≤ bt) (ho : w.ownsRow base 115 1 (.slice A 0 c) 0 es) : ∀ x ∈ foot gm bt A [], base ≤ x := fun x hx => by
  unfold foot at hx
  rcases List.mem_append.1 hx with hx | hx
  · rcases List.mem_cons.1 hx with rfl | hx
    · exact hg
    · rcases List.mem_cons.1 hx with rfl | hx
      · exact hb
      · cases hx
  · cases A with
    | none => cases hx
    | some ad =>
      rw [List.mem_singleton] at hx
      subst hx
      have h1 := ho.lt ad.block
      exact (h1 rfl).1
end Go.Proofs.YtpfmmbhbmdbmeaaDoor
