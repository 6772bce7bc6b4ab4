/- A mark in memory: the row of its numbers, the map of how many of each, up to where all is done. -/
import Derived.Test.YtanmgkpgfmkobaaOG
import Derived.Test.YtanmgkpgfmkobaaOC
namespace Go.Proofs.Ytanmgkpgfmkobaa
open Go.RowKit
set_option linter.unusedVariables false
set_option linter.unusedSimpArgs false
def idx (l : List (Nat × Int)) : List Int := l.map fun p => (p.1 : Int)
theorem idx_pair : ∀ l : List (Nat × Int), SortM l → (idx l).Pairwise (fun a b => decide (a ≤ b) = true)
  | [], _ => List.Pairwise.nil
  | (j, c) :: l, h => by
    refine List.Pairwise.cons (fun a ha => ?_) (idx_pair l h.2)
    obtain ⟨p, hp, rfl⟩ := List.mem_map.1 ha
    have := h.1 p hp
    simp only [decide_eq_true_eq]
    show (j : Int) ≤ _
    omega
theorem idx_ins_perm (i : Nat) (d : Int) : ∀ l : List (Nat × Int), SortM l → lookM i l = none → (idx (insM i d l)).Perm (idx l ++ [(i : Int)])
  | [], _, _ => List.Perm.refl _
  | (j, c) :: l, h, hn => by
    have hij : i ≠ j := fun e => by subst e; simp [lookM] at hn
    have hn2 : lookM i l = none := by unfold lookM at hn; rwa [if_neg hij] at hn
    unfold insM
    split
    · show ((i : Int) :: idx ((j, c) :: l)).Perm _
      exact (List.perm_append_singleton _ _).symm
    · exact List.Perm.cons _ (idx_ins_perm i d l h.2 hn2)
/-- One that is new comes to where it belongs. -/
theorem idx_ins (i : Nat) (d : Int) (l : List (Nat × Int)) (h : SortM l) (hn : lookM i l = none) : idx (insM i d l) = (idx l ++ [(i : Int)]).mergeSort fun x y => decide (x ≤ y) := by
  refine List.Perm.eq_of_pairwise (le := fun a b => decide (a ≤ b) = true) (fun a b _ _ h1 h2 => ?_) (idx_pair _ (insM_sort i d l h)) (List.pairwise_mergeSort (fun a b c h1 h2 => ?_) (fun a b => ?_) _) ((idx_ins_perm i d l h hn).trans (List.mergeSort_perm _ _).symm)
  · simp only [decide_eq_true_eq] at h1 h2; omega
  · simp only [decide_eq_true_eq] at h1 h2 ⊢; omega
  · simp only [Bool.or_eq_true, decide_eq_true_eq]; omega
/-- One that stands there stays where it is. -/
theorem idx_ins_has (i : Nat) (d : Int) : ∀ (l : List (Nat × Int)), SortM l → (lookM i l).isSome = true → idx (insM i d l) = idx l
  | [], _, h => by cases h
  | (j, c) :: l, h, hs => by
    unfold insM
    split
    · rename_i hlt
      exfalso
      obtain ⟨b, hb⟩ := Option.isSome_iff_exists.1 hs
      rcases List.mem_cons.1 (lookM_mem _ _ _ hb) with e | e
      · injection e with e1 e2; omega
      · have := h.1 _ e; simp only at this; omega
    · split
      · rfl
      · rename_i h1 h2
        show (j : Int) :: idx (insM i d l) = (j : Int) :: idx l
        rw [idx_ins_has i d l h.2 (by unfold lookM at hs; rwa [if_neg h2] at hs)]
theorem idx_len (l : List (Nat × Int)) : (idx l).length = l.length := by simp [idx]
theorem insM_len (i : Nat) (d : Int) : ∀ (l : List (Nat × Int)), (insM i d l).length ≤ l.length + 1
  | [] => Nat.le_refl _
  | (j, c) :: l => by
    unfold insM
    split
    · simp
    · split
      · simp
      · have := insM_len i d l; simp only [List.length_cons]; omega
theorem popM_len : ∀ (l : List (Nat × Int)) (u : Nat), (popM l u).pend.length ≤ l.length
  | [], _ => Nat.le_refl _
  | (j, c) :: l, u => by
    unfold popM
    split
    · exact Nat.le_refl _
    · have := popM_len l j; simp only [List.length_cons]; omega
theorem insM_cnt (i : Nat) (d : Int) (hd : -1 ≤ d ∧ d ≤ 1) (K : Int) (hK : 0 ≤ K) : ∀ (l : List (Nat × Int)), (∀ p ∈ l, -K ≤ p.2 ∧ p.2 ≤ K) → ∀ p ∈ insM i d l, -(K + 1) ≤ p.2 ∧ p.2 ≤ K + 1
  | [], _, p, hp => by
    rw [show insM i d [] = [(i, d)] from rfl, List.mem_singleton] at hp
    subst hp
    omega
  | (j, c) :: l, h, p, hp => by
    have hc := h _ (List.mem_cons_self ..)
    have hw : ∀ p ∈ l, -(K + 1) ≤ p.2 ∧ p.2 ≤ K + 1 := fun p hp => by have := h p (List.mem_cons_of_mem _ hp); omega
    simp only at hc
    unfold insM at hp
    split at hp
    · rcases List.mem_cons.1 hp with rfl | hp
      · simp only; omega
      · rcases List.mem_cons.1 hp with rfl | hp
        · simp only; omega
        · exact hw p hp
    · split at hp
      · rcases List.mem_cons.1 hp with rfl | hp
        · simp only; omega
        · exact hw p hp
      · rcases List.mem_cons.1 hp with rfl | hp
        · simp only; omega
        · exact insM_cnt i d hd K hK l (fun p hp => h p (List.mem_cons_of_mem _ hp)) p hp
theorem insM_le (i : Nat) (d : Int) (K : Nat) (l : List (Nat × Int)) (hi : i ≤ K) (h : ∀ p ∈ l, p.1 ≤ K) : ∀ p ∈ insM i d l, p.1 ≤ K := fun p hp => by
  rcases insM_mem i d l p hp with e | ⟨q, hq, e⟩
  · omega
  · have := h q hq; omega
theorem popM_mem : ∀ (l : List (Nat × Int)) (u : Nat) (p : Nat × Int), p ∈ (popM l u).pend → p ∈ l
  | [], _, _, h => h
  | (j, c) :: l, u, p, h => by
    unfold popM at h
    split at h
    · exact h
    · exact List.mem_cons_of_mem _ (popM_mem l j p h)
theorem popM_sort : ∀ (l : List (Nat × Int)) (u : Nat), SortM l → SortM (popM l u).pend
  | [], _, _ => trivial
  | (j, c) :: l, u, h => by
    unfold popM
    split
    · exact h
    · exact popM_sort l j h.2
theorem popM_til : ∀ (l : List (Nat × Int)) (u K : Nat), u ≤ K → (∀ p ∈ l, p.1 ≤ K) → (popM l u).til ≤ K
  | [], _, _, h, _ => h
  | (j, c) :: l, u, K, h, hl => by
    unfold popM
    split
    · exact h
    · exact popM_til l j K (hl _ (List.mem_cons_self ..)) (fun p hp => hl p (List.mem_cons_of_mem _ hp))
/-- How many of each. -/
def pendF (l : List (Nat × Int)) (x : Int) : Option Value := if x < 0 then none else (lookM x.toNat l).map (Value.int .i64)
theorem pendF_nil : pendF [] = fun _ => none := by funext x; unfold pendF; split <;> rfl
theorem pendF_at (l : List (Nat × Int)) (i : Nat) : pendF l (i : Int) = (lookM i l).map (Value.int .i64) := by
  unfold pendF
  rw [if_neg (by omega), Int.toNat_natCast]
theorem pendF_ins (i : Nat) (d : Int) (l : List (Nat × Int)) (h : SortM l) : updM (pendF l) (i : Int) (some (.int .i64 ((lookM i l).getD 0 + d))) = pendF (insM i d l) := by
  funext x
  unfold updM
  by_cases hx : x < 0
  · rw [if_neg (by omega)]; unfold pendF; rw [if_pos hx, if_pos hx]
  · obtain ⟨k, rfl⟩ : ∃ k : Nat, x = (k : Int) := ⟨x.toNat, by omega⟩
    rw [pendF_at, pendF_at, insM_look i d k l h]
    by_cases hk : k = i
    · subst hk; rw [if_pos rfl, if_pos rfl]; rfl
    · rw [if_neg (by omega), if_neg hk]
theorem lookM_none : ∀ (l : List (Nat × Int)) (i : Nat), (∀ p ∈ l, i < p.1) → lookM i l = none
  | [], _, _ => rfl
  | (j, c) :: l, i, h => by
    unfold lookM
    rw [if_neg (by have := h _ (List.mem_cons_self ..); simp only at this; omega)]
    exact lookM_none l i fun p hp => h p (List.mem_cons_of_mem _ hp)
theorem pendF_tail (j : Nat) (c : Int) (l : List (Nat × Int)) (h : SortM ((j, c) :: l)) : updM (pendF ((j, c) :: l)) (j : Int) none = pendF l := by
  funext x
  unfold updM
  by_cases hx : x < 0
  · rw [if_neg (by omega)]; unfold pendF; rw [if_pos hx, if_pos hx]
  · obtain ⟨k, rfl⟩ : ∃ k : Nat, x = (k : Int) := ⟨x.toNat, by omega⟩
    rw [pendF_at, pendF_at]
    by_cases hk : k = j
    · subst hk; rw [if_pos rfl, lookM_none l k h.1]; rfl
    · rw [if_neg (by omega)]
      show ((if k = j then some c else lookM k l)).map _ = _
      rw [if_neg hk]
theorem mapAt_ne_blk {P : Program} {w : World} {k : TypeId} {q : IntKind} {b n g t : Nat} {m : Int → Option Value} {cs : List Value} (h : MapAt P w k q b n m) (hk : Blk w g t cs) : b ≠ g := fun e => by
  obtain ⟨D, ⟨es, clock, h1, _⟩, _⟩ := h
  subst e
  have h2 : w.heap[b]? = some (.cells cs.toArray t (0, 0)) := hk
  rw [h1] at h2
  injection h2 with h2
  cases h2
theorem blk_neO {w : World} {a b t u : Nat} {cs ds : List Value} (h : Blk w a t cs) (k : Blk w b u ds) (hne : t ≠ u) : a ≠ b := fun e => by
  subst e
  have h1 : w.heap[a]? = some (.cells cs.toArray t (0, 0)) := h
  have h2 : w.heap[a]? = some (.cells ds.toArray u (0, 0)) := k
  rw [h1] at h2
  injection h2 with h2
  injection h2 with _ h3 _
  exact hne h3
theorem wfu64 (i : Nat) (h : i ≤ 18446744073709551615) : (Lit.int .u64 (i : Int)).wf = true := by
  simp [Lit.wf, IntKind.max, IntKind.min, IntKind.bits, IntKind.signed]
  omega
theorem u64intO : Try.prog.underlying 28 = some (.int .u64) := Try.underlying28
theorem zeroO (w : World) : (zeroValue 3).run Try.prog w = .ok (.int .i64 0) w := by kernel_rfl
/-- A mark in memory: block g, its map bp, its row v. -/
structure MkS (w : World) (B g bp n : Nat) (v : Value) (l : List (Nat × Int)) (til : Nat) : Prop where
  blk : Blk w g 180 [v, .map (some bp), .int .u64 (til : Int)]
  own : OwnO w B 28 v (nums .u64 (idx l))
  map : MapAt Try.prog w 28 .u64 bp n (pendF l)
def footM (g bp : Nat) (v : Value) : List Nat := g :: bp :: v.ownBlock.toList
section
variable {w w' : World} {B g bp n til : Nat} {v : Value} {l : List (Nat × Int)}
theorem MkS.ne1 (h : MkS w B g bp n v l til) : bp ≠ g := mapAt_ne_blk h.map h.blk
theorem MkS.ne2 (h : MkS w B g bp n v l til) : g ∉ v.ownBlock.toList := fun hk => by
  obtain ⟨cs, hb, _⟩ := h.own.blk hk
  exact blk_neO hb h.blk (by decide) rfl
theorem MkS.ne3 (h : MkS w B g bp n v l til) : bp ∉ v.ownBlock.toList := fun hk => by
  obtain ⟨cs, hb, _⟩ := h.own.blk hk
  exact mapAt_ne_blk h.map hb rfl
theorem MkS.lt (h : MkS w B g bp n v l til) : ∀ k ∈ footM g bp v, k < w.heap.size := fun k hk => by
  rcases List.mem_cons.1 hk with rfl | hk
  · exact h.blk.lt
  · rcases List.mem_cons.1 hk with rfl | hk
    · exact h.map.lt
    · obtain ⟨cs, hb, _⟩ := h.own.blk hk
      exact hb.lt
theorem MkS.frm {L : List Nat} (h : MkS w B g bp n v l til) (hf : Frm L w w') (hn : ∀ k ∈ footM g bp v, k ∉ L) : MkS w' B g bp n v l til :=
  ⟨h.blk.frm hf (hn g (by simp [footM])), h.own.frm hf (fun k hk => hn k (by simp only [footM, List.mem_cons]; exact .inr (.inr hk))), h.map.frm hf (hn bp (by simp [footM]))⟩
theorem MkS.mono (h : MkS w B g bp n v l til) {n' : Nat} (hn : n ≤ n') : MkS w B g bp n' v l til := ⟨h.blk, h.own, h.map.mono hn⟩
end
theorem infoU64O : (Try.prog.info? 28).map (fun i => (i.zero, i.size, i.bytes)) = some (some (.int .u64 0), 1, 8) := by kernel_rfl
theorem info_someO {α β : Type} {o : Option α} {f : α → β} {b : β} (h : o.map f = some b) : ∃ i, o = some i ∧ f i = b := by
  cases o with
  | none => cases h
  | some i => exact ⟨i, rfl, Option.some.inj h⟩
/-- append of one number to a row of one's own, in a region that draws. -/
theorem step_appendO {ops : Array Oper} {o : Oper} {a : Act} {w : World} {K : Act → World → Prop} {Q : Exit → Act → World → Prop} {E : Prop} (hgd : o.guard = none) (s x : Operand)
    (ho : o.op = .call { callee := .builtin .append, args := #[s, x], argTypes := #[59, 59] })
    (B : Nat) (v : Value) (l : List Int) (hs : a.eval s = v) (hown : OwnO w B 28 v (nums .u64 l))
    (g c : Nat) (y : Int) (hx : a.eval x = .slice (some ⟨g, 0, none⟩) 1 c) (hb : w.cell? ⟨g, 0, none⟩ = some (.int .u64 y))
    (hn : l.length ≤ 1000000) (hB : B ≤ w.heap.size)
    (h : ∀ v' w', OwnO w' B 28 v' (nums .u64 (l ++ [y])) → w.grownBy w' v.ownBlock → (v'.ownBlock = v.ownBlock ∨ v'.ownBlock = some w.heap.size) → K (a.put o.dst v') w') :
    if Region.wanted o (yielded ops a.tmps) = true then Oper.wp Try.prog o a w K Q else E := by
  have hw : Region.wanted o (yielded ops a.tmps) = true := by simp [Region.wanted, hgd]
  rw [if_pos hw]
  obtain ⟨i, hi, hf⟩ := info_someO infoU64O
  simp only [Prod.mk.injEq] at hf
  obtain ⟨hz0, hz1, hz2⟩ := hf
  obtain ⟨v', w', hrun, h2, h3, h4⟩ := run_appendO (P := Try.prog) w B 59 o.type 28 i (.int .u64 0) 8 Try.underlying59 hi hz0 hz1 hz2 rfl v (nums .u64 l) hown ⟨g, 0, none⟩ c (.int .u64 y) hb rfl (by rw [nums_length]; simp only [maxLen]; omega) (by rw [nums_length]; omega) hB
  unfold Oper.wp execOp
  simp only [ho, resolve, invoke, builtin, Sem.run_bind, Sem.run_pure, Result.andThen_ok, List.map_toArray, List.map_cons, List.map_nil, hs, hx, hrun]
  exact h v' w' (by rw [nums_snoc]; exact h2) h3 h4
end Go.Proofs.Ytanmgkpgfmkobaa
