/- An oracle of versions, in plain words: what it does, act by act; what should be told; that they agree. -/
namespace Go.Proofs.Ytanmgkpgfmkobaa
set_option linter.unusedVariables false
set_option linter.unusedSimpArgs false
/-- An act of a transaction. -/
structure OAct where
  kind : Int
  txn : Int
  key : Int
/-- What is told behind an act. -/
structure OTold where
  ver : Nat
  conf : Bool
  below : Nat
  next : Nat
/-- A transaction, as the oracle has it. -/
structure OTx where
  rts : Nat
  reads : List Int
  writes : List Int
  dr : Bool
/-- A mark: what has begun, with how many of each, and up to where all is done. -/
structure OMk where
  pend : List (Nat × Int)
  til : Nat
def insM (i : Nat) (d : Int) : List (Nat × Int) → List (Nat × Int)
  | [] => [(i, d)]
  | (j, c) :: l => if i < j then (i, d) :: (j, c) :: l else if i = j then (j, c + d) :: l else (j, c) :: insM i d l
def popM : List (Nat × Int) → Nat → OMk
  | [], u => ⟨[], u⟩
  | (j, c) :: l, u => if c > 0 then ⟨(j, c) :: l, u⟩ else popM l j
def OMk.proc (m : OMk) (i : Nat) (d : Int) : OMk := popM (insM i d m.pend) m.til
/-- The oracle. -/
structure OSt where
  next : Nat
  txs : List OTx
  rmk : OMk
  com : List (Nat × Nat)
  lc : Nat
def oInit : OSt := ⟨1, [], ⟨[], 0⟩, [], 0⟩
def OSt.done (s : OSt) (t : Nat) (x : OTx) : OSt := if x.dr = true then s else { s with txs := s.txs.set t { x with dr := true }, rmk := s.rmk.proc x.rts (-1) }
def OSt.clean (conflicts : Bool) (s : OSt) : OSt := if conflicts = true then (if s.rmk.til = s.lc then s else { s with lc := s.rmk.til, com := s.com.filter fun c => decide (s.rmk.til < c.1) }) else s
def OSt.hits (s : OSt) (x : OTx) : Bool := s.com.any fun c => decide (x.rts < c.1) && x.reads.any fun k => match s.txs[c.2]? with
  | some y => y.writes.contains k
  | none => false
/-- An act: the oracle behind it, the version and whether there is a conflict. -/
def OSt.act (conflicts : Bool) (s : OSt) (a : OAct) : OSt × Nat × Bool :=
  if a.kind = 0 then ({ s with txs := s.txs ++ [⟨s.next - 1, [], [], false⟩], rmk := s.rmk.proc (s.next - 1) 1 }, s.next - 1, false)
  else if a.txn < 0 then (s, 0, false)
  else match s.txs[a.txn.toNat]? with
    | none => (s, 0, false)
    | some x =>
      if a.kind = 1 then ({ s with txs := s.txs.set a.txn.toNat { x with reads := x.reads ++ [a.key] } }, 0, false)
      else if a.kind = 2 then ({ s with txs := s.txs.set a.txn.toNat { x with writes := x.writes ++ [a.key] } }, 0, false)
      else if a.kind = 3 then
        if s.hits x = true then (s, 0, true)
        else
          let s1 := (s.done a.txn.toNat x).clean conflicts
          ({ s1 with next := s1.next + 1, com := if conflicts = true then s1.com ++ [(s1.next, a.txn.toNat)] else s1.com }, s1.next, false)
      else if a.kind = 4 then (s.done a.txn.toNat x, 0, false)
      else (s, 0, false)
def oRun (conflicts : Bool) : OSt → List OAct → List OTold
  | _, [] => []
  | s, a :: l => let r := s.act conflicts a; ⟨r.2.1, r.2.2, r.1.rmk.til, r.1.next⟩ :: oRun conflicts r.1 l
/-- What should be told: a transaction, as the reference has it. -/
structure STx where
  rds : Nat
  read : List Int
  writes : List Int
  ended : Bool
structure SSt where
  next : Nat
  txs : List STx
  last : List (Int × Nat)
def sInit (first : Nat) : SSt := ⟨first, [], []⟩
def SSt.hits (conflicts : Bool) (s : SSt) (x : STx) : Bool := x.read.any fun k => s.last.any fun c => conflicts && (c.1 == k) && decide (x.rds < c.2)
/-- none: not an act. -/
def SSt.act (conflicts : Bool) (s : SSt) (a : OAct) : Option (SSt × Nat × Bool) :=
  if a.kind = 0 then some ({ s with txs := s.txs ++ [⟨s.next - 1, [], [], false⟩] }, s.next - 1, false)
  else if a.txn < 0 then none
  else match s.txs[a.txn.toNat]? with
    | none => none
    | some x =>
      if x.ended = true then none
      else if a.kind = 1 then some ({ s with txs := s.txs.set a.txn.toNat { x with read := x.read ++ [a.key] } }, 0, false)
      else if a.kind = 2 then some ({ s with txs := s.txs.set a.txn.toNat { x with writes := x.writes ++ [a.key] } }, 0, false)
      else if a.kind = 4 then some ({ s with txs := s.txs.set a.txn.toNat { x with ended := true } }, 0, false)
      else if a.kind = 3 then
        if s.hits conflicts x = true then some (s, 0, true)
        else some ({ next := s.next + 1, txs := s.txs.set a.txn.toNat { x with ended := true }, last := s.last ++ x.writes.map fun k => (k, s.next) }, s.next, false)
      else none
def sRun (conflicts : Bool) : SSt → List OAct → Option (List (Nat × Bool × Nat))
  | _, [] => some []
  | s, a :: l => match s.act conflicts a with
    | none => none
    | some r => (sRun conflicts r.1 l).map fun q => (r.2.1, r.2.2, r.1.next) :: q
/-- How many transactions that have not ended read at a version. -/
def cnt1 (x : OTx) (i : Nat) : Int := if x.rts = i ∧ x.dr = false then 1 else 0
def actv : List OTx → Nat → Int
  | [], _ => 0
  | x :: l, i => cnt1 x i + actv l i
def lookM (i : Nat) : List (Nat × Int) → Option Int
  | [] => none
  | (j, c) :: l => if i = j then some c else lookM i l
def SortM : List (Nat × Int) → Prop
  | [] => True
  | (j, _) :: l => (∀ p ∈ l, j < p.1) ∧ SortM l
theorem insM_look (i : Nat) (d : Int) (k : Nat) : ∀ l : List (Nat × Int), SortM l → lookM k (insM i d l) = if k = i then some ((lookM i l).getD 0 + d) else lookM k l
  | [], _ => by
    show (if k = i then some d else none) = _
    by_cases h : k = i
    · rw [if_pos h, if_pos h]; show some d = some (0 + d); rw [Int.zero_add]
    · rw [if_neg h, if_neg h]; rfl
  | (j, c) :: l, h => by
    have ih := insM_look i d k l h.2
    unfold insM
    by_cases h1 : i < j
    · rw [if_pos h1]
      have hn : lookM i ((j, c) :: l) = none := by
        have : ∀ l : List (Nat × Int), (∀ p ∈ l, i < p.1) → lookM i l = none := by
          intro l
          induction l with
          | nil => intro _; rfl
          | cons p l ihl =>
            intro hp
            unfold lookM
            rw [if_neg (by have := hp p (List.mem_cons_self ..); omega)]
            exact ihl fun q hq => hp q (List.mem_cons_of_mem _ hq)
        exact this _ fun p hp => by
          rcases List.mem_cons.1 hp with rfl | hp
          · exact h1
          · have := h.1 p hp; omega
      by_cases hk : k = i
      · subst hk
        rw [if_pos rfl, hn]
        show (if k = k then some d else _) = _
        rw [if_pos rfl]
        show some d = some (0 + d)
        rw [Int.zero_add]
      · rw [if_neg hk]
        show (if k = i then some d else lookM k ((j, c) :: l)) = _
        rw [if_neg hk]
    · rw [if_neg h1]
      by_cases h2 : i = j
      · subst h2
        rw [if_pos rfl]
        show (if k = i then some (c + d) else lookM k l) = if k = i then some ((if i = i then some c else lookM i l).getD 0 + d) else if k = i then some c else lookM k l
        by_cases hk : k = i
        · rw [if_pos hk, if_pos hk, if_pos rfl]; rfl
        · rw [if_neg hk, if_neg hk, if_neg hk]
      · rw [if_neg h2]
        show (if k = j then some c else lookM k (insM i d l)) = if k = i then some ((if i = j then some c else lookM i l).getD 0 + d) else if k = j then some c else lookM k l
        rw [if_neg h2, ih]
        by_cases hk : k = j
        · rw [if_pos hk, if_neg (by omega), if_pos hk]
        · rw [if_neg hk, if_neg hk]
theorem insM_mem (i : Nat) (d : Int) : ∀ (l : List (Nat × Int)) (p : Nat × Int), p ∈ insM i d l → p.1 = i ∨ ∃ q ∈ l, q.1 = p.1
  | [], p, h => by
    rw [show insM i d [] = [(i, d)] from rfl, List.mem_singleton] at h
    exact .inl (by rw [h])
  | (j, c) :: l, p, h => by
    unfold insM at h
    split at h
    · rcases List.mem_cons.1 h with rfl | h
      · exact .inl rfl
      · exact .inr ⟨p, h, rfl⟩
    · split at h
      · rcases List.mem_cons.1 h with rfl | h
        · exact .inr ⟨(j, c), List.mem_cons_self .., rfl⟩
        · exact .inr ⟨p, List.mem_cons_of_mem _ h, rfl⟩
      · rcases List.mem_cons.1 h with rfl | h
        · exact .inr ⟨_, List.mem_cons_self .., rfl⟩
        · rcases insM_mem i d l p h with h | ⟨q, hq, e⟩
          · exact .inl h
          · exact .inr ⟨q, List.mem_cons_of_mem _ hq, e⟩
theorem insM_sort (i : Nat) (d : Int) : ∀ l : List (Nat × Int), SortM l → SortM (insM i d l)
  | [], _ => ⟨fun _ h => (by cases h), trivial⟩
  | (j, c) :: l, h => by
    unfold insM
    split
    · rename_i h1
      exact ⟨fun p hp => by
        rcases List.mem_cons.1 hp with rfl | hp
        · exact h1
        · have := h.1 p hp; omega, h⟩
    · rename_i h1
      split
      · exact ⟨h.1, h.2⟩
      · rename_i h2
        exact ⟨fun p hp => by
          rcases insM_mem i d l p hp with e | ⟨q, hq, e⟩
          · omega
          · have := h.1 q hq; omega, insM_sort i d l h.2⟩
theorem lookM_mem : ∀ (l : List (Nat × Int)) (i : Nat) (c : Int), lookM i l = some c → (i, c) ∈ l
  | [], _, _, h => by cases h
  | (j, b) :: l, i, c, h => by
    unfold lookM at h
    split at h
    · rename_i e
      injection h with h
      subst h e
      exact List.mem_cons_self ..
    · exact List.mem_cons_of_mem _ (lookM_mem l i c h)
/-- A mark is right: in order, from where all is done on; what it holds is what has begun; what stands first has not ended. -/
structure MOk (act : Nat → Int) (hi : Nat) (m : OMk) : Prop where
  sort : SortM m.pend
  lo : ∀ p ∈ m.pend, m.til ≤ p.1 ∧ p.1 ≤ hi
  look : ∀ i c, lookM i m.pend = some c → c = act i
  all : ∀ i, lookM i m.pend = none → act i = 0
  til : m.til ≤ hi
theorem popM_ok (act : Nat → Int) (hi : Nat) : ∀ (l : List (Nat × Int)) (u : Nat), SortM l → (∀ p ∈ l, u ≤ p.1 ∧ p.1 ≤ hi) → (∀ i c, lookM i l = some c → c = act i) → (∀ i, lookM i l = none → act i = 0) → (∀ i, 0 ≤ act i) → u ≤ hi → MOk act hi (popM l u) ∧ u ≤ (popM l u).til
  | [], u, _, _, h3, h4, _, hu => ⟨⟨trivial, fun _ h => (by cases h), fun _ _ h => (by cases h), fun i _ => h4 i rfl, hu⟩, Nat.le_refl _⟩
  | (j, c) :: l, u, h1, h2, h3, h4, h5, hu => by
    unfold popM
    split
    · exact ⟨⟨h1, h2, h3, h4, hu⟩, Nat.le_refl _⟩
    · rename_i hc
      have hj := h2 _ (List.mem_cons_self ..)
      have hcj : c = act j := h3 j c (by unfold lookM; rw [if_pos rfl])
      have hjn : lookM j l = none := by
        cases hh : lookM j l with
        | none => rfl
        | some b => have := h1.1 _ (lookM_mem l j b hh); exact absurd this (by simp)
      have hlk : ∀ i, i ≠ j → lookM i ((j, c) :: l) = lookM i l := fun i hi => by
        show (if i = j then some c else lookM i l) = _
        rw [if_neg hi]
      obtain ⟨a1, a2⟩ := popM_ok act hi l j h1.2 (fun p hp => ⟨by have := h1.1 p hp; omega, (h2 p (List.mem_cons_of_mem _ hp)).2⟩) (fun i b hb => by
        by_cases hij : i = j
        · rw [hij, hjn] at hb; cases hb
        · exact h3 i b (by rw [hlk i hij]; exact hb)) (fun i hb => by
        by_cases hij : i = j
        · have := h5 j; rw [hij]; omega
        · exact h4 i (by rw [hlk i hij]; exact hb)) h5 hj.2
      exact ⟨a1, by omega⟩
/-- One more, or one less. -/
theorem MOk.proc {act act' : Nat → Int} {hi hi' : Nat} {m : OMk} (h : MOk act hi m) (i : Nat) (d : Int) (hil : m.til ≤ i) (hih : i ≤ hi') (hhi : hi ≤ hi') (he : ∀ k, act' k = if k = i then act k + d else act k) (h0 : ∀ k, 0 ≤ act' k) : MOk act' hi' (m.proc i d) ∧ m.til ≤ (m.proc i d).til := by
  refine popM_ok act' hi' _ _ (insM_sort i d _ h.sort) (fun p hp => ?_) (fun k c hk => ?_) (fun k hk => ?_) h0 (by have := h.til; omega)
  · rcases insM_mem i d _ p hp with e | ⟨q, hq, e⟩
    · omega
    · have := h.lo q hq; omega
  · rw [insM_look i d k _ h.sort] at hk
    rw [he k]
    by_cases hki : k = i
    · rw [if_pos hki] at hk ⊢
      injection hk with hk
      subst hki
      cases hl : lookM k m.pend with
      | none => rw [hl] at hk; have := h.all k hl; rw [← hk, this]; rfl
      | some c' => rw [hl] at hk; have := h.look k c' hl; rw [← hk, ← this]; rfl
    · rw [if_neg hki] at hk ⊢
      exact h.look k c hk
  · rw [insM_look i d k _ h.sort] at hk
    by_cases hki : k = i
    · rw [if_pos hki] at hk; cases hk
    · rw [if_neg hki] at hk
      rw [he k, if_neg hki]
      exact h.all k hk
end Go.Proofs.Ytanmgkpgfmkobaa
