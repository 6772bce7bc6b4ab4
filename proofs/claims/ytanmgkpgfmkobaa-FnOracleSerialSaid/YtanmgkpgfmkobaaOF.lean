/- What an oracle lets go is not in use; what is committed could have been made one after the other: the plain laws. -/
import Derived.Test.YtanmgkpgfmkobaaOE
namespace Go.Proofs.Ytanmgkpgfmkobaa
set_option linter.unusedVariables false
set_option linter.unusedSimpArgs false
def oState (cf : Bool) : OSt → List OAct → OSt
  | s, [] => s
  | s, a :: l => oState cf (s.act cf a).1 l
def sState (cf : Bool) : SSt → List OAct → Option SSt
  | q, [] => some q
  | q, a :: l => match q.act cf a with
    | none => none
    | some r => sState cf r.1 l
theorem sState_run (cf : Bool) : ∀ (l : List OAct) (q : SSt), (∃ L, sRun cf q l = some L) → ∃ q', sState cf q l = some q'
  | [], q, _ => ⟨q, rfl⟩
  | a :: l, q, h => by
    obtain ⟨L, hL⟩ := h
    unfold sRun at hL
    unfold sState
    cases hr : q.act cf a with
    | none => rw [hr] at hL; cases hL
    | some r =>
      rw [hr] at hL
      simp only at hL ⊢
      obtain ⟨L', hl', _⟩ := Option.map_eq_some_iff.1 hL
      exact sState_run cf l r.1 ⟨L', hl'⟩
theorem sRun_take (cf : Bool) : ∀ (l : List OAct) (q : SSt) (L : List (Nat × Bool × Nat)), sRun cf q l = some L → ∀ i, sRun cf q (l.take i) = some (L.take i)
  | [], q, L, h, i => by
    obtain rfl : [] = L := Option.some.inj h
    rw [List.take_nil, List.take_nil]
    rfl
  | a :: l, q, L, h, 0 => rfl
  | a :: l, q, L, h, i + 1 => by
    unfold sRun at h
    rw [List.take_succ_cons]
    unfold sRun
    cases hr : q.act cf a with
    | none => rw [hr] at h; cases h
    | some r =>
      rw [hr] at h
      simp only at h ⊢
      obtain ⟨L', hl', rfl⟩ := Option.map_eq_some_iff.1 h
      rw [sRun_take cf l r.1 L' hl' i]
      rfl
theorem sRun_len (cf : Bool) : ∀ (l : List OAct) (q : SSt) (L : List (Nat × Bool × Nat)), sRun cf q l = some L → L.length = l.length
  | [], q, L, h => by obtain rfl : [] = L := Option.some.inj h; rfl
  | a :: l, q, L, h => by
    unfold sRun at h
    cases hr : q.act cf a with
    | none => rw [hr] at h; cases h
    | some r =>
      rw [hr] at h
      simp only at h
      obtain ⟨L', hl', rfl⟩ := Option.map_eq_some_iff.1 h
      rw [List.length_cons, List.length_cons, sRun_len cf l r.1 L' hl']
theorem oRun_len (cf : Bool) : ∀ (l : List OAct) (s : OSt), (oRun cf s l).length = l.length
  | [], _ => rfl
  | a :: l, s => by show (_ :: oRun cf (s.act cf a).1 l).length = _; rw [List.length_cons, oRun_len cf l, List.length_cons]
theorem oRun_get (cf : Bool) : ∀ (l : List OAct) (s : OSt) (i : Nat) (t : OTold), (oRun cf s l)[i]? = some t → t.below = (oState cf s (l.take (i + 1))).rmk.til ∧ t.next = (oState cf s (l.take (i + 1))).next
  | [], _, i, t, h => by rw [show oRun cf _ [] = [] from rfl] at h; simp at h
  | a :: l, s, 0, t, h => by
    have h : some _ = some t := h
    injection h with h
    subst h
    exact ⟨rfl, rfl⟩
  | a :: l, s, i + 1, t, h => oRun_get cf l (s.act cf a).1 i t h
theorem oState_ok (cf : Bool) : ∀ (l : List OAct) (s : OSt), OOk s → OOk (oState cf s l) ∧ s.rmk.til ≤ (oState cf s l).rmk.til
  | [], s, h => ⟨h, Nat.le_refl _⟩
  | a :: l, s, h => by
    obtain ⟨a1, a2, _⟩ := h.act cf a
    obtain ⟨b1, b2⟩ := oState_ok cf l _ a1
    exact ⟨b1, Nat.le_trans a2 b2⟩
theorem oState_app (cf : Bool) : ∀ (l k : List OAct) (s : OSt), oState cf s (l ++ k) = oState cf (oState cf s l) k
  | [], _, _ => rfl
  | a :: l, k, s => oState_app cf l k (s.act cf a).1
theorem sState_app (cf : Bool) : ∀ (l : List OAct) (a : OAct) (q q1 : SSt) (r : SSt × Nat × Bool), sState cf q l = some q1 → q1.act cf a = some r → sState cf q (l ++ [a]) = some r.1
  | [], a, q, q1, r, h, hr => by
    obtain rfl : q = q1 := Option.some.inj h
    show (match q.act cf a with
      | none => none
      | some r => sState cf r.1 []) = _
    rw [hr]
    rfl
  | b :: l, a, q, q1, r, h, hr => by
    unfold sState at h
    show (match q.act cf b with
      | none => none
      | some r => sState cf r.1 (l ++ [a])) = _
    cases hb : q.act cf b with
    | none => rw [hb] at h; cases h
    | some r0 =>
      rw [hb] at h
      exact sState_app cf l a r0.1 q1 r h hr
theorem state_sim (cf : Bool) : ∀ (l : List OAct) (s : OSt) (q q' : SSt), OSim cf s q → sState cf q l = some q' → OSim cf (oState cf s l) q'
  | [], s, q, q', h, e => by obtain rfl : q = q' := Option.some.inj e; exact h
  | a :: l, s, q, q', h, e => by
    unfold sState at e
    cases hr : q.act cf a with
    | none => rw [hr] at e; cases e
    | some r =>
      rw [hr] at e
      exact state_sim cf l _ r.1 q' (h.act a hr).1 e
/-- Up to where versions may go: never more than what is read at, never falling, less than what a commit gets next. -/
theorem below_ok (cf : Bool) (l : List OAct) (i : Nat) (t : OTold) (ht : (oRun cf oInit l)[i]? = some t) : t.below < t.next ∧ (∀ j u, j ≤ i → (oRun cf oInit l)[j]? = some u → u.below ≤ t.below) ∧ ∀ q, sState cf (sInit 1) (l.take (i + 1)) = some q → ∀ x ∈ q.txs, x.ended = false → t.below ≤ x.rds := by
  obtain ⟨e1, e2⟩ := oRun_get cf l oInit i t ht
  obtain ⟨o1, o2⟩ := oState_ok cf (l.take (i + 1)) oInit oInit_ok
  refine ⟨?_, fun j u hj hu => ?_, fun q hq x hx hd => ?_⟩
  · rw [e1, e2]
    have := o1.mok.til
    have := o1.nx
    omega
  · obtain ⟨f1, _⟩ := oRun_get cf l oInit j u hu
    rw [e1, f1]
    have e : l.take (i + 1) = l.take (j + 1) ++ (l.take (i + 1)).drop (j + 1) := by
      have h := (List.take_append_drop (j + 1) (l.take (i + 1))).symm
      rwa [List.take_take, Nat.min_eq_left (by omega)] at h
    rw [e, oState_app]
    exact (oState_ok cf _ _ (oState_ok cf (l.take (j + 1)) oInit oInit_ok).1).2
  · have hs := state_sim cf _ _ _ q (oInit_sim cf) hq
    rw [hs.tx] at hx
    obtain ⟨y, hy, rfl⟩ := List.mem_map.1 hx
    rw [e1]
    exact hs.ok.low hy hd
/-- Which transactions have not ended, as the reference tells it of what was told. -/
def opStep (st : List (Nat × Bool)) (a : OAct) (v : Nat) (c : Bool) : List (Nat × Bool) :=
  if a.kind = 0 then st ++ [(v, false)] else if a.kind = 4 ∨ (a.kind = 3 ∧ c = false) then st.modify a.txn.toNat (fun p => (p.1, true)) else st
def opFold : List (Nat × Bool) → List OAct → List (Nat × Bool × Nat) → List (Nat × Bool)
  | st, a :: l, t :: L => opFold (opStep st a t.1 t.2.1) l L
  | st, _, _ => st
def STx.o (x : STx) : Nat × Bool := (x.rds, x.ended)
theorem set_mod {l : List STx} {t : Nat} {x : STx} (hx : l[t]? = some x) : (l.set t { x with ended := true }).map STx.o = (l.map STx.o).modify t (fun p => (p.1, true)) := by
  refine List.ext_getElem? fun i => ?_
  rw [List.getElem?_map, List.getElem?_set, List.getElem?_modify, List.getElem?_map]
  by_cases h : t = i
  · subst h
    rw [if_pos rfl, if_pos (List.getElem?_eq_some_iff.1 hx).1, hx]
    simp [STx.o]
  · rw [if_neg h]
    simp only [if_neg h]
    cases l[i]? <;> rfl
theorem set_o {l : List STx} {t : Nat} {x y : STx} (hx : l[t]? = some x) (h1 : y.o = x.o) : (l.set t y).map STx.o = l.map STx.o := by
  refine List.ext_getElem? fun i => ?_
  rw [List.getElem?_map, List.getElem?_set, List.getElem?_map]
  by_cases h : t = i
  · subst h
    rw [if_pos rfl, if_pos (List.getElem?_eq_some_iff.1 hx).1, hx]
    simp [h1]
  · rw [if_neg h]
theorem op_act {cf : Bool} {q : SSt} {a : OAct} {r : SSt × Nat × Bool} (hr : q.act cf a = some r) : opStep (q.txs.map STx.o) a r.2.1 r.2.2 = r.1.txs.map STx.o := by
  unfold SSt.act at hr
  unfold opStep
  by_cases h0 : a.kind = 0
  · rw [if_pos h0] at hr ⊢
    injection hr with hr
    subst hr
    show _ = (q.txs ++ [_]).map STx.o
    rw [List.map_append]
    rfl
  rw [if_neg h0] at hr ⊢
  by_cases hn : a.txn < 0
  · rw [if_pos hn] at hr; cases hr
  rw [if_neg hn] at hr
  cases hx : q.txs[a.txn.toNat]? with
  | none => rw [hx] at hr; cases hr
  | some x =>
    rw [hx] at hr
    simp only at hr
    by_cases he : x.ended = true
    · rw [if_pos he] at hr; cases hr
    rw [if_neg he] at hr
    by_cases h1 : a.kind = 1
    · rw [if_pos h1] at hr
      injection hr with hr
      subst hr
      rw [if_neg (by omega)]
      exact (set_o (y := { x with read := x.read ++ [a.key] }) hx rfl).symm
    rw [if_neg h1] at hr
    by_cases h2 : a.kind = 2
    · rw [if_pos h2] at hr
      injection hr with hr
      subst hr
      rw [if_neg (by omega)]
      exact (set_o (y := { x with writes := x.writes ++ [a.key] }) hx rfl).symm
    rw [if_neg h2] at hr
    by_cases h4 : a.kind = 4
    · rw [if_pos h4] at hr
      injection hr with hr
      subst hr
      rw [if_pos (.inl h4)]
      exact (set_mod hx).symm
    rw [if_neg h4] at hr
    by_cases h3 : a.kind = 3
    · rw [if_pos h3] at hr
      by_cases hh : q.hits cf x = true
      · rw [if_pos hh] at hr
        injection hr with hr
        subst hr
        rw [if_neg (by simp [h4])]
      · rw [if_neg hh] at hr
        injection hr with hr
        subst hr
        rw [if_pos (.inr ⟨h3, rfl⟩)]
        exact (set_mod hx).symm
    · rw [if_neg h3] at hr; cases hr
theorem op_fold (cf : Bool) : ∀ (l : List OAct) (q q' : SSt) (L : List (Nat × Bool × Nat)), sRun cf q l = some L → sState cf q l = some q' → opFold (q.txs.map STx.o) l L = q'.txs.map STx.o
  | [], q, q', L, h, e => by
    obtain rfl : [] = L := Option.some.inj h
    obtain rfl : q = q' := Option.some.inj e
    rfl
  | a :: l, q, q', L, h, e => by
    unfold sRun at h
    unfold sState at e
    cases hr : q.act cf a with
    | none => rw [hr] at h; cases h
    | some r =>
      rw [hr] at h e
      simp only at h e
      obtain ⟨L', hl', rfl⟩ := Option.map_eq_some_iff.1 h
      show opFold (opStep (q.txs.map STx.o) a r.2.1 r.2.2) l L' = _
      rw [op_act hr]
      exact op_fold cf l r.1 q' L' hl' e
/-- What is read, or written, by a transaction in some acts. -/
def keysOf (kd : Int) (t : Nat) (l : List OAct) : List Int := (l.filter fun a => decide (a.kind = kd ∧ a.txn = (t : Int))).map (·.key)
theorem keysOf_app (kd : Int) (t : Nat) (l : List OAct) (a : OAct) : keysOf kd t (l ++ [a]) = keysOf kd t l ++ (if a.kind = kd ∧ a.txn = (t : Int) then [a.key] else []) := by
  unfold keysOf
  rw [List.filter_append, List.map_append]
  congr 1
  by_cases h : a.kind = kd ∧ a.txn = (t : Int)
  · rw [if_pos h, List.filter_cons_of_pos (by simpa using h)]; rfl
  · rw [if_neg h, List.filter_cons_of_neg (by simpa using h)]; rfl
/-- The reference behind some acts. -/
structure SIn (q : SSt) (l : List OAct) : Prop where
  keys : ∀ t x, q.txs[t]? = some x → x.read = keysOf 1 t l ∧ x.writes = keysOf 2 t l
  none_ : ∀ t, q.txs.length ≤ t → keysOf 1 t l = [] ∧ keysOf 2 t l = []
theorem sIn_act {cf : Bool} {q : SSt} {l : List OAct} {a : OAct} {r : SSt × Nat × Bool} (h : SIn q l) (hr : q.act cf a = some r) : SIn r.1 (l ++ [a]) := by
  have hset : ∀ (t0 : Nat) (x y : STx), a.txn = (t0 : Int) → q.txs[t0]? = some x → (∀ kd, kd = 1 ∨ kd = 2 → True) → y.read = x.read ++ (if a.kind = 1 then [a.key] else []) → y.writes = x.writes ++ (if a.kind = 2 then [a.key] else []) → ∀ q' : SSt, q'.txs = q.txs.set t0 y → SIn q' (l ++ [a]) := by
    intro t0 x y ha hx _ h1 h2 q' hq'
    have hlt := (List.getElem?_eq_some_iff.1 hx).1
    refine ⟨fun t z hz => ?_, fun t ht => ?_⟩
    · rw [hq', List.getElem?_set] at hz
      rw [keysOf_app, keysOf_app]
      by_cases hte : t0 = t
      · subst hte
        rw [if_pos rfl, if_pos hlt] at hz
        injection hz with hz
        subst hz
        obtain ⟨k1, k2⟩ := h.keys t0 x hx
        rw [h1, h2, k1, k2]
        simp only [ha, and_true]
      · rw [if_neg hte] at hz
        obtain ⟨k1, k2⟩ := h.keys t z hz
        rw [if_neg (by omega), if_neg (by omega), List.append_nil, List.append_nil]
        exact ⟨k1, k2⟩
    · rw [hq', List.length_set] at ht
      obtain ⟨k1, k2⟩ := h.none_ t ht
      rw [keysOf_app, keysOf_app, if_neg (by omega), if_neg (by omega), k1, k2]
      exact ⟨rfl, rfl⟩
  unfold SSt.act at hr
  by_cases h0 : a.kind = 0
  · rw [if_pos h0] at hr
    injection hr with hr
    subst hr
    refine ⟨fun t z hz => ?_, fun t ht => ?_⟩
    · rw [keysOf_app, keysOf_app, if_neg (by omega), if_neg (by omega), List.append_nil, List.append_nil]
      have hz : (q.txs ++ [⟨q.next - 1, [], [], false⟩])[t]? = some z := hz
      rcases Nat.lt_or_ge t q.txs.length with hlt | hge
      · rw [List.getElem?_append_left hlt] at hz
        exact h.keys t z hz
      · obtain ⟨k1, k2⟩ := h.none_ t hge
        rw [List.getElem?_append_right hge] at hz
        have hz := List.mem_of_getElem? hz
        rw [List.mem_singleton] at hz
        subst hz
        exact ⟨k1.symm, k2.symm⟩
    · have ht : (q.txs ++ [(⟨q.next - 1, [], [], false⟩ : STx)]).length ≤ t := ht
      rw [List.length_append] at ht
      obtain ⟨k1, k2⟩ := h.none_ t (by omega)
      rw [keysOf_app, keysOf_app, if_neg (by omega), if_neg (by omega), k1, k2]
      exact ⟨rfl, rfl⟩
  rw [if_neg h0] at hr
  by_cases hn : a.txn < 0
  · rw [if_pos hn] at hr; cases hr
  rw [if_neg hn] at hr
  have ha : a.txn = (a.txn.toNat : Int) := by omega
  cases hx : q.txs[a.txn.toNat]? with
  | none => rw [hx] at hr; cases hr
  | some x =>
    rw [hx] at hr
    simp only at hr
    by_cases he : x.ended = true
    · rw [if_pos he] at hr; cases hr
    rw [if_neg he] at hr
    by_cases h1 : a.kind = 1
    · rw [if_pos h1] at hr
      injection hr with hr
      subst hr
      exact hset _ x _ ha hx (fun _ _ => trivial) (by rw [if_pos h1]) (by rw [if_neg (by omega), List.append_nil]) _ rfl
    rw [if_neg h1] at hr
    by_cases h2 : a.kind = 2
    · rw [if_pos h2] at hr
      injection hr with hr
      subst hr
      exact hset _ x _ ha hx (fun _ _ => trivial) (by rw [if_neg h1, List.append_nil]) (by rw [if_pos h2]) _ rfl
    rw [if_neg h2] at hr
    by_cases h4 : a.kind = 4
    · rw [if_pos h4] at hr
      injection hr with hr
      subst hr
      exact hset _ x _ ha hx (fun _ _ => trivial) (by rw [if_neg h1, List.append_nil]) (by rw [if_neg h2, List.append_nil]) _ rfl
    rw [if_neg h4] at hr
    by_cases h3 : a.kind = 3
    · rw [if_pos h3] at hr
      by_cases hh : q.hits cf x = true
      · rw [if_pos hh] at hr
        injection hr with hr
        subst hr
        refine hset _ x x ha hx (fun _ _ => trivial) (by rw [if_neg h1, List.append_nil]) (by rw [if_neg h2, List.append_nil]) _ ?_
        refine List.ext_getElem? fun i => ?_
        rw [List.getElem?_set]
        split
        · rename_i e; subst e; rw [if_pos (List.getElem?_eq_some_iff.1 hx).1]; exact hx
        · rfl
      · rw [if_neg hh] at hr
        injection hr with hr
        subst hr
        exact hset _ x _ ha hx (fun _ _ => trivial) (by rw [if_neg h1, List.append_nil]) (by rw [if_neg h2, List.append_nil]) _ rfl
    · rw [if_neg h3] at hr; cases hr
theorem sIn_init (f : Nat) : SIn (sInit f) [] := ⟨fun t x h => by simp [sInit] at h, fun t _ => ⟨rfl, rfl⟩⟩
/-- What a transaction that is committed has read was written last, ahead of its commit, where it reads it. -/
theorem serial_ok {q : SSt} {l : List OAct} {a : OAct} {r : SSt × Nat × Bool} (h : SIn q l) (hr : q.act true a = some r) :
    (a.kind = 3 ∧ r.2.2 = false → 0 ≤ a.txn ∧ ∃ x, q.txs[a.txn.toNat]? = some x ∧ (∀ k ∈ keysOf 1 a.txn.toNat l, ∀ w ∈ q.last, ¬ (w.1 = k ∧ x.rds < w.2)) ∧ r.1.last = q.last ++ (keysOf 2 a.txn.toNat l).map (fun k => (k, r.2.1))) ∧
    (¬ (a.kind = 3 ∧ r.2.2 = false) → r.1.last = q.last) ∧ (r.1.txs.map (·.rds) = if a.kind = 0 then q.txs.map (·.rds) ++ [r.2.1] else q.txs.map (·.rds)) := by
  have hrd : ∀ (t : Nat) (x y : STx), q.txs[t]? = some x → y.rds = x.rds → (q.txs.set t y).map (·.rds) = q.txs.map (·.rds) := by
    intro t x y hx e
    refine List.ext_getElem? fun i => ?_
    rw [List.getElem?_map, List.getElem?_set, List.getElem?_map]
    by_cases hti : t = i
    · subst hti
      rw [if_pos rfl, if_pos (List.getElem?_eq_some_iff.1 hx).1, hx]
      simp [e]
    · rw [if_neg hti]
  unfold SSt.act at hr
  by_cases h0 : a.kind = 0
  · rw [if_pos h0] at hr
    injection hr with hr
    subst hr
    refine ⟨fun hc => by omega, fun _ => rfl, ?_⟩
    rw [if_pos h0]
    show (q.txs ++ [_]).map _ = _
    rw [List.map_append]
    rfl
  rw [if_neg h0] at hr
  rw [if_neg h0]
  by_cases hn : a.txn < 0
  · rw [if_pos hn] at hr; cases hr
  rw [if_neg hn] at hr
  cases hx : q.txs[a.txn.toNat]? with
  | none => rw [hx] at hr; cases hr
  | some x =>
    rw [hx] at hr
    simp only at hr
    by_cases he : x.ended = true
    · rw [if_pos he] at hr; cases hr
    rw [if_neg he] at hr
    by_cases h1 : a.kind = 1
    · rw [if_pos h1] at hr
      injection hr with hr
      subst hr
      exact ⟨fun hc => by omega, fun _ => rfl, hrd _ x _ hx rfl⟩
    rw [if_neg h1] at hr
    by_cases h2 : a.kind = 2
    · rw [if_pos h2] at hr
      injection hr with hr
      subst hr
      exact ⟨fun hc => by omega, fun _ => rfl, hrd _ x _ hx rfl⟩
    rw [if_neg h2] at hr
    by_cases h4 : a.kind = 4
    · rw [if_pos h4] at hr
      injection hr with hr
      subst hr
      exact ⟨fun hc => by omega, fun _ => rfl, hrd _ x _ hx rfl⟩
    rw [if_neg h4] at hr
    by_cases h3 : a.kind = 3
    · rw [if_pos h3] at hr
      by_cases hh : q.hits true x = true
      · rw [if_pos hh] at hr
        injection hr with hr
        subst hr
        exact ⟨(fun hc => by cases hc.2), (fun _ => rfl), rfl⟩
      · rw [if_neg hh] at hr
        injection hr with hr
        subst hr
        obtain ⟨k1, k2⟩ := h.keys _ x hx
        refine ⟨fun _ => ⟨by omega, x, rfl, fun k hk w hw hc => hh ?_, ?_⟩, fun hc => absurd ⟨h3, rfl⟩ hc, hrd _ x _ hx rfl⟩
        · unfold SSt.hits
          rw [any_iff]
          refine ⟨k, by rw [k1]; exact hk, any_iff.2 ⟨w, hw, ?_⟩⟩
          simp only [Bool.true_and, Bool.and_eq_true, beq_iff_eq, decide_eq_true_eq]
          exact hc
        · show q.last ++ x.writes.map _ = _
          rw [k2]
    · rw [if_neg h3] at hr; cases hr
end Go.Proofs.Ytanmgkpgfmkobaa
