/- An oracle tells what should be told. -/
import Derived.Test.YtanmgkpgfmkobaaOD
namespace Go.Proofs.Ytanmgkpgfmkobaa
set_option linter.unusedVariables false
set_option linter.unusedSimpArgs false
def OTx.s (x : OTx) : STx := ⟨x.rts, x.reads, x.writes, x.dr⟩
def wrts (txs : List OTx) (c : Nat × Nat) : List (Int × Nat) := match txs[c.2]? with
  | some y => y.writes.map fun k => (k, c.1)
  | none => []
/-- The oracle and the reference. -/
structure OSim (cf : Bool) (s : OSt) (q : SSt) : Prop where
  ok : OOk s
  nx : q.next = s.next
  tx : q.txs = s.txs.map OTx.s
  no : cf = false → s.com = []
  cm : cf = true → ∃ all : List (Nat × Nat), s.com = all.filter (fun c => decide (s.lc < c.1)) ∧ q.last = all.flatMap (wrts s.txs) ∧ ∀ c ∈ all, c.1 < s.next ∧ ∃ y, s.txs[c.2]? = some y ∧ y.dr = true
theorem any_iff {α : Type} {l : List α} {p : α → Bool} : l.any p = true ↔ ∃ x ∈ l, p x = true := List.any_eq_true
theorem OSim.hits {cf : Bool} {s : OSt} {q : SSt} (h : OSim cf s q) {x : OTx} (hx : x ∈ s.txs) (hd : x.dr = false) : s.hits x = q.hits cf x.s := by
  have hlow := h.ok.low hx hd
  have hlc := h.ok.lc
  cases cf
  · have e1 : s.hits x = false := by unfold OSt.hits; rw [h.no rfl]; rfl
    have e2 : q.hits false x.s = false := by
      unfold SSt.hits
      rw [Bool.eq_false_iff]
      intro hh
      obtain ⟨k, _, hk⟩ := any_iff.1 hh
      obtain ⟨c, _, hc⟩ := any_iff.1 hk
      simp at hc
    rw [e1, e2]
  · obtain ⟨all, h1, h2, h3⟩ := h.cm rfl
    rw [Bool.eq_iff_iff]
    unfold OSt.hits SSt.hits
    rw [h1, h2, any_iff, any_iff]
    constructor
    · rintro ⟨c, hc, hp⟩
      rw [List.mem_filter] at hc
      simp only [Bool.and_eq_true, decide_eq_true_eq] at hp
      obtain ⟨k, hk, hw⟩ := any_iff.1 hp.2
      obtain ⟨_, y, hy, _⟩ := h3 c hc.1
      rw [hy] at hw
      refine ⟨k, hk, any_iff.2 ⟨(k, c.1), List.mem_flatMap.2 ⟨c, hc.1, ?_⟩, ?_⟩⟩
      · unfold wrts
        rw [hy]
        exact List.mem_map.2 ⟨k, by simpa using hw, rfl⟩
      · simp only [Bool.true_and, beq_self_eq_true, decide_eq_true_eq]
        exact hp.1
    · rintro ⟨k, hk, hp⟩
      obtain ⟨v, hv, hq⟩ := any_iff.1 hp
      obtain ⟨c, hc, hw⟩ := List.mem_flatMap.1 hv
      obtain ⟨_, y, hy, _⟩ := h3 c hc
      unfold wrts at hw
      rw [hy] at hw
      obtain ⟨k2, hk2, rfl⟩ := List.mem_map.1 hw
      simp only [Bool.true_and, Bool.and_eq_true, beq_iff_eq, decide_eq_true_eq] at hq
      obtain ⟨rfl, hlt⟩ := hq
      have hlt : x.rts < c.1 := hlt
      refine ⟨c, List.mem_filter.2 ⟨hc, by simp only [decide_eq_true_eq]; omega⟩, ?_⟩
      simp only [Bool.and_eq_true, decide_eq_true_eq]
      refine ⟨hlt, any_iff.2 ⟨k2, hk, ?_⟩⟩
      rw [hy]
      simpa using hk2
theorem get_map_s {s : OSt} {q : SSt} (h : q.txs = s.txs.map OTx.s) (t : Nat) : q.txs[t]? = (s.txs[t]?).map OTx.s := by rw [h, List.getElem?_map]
theorem map_set_s (l : List OTx) (t : Nat) (y : OTx) : (l.set t y).map OTx.s = (l.map OTx.s).set t y.s := List.map_set
/-- What stands in the list of commits does not turn while a transaction that has not ended does. -/
theorem wrts_set {l : List OTx} {t : Nat} {x y : OTx} (hx : l[t]? = some x) (hd : x.dr = false) {all : List (Nat × Nat)} {N : Nat} (h3 : ∀ c ∈ all, c.1 < N ∧ ∃ y, l[c.2]? = some y ∧ y.dr = true) :
    all.flatMap (wrts (l.set t y)) = all.flatMap (wrts l) ∧ ∀ c ∈ all, c.1 < N ∧ ∃ z, (l.set t y)[c.2]? = some z ∧ z.dr = true := by
  have hne : ∀ c ∈ all, t ≠ c.2 := fun c hc e => by
    obtain ⟨_, z, hz, hzd⟩ := h3 c hc
    rw [← e, hx] at hz
    injection hz with hz
    subst hz
    rw [hd] at hzd
    cases hzd
  refine ⟨?_, fun c hc => ?_⟩
  · induction all with
    | nil => rfl
    | cons c all ih =>
      rw [List.flatMap_cons, List.flatMap_cons, ih (fun d hd' => h3 d (List.mem_cons_of_mem _ hd')) (fun d hd' => hne d (List.mem_cons_of_mem _ hd'))]
      congr 1
      unfold wrts
      rw [List.getElem?_set_ne (hne c (List.mem_cons_self ..))]
  · obtain ⟨h1, z, hz, hzd⟩ := h3 c hc
    exact ⟨h1, z, by rw [List.getElem?_set_ne (hne c hc)]; exact hz, hzd⟩
/-- A transaction's reads or writes grow. -/
theorem OSim.grow {cf : Bool} {s : OSt} {q : SSt} (h : OSim cf s q) {t : Nat} {x y : OTx} (hx : s.txs[t]? = some x) (hd : x.dr = false) (ho : OOk { s with txs := s.txs.set t y }) : OSim cf { s with txs := s.txs.set t y } { q with txs := q.txs.set t y.s } := by
  refine ⟨ho, h.nx, ?_, h.no, fun hc => ?_⟩
  · show q.txs.set t y.s = (s.txs.set t y).map OTx.s
    rw [map_set_s, h.tx]
  · obtain ⟨all, a1, a2, a3⟩ := h.cm hc
    obtain ⟨b1, b2⟩ := wrts_set (y := y) hx hd a3
    exact ⟨all, a1, by rw [show ({ q with txs := q.txs.set t y.s } : SSt).last = q.last from rfl, a2]; exact b1.symm, b2⟩
/-- A transaction ends. -/
theorem OSim.done {cf : Bool} {s : OSt} {q : SSt} (h : OSim cf s q) {t : Nat} {x : OTx} (hx : s.txs[t]? = some x) (hd : x.dr = false) : OSim cf (s.done t x) { q with txs := q.txs.set t { x.s with ended := true } } ∧ (s.done t x).txs = s.txs.set t { x with dr := true } ∧ (s.done t x).lc = s.lc ∧ (s.done t x).next = s.next := by
  have ho := (h.ok.done hx).1
  have e : s.done t x = { s with txs := s.txs.set t { x with dr := true }, rmk := s.rmk.proc x.rts (-1) } := by unfold OSt.done; rw [if_neg (by simp [hd])]
  rw [e] at ho ⊢
  refine ⟨⟨ho, h.nx, ?_, h.no, fun hc => ?_⟩, rfl, rfl, rfl⟩
  · show q.txs.set t _ = (s.txs.set t { x with dr := true }).map OTx.s
    rw [map_set_s, h.tx]
    rfl
  · obtain ⟨all, a1, a2, a3⟩ := h.cm hc
    obtain ⟨b1, b2⟩ := wrts_set (y := { x with dr := true }) hx hd a3
    exact ⟨all, a1, by show q.last = _; rw [a2]; exact b1.symm, b2⟩
/-- Commits that no transaction can meet any more are let go. -/
theorem OSim.clean {cf : Bool} {s : OSt} {q : SSt} (h : OSim cf s q) : OSim cf (s.clean cf) q := by
  obtain ⟨c1, c2, c3, c4⟩ := h.ok.clean cf
  have hlc := h.ok.lc
  refine ⟨c1, by rw [c3]; exact h.nx, by rw [c4]; exact h.tx, fun hc => ?_, fun hc => ?_⟩
  · subst hc
    exact h.no rfl
  · subst hc
    obtain ⟨all, a1, a2, a3⟩ := h.cm rfl
    unfold OSt.clean
    rw [if_pos rfl]
    split
    · exact ⟨all, a1, a2, a3⟩
    · refine ⟨all, ?_, a2, a3⟩
      show s.com.filter (fun c => decide (s.rmk.til < c.1)) = all.filter (fun c => decide (s.rmk.til < c.1))
      rw [a1, List.filter_filter]
      congr 1
      funext c
      rw [Bool.eq_iff_iff]
      simp only [Bool.and_eq_true, decide_eq_true_eq]
      constructor
      · exact fun p => p.1
      · exact fun p => ⟨p, by omega⟩
/-- An act of both. -/
theorem OSim.act {cf : Bool} {s : OSt} {q : SSt} (h : OSim cf s q) (a : OAct) {r : SSt × Nat × Bool} (hr : q.act cf a = some r) : OSim cf (s.act cf a).1 r.1 ∧ (s.act cf a).2 = r.2 := by
  have hok := (h.ok.act cf a).1
  unfold SSt.act at hr
  unfold OSt.act at hok ⊢
  by_cases h0 : a.kind = 0
  · rw [if_pos h0] at hr hok ⊢
    injection hr with hr
    subst hr
    refine ⟨⟨hok, h.nx, ?_, h.no, fun hc => ?_⟩, by show (s.next - 1, false) = (q.next - 1, false); rw [h.nx]⟩
    · show q.txs ++ [⟨q.next - 1, [], [], false⟩] = (s.txs ++ [(⟨s.next - 1, [], [], false⟩ : OTx)]).map OTx.s
      rw [List.map_append, h.tx, h.nx]
      rfl
    · obtain ⟨all, a1, a2, a3⟩ := h.cm hc
      have hget : ∀ c ∈ all, (s.txs ++ [⟨s.next - 1, [], [], false⟩])[c.2]? = s.txs[c.2]? := fun c hc => by
        obtain ⟨_, y, hy, _⟩ := a3 c hc
        rw [List.getElem?_append_left (List.getElem?_eq_some_iff.1 hy).1]
      refine ⟨all, a1, ?_, fun c hc => ?_⟩
      · show q.last = _
        rw [a2]
        have : ∀ l : List (Nat × Nat), (∀ c ∈ l, (s.txs ++ [⟨s.next - 1, [], [], false⟩])[c.2]? = s.txs[c.2]?) → l.flatMap (wrts s.txs) = l.flatMap (wrts (s.txs ++ [⟨s.next - 1, [], [], false⟩])) := by
          intro l
          induction l with
          | nil => intro _; rfl
          | cons c l ih =>
            intro hl
            rw [List.flatMap_cons, List.flatMap_cons, ih (fun d hd => hl d (List.mem_cons_of_mem _ hd))]
            congr 1
            unfold wrts
            rw [hl c (List.mem_cons_self ..)]
        exact this all hget
      · obtain ⟨b1, y, hy, hyd⟩ := a3 c hc
        exact ⟨b1, y, by show (s.txs ++ [⟨s.next - 1, [], [], false⟩])[c.2]? = some y; rw [hget c hc]; exact hy, hyd⟩
  rw [if_neg h0] at hr hok ⊢
  by_cases hn : a.txn < 0
  · rw [if_pos hn] at hr; cases hr
  rw [if_neg hn] at hr hok ⊢
  rw [get_map_s h.tx] at hr
  cases hx : s.txs[a.txn.toNat]? with
  | none => rw [hx] at hr; cases hr
  | some x =>
    rw [hx] at hr hok
    simp only [Option.map_some] at hr hok ⊢
    have hxe : x.s.ended = x.dr := rfl
    by_cases he : x.s.ended = true
    · rw [if_pos he] at hr; cases hr
    rw [if_neg he] at hr
    have hd : x.dr = false := by rw [hxe] at he; simpa using he
    by_cases h1 : a.kind = 1
    · rw [if_pos h1] at hr hok ⊢
      injection hr with hr
      subst hr
      exact ⟨h.grow hx hd hok, rfl⟩
    rw [if_neg h1] at hr hok ⊢
    by_cases h2 : a.kind = 2
    · rw [if_pos h2] at hr hok ⊢
      injection hr with hr
      subst hr
      exact ⟨h.grow hx hd hok, rfl⟩
    rw [if_neg h2] at hr hok ⊢
    by_cases h4 : a.kind = 4
    · rw [if_pos h4] at hr
      rw [if_neg (by omega), if_pos h4] at hok ⊢
      injection hr with hr
      subst hr
      exact ⟨(h.done hx hd).1, rfl⟩
    rw [if_neg h4] at hr
    by_cases h3 : a.kind = 3
    · rw [if_pos h3] at hr hok ⊢
      rw [h.hits (mem_of_get hx) hd] at hok ⊢
      by_cases hh : q.hits cf x.s = true
      · rw [if_pos hh] at hr hok ⊢
        injection hr with hr
        subst hr
        exact ⟨h, rfl⟩
      · rw [if_neg hh] at hr hok ⊢
        injection hr with hr
        subst hr
        obtain ⟨d1, d2, d3, d4⟩ := h.done hx hd
        have c1 := d1.clean
        obtain ⟨_, e2, e3, e4⟩ := d1.ok.clean cf
        have hnx : ((s.done a.txn.toNat x).clean cf).next = s.next := by rw [e3, d4]
        refine ⟨⟨hok, ?_, ?_, fun hc => ?_, fun hc => ?_⟩, ?_⟩
        · show q.next + 1 = ((s.done a.txn.toNat x).clean cf).next + 1
          rw [hnx, h.nx]
        · exact c1.tx
        · subst hc
          exact c1.no rfl
        · subst hc
          obtain ⟨all, a1, a2, a3⟩ := c1.cm rfl
          have hlc : ((s.done a.txn.toNat x).clean true).lc < ((s.done a.txn.toNat x).clean true).next := by
            have := c1.ok.lc
            have := c1.ok.mok.til
            have := c1.ok.nx
            omega
          refine ⟨all ++ [(((s.done a.txn.toNat x).clean true).next, a.txn.toNat)], ?_, ?_, fun c hc => ?_⟩
          · show ((s.done a.txn.toNat x).clean true).com ++ [_] = (all ++ [_]).filter (fun c => decide (((s.done a.txn.toNat x).clean true).lc < c.1))
            rw [List.filter_append, ← a1]
            congr 1
            rw [List.filter_cons_of_pos (by simpa using hlc)]
            rfl
          · show q.last ++ x.s.writes.map (fun k => (k, q.next)) = (all ++ [_]).flatMap (wrts ((s.done a.txn.toNat x).clean true).txs)
            have a2 : q.last = all.flatMap (wrts ((s.done a.txn.toNat x).clean true).txs) := a2
            rw [List.flatMap_append, ← a2]
            congr 1
            rw [List.flatMap_singleton]
            unfold wrts
            rw [e4, d2, List.getElem?_set_self (List.getElem?_eq_some_iff.1 hx).1, hnx, h.nx]
            rfl
          · rcases List.mem_append.1 hc with hc | hc
            · obtain ⟨b1, y, hy, hyd⟩ := a3 c hc
              exact ⟨by show c.1 < ((s.done a.txn.toNat x).clean true).next + 1; omega, y, hy, hyd⟩
            · rw [List.mem_singleton] at hc
              subst hc
              refine ⟨Nat.lt_succ_self _, { x with dr := true }, ?_, rfl⟩
              show ((s.done a.txn.toNat x).clean true).txs[a.txn.toNat]? = _
              rw [e4, d2, List.getElem?_set_self (List.getElem?_eq_some_iff.1 hx).1]
        · show (((s.done a.txn.toNat x).clean cf).next, false) = (q.next, false)
          rw [hnx, h.nx]
    · rw [if_neg h3] at hr; cases hr
theorem oInit_sim (cf : Bool) : OSim cf oInit (sInit 1) := ⟨oInit_ok, rfl, rfl, fun _ => rfl, fun _ => ⟨[], rfl, rfl, fun c hc => by cases hc⟩⟩
/-- What is told is what should be told. -/
theorem run_sim (cf : Bool) : ∀ (l : List OAct) (s : OSt) (q : SSt), OSim cf s q → ∀ L, sRun cf q l = some L → (oRun cf s l).map (fun t => (t.ver, t.conf, t.next)) = L
  | [], s, q, _, L, h => by
    obtain rfl : [] = L := Option.some.inj h
    rfl
  | a :: l, s, q, h, L, hL => by
    unfold sRun at hL
    cases hr : q.act cf a with
    | none => rw [hr] at hL; cases hL
    | some r =>
      rw [hr] at hL
      simp only at hL
      obtain ⟨L', hl', rfl⟩ := Option.map_eq_some_iff.1 hL
      obtain ⟨h1, h2⟩ := h.act a hr
      have ih := run_sim cf l _ _ h1 L' hl'
      show ((s.act cf a).2.1, (s.act cf a).2.2, (s.act cf a).1.next) :: _ = _
      rw [ih, h2, h1.nx]
end Go.Proofs.Ytanmgkpgfmkobaa
