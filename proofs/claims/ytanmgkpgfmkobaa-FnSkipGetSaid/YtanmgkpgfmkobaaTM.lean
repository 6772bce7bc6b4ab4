/- Lists of entries, cell by cell. -/
import Derived.Test.YtanmgkpgfmkobaaTL
namespace Go.Proofs.Ytanmgkpgfmkobaa
open Go.RowKit
set_option linter.unusedVariables false
set_option linter.unusedSimpArgs false
/-- An entry as it lies: its key and its data are slices. -/
structure ER where
  Ak : Option Addr
  nk : Nat
  ck : Nat
  Ad : Option Addr
  nd : Nat
  cd : Nat
  e : Ent
def ER.cells (r : ER) : List Value := [.slice r.Ak r.nk r.ck, .int .u64 r.e.v, .int .u8 r.e.m, .int .u8 r.e.u, .int .u64 r.e.x, .slice r.Ad r.nd r.cd]
structure ER.In (w : World) (r : ER) : Prop where
  key : Sl w r.Ak r.nk (nums .u8 r.e.k)
  dat : Sl w r.Ad r.nd (nums .u8 r.e.d)
  hk : r.nk ≤ r.ck
  hd : r.nd ≤ r.cd
theorem ER.In.below {w w' : World} {r : ER} (h : r.In w) (hb : Below w.heap.size w w') : r.In w' := ⟨h.key.below hb, h.dat.below hb, h.hk, h.hd⟩
theorem ER.In.alloc {w : World} {r : ER} (h : r.In w) (o : Obj) : r.In (w.alloc o) := ⟨h.key.alloc o, h.dat.alloc o, h.hk, h.hd⟩
theorem ER.In.drewN {w : World} {r : ER} (h : r.In w) (k : Nat) : r.In (w.drewN k) := ⟨h.key, h.dat, h.hk, h.hd⟩
theorem ER.In.frm {l : List Nat} {w w' : World} {r : ER} (h : r.In w) (hf : Frm l w w') (hk : ∀ b o, r.Ak = some ⟨b, o, none⟩ → b ∉ l) (hd : ∀ b o, r.Ad = some ⟨b, o, none⟩ → b ∉ l) : r.In w' := ⟨h.key.frm hf hk, h.dat.frm hf hd, h.hk, h.hd⟩
theorem ER.nk_eq {w : World} {r : ER} (h : r.In w) : r.e.k.length = r.nk := by have := h.key.1; rwa [nums_length] at this
theorem ER.nd_eq {w : World} {r : ER} (h : r.In w) : r.e.d.length = r.nd := by have := h.dat.1; rwa [nums_length] at this
def flatE (l : List ER) : List Value := l.flatMap ER.cells
theorem flatE_cons (a : ER) (l : List ER) : flatE (a :: l) = a.cells ++ flatE l := List.flatMap_cons ..
theorem flatE_len (l : List ER) : (flatE l).length = l.length * 6 := by
  induction l with
  | nil => rfl
  | cons a l ih => rw [flatE_cons, List.length_append, ih, List.length_cons]; simp [ER.cells]; omega
theorem flatE_append (a b : List ER) : flatE (a ++ b) = flatE a ++ flatE b := List.flatMap_append ..
theorem flatE_at : ∀ (l : List ER) (i j : Nat) (r : ER), l[i]? = some r → j < 6 → (flatE l)[i * 6 + j]? = r.cells[j]? := by
  intro l
  induction l with
  | nil => intro i j r h; simp at h
  | cons a l ih =>
    intro i j r h hj
    have hl : a.cells.length = 6 := rfl
    rw [flatE_cons]
    cases i with
    | zero =>
      simp only [List.getElem?_cons_zero, Option.some.injEq] at h
      subst h
      rw [List.getElem?_append_left (by omega), Nat.zero_mul, Nat.zero_add]
    | succ i =>
      rw [List.getElem?_append_right (by omega), show (i + 1) * 6 + j - a.cells.length = i * 6 + j by omega]
      exact ih i j r (by simpa using h) hj
theorem flatE_take (l : List ER) (p : Nat) : (flatE l).take (p * 6) = flatE (l.take p) := by
  by_cases hp : p ≤ l.length
  · have e : flatE l = flatE (l.take p) ++ flatE (l.drop p) := by rw [← flatE_append, List.take_append_drop]
    rw [e, List.take_left' (by rw [flatE_len, List.length_take]; omega)]
  · rw [List.take_of_length_le (by rw [flatE_len]; omega), List.take_of_length_le (by omega)]
theorem flatE_drop (l : List ER) (p : Nat) (hp : p ≤ l.length) : (flatE l).drop (p * 6) = flatE (l.drop p) := by
  have e : flatE l = flatE (l.take p) ++ flatE (l.drop p) := by rw [← flatE_append, List.take_append_drop]
  rw [e, List.drop_left' (by rw [flatE_len, List.length_take]; omega)]
theorem flatE_one (l : List ER) : ∀ u ∈ flatE l, u.oneCell' = true := by
  intro u hu
  obtain ⟨r, _, hr⟩ := List.mem_flatMap.1 hu
  unfold ER.cells at hr
  simp only [List.mem_cons, List.not_mem_nil, or_false] at hr
  rcases hr with rfl | rfl | rfl | rfl | rfl | rfl <;> rfl
/-- A slice that reads as a list of entries. -/
structure Ers (w : World) (A : Option Addr) (l : List ER) : Prop where
  sl : Sl w A (l.length * 6) (flatE l)
  each : ∀ r ∈ l, r.In w
theorem Ers.below {w w' : World} {A : Option Addr} {l : List ER} (h : Ers w A l) (hb : Below w.heap.size w w') : Ers w' A l := ⟨h.sl.below hb, fun r hr => (h.each r hr).below hb⟩
theorem Ers.alloc {w : World} {A : Option Addr} {l : List ER} (h : Ers w A l) (o : Obj) : Ers (w.alloc o) A l := ⟨h.sl.alloc o, fun r hr => (h.each r hr).alloc o⟩
theorem Ers.nil (w : World) (A : Option Addr) : Ers w A [] := ⟨Sl.nil w A, fun r hr => by cases hr⟩
theorem Ers.at_ {w : World} {g o : Nat} {l : List ER} (h : Ers w (some ⟨g, o, none⟩) l) {i : Nat} {r : ER} (hi : l[i]? = some r) {j : Nat} {v : Value} (hj : r.cells[j]? = some v) : w.cell? ⟨g, o + i * 6 + j, none⟩ = some v := by
  have hj6 : j < 6 := (List.getElem?_eq_some_iff.1 hj).1
  have := h.sl.adds (i * 6 + j) v (by rw [flatE_at l i j r hi hj6, hj])
  rwa [add_none, ← Nat.add_assoc] at this
theorem Ers.addr {w : World} {A : Option Addr} {l : List ER} (h : Ers w A l) (hl : 0 < l.length) : ∃ g o, A = some ⟨g, o, none⟩ := by
  obtain ⟨g, o, e, _⟩ := h.sl.2 (by omega)
  exact ⟨g, o, e⟩
theorem ers_of {w : World} {A : Option Addr} {n : Nat} {l : List Ent} (h : Sle w A n l) : ∃ rs : List ER, rs.map ER.e = l ∧ Ers w A rs := by
  obtain ⟨h1, h2⟩ := h
  rcases Nat.eq_zero_or_pos n with h0 | h0
  · subst h0
    exact ⟨[], (List.length_eq_zero_iff.1 h1).symm, Ers.nil w A⟩
  · obtain ⟨g, o, rfl, hc⟩ := h2 h0
    have key : ∀ k, k ≤ l.length → ∃ rs : List ER, rs.map ER.e = l.take k ∧ ∀ (j : Nat) (r : ER), rs[j]? = some r → EntC w g (o + j * 6) r.e r.Ak r.nk r.ck r.Ad r.nd r.cd := by
      intro k
      induction k with
      | zero => intro _; exact ⟨[], rfl, fun j r hr => by simp at hr⟩
      | succ k ih =>
        intro hk
        obtain ⟨rs, e1, e2⟩ := ih (by omega)
        obtain ⟨x, hx⟩ : ∃ x, l[k]? = some x := ⟨_, List.getElem?_eq_getElem (by omega)⟩
        obtain ⟨Ak, nk, ck, Ad, nd, cd, hE⟩ := hc k x hx
        have hlen : rs.length = k := by have := congrArg List.length e1; rw [List.length_map, List.length_take] at this; omega
        refine ⟨rs ++ [⟨Ak, nk, ck, Ad, nd, cd, x⟩], by rw [List.map_append, e1, take_snoc l k x hx]; rfl, fun j r hr => ?_⟩
        rcases Nat.lt_trichotomy j rs.length with hj | hj | hj
        · rw [List.getElem?_append_left hj] at hr
          exact e2 j r hr
        · rw [List.getElem?_append_right (by omega), hj, Nat.sub_self] at hr
          simp only [List.getElem?_cons_zero, Option.some.injEq] at hr
          subst hr
          rw [hj, hlen]
          exact hE
        · rw [List.getElem?_eq_none (by simp; omega)] at hr
          cases hr
    obtain ⟨rs, e1, e2⟩ := key l.length (Nat.le_refl _)
    rw [List.take_of_length_le (Nat.le_refl _)] at e1
    have hlen : rs.length = n := by have := congrArg List.length e1; rw [List.length_map] at this; omega
    refine ⟨rs, e1, ⟨⟨flatE_len rs, fun _ => ⟨g, o, rfl, fun i u hu => ?_⟩⟩, fun r hr => ?_⟩⟩
    · have hi : i < rs.length * 6 := by have := (List.getElem?_eq_some_iff.1 hu).1; rwa [flatE_len] at this
      obtain ⟨r, hr⟩ : ∃ r, rs[i / 6]? = some r := ⟨_, List.getElem?_eq_getElem (by omega)⟩
      have hE := e2 _ r hr
      have hf := flatE_at rs (i / 6) (i % 6) r hr (Nat.mod_lt _ (by omega))
      rw [show i / 6 * 6 + i % 6 = i by omega, hu] at hf
      have hoff : o + i = o + i / 6 * 6 + i % 6 := by omega
      rw [hoff]
      have h6 : i % 6 < 6 := Nat.mod_lt _ (by omega)
      generalize i % 6 = q at *
      unfold ER.cells at hf
      match q, h6 with
      | 0, _ => injection hf with hf; subst hf; exact hE.c0
      | 1, _ => injection hf with hf; subst hf; exact hE.c1
      | 2, _ => injection hf with hf; subst hf; exact hE.c2
      | 3, _ => injection hf with hf; subst hf; exact hE.c3
      | 4, _ => injection hf with hf; subst hf; exact hE.c4
      | 5, _ => injection hf with hf; subst hf; exact hE.c5
    · obtain ⟨j, hj⟩ := List.mem_iff_getElem?.1 hr
      have hE := e2 j r hj
      exact ⟨hE.key, hE.dat, hE.hk, hE.hd⟩
def putR (l : List ER) (r : ER) : List ER := l.take (posE (l.map ER.e) r.e.k r.e.v) ++ r :: l.drop (if hitE (l.map ER.e) r.e.k r.e.v then posE (l.map ER.e) r.e.k r.e.v + 1 else posE (l.map ER.e) r.e.k r.e.v)
theorem putR_e (l : List ER) (r : ER) : (putR l r).map ER.e = putE (l.map ER.e) r.e := by
  unfold putR putE
  rw [List.map_append, List.map_cons, List.map_take, List.map_drop]
theorem infoEnt : (Try.prog.info? 32).map (fun i => (i.zero, i.size, i.bytes)) = some (some (.agg #[.slice none 0 0, .int .u64 0, .int .u8 0, .int .u8 0, .int .u64 0, .slice none 0 0]), 6, 72) := by kernel_rfl
/-- append of whatever slice of entries. -/
theorem run_append_ent (w : World) (base ty : Nat) (v : Value) (n : Nat) (xs : List Value) (hown : w.ownsRow base 32 6 v n xs)
    (A : Option Addr) (m c : Nat) (news : List Value) (hr : Sl w A (m * 6) news) (h1 : ∀ u ∈ news, u.oneCell' = true) (hb : n + m ≤ 1000000) (hbase : base ≤ w.heap.size) :
    ∃ v' w', (Builtin.append_ #[23, 23] ty #[v, .slice A m c]).run Try.prog w = .ok v' w' ∧ w'.ownsRow base 32 6 v' (n + m) (xs ++ news) ∧ w.grownBy w' v.ownBlock ∧ (v'.ownBlock = v.ownBlock ∨ v'.ownBlock = some w.heap.size) := by
  obtain ⟨i, hi, hz0, hz1, hz2⟩ := info_parts infoEnt
  rcases Nat.eq_zero_or_pos m with h0 | h0
  · subst h0
    have hn : news = [] := List.eq_nil_of_length_eq_zero (by have := hr.1; omega)
    subst hn
    exact ⟨v, w, run_append_nothing w base 23 ty 32 i 6 Try.underlying23 hi v n xs hown A c (by cases A <;> simp), by simpa using hown, World.grownBy.refl w _, .inl rfl⟩
  · obtain ⟨g, o, rfl, hc⟩ := hr.2 (by omega)
    obtain ⟨v', w', hrun, h2, h3, _, h5⟩ := run_append_own_at (P := Try.prog) w base 23 ty 32 i _ 6 72 Try.underlying23 hi hz0 hz1 hz2 rfl (by omega) v n xs hown ⟨g, o, none⟩ m c news (by rw [hr.1])
      (Sl.adds ⟨hr.1, fun _ => ⟨g, o, rfl, hc⟩⟩) h1 (by simp only [maxLen]; omega) (by omega) hbase
    exact ⟨v', w', hrun, h2, h3, h5⟩
theorem step_append_ent {ops : Array Oper} {o : Oper} {a : Act} {w : World} {K : Act → World → Prop} {Q : Exit → Act → World → Prop} {E : Prop} (hgd : o.guard = none) (s x : Operand)
    (ho : o.op = .call { callee := .builtin .append, args := #[s, x], argTypes := #[23, 23] })
    (base : Nat) (v : Value) (n : Nat) (xs : List Value) (hs : a.eval s = v) (hown : w.ownsRow base 32 6 v n xs)
    (A : Option Addr) (m c : Nat) (news : List Value) (hx : a.eval x = .slice A m c) (hr : Sl w A (m * 6) news) (h1 : ∀ u ∈ news, u.oneCell' = true) (hb : n + m ≤ 1000000) (hbase : base ≤ w.heap.size)
    (h : ∀ v' w', w'.ownsRow base 32 6 v' (n + m) (xs ++ news) → w.grownBy w' v.ownBlock → (v'.ownBlock = v.ownBlock ∨ v'.ownBlock = some w.heap.size) → K (a.put o.dst v') w') :
    if Region.wanted o (yielded ops a.tmps) = true then Oper.wp Try.prog o a w K Q else E := by
  have hw : Region.wanted o (yielded ops a.tmps) = true := by simp [Region.wanted, hgd]
  rw [if_pos hw]
  obtain ⟨v', w', hrun, h2, h3, h4⟩ := run_append_ent w base o.type v n xs hown A m c news hr h1 hb hbase
  unfold Oper.wp execOp
  simp only [ho, resolve, invoke, builtin, Sem.run_bind, Sem.run_pure, Result.andThen_ok, List.map_toArray, List.map_cons, List.map_nil, hs, hx, hrun]
  exact h v' w' h2 h3 h4
theorem wpList_append_ent {w : World} {ops : Array Oper} {rest : List Oper} {o : Oper} {a : Act} {Q : Exit → Act → World → Prop} (hgd : o.guard = none) (s x : Operand)
    (ho : o.op = .call { callee := .builtin .append, args := #[s, x], argTypes := #[23, 23] })
    (base : Nat) (v : Value) (n : Nat) (xs : List Value) (hs : a.eval s = v) (hown : w.ownsRow base 32 6 v n xs)
    (A : Option Addr) (m c : Nat) (news : List Value) (hx : a.eval x = .slice A m c) (hr : Sl w A (m * 6) news) (h1 : ∀ u ∈ news, u.oneCell' = true) (hb : n + m ≤ 1000000) (hbase : base ≤ w.heap.size)
    (h : ∀ v' w', w'.ownsRow base 32 6 v' (n + m) (xs ++ news) → w.grownBy w' v.ownBlock → (v'.ownBlock = v.ownBlock ∨ v'.ownBlock = some w.heap.size) → wpList Try.prog ops Q rest (a.put o.dst v') w') : wpList Try.prog ops Q (o :: rest) a w := by
  refine wpList_plain hgd fun K hK => ?_
  obtain ⟨v', w', hrun, h2, h3, h4⟩ := run_append_ent w base o.type v n xs hown A m c news hr h1 hb hbase
  unfold Oper.wp execOp
  simp only [ho, resolve, invoke, builtin, Sem.run_bind, Sem.run_pure, Result.andThen_ok, List.map_toArray, List.map_cons, List.map_nil, hs, hx, hrun]
  exact hK _ _ (h v' w' h2 h3 h4)
theorem own_ent {w : World} {base n : Nat} {v : Value} {xs : List Value} (h : w.ownsRow base 32 6 v n xs) : ∃ A c, v = .slice A n c ∧ n ≤ c ∧ Sl w A (n * 6) xs ∧ ∀ b o, A = some ⟨b, o, none⟩ → base ≤ b ∧ b < w.heap.size := by
  have hlt := h.lt
  obtain ⟨hl, h2⟩ := h
  rcases h2 with ⟨rfl, rfl⟩ | ⟨g, cap, cur, rfl, hg, hh, hnc, hcm, hcs, ht⟩
  · exact ⟨none, 0, rfl, Nat.le_refl _, ⟨by simpa using hl, fun h => absurd h (by omega)⟩, fun b o e => by cases e⟩
  · refine ⟨some ⟨g, 0, none⟩, cap, rfl, hnc, ⟨by simpa using hl, fun _ => ⟨g, 0, rfl, fun j u hu => ?_⟩⟩, fun b o e => by injection e with e; injection e with e1 e2; subst e1; exact hlt g rfl⟩
    have h0 : w.ownsRow base 32 6 (.slice (some ⟨g, 0, none⟩) n cap) n xs := ⟨hl, .inr ⟨g, cap, cur, rfl, hg, hh, hnc, hcm, hcs, ht⟩⟩
    have hj : j < n * 6 := by have := (List.getElem?_eq_some_iff.1 hu).1; omega
    rw [Nat.zero_add, h0.cellAt j hj]
    exact hu
set_option maxRecDepth 100000 in
theorem orderOf_any (r q : ER) (w : World) (hr : r.In w) (hq : q.In w) (h1 : r.nk ≤ 1000000) (h2 : q.nk ≤ 1000000) :
    Calls Try.prog 70 #[.agg #[.slice r.Ak r.nk r.ck, .int .u64 r.e.v, .int .u8 r.e.m, .int .u8 r.e.u, .int .u64 r.e.x, .slice r.Ad r.nd r.cd], .agg #[.slice q.Ak q.nk q.ck, .int .u64 q.e.v, .int .u8 q.e.m, .int .u8 q.e.u, .int .u64 q.e.x, .slice q.Ad q.nd q.cd]] w fun E w' => E = .returned (.int .i64 (orderL r.e.k r.e.v q.e.k q.e.v)) ∧ Below w.heap.size w w' := by
  have HR := Lib.hid hr
  have HQ := Lib.hid hq
  clear hr hq
  go_enter Try.func70, Try.ntmps70
  go_wp2_with fail
  refine (order_any r.Ak q.Ak r.nk q.nk r.ck q.ck r.e.k q.e.k r.e.v q.e.v _ ((HR.out.key.alloc _).alloc _) ((HQ.out.key.alloc _).alloc _) h1 h2).mono ?_
  rintro E w1 ⟨rfl, n1, rfl⟩
  go_wp2
  go_ret
  exact ⟨rfl, bl_drewN (bl_alloc (bl_alloc (Below.refl _ _) _) _) _⟩
end Go.Proofs.Ytanmgkpgfmkobaa
