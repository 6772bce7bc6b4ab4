/- Texts that this claim shares with others, put together: J1 J3. -/
import Derived.Test.YtegaigpolhdicaaGreatGI
/- Lists of steps, cell by cell; places as plain words. -/
namespace Go.Proofs.YtegaigpolhdicaaGreat
open Go.RowKit
set_option linter.unusedVariables false
set_option linter.unusedSimpArgs false
/-- A step as it lies. -/
structure SR where
  KS : Option Addr
  nk : Nat
  ck : Nat
  s : StE
def SR.cells (r : SR) : List Value := [.int .i64 r.s.kind, .slice r.KS r.nk r.ck, .int .u64 r.s.v]
structure SR.In (w : World) (r : SR) : Prop where
  key : Sl w r.KS r.nk (nums .u8 r.s.k)
  hk : r.nk ≤ r.ck
theorem SR.In.below {w w' : World} {r : SR} (h : r.In w) (hb : Below w.heap.size w w') : r.In w' := ⟨h.key.below hb, h.hk⟩
theorem SR.nk_eq {w : World} {r : SR} (h : r.In w) : r.s.k.length = r.nk := by have := h.key.1; rwa [nums_length] at this
def flatS (l : List SR) : List Value := l.flatMap SR.cells
theorem flatS_cons (a : SR) (l : List SR) : flatS (a :: l) = a.cells ++ flatS l := List.flatMap_cons ..
theorem flatS_len (l : List SR) : (flatS l).length = l.length * 3 := by
  induction l with
  | nil => rfl
  | cons a l ih => rw [flatS_cons, List.length_append, ih, List.length_cons]; simp [SR.cells]; omega
theorem flatS_at : ∀ (l : List SR) (i j : Nat) (r : SR), l[i]? = some r → j < 3 → (flatS l)[i * 3 + j]? = r.cells[j]? := by
  intro l
  induction l with
  | nil => intro i j r h; simp at h
  | cons a l ih =>
    intro i j r h hj
    have hl : a.cells.length = 3 := rfl
    rw [flatS_cons]
    cases i with
    | zero =>
      simp only [List.getElem?_cons_zero, Option.some.injEq] at h
      subst h
      rw [List.getElem?_append_left (by omega), Nat.zero_mul, Nat.zero_add]
    | succ i =>
      rw [List.getElem?_append_right (by omega), show (i + 1) * 3 + j - a.cells.length = i * 3 + j by omega]
      exact ih i j r (by simpa using h) hj
/-- A slice that reads as a list of steps. -/
structure Srs (w : World) (A : Option Addr) (l : List SR) : Prop where
  sl : Sl w A (l.length * 3) (flatS l)
  each : ∀ r ∈ l, r.In w
theorem Srs.below {w w' : World} {A : Option Addr} {l : List SR} (h : Srs w A l) (hb : Below w.heap.size w w') : Srs w' A l := ⟨h.sl.below hb, fun r hr => (h.each r hr).below hb⟩
theorem Srs.nil (w : World) (A : Option Addr) : Srs w A [] := ⟨Sl.nil w A, fun r hr => by cases hr⟩
theorem Srs.at_ {w : World} {g o : Nat} {l : List SR} (h : Srs w (some ⟨g, o, none⟩) l) {i : Nat} {r : SR} (hi : l[i]? = some r) {j : Nat} {v : Value} (hj : r.cells[j]? = some v) : w.cell? ⟨g, o + i * 3 + j, none⟩ = some v := by
  have hj6 : j < 3 := (List.getElem?_eq_some_iff.1 hj).1
  have := h.sl.adds (i * 3 + j) v (by rw [flatS_at l i j r hi hj6, hj])
  rwa [add_none, ← Nat.add_assoc] at this
theorem Srs.addr {w : World} {A : Option Addr} {l : List SR} (h : Srs w A l) (hl : 0 < l.length) : ∃ g o, A = some ⟨g, o, none⟩ := by
  obtain ⟨g, o, e, _⟩ := h.sl.2 (by omega)
  exact ⟨g, o, e⟩
/-- A place in plain words: the entry at a number, if there is one. -/
def plE (l : List Ent) (a : Int) : Bool × Ent := if 0 ≤ a ∧ a < l.length then (true, (l[a.toNat]?).getD zeroE) else (false, zeroE)
theorem plE_in {l : List Ent} {j : Nat} {e : Ent} (h : l[j]? = some e) : plE l (j : Int) = (true, e) := by
  unfold plE
  have := (List.getElem?_eq_some_iff.1 h).1
  rw [if_pos (by omega), Int.toNat_natCast, h]
  rfl
theorem plE_out {l : List Ent} {a : Int} (h : ¬ (0 ≤ a ∧ a < l.length)) : plE l a = (false, zeroE) := by
  unfold plE
  rw [if_neg h]
def PR.pl (p : PR) : Bool × Ent := (p.ok, p.r.e)
def zeroR : ER := ⟨none, 0, 0, none, 0, 0, zeroE⟩
theorem zeroR_in (w : World) : zeroR.In w := ⟨Sl.nil _ _, Sl.nil _ _, Nat.le_refl _, Nat.le_refl _⟩
theorem walkE_step {l : List Ent} {at_ b : Int} {s : StE} {r : List StE} (h : moveE l at_ s = some b) : walkE l at_ (s :: r) = (walkE l b r).map fun m => b :: m := by
  show (moveE l at_ s).bind _ = _
  rw [h]
  rfl
theorem walkE_stop {l : List Ent} {at_ : Int} {s : StE} {r : List StE} (h : moveE l at_ s = none) : walkE l at_ (s :: r) = none := by
  show (moveE l at_ s).bind _ = _
  rw [h]
  rfl
/-- The steps that are left, behind those that have been taken. -/
theorem walkE_on {l : List Ent} {S : List StE} {i : Nat} {at_ b : Int} {ats : List Int} {s : StE} (h : walkE l (-1) S = (walkE l at_ (S.drop i)).map fun m => ats ++ m) (hs : S[i]? = some s) (hm : moveE l at_ s = some b) :
    walkE l (-1) S = (walkE l b (S.drop (i + 1))).map fun m => (ats ++ [b]) ++ m := by
  have hd : S.drop i = s :: S.drop (i + 1) := by
    have hi := (List.getElem?_eq_some_iff.1 hs)
    rw [← List.getElem_cons_drop hi.1, hi.2]
  rw [h, hd, walkE_step hm, Option.map_map]
  congr 1
  funext m
  simp
theorem walkE_no {l : List Ent} {S : List StE} {i : Nat} {at_ : Int} {ats : List Int} {s : StE} (h : walkE l (-1) S = (walkE l at_ (S.drop i)).map fun m => ats ++ m) (hs : S[i]? = some s) (hm : moveE l at_ s = none) :
    walkE l (-1) S = none := by
  have hd : S.drop i = s :: S.drop (i + 1) := by
    have hi := (List.getElem?_eq_some_iff.1 hs)
    rw [← List.getElem_cons_drop hi.1, hi.2]
  rw [h, hd, walkE_stop hm]
  rfl
theorem walkE_end {l : List Ent} {S : List StE} {i : Nat} {at_ : Int} {ats : List Int} (h : walkE l (-1) S = (walkE l at_ (S.drop i)).map fun m => ats ++ m) (hi : S.length ≤ i) : walkE l (-1) S = some ats := by
  rw [h, List.drop_eq_nil_of_le hi]
  show some (ats ++ []) = _
  rw [List.append_nil]
theorem mv0 {l : List Ent} {a b v : Int} {k : List Int} (h : moveE l a ⟨0, k, v⟩ = some b) : b = 0 := by
  simp only [moveE] at h
  simpa using h.symm
theorem mv1 {l : List Ent} {a b v : Int} {k : List Int} (h : moveE l a ⟨1, k, v⟩ = some b) : b = (l.length : Int) - 1 := by
  simp only [moveE] at h
  simpa using h.symm
theorem mv4 {l : List Ent} {a b v : Int} {k : List Int} (h : moveE l a ⟨4, k, v⟩ = some b) : b = ((posE l k v : Nat) : Int) := by
  simp only [moveE] at h
  simpa using h.symm
theorem mv5 {l : List Ent} {a b v : Int} {k : List Int} (h : moveE l a ⟨5, k, v⟩ = some b) : b = backE l k v := by
  simp only [moveE] at h
  simpa using h.symm
theorem mv2 {l : List Ent} {a b v : Int} {k : List Int} (h : moveE l a ⟨2, k, v⟩ = some b) : 0 ≤ a ∧ a < l.length ∧ b = a + 1 := by
  simp only [moveE] at h
  by_cases h1 : 0 ≤ a ∧ a < l.length
  · simp [h1] at h
    exact ⟨h1.1, h1.2, h.symm⟩
  · simp [h1] at h
theorem mv3 {l : List Ent} {a b v : Int} {k : List Int} (h : moveE l a ⟨3, k, v⟩ = some b) : 0 ≤ a ∧ a < l.length ∧ b = a - 1 := by
  simp only [moveE] at h
  by_cases h1 : 0 ≤ a ∧ a < l.length
  · simp [h1] at h
    exact ⟨h1.1, h1.2, h.symm⟩
  · simp [h1] at h
theorem mvNo {l : List Ent} {a b v kd : Int} {k : List Int} (h : moveE l a ⟨kd, k, v⟩ = some b) (k0 : ¬ kd = 0) (k1 : ¬ kd = 1) (k4 : ¬ kd = 4) (k5 : ¬ kd = 5) (k2 : ¬ kd = 2) (k3 : ¬ kd = 3) : False := by
  simp [moveE, k0, k1, k4, k5, k2, k3] at h
end Go.Proofs.YtegaigpolhdicaaGreat

/- Places that a walk has made: what stays of them. -/
namespace Go.Proofs.YtegaigpolhdicaaGreat
open Go.RowKit
set_option linter.unusedVariables false
set_option linter.unusedSimpArgs false
theorem frm_row {w w' : World} {row : Option Nat} (hg : w.grownBy w' row) : Frm row.toList w w' := ⟨hg.os, hg.tape, hg.output, hg.size, fun i hi hn => hg.block i hi (fun e => hn (by simp [← e]))⟩
theorem own_ne7 {w : World} {base e s n k t : Nat} {v : Value} {xs cs : List Value} (h : w.ownsRow base e s v n xs) (hk : Blk w k t cs) (hne : t ≠ e) : some k ≠ v.ownBlock := by
  rcases h.2 with ⟨rfl, _⟩ | ⟨g, cap, cur, rfl, _, hh, _⟩
  · intro h; cases h
  · intro h
    simp only [Value.ownBlock, Option.some.injEq] at h
    subst h
    have h2 : w.heap[k]? = some (.cells cs.toArray t (0, 0)) := hk
    rw [hh] at h2
    injection h2 with h2
    injection h2 with _ h3 _
    exact hne h3.symm
theorem own_frm {l : List Nat} {w w1 : World} {base e s n : Nat} {v : Value} {xs : List Value} (h : w.ownsRow base e s v n xs) (hf : Frm l w w1) (hl : ∀ i ∈ l, i < base ∨ w.heap.size ≤ i) : w1.ownsRow base e s v n xs := by
  have hlt := h.lt
  obtain ⟨h1, h2⟩ := h
  refine ⟨h1, ?_⟩
  rcases h2 with h2 | ⟨g, cap, cur, e1, hg, hh, r⟩
  · exact .inl h2
  · have hg2 := (hlt g (by rw [e1]; rfl)).2
    exact .inr ⟨g, cap, cur, e1, hg, (hf.block g hg2 (fun hm => by have := hl g hm; omega)).trans hh, r⟩
def SlB (B : Nat) (w : World) (A : Option Addr) (n : Nat) : Prop := ∀ b o, A = some ⟨b, o, none⟩ → 0 < n → B ≤ b ∧ ∃ cs, Blk w b 5 cs
theorem SlB.frm {l : List Nat} {B n : Nat} {w w' : World} {A : Option Addr} (h : SlB B w A n) (hf : Frm l w w') (hl : ∀ i ∈ l, i < B ∨ w.heap.size ≤ i) : SlB B w' A n := fun b o e hn => by
  obtain ⟨h1, cs, h2⟩ := h b o e hn
  exact ⟨h1, cs, h2.frm hf (fun hm => by have := hl b hm; have := h2.lt; omega)⟩
theorem Sl.frmB {l : List Nat} {B n : Nat} {w w' : World} {A : Option Addr} {xs : List Value} (hs : Sl w A n xs) (h : SlB B w A n) (hf : Frm l w w') (hl : ∀ i ∈ l, i < B ∨ w.heap.size ≤ i) : Sl w' A n xs :=
  hs.frm0 hf (fun b o e hn hlt hm => by have := (h b o e hn).1; have := hl b hm; omega)
theorem SlB.of_own {w : World} {base B n c : Nat} {A : Option Addr} {xs : List Value} (h : w.ownsRow base 5 1 (.slice A n c) n xs) (hB : B ≤ base) : SlB B w A n := fun b o e hn => by
  obtain ⟨g, cur, e2, h1, h2, _⟩ := own_blk h hn
  rw [e] at e2
  injection e2 with e2
  injection e2 with e2 _
  subst e2
  exact ⟨by omega, cur, h2⟩
theorem SlB.ne {B n m : Nat} {w : World} {A : Option Addr} {base : Nat} {v : Value} {xs : List Value} (h : SlB B w A n) (hO : w.ownsRow base 47 7 v m xs) {b o : Nat} (e : A = some ⟨b, o, none⟩) (hn : 0 < n) : b ∉ v.ownBlock.toList := fun hm => by
  obtain ⟨h1, cs, h2⟩ := h b o e hn
  exact own_ne7 hO h2 (by decide) (show v.ownBlock = some b from Option.mem_toList.1 hm).symm
theorem SlB.grown {B n m : Nat} {w w' : World} {A : Option Addr} {base : Nat} {v : Value} {xs : List Value} (h : SlB B w A n) (hO : w.ownsRow base 47 7 v m xs) (hg : w.grownBy w' v.ownBlock) : SlB B w' A n := fun b o e hn => by
  obtain ⟨h1, cs, h2⟩ := h b o e hn
  exact ⟨h1, cs, h2.frm (frm_row hg) (h.ne hO e hn)⟩
theorem Sl.grownB {B n m : Nat} {w w' : World} {A : Option Addr} {base : Nat} {v : Value} {xs us : List Value} (hs : Sl w A n us) (h : SlB B w A n) (hO : w.ownsRow base 47 7 v m xs) (hg : w.grownBy w' v.ownBlock) : Sl w' A n us :=
  hs.frm0 (frm_row hg) (fun b o e hn _ => h.ne hO e hn)
theorem SlB.off {B n g t : Nat} {w : World} {A : Option Addr} {cs : List Value} (h : SlB B w A n) (hg : Blk w g t cs) (ht : 5 ≠ t) {b o : Nat} (e : A = some ⟨b, o, none⟩) (hn : 0 < n) : b ∉ [g] := fun hm => by
  rw [List.mem_singleton] at hm
  subst hm
  obtain ⟨_, cs', h2⟩ := h b o e hn
  have h3 : w.heap[b]? = some (.cells cs'.toArray 5 (0, 0)) := h2
  have h4 : w.heap[b]? = some (.cells cs.toArray t (0, 0)) := hg
  rw [h3] at h4
  injection h4 with h4
  injection h4 with _ h5 _
  exact ht h5
theorem SlB.over {B n g t : Nat} {w w' : World} {A : Option Addr} {cs : List Value} (h : SlB B w A n) (hg : Blk w g t cs) (ht : 5 ≠ t) (hf : Frm [g] w w') : SlB B w' A n := fun b o e hn => by
  obtain ⟨h1, cs', h2⟩ := h b o e hn
  exact ⟨h1, cs', h2.frm hf (h.off hg ht e hn)⟩
theorem Sl.over {B n g t : Nat} {w w' : World} {A : Option Addr} {xs cs : List Value} (hs : Sl w A n xs) (h : SlB B w A n) (hg : Blk w g t cs) (ht : 5 ≠ t) (hf : Frm [g] w w') : Sl w' A n xs :=
  hs.frm0 hf (fun b o e hn _ => h.off hg ht e hn)
/-- A place that has been made behind B, with its own key and data. -/
structure PlB (B : Nat) (w : World) (p : PR) : Prop where
  in_ : p.r.In w
  key : SlB B w p.r.Ak p.r.nk
  dat : SlB B w p.r.Ad p.r.nd
theorem PlB.frm {l : List Nat} {B : Nat} {w w' : World} {p : PR} (h : PlB B w p) (hf : Frm l w w') (hl : ∀ i ∈ l, i < B ∨ w.heap.size ≤ i) : PlB B w' p :=
  ⟨⟨h.in_.key.frmB h.key hf hl, h.in_.dat.frmB h.dat hf hl, h.in_.hk, h.in_.hd⟩, h.key.frm hf hl, h.dat.frm hf hl⟩
theorem PlB.grown {B m : Nat} {w w' : World} {base : Nat} {v : Value} {xs : List Value} {p : PR} (h : PlB B w p) (hO : w.ownsRow base 47 7 v m xs) (hg : w.grownBy w' v.ownBlock) : PlB B w' p :=
  ⟨⟨h.in_.key.grownB h.key hO hg, h.in_.dat.grownB h.dat hO hg, h.in_.hk, h.in_.hd⟩, h.key.grown hO hg, h.dat.grown hO hg⟩
theorem PlB.zero (B : Nat) (w : World) : PlB B w ⟨false, zeroR⟩ := ⟨zeroR_in w, (fun b o e => by cases e), (fun b o e => by cases e)⟩
/-- The list and its iterator lie ahead of B. -/
structure ItLt (B g gi : Nat) (s : SkA) : Prop where
  blk : ∀ b ∈ blksOf g s, b < B
  ran : ∀ b o, s.ra = some ⟨b, o, none⟩ → b < B
  it : gi < B
theorem plN_app {l : List Ent} {ps : List PR} {ats : List Int} {p : PR} {b : Int} (h : ps.map PR.pl = ats.map (plE l)) (hp : p.pl = plE l b) : (ps ++ [p]).map PR.pl = (ats ++ [b]).map (plE l) := by
  rw [List.map_append, List.map_append, h]
  exact congrArg _ (congrArg (fun x => [x]) hp)
theorem PR.one (p : PR) : ∀ u ∈ p.cells, u.oneCell' = true := fun u hu => flatP_one [p] u (by rw [flatP_cons]; exact List.mem_append_left _ hu)
theorem flatP_snoc (l : List PR) (p : PR) : flatP (l ++ [p]) = flatP l ++ p.cells := by
  rw [flatP_append, flatP_cons]
  show _ ++ (p.cells ++ []) = _
  rw [List.append_nil]
def plObj (p : PR) : Obj := .cells p.cells.toArray 47
theorem app_sl (wc : World) (p : PR) : Sl ((wc.alloc (plObj p)).alloc (plObj p)) (some ⟨wc.heap.size + 1, 0, none⟩) (1 * 7) p.cells := by
  have h := Blk.new (wc.alloc (plObj p)) 47 p.cells
  have e : (wc.alloc (plObj p)).heap.size = wc.heap.size + 1 := World.size_alloc _ _
  rw [e] at h
  exact h.sl (off := 0) (n := 7) (by show 0 + 7 ≤ 7; omega)
theorem one_sl (wy : World) (p : PR) : Sl (wy.alloc (plObj p)) (some ⟨wy.heap.size, 0, none⟩) (1 * 7) p.cells :=
  (Blk.new wy 47 p.cells).sl (off := 0) (n := 7) (by show 0 + 7 ≤ 7; omega)
structure StOk (s : SR) : Prop where
  nk : s.nk ≤ 900
  kb : Byt s.s.k
  v0 : 0 ≤ s.s.v
  v1 : Hid (s.s.v ≤ 18446744073709551615)
end Go.Proofs.YtegaigpolhdicaaGreat
