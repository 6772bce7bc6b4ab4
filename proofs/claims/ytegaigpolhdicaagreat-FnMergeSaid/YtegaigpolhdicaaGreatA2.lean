/- Iterators over lists that are merged: what lies in memory. -/
import Derived.Test.YtegaigpolhdicaaGreatGJ
import Derived.Test.YtegaigpolhdicaaGreatA1
namespace Go.Proofs.YtegaigpolhdicaaGreat
open Go.RowKit
set_option linter.unusedVariables false
set_option linter.unusedSimpArgs false
/-- w' is w with new blocks, and what stood in the blocks of S may have turned. -/
structure FrS (S : Nat → Prop) (w w' : World) : Prop where
  os : w'.os = w.os
  tape : w'.tape = w.tape
  output : w'.output = w.output
  size : w.heap.size ≤ w'.heap.size
  block : ∀ i, i < w.heap.size → ¬ S i → w'.heap[i]? = w.heap[i]?
section
variable {S S2 U : Nat → Prop} {w w1 w2 w' : World} {g t n : Nat} {cs xs : List Value}
theorem FrS.refl (S : Nat → Prop) (w : World) : FrS S w w := ⟨rfl, rfl, rfl, Nat.le_refl _, fun _ _ _ => rfl⟩
theorem FrS.trans (h : FrS S w w1) (k : FrS S2 w1 w2) (hs : ∀ i, S2 i → S i ∨ w.heap.size ≤ i) : FrS S w w2 :=
  ⟨k.os.trans h.os, k.tape.trans h.tape, k.output.trans h.output, Nat.le_trans h.size k.size, fun i hi hn => (k.block i (Nat.lt_of_lt_of_le hi h.size) (fun h2 => by
    rcases hs i h2 with h3 | h3
    · exact hn h3
    · omega)).trans (h.block i hi hn)⟩
theorem FrS.mono (h : FrS S w w') (hs : ∀ i, S i → S2 i ∨ w.heap.size ≤ i) : FrS S2 w w' := ⟨h.os, h.tape, h.output, h.size, fun i hi hn => h.block i hi (fun h2 => by
    rcases hs i h2 with h3 | h3
    · exact hn h3
    · omega)⟩
theorem FrS.of_below (S : Nat → Prop) (h : Below w.heap.size w w') : FrS S w w' := ⟨h.os, h.tape, h.output, h.size, fun i hi _ => h.block i hi⟩
theorem FrS.below {B : Nat} (h : FrS S w w') (hB : B ≤ w.heap.size) (hl : ∀ i, S i → B ≤ i) : Below B w w' := ⟨h.os, h.tape, h.output, h.size, fun i hi => h.block i (by omega) (fun h2 => by have := hl i h2; omega)⟩
theorem FrS.of_frm {l : List Nat} (h : Frm l w w') (hl : ∀ i ∈ l, S i) : FrS S w w' := ⟨h.os, h.tape, h.output, h.size, fun i hi hn => h.block i hi (fun hm => hn (hl i hm))⟩
theorem FrS.drewN (h : FrS S w w') (k : Nat) : FrS S w (w'.drewN k) := ⟨h.os, h.tape, h.output, h.size, h.block⟩
theorem FrS.of_drew (S : Nat → Prop) (h : Drew w w') : FrS S w w' := by
  obtain ⟨k, rfl⟩ := h
  exact (FrS.refl S w).drewN k
theorem FrS.andSet (h : FrS S w w') (p : Addr) (v : Value) (hp : S p.block) : FrS S w (w'.setCell p v) :=
  h.trans (S2 := S) ⟨rfl, rfl, rfl, by simp [World.setCell], fun k _ hk => Below.heap_setCell w' p v k (fun e => hk (e ▸ hp))⟩ (fun _ hi => .inl hi)
theorem FrS.andAlloc (h : FrS S w w') (o : Obj) : FrS S w (w'.alloc o) :=
  h.trans (S2 := S) (FrS.of_frm (Frm.alloc w' o) (fun i hi => by cases hi)) (fun _ hi => .inl hi)
theorem FrS.blk (h : FrS S w w') (k : Blk w g t cs) (hg : ¬ S g) : Blk w' g t cs := (h.block g k.lt hg).trans k
/-- What holds, and stays while nothing but S turns. -/
def Fix (U : Nat → Prop) (w : World) (P : World → Prop) : Prop := ∀ w', FrS U w w' → P w'
theorem Fix.now {P : World → Prop} (h : Fix U w P) : P w := h w (FrS.refl _ _)
theorem Fix.on {P : World → Prop} (h : Fix U w P) (k : FrS S w w') (hs : ∀ i, S i → U i) : Fix U w' P := fun w2 h2 => h w2 ((k.mono (fun i hi => .inl (hs i hi))).trans h2 (fun i hi => .inl hi))
theorem Fix.less {V : Nat → Prop} {P : World → Prop} (h : Fix U w P) (hs : ∀ i, V i → U i) : Fix V w P := fun w2 h2 => h w2 (h2.mono (fun i hi => .inl (hs i hi)))
theorem Fix.imp {P Q : World → Prop} (h : Fix U w P) (hi : ∀ W, P W → Q W) : Fix U w Q := fun w2 h2 => hi _ (h w2 h2)
theorem Sl.frS {A : Option Addr} (h : Sl w A n xs) (k : FrS S w w') (hg : ∀ b o, A = some ⟨b, o, none⟩ → 0 < n → b < w.heap.size → ¬ S b) : Sl w' A n xs :=
  ⟨h.1, fun hn => by
    obtain ⟨b, o, e, hc⟩ := h.2 hn
    refine ⟨b, o, e, fun j u hu => ?_⟩
    have h1 := hc j u hu
    have hlt := World.block_lt_of_cell? w _ h1
    have hb := k.block b hlt (hg b o e hn hlt)
    unfold World.cell? at h1 ⊢
    rw [show (⟨b, o + j, none⟩ : Addr).block = b from rfl] at h1 ⊢
    rw [hb]
    exact h1⟩
theorem Sl.fix {A : Option Addr} (h : Sl w A n xs) (hg : ∀ b o, A = some ⟨b, o, none⟩ → 0 < n → b < w.heap.size → ¬ U b) : Fix U w (fun W => Sl W A n xs) := fun w2 h2 => h.frS h2 hg
theorem own_frS {base e s : Nat} {v : Value} (h : w.ownsRow base e s v n xs) (hf : FrS S w w') (hl : ∀ k, v.ownBlock = some k → ¬ S k) : w'.ownsRow base e s v n xs := by
  have hlt := h.lt
  obtain ⟨h1, h2⟩ := h
  refine ⟨h1, ?_⟩
  rcases h2 with h2 | ⟨g, cap, cur, e1, hg, hh, r⟩
  · exact .inl h2
  · have hg2 := (hlt g (by rw [e1]; rfl)).2
    exact .inr ⟨g, cap, cur, e1, hg, (hf.block g hg2 (hl g (by rw [e1]; rfl))).trans hh, r⟩
end
/-- The blocks of S, and those that have been made since. -/
def gro (S : Nat → Prop) (w w' : World) (i : Nat) : Prop := S i ∨ (w.heap.size ≤ i ∧ i < w'.heap.size)
/-- The cells of an entry of a table. -/
def ER.tcells (r : ER) : List Value := [.slice r.Ak r.nk r.ck, .int .u8 r.e.m, .int .u8 r.e.u, .int .u64 r.e.x, .slice r.Ad r.nd r.cd, .int .u64 0]
structure ER.TIn (w : World) (r : ER) : Prop where
  key : Sl w r.Ak r.nk (nums .u8 (keyB r.e.k r.e.v))
  dat : Sl w r.Ad r.nd (nums .u8 r.e.d)
  hk : r.nk ≤ r.ck
  hd : r.nd ≤ r.cd
theorem ER.TIn.nk {w : World} {r : ER} (h : r.TIn w) : r.nk = r.e.k.length + 8 := by have := h.key.1; rw [nums_length, keyB_len] at this; omega
def flatT (l : List ER) : List Value := l.flatMap ER.tcells
theorem flatT_cons (a : ER) (l : List ER) : flatT (a :: l) = a.tcells ++ flatT l := List.flatMap_cons ..
theorem flatT_append (a b : List ER) : flatT (a ++ b) = flatT a ++ flatT b := List.flatMap_append ..
theorem flatT_at : ∀ (l : List ER) (i j : Nat) (r : ER), l[i]? = some r → j < 6 → (flatT l)[i * 6 + j]? = r.tcells[j]? := by
  intro l
  induction l with
  | nil => intro i j r h; simp at h
  | cons a l ih =>
    intro i j r h hj
    have hl : a.tcells.length = 6 := rfl
    rw [flatT_cons]
    cases i with
    | zero =>
      simp only [List.getElem?_cons_zero, Option.some.injEq] at h
      subst h
      rw [List.getElem?_append_left (by omega), Nat.zero_mul, Nat.zero_add]
    | succ i =>
      rw [List.getElem?_append_right (by omega), show (i + 1) * 6 + j - a.tcells.length = i * 6 + j by omega]
      exact ih i j r (by simpa using h) hj
structure Ters (w : World) (A : Option Addr) (l : List ER) : Prop where
  sl : Sl w A (l.length * 6) (flatT l)
  each : ∀ r ∈ l, r.TIn w
theorem Ters.at_ {w : World} {g o : Nat} {l : List ER} (h : Ters w (some ⟨g, o, none⟩) l) {i : Nat} {r : ER} (hi : l[i]? = some r) {j : Nat} {v : Value} (hj : r.tcells[j]? = some v) : w.cell? ⟨g, o + i * 6 + j, none⟩ = some v := by
  have hj6 : j < 6 := (List.getElem?_eq_some_iff.1 hj).1
  have := h.sl.adds (i * 6 + j) v (by rw [flatT_at l i j r hi hj6, hj])
  rwa [add_none, ← Nat.add_assoc] at this
theorem Ters.addr {w : World} {A : Option Addr} {l : List ER} (h : Ters w A l) (hl : 0 < l.length) : ∃ g o, A = some ⟨g, o, none⟩ := by
  obtain ⟨g, o, e, _⟩ := h.sl.2 (by omega)
  exact ⟨g, o, e⟩
/-- The iterators: over a list, and over two iterators. -/
inductive Tr where
  | leaf (g : Nat) (A : Option Addr) (c : Nat) (es : List ER)
  | node (g : Nat) (L R : Tr)
def Tr.g : Tr → Nat
  | .leaf g _ _ _ => g
  | .node g _ _ => g
def Tr.adr (T : Tr) : Value := .pointer (some ⟨T.g, 0, none⟩)
def Tr.ifc : Tr → Value
  | .leaf g _ _ _ => .iface 52 (.pointer (some ⟨g, 0, none⟩))
  | .node g _ _ => .iface 77 (.pointer (some ⟨g, 0, none⟩))
def Tr.mp : Tr → Value
  | .leaf _ _ _ _ => .pointer none
  | .node g _ _ => .pointer (some ⟨g, 0, none⟩)
def Tr.all (rev : Bool) : Tr → List Ent
  | .leaf _ _ _ es => bif rev then (es.map ER.e).reverse else es.map ER.e
  | .node _ L R => mergeD rev (L.all rev) (R.all rev)
/-- What is left: in order, and each as it must be. -/
structure RemOk (rev : Bool) (r : List Ent) : Prop where
  sort : SortD rev r
  each : ∀ e ∈ r, EntOk e
theorem RemOk.tail {rev : Bool} {a : Ent} {r : List Ent} (h : RemOk rev (a :: r)) : RemOk rev r := ⟨(sortD_cons.1 h.sort).2, fun e he => h.each e (List.mem_cons_of_mem _ he)⟩
theorem RemOk.sub {rev : Bool} {r s : List Ent} (h : RemOk rev r) (hs : s.Sublist r) : RemOk rev s := ⟨h.sort.sublist hs, fun e he => h.each e (hs.subset he)⟩
theorem RemOk.from_ {rev : Bool} {r : List Ent} (h : RemOk rev r) (k : Ent) : RemOk rev (fromD rev k r) := h.sub (List.dropWhile_sublist _)
theorem RemOk.merge {rev : Bool} {r s : List Ent} (h : RemOk rev r) (k : RemOk rev s) : RemOk rev (mergeD rev r s) := ⟨mergeD_sort h.sort k.sort, fun e he => by
  rcases (mergeD_in h.sort k.sort e).1 he with h1 | h1
  · exact h.each e h1
  · exact k.each e h1.1⟩
/-- What is left of a list. -/
def remL (rev : Bool) (es : List ER) (a : Int) : List Ent := bif rev then ((es.map ER.e).take (a + 1).toNat).reverse else (es.map ER.e).drop a.toNat
/-- Lists in order. -/
def Tr.Good (rev : Bool) : Tr → Prop
  | .leaf g A c es => RemOk rev (Tr.all rev (.leaf g A c es)) ∧ es.length ≤ 80 ∧ es.length ≤ c
  | .node _ L R => L.Good rev ∧ R.Good rev
theorem Tr.Good.rem {rev : Bool} : ∀ {T : Tr}, T.Good rev → RemOk rev (T.all rev)
  | .leaf _ _ _ _, h => h.1
  | .node _ L R, h => h.1.rem.merge h.2.rem
/-- A slice that holds bytes, and stays. -/
def KeyOf (U : Nat → Prop) (w : World) (K : Value) (xs : List Int) : Prop := ∃ A n c, K = .slice A n c ∧ n ≤ c ∧ n ≤ 1000 ∧ Fix U w (fun W => Sl W A n (nums .u8 xs))
theorem KeyOf.on {U S : Nat → Prop} {w w' : World} {K : Value} {xs : List Int} (h : KeyOf U w K xs) (k : FrS S w w') (hs : ∀ i, S i → U i) : KeyOf U w' K xs := by
  obtain ⟨A, n, c, h1, h2, h3, h4⟩ := h
  exact ⟨A, n, c, h1, h2, h3, h4.on k hs⟩
/-- The small one stands where the head of both is; the heads differ. -/
def Sml (rev s : Bool) : List Ent → List Ent → Prop
  | [], [] => True
  | _ :: _, [] => s = true
  | [], _ :: _ => s = false
  | a :: _, b :: _ => (s = true ∧ ordD rev a b = -1) ∨ (s = false ∧ ordD rev a b = 1)
def nonE (l : List Ent) : Bool := !l.isEmpty
def HeadK (U : Nat → Prop) (w : World) (K : Value) : List Ent → Prop
  | [] => True
  | e :: _ => KeyOf U w K (keyB e.k e.v)
theorem HeadK.on {U S : Nat → Prop} {w w' : World} {K : Value} {l : List Ent} (h : HeadK U w K l) (k : FrS S w w') (hs : ∀ i, S i → U i) : HeadK U w' K l := by
  cases l with
  | nil => trivial
  | cons e l => exact KeyOf.on h k hs
def ncells (L R : Tr) (v1 : Bool) (K1 : Value) (v2 : Bool) (K2 : Value) (g : Nat) (s : Bool) (cu : Value) (rev : Bool) : List Value :=
  [.bool v1, K1, L.ifc, L.mp, .pointer none, .bool v2, K2, R.ifc, R.mp, .pointer none, .pointer (some ⟨g, bif s then 0 else 5, none⟩), cu, .bool rev]
/-- The block of a node, its two keys and its own row. -/
structure NodC (U : Nat → Prop) (rev : Bool) (w : World) (g : Nat) (L R : Tr) (SL SR S : Nat → Prop) (v1 : Bool) (K1 : Value) (v2 : Bool) (K2 : Value) (s : Bool) (cu : Value) : Prop where
  blk : Blk w g 83 (ncells L R v1 K1 v2 K2 g s cu rev)
  gS : S g
  hl : ∀ i, SL i → S i ∧ i ≠ g ∧ ¬ SR i
  hr : ∀ i, SR i → S i ∧ i ≠ g
  k1 : ∃ xs, KeyOf U w K1 xs
  k2 : ∃ xs, KeyOf U w K2 xs
  cur : ∃ n xs, w.ownsRow 0 5 1 cu n xs ∧ n ≤ 1000
  cb : ∀ b, cu.ownBlock = some b → S b ∧ b ≠ g ∧ ¬ SL b ∧ ¬ SR b
def CurK (w : World) (cu : Value) : List Ent → Prop
  | [] => True
  | e :: _ => ∃ n, w.ownsRow 0 5 1 cu n (nums .u8 (keyB e.k e.v))
/-- An iterator lies in w: in the blocks of S it turns; what is left, if it stands anywhere. -/
def Tr.Ok (U : Nat → Prop) (rev : Bool) (w : World) : Tr → (Nat → Prop) → Option (List Ent) → Prop
  | .leaf g A c es, S, m => S g ∧ Fix U w (fun W => Ters W A es) ∧ ∃ a : Int, -1 ≤ a ∧ a ≤ es.length ∧ Blk w g 56 [.slice A es.length c, .bool rev, .int .i64 a] ∧
      ∀ r, m = some r → r = remL rev es a ∧ (rev = true → a < es.length) ∧ (rev = false → 0 ≤ a) ∧ RemOk rev r
  | .node g L R, S, m => ∃ SL SR mL mR v1 K1 v2 K2 s cu, L.Ok U rev w SL mL ∧ R.Ok U rev w SR mR ∧ NodC U rev w g L R SL SR S v1 K1 v2 K2 s cu ∧
      ∀ r, m = some r → ∃ rl rr, mL = some rl ∧ mR = some rr ∧ r = mergeD rev rl rr ∧ Sml rev s rl rr ∧ RemOk rev rl ∧ RemOk rev rr ∧ v1 = nonE rl ∧ v2 = nonE rr ∧ HeadK U w K1 rl ∧ HeadK U w K2 rr ∧ CurK w cu r
def Bnd (U S : Nat → Prop) (w : World) : Prop := ∀ i, S i → U i ∧ i < w.heap.size
theorem NodC.frS {U S X SL SR : Nat → Prop} {rev : Bool} {w w' : World} {g : Nat} {L R : Tr} {v1 v2 s : Bool} {K1 K2 cu : Value} (h : NodC U rev w g L R SL SR S v1 K1 v2 K2 s cu) (hf : FrS X w w') (hx : ∀ i, X i → U i) (hg : ¬ X g) (hc : ∀ b, cu.ownBlock = some b → ¬ X b) : NodC U rev w' g L R SL SR S v1 K1 v2 K2 s cu :=
  ⟨hf.blk h.blk hg, h.gS, h.hl, h.hr, h.k1.imp fun _ k => k.on hf hx, h.k2.imp fun _ k => k.on hf hx, by
    obtain ⟨n, xs, h1, h2⟩ := h.cur
    exact ⟨n, xs, own_frS h1 hf hc, h2⟩, h.cb⟩
theorem CurK.frS {X : Nat → Prop} {w w' : World} {cu : Value} {r : List Ent} (h : CurK w cu r) (hf : FrS X w w') (hc : ∀ b, cu.ownBlock = some b → ¬ X b) : CurK w' cu r := by
  cases r with
  | nil => trivial
  | cons e r =>
    obtain ⟨n, h⟩ := h
    exact ⟨n, own_frS h hf hc⟩
/-- Whatever turns elsewhere. -/
theorem Tr.Ok.frS {U X : Nat → Prop} {rev : Bool} {w w' : World} (hf : FrS X w w') (hx : ∀ i, X i → U i) : ∀ {T : Tr} {S : Nat → Prop} {m : Option (List Ent)}, T.Ok U rev w S m → (∀ i, S i → ¬ X i) → T.Ok U rev w' S m
  | .leaf g A c es, S, m, h, hs => by
    obtain ⟨h1, h2, a, h3, h4, h5, h6⟩ := h
    exact ⟨h1, h2.on hf hx, a, h3, h4, hf.blk h5 (hs g h1), h6⟩
  | .node g L R, S, m, h, hs => by
    obtain ⟨SL, SR, mL, mR, v1, K1, v2, K2, s, cu, h1, h2, h3, h4⟩ := h
    refine ⟨SL, SR, mL, mR, v1, K1, v2, K2, s, cu, h1.frS hf hx (fun i hi => hs i (h3.hl i hi).1), h2.frS hf hx (fun i hi => hs i (h3.hr i hi).1), h3.frS hf hx (hs g h3.gS) (fun b hb => hs b (h3.cb b hb).1), fun r hr => ?_⟩
    obtain ⟨rl, rr, a1, a2, a3, a4, a5, a6, a7, a8, a9, a10, a11⟩ := h4 r hr
    exact ⟨rl, rr, a1, a2, a3, a4, a5, a6, a7, a8, a9.on hf hx, a10.on hf hx, a11.frS hf (fun b hb => hs b (h3.cb b hb).1)⟩
/-- More blocks of its own. -/
theorem Tr.Ok.more {U S S2 : Nat → Prop} {rev : Bool} {w : World} {T : Tr} {m : Option (List Ent)} (h : T.Ok U rev w S m) (hs : ∀ i, S i → S2 i) : T.Ok U rev w S2 m := by
  cases T with
  | leaf g A c es => exact ⟨hs _ h.1, h.2⟩
  | node g L R =>
    obtain ⟨SL, SR, mL, mR, v1, K1, v2, K2, s, cu, h1, h2, h3, h4⟩ := h
    exact ⟨SL, SR, mL, mR, v1, K1, v2, K2, s, cu, h1, h2, ⟨h3.blk, hs _ h3.gS, fun i hi => ⟨hs _ (h3.hl i hi).1, (h3.hl i hi).2⟩, fun i hi => ⟨hs _ (h3.hr i hi).1, (h3.hr i hi).2⟩, h3.k1, h3.k2, h3.cur, fun b hb => ⟨hs _ (h3.cb b hb).1, (h3.cb b hb).2⟩⟩, h4⟩
theorem Tr.Ok.gS {U S : Nat → Prop} {rev : Bool} {w : World} {T : Tr} {m : Option (List Ent)} (h : T.Ok U rev w S m) : S T.g := by
  cases T with
  | leaf g A c es => exact h.1
  | node g L R =>
    obtain ⟨SL, SR, mL, mR, v1, K1, v2, K2, s, cu, h1, h2, h3, h4⟩ := h
    exact h3.gS
theorem Tr.Ok.rem {U S : Nat → Prop} {rev : Bool} {w : World} {T : Tr} {r : List Ent} (h : T.Ok U rev w S (some r)) : RemOk rev r := by
  cases T with
  | leaf g A c es =>
    obtain ⟨h1, h2, a, h3, h4, h5, h6⟩ := h
    exact (h6 r rfl).2.2.2
  | node g L R =>
    obtain ⟨SL, SR, mL, mR, v1, K1, v2, K2, s, cu, h1, h2, h3, h4⟩ := h
    obtain ⟨rl, rr, a1, a2, rfl, a4, a5, a6, a7⟩ := h4 r rfl
    exact a5.merge a6
/-- What an operation on an iterator leaves. -/
structure OpS (U : Nat → Prop) (rev : Bool) (w : World) (T : Tr) (S : Nat → Prop) (r : List Ent) (w' : World) : Prop where
  ok : T.Ok U rev w' (gro S w w') (some r)
  fr : FrS S w w'
def OpP (U : Nat → Prop) (rev : Bool) (w : World) (T : Tr) (S : Nat → Prop) (r : List Ent) (E : Ending) (w' : World) : Prop := E = .returned (.tuple #[]) ∧ OpS U rev w T S r w'
end Go.Proofs.YtegaigpolhdicaaGreat
