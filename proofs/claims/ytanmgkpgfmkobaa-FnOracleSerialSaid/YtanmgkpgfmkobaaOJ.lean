/- An oracle in memory: each part has blocks of its own, told apart by a number. -/
import Derived.Test.YtanmgkpgfmkobaaOI
import Derived.Test.YtanmgkpgfmkobaaOD
namespace Go.Proofs.Ytanmgkpgfmkobaa
open Go.RowKit
set_option linter.unusedVariables false
set_option linter.unusedSimpArgs false
/-- The blocks of an oracle: its box, itself, the marks with their maps. -/
structure OP where
  P : Nat
  O : Nat
  M1 : Nat
  b1 : Nat
  M2 : Nat
  b2 : Nat
/-- The keys that are written. -/
def wrF (l : List Int) (x : Int) : Option Value := if l.contains x = true then some (.agg #[]) else none
def comV (gs : List (Nat × Nat)) (l : List (Nat × Nat)) : List Value := l.flatMap fun c => [.int .u64 (c.1 : Int), .map ((gs[c.2]?).map (·.2))]
theorem comV_len (gs : List (Nat × Nat)) : ∀ l, (comV gs l).length = l.length * 2
  | [] => rfl
  | c :: l => by
    have := comV_len gs l
    simp only [comV, List.flatMap_cons, List.length_append, List.length_cons, List.length_nil] at this ⊢
    omega
theorem comV_grow (gs gs' : List (Nat × Nat)) : ∀ l : List (Nat × Nat), (∀ c ∈ l, c.2 < gs.length) → comV (gs ++ gs') l = comV gs l
  | [], _ => rfl
  | c :: l, h => by
    have ih := comV_grow gs gs' l fun d hd => h d (List.mem_cons_of_mem _ hd)
    simp only [comV, List.flatMap_cons] at ih ⊢
    rw [ih, List.getElem?_append_left (h c (List.mem_cons_self ..))]
def oraC (cf : Bool) (next : Nat) (p : OP) (cv : Value) (lc : Nat) : List Value :=
  [.bool false, .bool cf, .int .u64 (next : Int), .pointer (some ⟨p.M1, 0, none⟩), .int .u64 0, .pointer (some ⟨p.M2, 0, none⟩), cv, .int .u64 (lc : Int)]
/-- A transaction in memory. -/
def TxS (w : World) (B N g mp : Nat) (rv : Value) (x : OTx) : Prop :=
  Blk w g 150 [.int .u64 (x.rts : Int), .int .u64 0, rv, .map (some mp), .bool x.dr] ∧ OwnO w B 28 rv (nums .u64 x.reads) ∧ MapAt Try.prog w 28 .u64 mp N (wrF x.writes)
structure ORun where
  s : OSt
  tm : OMk
  gs : List (Nat × Nat)
def Comp (B N : Nat) (p : OP) (cf : Bool) (r : ORun) : Nat → World → (Nat → Nat) → Prop
  | 0, _, _ => True
  | 1, w, ow => ∃ cv, Blk w p.P 147 [.pointer (some ⟨p.O, 0, none⟩)] ∧ Blk w p.O 145 (oraC cf r.s.next p cv r.s.lc) ∧ w.ownsRow B 184 2 cv r.s.com.length (comV r.gs r.s.com) ∧
      (∀ c ∈ r.s.com, c.2 < r.gs.length) ∧ ∀ b ∈ p.P :: p.O :: cv.ownBlock.toList, ow b = 1
  | 2, w, ow => ∃ v, MkS w B p.M1 p.b1 N v r.tm.pend r.tm.til ∧ ∀ b ∈ footM p.M1 p.b1 v, ow b = 2
  | 3, w, ow => ∃ v, MkS w B p.M2 p.b2 N v r.s.rmk.pend r.s.rmk.til ∧ ∀ b ∈ footM p.M2 p.b2 v, ow b = 3
  | t + 4, w, ow => ∀ x q, r.s.txs[t]? = some x → r.gs[t]? = some q → ∃ rv, TxS w B N q.1 q.2 rv x ∧ ∀ b ∈ q.1 :: q.2 :: rv.ownBlock.toList, ow b = t + 4
/-- An oracle in memory. -/
structure Ora (B N : Nat) (p : OP) (cf : Bool) (r : ORun) (w : World) (ow : Nat → Nat) : Prop where
  base : B ≤ w.heap.size
  low : ∀ b, b < B → ow b = 0
  out : ∀ b, w.heap.size ≤ b → ow b = 0
  len : r.gs.length = r.s.txs.length
  comp : ∀ k, Comp B N p cf r k w ow
/-- What has turned, seen from without. -/
structure Stp (ow : Nat → Nat) (w : World) (ow' : Nat → Nat) (w' : World) : Prop where
  os : w'.os = w.os
  tape : w'.tape = w.tape
  output : w'.output = w.output
  size : w.heap.size ≤ w'.heap.size
  same : ∀ b, b < w.heap.size → ow' b = ow b
  keep : ∀ b, b < w.heap.size → ow b = 0 → w'.heap[b]? = w.heap[b]?
theorem Stp.trans {ow ow1 ow2 : Nat → Nat} {w w1 w2 : World} (h : Stp ow w ow1 w1) (k : Stp ow1 w1 ow2 w2) : Stp ow w ow2 w2 :=
  ⟨k.os.trans h.os, k.tape.trans h.tape, k.output.trans h.output, Nat.le_trans h.size k.size, fun b hb => (k.same b (Nat.lt_of_lt_of_le hb h.size)).trans (h.same b hb),
   fun b hb h0 => (k.keep b (Nat.lt_of_lt_of_le hb h.size) ((h.same b hb).trans h0)).trans (h.keep b hb h0)⟩
theorem Stp.refl (ow : Nat → Nat) (w : World) : Stp ow w ow w := ⟨rfl, rfl, rfl, Nat.le_refl _, fun _ _ => rfl, fun _ _ _ => rfl⟩
theorem Stp.of_frm {ow : Nat → Nat} {L : List Nat} {w w' : World} (h : Frm L w w') (hL : ∀ b ∈ L, b < w.heap.size → ow b ≠ 0) : Stp ow w ow w' :=
  ⟨h.os, h.tape, h.output, h.size, fun _ _ => rfl, fun b hb h0 => h.block b hb fun hm => hL b hm hb h0⟩
theorem Stp.cell {ow ow' : Nat → Nat} {w w' : World} {p : Addr} {v : Value} (h : Stp ow w ow' w') (hc : w.cell? p = some v) (h0 : ow p.block = 0) : w'.cell? p = some v := by
  have hlt := World.block_lt_of_cell? w _ hc
  have hb := h.keep _ hlt h0
  unfold World.cell? at hc ⊢
  rw [hb]
  exact hc
theorem Stp.blk {ow ow' : Nat → Nat} {w w' : World} {g t : Nat} {cs : List Value} (h : Stp ow w ow' w') (hc : Blk w g t cs) (h0 : ow g = 0) : Blk w' g t cs := (h.keep g hc.lt h0).trans hc
theorem Stp.below {ow ow' : Nat → Nat} {w w' : World} {B : Nat} (h : Stp ow w ow' w') (hB : B ≤ w.heap.size) (hl : ∀ b, b < B → ow b = 0) : Below B w w' := ⟨h.os, h.tape, h.output, h.size, fun b hb => h.keep b (by omega) (hl b hb)⟩
theorem owns_of {w w' : World} {base e s n : Nat} {v : Value} {xs : List Value} (h : w.ownsRow base e s v n xs) (hs : ∀ b ∈ v.ownBlock.toList, w'.heap[b]? = w.heap[b]?) : w'.ownsRow base e s v n xs := by
  obtain ⟨h1, h2⟩ := h
  refine ⟨h1, ?_⟩
  rcases h2 with h2 | ⟨g, cap, cur, e1, hg, hh, r⟩
  · exact .inl h2
  · exact .inr ⟨g, cap, cur, e1, hg, (hs g (by rw [e1]; simp [Value.ownBlock])).trans hh, r⟩
theorem Stp.owns {ow ow' : Nat → Nat} {w w' : World} {base e s n : Nat} {v : Value} {xs : List Value} (h : Stp ow w ow' w') (ho : w.ownsRow base e s v n xs) (h0 : ∀ b ∈ v.ownBlock.toList, ow b = 0) : w'.ownsRow base e s v n xs :=
  owns_of ho fun b hb => h.keep b (ho.lt b (Option.mem_toList.1 hb)).2 (h0 b hb)
theorem ownO_of {w w' : World} {B e : Nat} {v : Value} {l : List Value} (h : OwnO w B e v l) (hs : ∀ b ∈ v.ownBlock.toList, w'.heap[b]? = w.heap[b]?) : OwnO w' B e v l := by
  rcases h with h | ⟨g, o, c, cur, rfl, h1, h2, r⟩
  · exact .inl h
  · exact .inr ⟨g, o, c, cur, rfl, h1, (hs g (by simp [Value.ownBlock])).trans h2, r⟩
theorem ownO_lt {w : World} {B e : Nat} {v : Value} {l : List Value} (h : OwnO w B e v l) : ∀ b ∈ v.ownBlock.toList, b < w.heap.size := fun b hb => by
  obtain ⟨cs, hk, _⟩ := h.blk hb
  exact hk.lt
/-- A part stays where its blocks do. -/
theorem Comp.keep {B N k : Nat} {p : OP} {cf : Bool} {r : ORun} {w w' : World} {ow ow' : Nat → Nat} (h : Comp B N p cf r k w ow) (hs : ∀ b, b < w.heap.size → ow b = k → w'.heap[b]? = w.heap[b]?) (ho : ∀ b, b < w.heap.size → ow' b = ow b) : Comp B N p cf r k w' ow' := by
  match k, h with
  | 0, _ => trivial
  | 1, ⟨cv, h1, h2, h3, h4, h5⟩ =>
    have hlt : ∀ b ∈ p.P :: p.O :: cv.ownBlock.toList, b < w.heap.size := fun b hb => by
      rcases List.mem_cons.1 hb with rfl | hb
      · exact h1.lt
      · rcases List.mem_cons.1 hb with rfl | hb
        · exact h2.lt
        · exact (h3.lt b (Option.mem_toList.1 hb)).2
    have hh : ∀ b ∈ p.P :: p.O :: cv.ownBlock.toList, w'.heap[b]? = w.heap[b]? := fun b hb => hs b (hlt b hb) (h5 b hb)
    exact ⟨cv, (hh _ (by simp)).trans h1, (hh _ (by simp)).trans h2, owns_of h3 fun b hb => hh b (by simp only [List.mem_cons]; exact .inr (.inr hb)), h4, fun b hb => (ho b (hlt b hb)).trans (h5 b hb)⟩
  | 2, ⟨v, h1, h2⟩ =>
    have hh : ∀ b ∈ footM p.M1 p.b1 v, w'.heap[b]? = w.heap[b]? := fun b hb => hs b (h1.lt b hb) (h2 b hb)
    exact ⟨v, ⟨(hh _ (by simp [footM])).trans h1.blk, ownO_of h1.own fun b hb => hh b (by simp only [footM, List.mem_cons]; exact .inr (.inr hb)), h1.map.of_block (hh _ (by simp [footM]))⟩, fun b hb => (ho b (h1.lt b hb)).trans (h2 b hb)⟩
  | 3, ⟨v, h1, h2⟩ =>
    have hh : ∀ b ∈ footM p.M2 p.b2 v, w'.heap[b]? = w.heap[b]? := fun b hb => hs b (h1.lt b hb) (h2 b hb)
    exact ⟨v, ⟨(hh _ (by simp [footM])).trans h1.blk, ownO_of h1.own fun b hb => hh b (by simp only [footM, List.mem_cons]; exact .inr (.inr hb)), h1.map.of_block (hh _ (by simp [footM]))⟩, fun b hb => (ho b (h1.lt b hb)).trans (h2 b hb)⟩
  | t + 4, h =>
    intro x q hx hq
    obtain ⟨rv, ⟨h1, h2, h3⟩, h5⟩ := h x q hx hq
    have hlt : ∀ b ∈ q.1 :: q.2 :: rv.ownBlock.toList, b < w.heap.size := fun b hb => by
      rcases List.mem_cons.1 hb with rfl | hb
      · exact h1.lt
      · rcases List.mem_cons.1 hb with rfl | hb
        · exact h3.lt
        · exact ownO_lt h2 b hb
    have hh : ∀ b ∈ q.1 :: q.2 :: rv.ownBlock.toList, w'.heap[b]? = w.heap[b]? := fun b hb => hs b (hlt b hb) (h5 b hb)
    exact ⟨rv, ⟨(hh _ (by simp)).trans h1, ownO_of h2 fun b hb => hh b (by simp only [List.mem_cons]; exact .inr (.inr hb)), h3.of_block (hh _ (by simp))⟩, fun b hb => (ho b (hlt b hb)).trans (h5 b hb)⟩
def upO (ow : Nat → Nat) (w w' : World) (k : Nat) : Nat → Nat := fun b => if b < w.heap.size then ow b else if b < w'.heap.size then k else 0
theorem upO_old {ow : Nat → Nat} {w w' : World} {k b : Nat} (h : b < w.heap.size) : upO ow w w' k b = ow b := if_pos h
theorem upO_new {ow : Nat → Nat} {w w' : World} {k b : Nat} (h : w.heap.size ≤ b) (h' : b < w'.heap.size) : upO ow w w' k b = k := by unfold upO; rw [if_neg (by omega), if_pos h']
/-- A block of the part, or a new one. -/
theorem upO_at {ow : Nat → Nat} {w w' : World} {k b : Nat} (h : b < w'.heap.size) (hk : b < w.heap.size → ow b = k) : upO ow w w' k b = k := by
  by_cases h1 : b < w.heap.size
  · rw [upO_old h1, hk h1]
  · exact upO_new (by omega) h
/-- A part turns. -/
theorem Ora.turn {B N N' k0 : Nat} {p : OP} {cf : Bool} {r r' : ORun} {w w' : World} {ow : Nat → Nat} {L : List Nat} (h : Ora B N p cf r w ow) (hf : Frm L w w') (hL : ∀ b ∈ L, b < w.heap.size → ow b = k0) (hk : 1 ≤ k0) (hlen : r'.gs.length = r'.s.txs.length)
    (hnew : Comp B N' p cf r' k0 w' (upO ow w w' k0)) (hold : ∀ k, k ≠ k0 → Comp B N p cf r k w' (upO ow w w' k0) → Comp B N' p cf r' k w' (upO ow w w' k0)) :
    Ora B N' p cf r' w' (upO ow w w' k0) ∧ Stp ow w (upO ow w w' k0) w' := by
  have hsz := hf.size
  refine ⟨⟨Nat.le_trans h.base hsz, fun b hb => ?_, fun b hb => ?_, hlen, fun k => ?_⟩, ⟨hf.os, hf.tape, hf.output, hsz, fun b hb => upO_old hb, fun b hb h0 => hf.block b hb fun hm => ?_⟩⟩
  · rw [upO_old (by have := h.base; omega)]; exact h.low b hb
  · unfold upO; rw [if_neg (by omega), if_neg (by omega)]
  · by_cases hkk : k = k0
    · subst hkk; exact hnew
    · exact hold k hkk ((h.comp k).keep (fun b hb ho => hf.block b hb fun hm => hkk (by rw [← ho]; exact hL b hm hb)) fun b hb => upO_old hb)
  · have := hL b hm hb
    omega
/-- Nothing of it turns. -/
theorem Ora.idle {B N : Nat} {p : OP} {cf : Bool} {r : ORun} {w w' : World} {ow : Nat → Nat} {L : List Nat} (h : Ora B N p cf r w ow) (hf : Frm L w w') (hL : ∀ b ∈ L, b < w.heap.size → ow b = 0) : Ora B N p cf r w' ow :=
  ⟨Nat.le_trans h.base hf.size, h.low, fun b hb => h.out b (Nat.le_trans hf.size hb), h.len, fun k => by
    match k with
    | 0 => trivial
    | k + 1 => exact (h.comp (k + 1)).keep (fun b hb ho => hf.block b hb fun hm => by have := hL b hm hb; omega) fun _ _ => rfl⟩
theorem Comp.more {B N N' k : Nat} {p : OP} {cf : Bool} {r : ORun} {w : World} {ow : Nat → Nat} (h : Comp B N p cf r k w ow) (hn : N ≤ N') : Comp B N' p cf r k w ow := by
  match k, h with
  | 0, _ => trivial
  | 1, h => exact h
  | 2, ⟨v, h1, h2⟩ => exact ⟨v, h1.mono hn, h2⟩
  | 3, ⟨v, h1, h2⟩ => exact ⟨v, h1.mono hn, h2⟩
  | t + 4, h =>
    intro x q hx hq
    obtain ⟨rv, ⟨h1, h2, h3⟩, h5⟩ := h x q hx hq
    exact ⟨rv, ⟨h1, h2, h3.mono hn⟩, h5⟩
theorem Ora.more {B N N' : Nat} {p : OP} {cf : Bool} {r : ORun} {w : World} {ow : Nat → Nat} (h : Ora B N p cf r w ow) (hn : N ≤ N') : Ora B N' p cf r w ow := ⟨h.base, h.low, h.out, h.len, fun k => (h.comp k).more hn⟩
end Go.Proofs.Ytanmgkpgfmkobaa
