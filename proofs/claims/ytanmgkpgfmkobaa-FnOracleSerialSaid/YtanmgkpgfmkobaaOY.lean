/- The reference's transactions in memory. -/
import Derived.Test.YtanmgkpgfmkobaaOX
namespace Go.Proofs.Ytanmgkpgfmkobaa
open Go.RowKit
set_option linter.unusedVariables false
set_option linter.unusedSimpArgs false
set_option maxRecDepth 100000
/-- A transaction of the reference. -/
structure TxQ (w : World) (B : Nat) (g : Nat) (rv wv : Value) (x : STx) : Prop where
  blk : Blk w g 107 [.int .u64 (x.rds : Int), rv, wv, .bool x.ended]
  rd : OwnO w B 28 rv (nums .u64 x.read)
  wr : OwnO w B 28 wv (nums .u64 x.writes)
  ne : ∀ b ∈ rv.ownBlock.toList, b ∉ wv.ownBlock.toList
def footQ (g : Nat) (rv wv : Value) : List Nat := g :: (rv.ownBlock.toList ++ wv.ownBlock.toList)
theorem footQ_mem {g b : Nat} {rv wv : Value} : b ∈ footQ g rv wv ↔ b = g ∨ b ∈ rv.ownBlock.toList ∨ b ∈ wv.ownBlock.toList := by simp [footQ]
section
variable {w w' : World} {B g : Nat} {rv wv : Value} {x : STx}
theorem TxQ.lt (h : TxQ w B g rv wv x) : ∀ b ∈ footQ g rv wv, b < w.heap.size := fun b hb => by
  rcases footQ_mem.1 hb with rfl | hb | hb
  · exact h.blk.lt
  · exact ownO_lt h.rd b hb
  · exact ownO_lt h.wr b hb
theorem TxQ.of (h : TxQ w B g rv wv x) (hs : ∀ b ∈ footQ g rv wv, w'.heap[b]? = w.heap[b]?) : TxQ w' B g rv wv x :=
  ⟨(hs g (by simp [footQ])).trans h.blk, ownO_of h.rd fun b hb => hs b (footQ_mem.2 (.inr (.inl hb))), ownO_of h.wr fun b hb => hs b (footQ_mem.2 (.inr (.inr hb))), h.ne⟩
theorem TxQ.gr (h : TxQ w B g rv wv x) : g ∉ rv.ownBlock.toList := fun hb => by
  obtain ⟨cs, hk, _⟩ := h.rd.blk hb
  exact blk_neO h.blk hk (by decide) rfl
theorem TxQ.gw (h : TxQ w B g rv wv x) : g ∉ wv.ownBlock.toList := fun hb => by
  obtain ⟨cs, hk, _⟩ := h.wr.blk hb
  exact blk_neO h.blk hk (by decide) rfl
end
/-- All of them. -/
structure QS (B : Nat) (gs : List Nat) (l : List STx) (w : World) (ow : Nat → Nat) : Prop where
  base : B ≤ w.heap.size
  low : ∀ b, b < B → ow b = 0
  out : ∀ b, w.heap.size ≤ b → ow b = 0
  len : gs.length = l.length
  each : ∀ t x g, l[t]? = some x → gs[t]? = some g → ∃ rv wv, TxQ w B g rv wv x ∧ ∀ b ∈ footQ g rv wv, ow b = t + 1
section
variable {B : Nat} {gs : List Nat} {l : List STx} {w w' : World} {ow : Nat → Nat} {L : List Nat}
theorem QS.idle (h : QS B gs l w ow) (hf : Frm L w w') (hL : ∀ b ∈ L, b < w.heap.size → ow b = 0) : QS B gs l w' ow :=
  ⟨Nat.le_trans h.base hf.size, h.low, fun b hb => h.out b (Nat.le_trans hf.size hb), h.len, fun t x g hx hg => by
    obtain ⟨rv, wv, h1, h2⟩ := h.each t x g hx hg
    exact ⟨rv, wv, h1.of fun b hb => hf.block b (h1.lt b hb) fun hm => by have := hL b hm (h1.lt b hb); have := h2 b hb; omega, h2⟩⟩
theorem QS.set (h : QS B gs l w ow) {t g : Nat} {x' : STx} {rv wv : Value} (hg : gs[t]? = some g) (hf : Frm L w w') (hL : ∀ b ∈ L, b < w.heap.size → ow b = t + 1) (hn : TxQ w' B g rv wv x') (ho : ∀ b ∈ footQ g rv wv, b < w.heap.size → ow b = t + 1) :
    QS B gs (l.set t x') w' (upO ow w w' (t + 1)) := by
  have hsz := hf.size
  have htl : t < l.length := by rw [← h.len]; exact (List.getElem?_eq_some_iff.1 hg).1
  refine ⟨Nat.le_trans h.base hsz, fun b hb => ?_, fun b hb => ?_, by rw [List.length_set]; exact h.len, fun j x2 g2 hx2 hg2 => ?_⟩
  · rw [upO_old (by have := h.base; omega)]; exact h.low b hb
  · unfold upO; rw [if_neg (by omega), if_neg (by omega)]
  · by_cases hj : j = t
    · subst hj
      rw [List.getElem?_set_self htl] at hx2
      injection hx2 with hx2
      rw [hg] at hg2
      injection hg2 with hg2
      subst hx2 hg2
      exact ⟨rv, wv, hn, fun b hb => upO_at (hn.lt b hb) (ho b hb)⟩
    · rw [List.getElem?_set_ne (fun e => hj e.symm)] at hx2
      obtain ⟨rv2, wv2, h1, h2⟩ := h.each j x2 g2 hx2 hg2
      exact ⟨rv2, wv2, h1.of fun b hb => hf.block b (h1.lt b hb) fun hm => by have := hL b hm (h1.lt b hb); have := h2 b hb; omega, fun b hb => (upO_old (h1.lt b hb)).trans (h2 b hb)⟩
theorem QS.add (h : QS B gs l w ow) {g : Nat} {x' : STx} {rv wv : Value} (hf : Frm [] w w') (hn : TxQ w' B g rv wv x') (ho : ∀ b ∈ footQ g rv wv, w.heap.size ≤ b) :
    QS B (gs ++ [g]) (l ++ [x']) w' (upO ow w w' (l.length + 1)) := by
  have hsz := hf.size
  refine ⟨Nat.le_trans h.base hsz, fun b hb => ?_, fun b hb => ?_, by rw [List.length_append, List.length_append, h.len]; rfl, fun j x2 g2 hx2 hg2 => ?_⟩
  · rw [upO_old (by have := h.base; omega)]; exact h.low b hb
  · unfold upO; rw [if_neg (by omega), if_neg (by omega)]
  · have hj : j < l.length + 1 := by
      have := (List.getElem?_eq_some_iff.1 hx2).1
      rwa [List.length_append, List.length_singleton] at this
    by_cases hjl : j = l.length
    · subst hjl
      rw [List.getElem?_append_right (Nat.le_refl _), Nat.sub_self] at hx2
      rw [← h.len, List.getElem?_append_right (Nat.le_refl _), Nat.sub_self] at hg2
      injection hx2 with hx2
      injection hg2 with hg2
      subst hx2 hg2
      exact ⟨rv, wv, hn, fun b hb => upO_at (hn.lt b hb) (fun hlt => by have := ho b hb; omega)⟩
    · rw [List.getElem?_append_left (by omega)] at hx2
      rw [List.getElem?_append_left (by rw [h.len]; omega)] at hg2
      obtain ⟨rv2, wv2, h1, h2⟩ := h.each j x2 g2 hx2 hg2
      exact ⟨rv2, wv2, h1.of fun b hb => hf.block b (h1.lt b hb) (by simp), fun b hb => (upO_old (h1.lt b hb)).trans (h2 b hb)⟩
end
def ptrQ (gs : List Nat) : List Value := gs.map fun g => .pointer (some ⟨g, 0, none⟩)
/-- Commits, cell by cell. -/
def flatC (l : List (Int × Nat)) : List Value := l.flatMap fun c => [.int .u64 c.1, .int .u64 (c.2 : Int)]
theorem flatC_len (l : List (Int × Nat)) : (flatC l).length = l.length * 2 := by
  induction l with
  | nil => rfl
  | cons a l ih =>
    have e : flatC (a :: l) = [.int .u64 a.1, .int .u64 (a.2 : Int)] ++ flatC l := rfl
    rw [e, List.length_append, ih, List.length_cons]
    simp
    omega
theorem flatC_app (l m : List (Int × Nat)) : flatC (l ++ m) = flatC l ++ flatC m := by simp [flatC]
theorem flatC_at : ∀ (l : List (Int × Nat)) (i : Nat) (c : Int × Nat), l[i]? = some c → (flatC l)[i * 2]? = some (.int .u64 c.1) ∧ (flatC l)[i * 2 + 1]? = some (.int .u64 (c.2 : Int))
  | [], i, c, h => by simp at h
  | d :: l, 0, c, h => by
    rw [List.getElem?_cons_zero] at h
    injection h with h
    subst h
    exact ⟨rfl, rfl⟩
  | d :: l, i + 1, c, h => by
    rw [List.getElem?_cons_succ] at h
    have ih := flatC_at l i c h
    have e : flatC (d :: l) = .int .u64 d.1 :: .int .u64 (d.2 : Int) :: flatC l := rfl
    rw [e, Nat.succ_mul]
    exact ih
/-- All that the reference holds. -/
structure QR (B : Nat) (gs : List Nat) (s : SSt) (w : World) (ow : Nat → Nat) (A9 : Option Addr) (c9 : Nat) (A10 : Option Addr) (c10 : Nat) (A8 : Option Addr) (c8 : Nat) (tl : List OTold) : Prop where
  qs : QS B gs s.txs w ow
  lst : w.ownsRow B 105 1 (.slice A9 gs.length c9) gs.length (ptrQ gs)
  l0 : ∀ b ∈ (Value.slice A9 gs.length c9).ownBlock.toList, ow b = 0
  com : w.ownsRow B 109 2 (.slice A10 s.last.length c10) s.last.length (flatC s.last)
  c0 : ∀ b ∈ (Value.slice A10 s.last.length c10).ownBlock.toList, ow b = 0
  out : w.ownsRow B 57 4 (.slice A8 tl.length c8) tl.length (flatT tl)
  o0 : ∀ b ∈ (Value.slice A8 tl.length c8).ownBlock.toList, ow b = 0
section
variable {B c9 c10 c8 : Nat} {gs : List Nat} {s : SSt} {w w' : World} {ow : Nat → Nat} {A9 A10 A8 : Option Addr} {tl : List OTold} {L : List Nat}
theorem QR.frm (h : QR B gs s w ow A9 c9 A10 c10 A8 c8 tl) (hf : Frm L w w') (hL : ∀ b ∈ L, b < w.heap.size → ow b = 0 ∧ b ∉ (Value.slice A9 gs.length c9).ownBlock.toList ∧ b ∉ (Value.slice A10 s.last.length c10).ownBlock.toList ∧ b ∉ (Value.slice A8 tl.length c8).ownBlock.toList) :
    QR B gs s w' ow A9 c9 A10 c10 A8 c8 tl :=
  ⟨h.qs.idle hf (fun b hb hl => (hL b hb hl).1), owns_of h.lst (fun b hb => hf.block b (h.lst.lt b (Option.mem_toList.1 hb)).2 (fun hm => (hL b hm (h.lst.lt b (Option.mem_toList.1 hb)).2).2.1 hb)), h.l0,
    owns_of h.com (fun b hb => hf.block b (h.com.lt b (Option.mem_toList.1 hb)).2 (fun hm => (hL b hm (h.com.lt b (Option.mem_toList.1 hb)).2).2.2.1 hb)), h.c0,
    owns_of h.out (fun b hb => hf.block b (h.out.lt b (Option.mem_toList.1 hb)).2 (fun hm => (hL b hm (h.out.lt b (Option.mem_toList.1 hb)).2).2.2.2 hb)), h.o0⟩
theorem QR.alloc (h : QR B gs s w ow A9 c9 A10 c10 A8 c8 tl) (o : Obj) : QR B gs s (w.alloc o) ow A9 c9 A10 c10 A8 c8 tl := h.frm (Frm.alloc w o) (fun b hb => by cases hb)
/-- A transaction turns. -/
theorem QR.set (h : QR B gs s w ow A9 c9 A10 c10 A8 c8 tl) {t g : Nat} {x' : STx} {rv wv : Value} (hg : gs[t]? = some g) (hf : Frm L w w') (hL : ∀ b ∈ L, b < w.heap.size → ow b = t + 1) (hn : TxQ w' B g rv wv x') (ho : ∀ b ∈ footQ g rv wv, b < w.heap.size → ow b = t + 1) :
    QR B gs { s with txs := s.txs.set t x' } w' (upO ow w w' (t + 1)) A9 c9 A10 c10 A8 c8 tl := by
  have k1 := fun b hb => (h.lst.lt b (Option.mem_toList.1 hb)).2
  have k2 := fun b hb => (h.com.lt b (Option.mem_toList.1 hb)).2
  have k3 := fun b hb => (h.out.lt b (Option.mem_toList.1 hb)).2
  exact ⟨h.qs.set hg hf hL hn ho, owns_of h.lst (fun b hb => hf.block b (k1 b hb) (fun hm => by have := hL b hm (k1 b hb); have := h.l0 b hb; omega)), fun b hb => (upO_old (k1 b hb)).trans (h.l0 b hb),
    owns_of h.com (fun b hb => hf.block b (k2 b hb) (fun hm => by have := hL b hm (k2 b hb); have := h.c0 b hb; omega)), fun b hb => (upO_old (k2 b hb)).trans (h.c0 b hb),
    owns_of h.out (fun b hb => hf.block b (k3 b hb) (fun hm => by have := hL b hm (k3 b hb); have := h.o0 b hb; omega)), fun b hb => (upO_old (k3 b hb)).trans (h.o0 b hb)⟩
/-- The list of what is told grows. -/
theorem QR.outs (h : QR B gs s w ow A9 c9 A10 c10 A8 c8 tl) {A8' : Option Addr} {c8' : Nat} {t : OTold} (ho : w'.ownsRow B 57 4 (.slice A8' (tl.length + 1) c8') (tl.length + 1) (flatT tl ++ t.cells)) (hg : w.grownBy w' (Value.slice A8 tl.length c8).ownBlock)
    (hat : (Value.slice A8' (tl.length + 1) c8').ownBlock = (Value.slice A8 tl.length c8).ownBlock ∨ (Value.slice A8' (tl.length + 1) c8').ownBlock = some w.heap.size) : QR B gs s w' ow A9 c9 A10 c10 A8' c8' (tl ++ [t]) := by
  have hf := frmRowO hg
  have k : ∀ b ∈ (Value.slice A8 tl.length c8).ownBlock.toList, ∃ cs, Blk w b 57 cs := fun b hb => by
    rcases h.out.2 with ⟨h0, _⟩ | ⟨g', cap, cur, hv, _, hh, _⟩
    · rw [h0] at hb; cases hb
    · rw [hv] at hb
      simp only [Value.ownBlock, Option.toList_some, List.mem_singleton] at hb
      exact ⟨cur.toList, by unfold Blk; rw [Array.toArray_toList, hb]; exact hh⟩
  refine ⟨h.qs.idle hf (fun b hb _ => h.o0 b hb), owns_of h.lst (fun b hb => hf.block b (h.lst.lt b (Option.mem_toList.1 hb)).2 (fun hm => ?_)), h.l0, owns_of h.com (fun b hb => hf.block b (h.com.lt b (Option.mem_toList.1 hb)).2 (fun hm => ?_)), h.c0, ?_, fun b hb => ?_⟩
  · obtain ⟨cs, hb2⟩ := k b hm
    exact own_ne_blk h.lst hb2 (by decide) hb
  · obtain ⟨cs, hb2⟩ := k b hm
    exact own_ne_blk h.com hb2 (by decide) hb
  · rw [flatT_app, List.length_append, show flatT [t] = t.cells by simp [flatT]]
    exact ho
  · rw [List.length_append, List.length_singleton] at hb
    rcases hat with e | e
    · rw [e] at hb; exact h.o0 b hb
    · rw [e] at hb
      simp only [Option.toList_some, List.mem_singleton] at hb
      exact h.qs.out b (by omega)
/-- The list of commits grows. -/
theorem QR.coms (h : QR B gs s w ow A9 c9 A10 c10 A8 c8 tl) {A10' : Option Addr} {c10' : Nat} {t : Int × Nat} (ho : w'.ownsRow B 109 2 (.slice A10' (s.last.length + 1) c10') (s.last.length + 1) (flatC s.last ++ [.int .u64 t.1, .int .u64 (t.2 : Int)])) (hg : w.grownBy w' (Value.slice A10 s.last.length c10).ownBlock)
    (hat : (Value.slice A10' (s.last.length + 1) c10').ownBlock = (Value.slice A10 s.last.length c10).ownBlock ∨ (Value.slice A10' (s.last.length + 1) c10').ownBlock = some w.heap.size) : QR B gs { s with last := s.last ++ [t] } w' ow A9 c9 A10' c10' A8 c8 tl := by
  have hf := frmRowO hg
  have k : ∀ b ∈ (Value.slice A10 s.last.length c10).ownBlock.toList, ∃ cs, Blk w b 109 cs := fun b hb => by
    rcases h.com.2 with ⟨h0, _⟩ | ⟨g', cap, cur, hv, _, hh, _⟩
    · rw [h0] at hb; cases hb
    · rw [hv] at hb
      simp only [Value.ownBlock, Option.toList_some, List.mem_singleton] at hb
      exact ⟨cur.toList, by unfold Blk; rw [Array.toArray_toList, hb]; exact hh⟩
  refine ⟨h.qs.idle hf (fun b hb _ => h.c0 b hb), owns_of h.lst (fun b hb => hf.block b (h.lst.lt b (Option.mem_toList.1 hb)).2 (fun hm => ?_)), h.l0, ?_, fun b hb => ?_, owns_of h.out (fun b hb => hf.block b (h.out.lt b (Option.mem_toList.1 hb)).2 (fun hm => ?_)), h.o0⟩
  · obtain ⟨cs, hb2⟩ := k b hm
    exact own_ne_blk h.lst hb2 (by decide) hb
  · show World.ownsRow _ _ _ _ (.slice _ (s.last ++ [t]).length _) (s.last ++ [t]).length (flatC (s.last ++ [t]))
    rw [flatC_app, List.length_append, show flatC [t] = [.int .u64 t.1, .int .u64 (t.2 : Int)] by simp [flatC]]
    exact ho
  · have hb : b ∈ (Value.slice A10' (s.last ++ [t]).length c10').ownBlock.toList := hb
    rw [List.length_append, List.length_singleton] at hb
    rcases hat with e | e
    · rw [e] at hb; exact h.c0 b hb
    · rw [e] at hb
      simp only [Option.toList_some, List.mem_singleton] at hb
      exact h.qs.out b (by omega)
  · obtain ⟨cs, hb2⟩ := k b hm
    exact own_ne_blk h.out hb2 (by decide) hb
end
end Go.Proofs.Ytanmgkpgfmkobaa
