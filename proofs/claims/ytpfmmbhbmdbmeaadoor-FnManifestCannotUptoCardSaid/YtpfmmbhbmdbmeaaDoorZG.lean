/- Manifests read again: what stays, round by round. -/
import Derived.Test.YtpfmmbhbmdbmeaaDoorZF
import Derived.Test.YtpfmmbhbmdbmeaaDoorYA
namespace Go.Proofs.YtpfmmbhbmdbmeaaDoor
open Go.RowKit
set_option linter.unusedVariables false
set_option linter.unusedSimpArgs false
structure RpL (w wr : World) (s g7 gb g13 bt nn n c at' lc : Nat) (A LA : Option Addr) (lm : List Nat) (Mi : MF) (l : List Int) : Prop where
  rd : RdS wr g7 gb n c at' A l
  ms : MSt wr g13 bt nn LA lc lm Mi
  bel : Below w.heap.size w wr
  ft : ∀ x ∈ foot g13 bt LA lm, w.heap.size ≤ x
  man : Blk wr s 54 [.slice none 0 0, .map none, .int .i64 0, .int .i64 0]
  ns : s ∉ foot g13 bt LA lm
  lo : w.heap.size ≤ s ∧ w.heap.size ≤ g7 ∧ w.heap.size ≤ gb
  la : ∀ g o, A = some ⟨g, o, none⟩ → 0 < n → g < w.heap.size
theorem RpL.n7 {w wr : World} {s g7 gb g13 bt nn n c at' lc : Nat} {A LA : Option Addr} {lm : List Nat} {Mi : MF} {l : List Int} (h : RpL w wr s g7 gb g13 bt nn n c at' lc A LA lm Mi l) : g7 ∉ foot g13 bt LA lm ∧ gb ∉ foot g13 bt LA lm :=
  ⟨h.ms.o.foot_ne h.rd.rd (by decide) (by decide), h.ms.o.foot_ne h.rd.br (by decide) (by decide)⟩
theorem RpL.n4 {w wr : World} {s g7 gb g13 bt nn n c at' lc : Nat} {A LA : Option Addr} {lm : List Nat} {Mi : MF} {l : List Int} (h : RpL w wr s g7 gb g13 bt nn n c at' lc A LA lm Mi l) : s ≠ g7 ∧ s ≠ gb :=
  ⟨blk_ne h.man h.rd.rd (by decide), blk_ne h.man h.rd.br (by decide)⟩
/-- What a read leaves. -/
theorem RpL.turn {w wr w2 : World} {s g7 gb g13 bt nn n c at' at2 lc D : Nat} {A LA : Option Addr} {lm : List Nat} {Mi : MF} {l : List Int} (h : RpL w wr s g7 gb g13 bt nn n c at' lc A LA lm Mi l) (hf : Frm [D, gb, g7] wr w2) (hD : w.heap.size ≤ D ∧ D ∉ foot g13 bt LA lm ∧ D ≠ s) (hr : RdS w2 g7 gb n c at2 A l) : RpL w w2 s g7 gb g13 bt nn n c at2 lc A LA lm Mi l := by
  have hl : ∀ x ∈ [D, gb, g7], w.heap.size ≤ x ∧ x ∉ foot g13 bt LA lm ∧ x ≠ s := fun x hx => by
    simp only [List.mem_cons, List.not_mem_nil, or_false] at hx
    rcases hx with rfl | rfl | rfl
    · exact hD
    · exact ⟨h.lo.2.2, h.n7.2, fun e => h.n4.2 e.symm⟩
    · exact ⟨h.lo.2.1, h.n7.1, fun e => h.n4.1 e.symm⟩
  exact ⟨hr, h.ms.frm hf (fun i hi hx => (hl i hx).2.1 hi), h.bel.trans (frm_below hf (fun x hx => (hl x hx).1) h.bel.size), h.ft, h.man.frm hf (fun hx => (hl _ hx).2.2 rfl), h.ns, h.lo, h.la⟩
theorem RpL.below {w wr w2 : World} {s g7 gb g13 bt nn n c at' lc : Nat} {A LA : Option Addr} {lm : List Nat} {Mi : MF} {l : List Int} (h : RpL w wr s g7 gb g13 bt nn n c at' lc A LA lm Mi l) (hb : Below wr.heap.size wr w2) : RpL w w2 s g7 gb g13 bt nn n c at' lc A LA lm Mi l :=
  ⟨h.rd.below hb, h.ms.below hb, h.bel.trans (hb.mono h.bel.size), h.ft, h.man.frm (Frm.of_below hb) (by simp), h.ns, h.lo, h.la⟩
/-- What a block that is the round's own leaves, when it is set. -/
theorem RpL.own {w wr w2 : World} {s g7 gb g13 bt nn n c at' lc D t : Nat} {cs : List Value} {A LA : Option Addr} {lm : List Nat} {Mi : MF} {l : List Int} (h : RpL w wr s g7 gb g13 bt nn n c at' lc A LA lm Mi l) (hf : Frm [D] wr w2) (hb : Blk wr D t cs) (h1 : t ≠ 54) (h2 : t ≠ 115) (h3 : t ≠ 91) (h4 : t ≠ 89) (hD : w.heap.size ≤ D) : RpL w w2 s g7 gb g13 bt nn n c at' lc A LA lm Mi l := by
  have hn := h.ms.o.foot_ne hb h1 h2
  have e7 : D ≠ g7 := blk_ne hb h.rd.rd h3
  have eb : D ≠ gb := blk_ne hb h.rd.br h4
  have es : D ≠ s := blk_ne hb h.man h1
  have one : ∀ {x : Nat}, x ∈ [D] → x = D := fun hx => List.mem_singleton.1 hx
  exact ⟨h.rd.frm hf (fun hx => e7 (one hx).symm) (fun hx => eb (one hx).symm) (fun g o e h0 hx => by have := h.la g o e h0; have := one hx; omega), h.ms.frm hf (fun i hi hx => hn ((one hx) ▸ hi)), h.bel.trans (frm_below hf (fun x hx => (one hx) ▸ hD) h.bel.size), h.ft, h.man.frm hf (fun hx => es (one hx).symm), h.ns, h.lo, h.la⟩
/-- What a set of changes leaves. -/
theorem RpL.apply {w wr w2 : World} {s g7 gb g13 bt nn n2 n c at' lc lc2 : Nat} {A LA LA2 : Option Addr} {lm lm2 : List Nat} {Mi M2 : MF} {l : List Int} (h : RpL w wr s g7 gb g13 bt nn n c at' lc A LA lm Mi l) (hm : MSt w2 g13 bt n2 LA2 lc2 lm2 M2) (hf : Frm (foot g13 bt LA lm) wr w2) (hft : ∀ i ∈ foot g13 bt LA2 lm2, i ∈ foot g13 bt LA lm ∨ wr.heap.size ≤ i) : RpL w w2 s g7 gb g13 bt n2 n c at' lc2 A LA2 lm2 M2 l :=
  ⟨h.rd.frm hf h.n7.1 h.n7.2 (fun g o e h0 hx => by have h1 := h.la g o e h0; have h2 := h.ft g hx; omega), hm, h.bel.trans (frm_below hf h.ft h.bel.size), fun x hx => (hft x hx).elim (h.ft x) (fun h1 => Nat.le_trans h.bel.size h1), h.man.frm hf h.ns, fun hx => (hft s hx).elim h.ns (fun h1 => by have := h.man.lt; omega), h.lo, h.la⟩
theorem drop_set {mark : Int} {l tail : List Int} {ls : List (List Chg)} {i : Nat} {x : List Chg} (hl : l = manB mark ls ++ tail) (hx : ls[i]? = some x) : l.drop (manB mark (ls.take i)).length = setB x ++ ((ls.drop (i + 1)).flatMap setB ++ tail) := by
  have hi := List.getElem?_eq_some_iff.1 hx
  have e : manB mark ls = manB mark (ls.take i) ++ (setB x ++ (ls.drop (i + 1)).flatMap setB) := by
    have h2 : ls.flatMap setB = (ls.take i).flatMap setB ++ (setB x ++ (ls.drop (i + 1)).flatMap setB) := by
      have h3 : ls.drop i = x :: ls.drop (i + 1) := by rw [← List.getElem_cons_drop hi.1, hi.2]
      conv => lhs; rw [← List.take_append_drop i ls]
      rw [List.flatMap_append, h3, List.flatMap_cons]
    unfold manB
    rw [h2, List.append_assoc]
  rw [hl, e, List.append_assoc, List.drop_left, List.append_assoc]
theorem drop_all {mark : Int} {l tail : List Int} {ls : List (List Chg)} (hl : l = manB mark ls ++ tail) : l.drop (manB mark ls).length = tail := by rw [hl, List.drop_left]
/-- The head and the bytes of a set, where it begins. -/
theorem set_parts {l rest : List Int} {at' : Nat} {x : List Chg} (h : l.drop at' = setB x ++ rest) : (l.drop at').take 8 = be32 (chgsB x).length ++ be32 (crcOut (chgsB x)) ∧ (l.drop (at' + 8)).take (chgsB x).length = chgsB x ∧ at' + (8 + (chgsB x).length) ≤ l.length := by
  refine ⟨?_, ?_, ?_⟩
  · rw [h]
    unfold setB
    rw [List.append_assoc, List.append_assoc, ← List.append_assoc]
    exact List.take_left' (by rw [List.length_append, be32_len4, be32_len4])
  · rw [← List.drop_drop, h]
    unfold setB
    have e : (be32 ((chgsB x).length : Int) ++ (be32 (crcOut (chgsB x)) ++ chgsB x)) ++ rest = (be32 ((chgsB x).length : Int) ++ be32 (crcOut (chgsB x))) ++ (chgsB x ++ rest) := by simp only [List.append_assoc]
    rw [e, List.drop_left' (by rw [List.length_append, be32_len4, be32_len4]), List.take_left]
  · have h2 := congrArg List.length h
    rw [List.length_drop, List.length_append, setB_len] at h2
    omega
theorem made_list8 (z : Value) (c : Nat) : madeCells #[z] c = (List.replicate c z).toArray := by
  apply Array.ext
  · simp [madeCells]
  · intro i h1 h2
    simp [madeCells, Nat.mod_one]
theorem make_u32 (s : Nat) (W : World) (h : s ≤ 1000000) : (Instr.makeSlice 30 (.int .u32 (s : Int)) (.int .u32 (s : Int))).run Tryd.prog W = .ok (.slice (some ⟨W.heap.size, 0, none⟩) s s) (W.alloc (.cells (Array.replicate s (Value.int .u8 0)) 5)) := by
  obtain ⟨i0, hi0, hz0, hz1, hz2⟩ := info_parts infoU8
  have := run_make (P := Tryd.prog) W 30 5 i0 (.int .u8 0) Tryd.underlying30 hi0 hz0 .u32 .u32 (s : Int) (s : Int) (by omega) (by omega) (by rw [hz2]; omega) (by omega)
  rw [hz1, Nat.mul_one, Int.toNat_natCast] at this
  rw [this]
  have e : (Value.int .u8 0).cells = #[Value.int .u8 0] := rfl
  rw [e, made_list8, List.toArray_replicate]
end Go.Proofs.YtpfmmbhbmdbmeaaDoor
