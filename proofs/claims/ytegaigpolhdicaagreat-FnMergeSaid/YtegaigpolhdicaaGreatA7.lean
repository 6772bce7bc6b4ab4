/- The two sides of a merging iterator: which is small. -/
import Derived.Test.YtegaigpolhdicaaGreatA6
namespace Go.Proofs.YtegaigpolhdicaaGreat
open Go.RowKit
set_option linter.unusedVariables false
set_option linter.unusedSimpArgs false
theorem sizeNodeM : (Tryz.prog.info? 80).map (·.size) = some 5 := by kernel_rfl
theorem nptr_same (w : World) (a : Addr) : (binOp .eql 81 (.pointer (some a)) (.pointer (some a))).run Tryz.prog w = .ok (.bool true) w := by
  obtain ⟨j, hj, hs⟩ := Option.map_eq_some_iff.1 sizeNodeM
  exact run_eql_ptr_same (P := Tryz.prog) w _ Tryz.underlying81 hj
theorem nptr_other {w : World} {b t o p : Nat} {cs : List Value} (hb : Blk w b t cs) (hne : o ≠ p) : (binOp .eql 81 (.pointer (some ⟨b, o, none⟩)) (.pointer (some ⟨b, p, none⟩))).run Tryz.prog w = .ok (.bool false) w := by
  obtain ⟨j, hj, hs⟩ := Option.map_eq_some_iff.1 sizeNodeM
  exact run_eql_ptr_other (P := Tryz.prog) w Tryz.underlying81 hj (by rw [hs]; decide) (fun e => hne (by injection e)) hb hb
theorem drew2 (w : World) (a b : Nat) : (w.drewN a).drewN b = w.drewN (a + b) := by simp [World.drewN, Nat.add_assoc]
theorem FrS.ahead {S : Nat → Prop} {w w2 : World} {n : Nat} (h : FrS S (w.drewN n) w2) : FrS S w w2 := ⟨h.os, h.tape, h.output, h.size, h.block⟩
theorem Blk.drewD {w w1 : World} {g t : Nat} {cs : List Value} (h : Blk w g t cs) (k : Drew w w1) : Blk w1 g t cs := by obtain ⟨n, rfl⟩ := k; exact h.drewN n
theorem Sl.drewD {w w1 : World} {A : Option Addr} {n : Nat} {xs : List Value} (h : Sl w A n xs) (k : Drew w w1) : Sl w1 A n xs := by obtain ⟨m, rfl⟩ := k; exact h.drewN m
theorem Drew.by_ {w w1 : World} (k : Drew w w1) (n : Nat) : Drew w (w1.drewN n) := by obtain ⟨m, rfl⟩ := k; exact ⟨m + n, drew2 w m n⟩
set_option maxRecDepth 100000 in
theorem bigger_any (g : Nat) (s : Bool) (cs : List Value) (w : World) (hb : Blk w g 83 cs) (hc : cs[10]? = some (.pointer (some ⟨g, offS s, none⟩))) :
    Calls Tryz.prog 84 #[.pointer (some ⟨g, 0, none⟩)] w fun E w' => E = .returned (.pointer (some ⟨g, offS (!s), none⟩)) ∧ Drew w w' := by
  have u10 := hb.at_ hc
  cases s with
  | true =>
    have q : ∀ n, (binOp .eql 81 (.pointer (some ⟨g, 0, none⟩)) (.pointer (some ⟨g, 0, none⟩))).run Tryz.prog (w.drewN n) = .ok (.bool true) (w.drewN n) := fun n => nptr_same _ _
    rw [show offS true = 0 from rfl] at u10
    clear hb hc
    go_enter Tryz.func84, Tryz.ntmps84
    go_wp2_with fail
    go_quiet (fail)
    go_wp2
    go_ret
    exact ⟨rfl, _, rfl⟩
  | false =>
    have q : ∀ n, (binOp .eql 81 (.pointer (some ⟨g, 5, none⟩)) (.pointer (some ⟨g, 0, none⟩))).run Tryz.prog (w.drewN n) = .ok (.bool false) (w.drewN n) := fun n => nptr_other (hb.drewN n) (by decide)
    rw [show offS false = 5 from rfl] at u10
    clear hb hc
    go_enter Tryz.func84, Tryz.ntmps84
    go_wp2_with fail
    go_quiet (fail)
    go_wp2
    go_ret
    exact ⟨rfl, _, rfl⟩
set_option maxRecDepth 100000 in
theorem swap_any (g : Nat) (s : Bool) (cs : List Value) (w : World) (hb : Blk w g 83 cs) (hc : cs[10]? = some (.pointer (some ⟨g, offS s, none⟩))) :
    Calls Tryz.prog 85 #[.pointer (some ⟨g, 0, none⟩)] w fun E w' => E = .returned (.tuple #[]) ∧ ∃ n, w' = (w.drewN n).setCell ⟨g, 10, none⟩ (.pointer (some ⟨g, offS (!s), none⟩)) := by
  have u10 := hb.at_ hc
  have z10 := hb.frozen 10
  cases s with
  | true =>
    have q : ∀ n, (binOp .eql 81 (.pointer (some ⟨g, 0, none⟩)) (.pointer (some ⟨g, 0, none⟩))).run Tryz.prog (w.drewN n) = .ok (.bool true) (w.drewN n) := fun n => nptr_same _ _
    rw [show offS true = 0 from rfl] at u10
    have U10 : Hid (∀ n, (w.drewN n).cell? ⟨g, 10, none⟩ = some (.pointer (some ⟨g, 0, none⟩))) := fun n => u10
    have Z10 : Hid (∀ n, (w.drewN n).frozen? ⟨g, 10, none⟩ = false) := fun n => z10
    clear hb hc
    go_enter Tryz.func85, Tryz.ntmps85
    go_wp2_with fail
    go_quiet (fail)
    have u10' := U10.out nq
    have z10' := Z10.out nq
    go_wp2
    go_returns
    exact ⟨rfl, _, rfl⟩
  | false =>
    have q : ∀ n, (binOp .eql 81 (.pointer (some ⟨g, 5, none⟩)) (.pointer (some ⟨g, 0, none⟩))).run Tryz.prog (w.drewN n) = .ok (.bool false) (w.drewN n) := fun n => nptr_other (hb.drewN n) (by decide)
    have q5 : ∀ n, (binOp .eql 81 (.pointer (some ⟨g, 5, none⟩)) (.pointer (some ⟨g, 5, none⟩))).run Tryz.prog (w.drewN n) = .ok (.bool true) (w.drewN n) := fun n => nptr_same _ _
    rw [show offS false = 5 from rfl] at u10
    have U10 : Hid (∀ n, (w.drewN n).cell? ⟨g, 10, none⟩ = some (.pointer (some ⟨g, 5, none⟩))) := fun n => u10
    have Z10 : Hid (∀ n, (w.drewN n).frozen? ⟨g, 10, none⟩ = false) := fun n => z10
    have Q5 : Hid (∀ m n, (binOp .eql 81 (.pointer (some ⟨g, 5, none⟩)) (.pointer (some ⟨g, 5, none⟩))).run Tryz.prog ((w.drewN m).drewN n) = .ok (.bool true) ((w.drewN m).drewN n)) := fun m n => nptr_same _ _
    clear hb hc
    go_enter Tryz.func85, Tryz.ntmps85
    go_wp2_with fail
    go_quiet (fail)
    have v10 := U10.out nq
    have y10 := Z10.out nq
    have q6 := Q5.out nq
    obtain ⟨w1, hw1⟩ : ∃ w1, w1 = w.drewN nq := ⟨_, rfl⟩
    rw [← hw1] at v10 y10 q6 ⊢
    have HW1 := Lib.hid hw1
    clear hw1 q q5 U10 Z10 Q5 u10 z10
    go_wp2_with fail
    go_quiet (fail)
    have v11 : (w1.drewN nq).cell? ⟨g, 10, none⟩ = some (.pointer (some ⟨g, 5, none⟩)) := v10
    have y11 : (w1.drewN nq).frozen? ⟨g, 10, none⟩ = false := y10
    clear v10 y10 q6
    go_wp2
    go_returns
    rw [HW1.out]
    exact ⟨rfl, _, by rw [drew2]; rfl⟩
/-! Both sides in memory. -/
section
variable {U S S2 SL SR : Nat → Prop} {rev : Bool} {w w' w2 : World} {g : Nat} {L R : Tr} {v1 v2 s : Bool} {K1 K2 cu : Value} {rl rr r : List Ent}
theorem NodC.more (h : NodC U rev w g L R SL SR S v1 K1 v2 K2 s cu) (hs : ∀ i, S i → S2 i) : NodC U rev w g L R SL SR S2 v1 K1 v2 K2 s cu :=
  ⟨h.blk, hs _ h.gS, fun i hi => ⟨hs _ (h.hl i hi).1, (h.hl i hi).2⟩, fun i hi => ⟨hs _ (h.hr i hi).1, (h.hr i hi).2⟩, h.k1, h.k2, h.cur, fun b hb => ⟨hs _ (h.cb b hb).1, (h.cb b hb).2⟩⟩
theorem gro_in {S : Nat → Prop} {w w' : World} (i : Nat) (h : S i) : gro S w w' i := .inl h
/-- The side that has gone on: the left one. -/
theorem NodC.left {mm : Option (List Ent)} {cs : List Value} {E : Ending} {cn : Nat} {cx : List Value} (h : NodC U rev w g L R SL SR S v1 K1 v2 K2 s cu) (hcs : cs = ncells L R v1 K1 v2 K2 g s cu rev) (hB : Bnd U S w) (hp : NodP U rev w g 0 cs L SL K1 r E w2) (hr : R.Ok U rev w SR mm) (hk2 : HeadK U w K2 rr) (hc : w.ownsRow 0 5 1 cu cn cx) :
    ∃ K1', NodC U rev w2 g L R (gro SL w w2) SR (gro S w w2) (nonE r) K1' v2 K2 s cu ∧ L.Ok U rev w2 (gro SL w w2) (some r) ∧ R.Ok U rev w2 SR mm ∧ HeadK U w2 K1' r ∧ HeadK U w2 K2 rr ∧ w2.ownsRow 0 5 1 cu cn cx ∧ FrS S w w2 := by
  subst hcs
  obtain ⟨_, K', k1, k2, k3, k4, k5⟩ := hp
  have hgl : g < w.heap.size := (hB g h.gS).2
  have hX : ∀ i, (SL i ∨ i = g) → U i := fun i hi => hi.elim (fun x => (hB i (h.hl i x).1).1) (fun x => x ▸ (hB g h.gS).1)
  have hcr : ∀ b, cu.ownBlock = some b → ¬ (SL b ∨ b = g) := fun b hb x => x.elim (h.cb b hb).2.2.1 (h.cb b hb).2.1
  refine ⟨K', ⟨k1, .inl h.gS, ?_, fun i hi => ⟨.inl (h.hr i hi).1, (h.hr i hi).2⟩, ?_, h.k2.imp fun _ k => k.on k3 hX, ?_, ?_⟩, k2, hr.frS k3 hX (fun i hi x => x.elim (fun y => (h.hl i y).2.2 hi) (fun y => (h.hr i hi).2 y)), k5, hk2.on k3 hX, own_frS hc k3 hcr, k3.mono (fun i hi => .inl (hi.elim (fun x => (h.hl i x).1) (fun x => x ▸ h.gS)))⟩
  · intro i hi
    rcases hi with hi | hi
    · exact ⟨.inl (h.hl i hi).1, (h.hl i hi).2⟩
    · refine ⟨.inr hi, by omega, fun hx => ?_⟩
      have := (hB i (h.hr i hx).1).2
      omega
  · cases r with
    | nil => rw [k4 rfl]; exact h.k1.imp fun _ k => k.on k3 hX
    | cons e r => exact ⟨_, k5⟩
  · obtain ⟨n, xs, h1, h2⟩ := h.cur
    exact ⟨n, xs, own_frS h1 k3 hcr, h2⟩
  · intro b hb
    have h1 := h.cb b hb
    have h2 := (hB b h1.1).2
    refine ⟨.inl h1.1, h1.2.1, fun hx => ?_, h1.2.2.2⟩
    rcases hx with hx | hx
    · exact h1.2.2.1 hx
    · omega
/-- The right one. -/
theorem NodC.right {mm : Option (List Ent)} {cs : List Value} {E : Ending} {cn : Nat} {cx : List Value} (h : NodC U rev w g L R SL SR S v1 K1 v2 K2 s cu) (hcs : cs = ncells L R v1 K1 v2 K2 g s cu rev) (hB : Bnd U S w) (hp : NodP U rev w g 5 cs R SR K2 r E w2) (hr : L.Ok U rev w SL mm) (hk1 : HeadK U w K1 rl) (hc : w.ownsRow 0 5 1 cu cn cx) :
    ∃ K2', NodC U rev w2 g L R SL (gro SR w w2) (gro S w w2) v1 K1 (nonE r) K2' s cu ∧ R.Ok U rev w2 (gro SR w w2) (some r) ∧ L.Ok U rev w2 SL mm ∧ HeadK U w2 K2' r ∧ HeadK U w2 K1 rl ∧ w2.ownsRow 0 5 1 cu cn cx ∧ FrS S w w2 := by
  subst hcs
  obtain ⟨_, K', k1, k2, k3, k4, k5⟩ := hp
  have hgl : g < w.heap.size := (hB g h.gS).2
  have hX : ∀ i, (SR i ∨ i = g) → U i := fun i hi => hi.elim (fun x => (hB i (h.hr i x).1).1) (fun x => x ▸ (hB g h.gS).1)
  have hcr : ∀ b, cu.ownBlock = some b → ¬ (SR b ∨ b = g) := fun b hb x => x.elim (h.cb b hb).2.2.2 (h.cb b hb).2.1
  refine ⟨K', ⟨k1, .inl h.gS, ?_, ?_, h.k1.imp fun _ k => k.on k3 hX, ?_, ?_, ?_⟩, k2, hr.frS k3 hX (fun i hi x => x.elim (fun y => (h.hl i hi).2.2 y) (fun y => (h.hl i hi).2.1 y)), k5, hk1.on k3 hX, own_frS hc k3 hcr, k3.mono (fun i hi => .inl (hi.elim (fun x => (h.hr i x).1) (fun x => x ▸ h.gS)))⟩
  · intro i hi
    have h1 := h.hl i hi
    have h2 := (hB i h1.1).2
    refine ⟨.inl h1.1, h1.2.1, fun hx => ?_⟩
    rcases hx with hx | hx
    · exact h1.2.2 hx
    · omega
  · intro i hi
    rcases hi with hi | hi
    · exact ⟨.inl (h.hr i hi).1, (h.hr i hi).2⟩
    · exact ⟨.inr hi, by omega⟩
  · cases r with
    | nil => rw [k4 rfl]; exact h.k2.imp fun _ k => k.on k3 hX
    | cons e r => exact ⟨_, k5⟩
  · obtain ⟨n, xs, h1, h2⟩ := h.cur
    exact ⟨n, xs, own_frS h1 k3 hcr, h2⟩
  · intro b hb
    have h1 := h.cb b hb
    have h2 := (hB b h1.1).2
    refine ⟨.inl h1.1, h1.2.1, h1.2.2.1, fun hx => ?_⟩
    rcases hx with hx | hx
    · exact h1.2.2.2 hx
    · omega
/-- Both sides stand where something is left of each. -/
def NodS (U : Nat → Prop) (rev : Bool) (w : World) (g : Nat) (L R : Tr) (S : Nat → Prop) (rl rr : List Ent) (s : Bool) (cu : Value) (cn : Nat) (cx : List Value) : Prop :=
  ∃ SL SR K1 K2, NodC U rev w g L R SL SR S (nonE rl) K1 (nonE rr) K2 s cu ∧ L.Ok U rev w SL (some rl) ∧ R.Ok U rev w SR (some rr) ∧ HeadK U w K1 rl ∧ HeadK U w K2 rr ∧ w.ownsRow 0 5 1 cu cn cx
variable {cn : Nat} {cx : List Value}
theorem NodS.more (h : NodS U rev w g L R S rl rr s cu cn cx) (hs : ∀ i, S i → S2 i) : NodS U rev w g L R S2 rl rr s cu cn cx := by
  obtain ⟨SL, SR, K1, K2, h1, h2⟩ := h
  exact ⟨SL, SR, K1, K2, h1.more hs, h2⟩
theorem NodS.drewN (h : NodS U rev w g L R S rl rr s cu cn cx) (hB : Bnd U S w) (n : Nat) : NodS U rev (w.drewN n) g L R S rl rr s cu cn cx := by
  obtain ⟨SL, SR, K1, K2, h1, h2, h3, h4, h5, h6⟩ := h
  have hf : FrS (fun _ => False) w (w.drewN n) := (FrS.refl _ w).drewN n
  exact ⟨SL, SR, K1, K2, h1.frS hf (fun _ x => x.elim) (fun x => x) (fun _ _ x => x), h2.frS hf (fun _ x => x.elim) (fun _ _ x => x), h3.frS hf (fun _ x => x.elim) (fun _ _ x => x), h4.on hf (fun _ x => x.elim), h5.on hf (fun _ x => x.elim), h6⟩
theorem NodS.blk (h : NodS U rev w g L R S rl rr s cu cn cx) : ∃ K1 K2, Blk w g 83 (ncells L R (nonE rl) K1 (nonE rr) K2 g s cu rev) ∧ HeadK U w K1 rl ∧ HeadK U w K2 rr ∧ (∃ xs, KeyOf U w K1 xs) ∧ (∃ xs, KeyOf U w K2 xs) := by
  obtain ⟨SL, SR, K1, K2, h1, h2, h3, h4, h5, h6⟩ := h
  exact ⟨K1, K2, h1.blk, h4, h5, h1.k1, h1.k2⟩
theorem NodS.rem (h : NodS U rev w g L R S rl rr s cu cn cx) : RemOk rev rl ∧ RemOk rev rr := by
  obtain ⟨SL, SR, K1, K2, h1, h2, h3, h4, h5, h6⟩ := h
  exact ⟨h2.rem, h3.rem⟩
theorem NodS.gS (h : NodS U rev w g L R S rl rr s cu cn cx) : S g := by
  obtain ⟨SL, SR, K1, K2, h1, h2⟩ := h
  exact h1.gS
theorem NodS.swap (h : NodS U rev w g L R S rl rr s cu cn cx) (hB : Bnd U S w) : NodS U rev (w.setCell ⟨g, 10, none⟩ (.pointer (some ⟨g, offS (!s), none⟩))) g L R S rl rr (!s) cu cn cx := by
  obtain ⟨SL, SR, K1, K2, h1, h2, h3, h4, h5, h6⟩ := h
  have hf : FrS (· = g) w (w.setCell ⟨g, 10, none⟩ (.pointer (some ⟨g, offS (!s), none⟩))) := (FrS.refl _ w).andSet _ _ rfl
  have hX : ∀ i, i = g → U i := fun i hi => hi ▸ (hB g h1.gS).1
  have hcr : ∀ b, cu.ownBlock = some b → ¬ (b = g) := fun b hb => (h1.cb b hb).2.1
  refine ⟨SL, SR, K1, K2, ⟨?_, h1.gS, h1.hl, h1.hr, h1.k1.imp fun _ k => k.on hf hX, h1.k2.imp fun _ k => k.on hf hX, ?_, h1.cb⟩, h2.frS hf hX (fun i hi => (h1.hl i hi).2.1), h3.frS hf hX (fun i hi => (h1.hr i hi).2), h4.on hf hX, h5.on hf hX, own_frS h6 hf hcr⟩
  · have := h1.blk.set_ 10 (.pointer (some ⟨g, offS (!s), none⟩))
    exact this
  · obtain ⟨n, xs, a, b⟩ := h1.cur
    exact ⟨n, xs, own_frS a hf hcr, b⟩
theorem NodS.nextR {E : Ending} (hB : Bnd U S w) {SL SR : Nat → Prop} {K1 K2 : Value} (h1 : NodC U rev w g L R SL SR S (nonE rl) K1 (nonE rr) K2 s cu) (h2 : L.Ok U rev w SL (some rl)) (h4 : HeadK U w K1 rl) (h6 : w.ownsRow 0 5 1 cu cn cx) (hp : NodP U rev w g 5 (ncells L R (nonE rl) K1 (nonE rr) K2 g s cu rev) R SR K2 r E w2) : NodS U rev w2 g L R (gro S w w2) rl r s cu cn cx ∧ FrS S w w2 := by
  obtain ⟨K', a1, a2, a3, a4, a5, a6, a7⟩ := h1.right rfl hB hp h2 h4 h6
  exact ⟨⟨SL, _, K1, K', a1, a3, a2, a5, a4, a6⟩, a7⟩
theorem NodS.nextL {E : Ending} (hB : Bnd U S w) {SL SR : Nat → Prop} {K1 K2 : Value} (h1 : NodC U rev w g L R SL SR S (nonE rl) K1 (nonE rr) K2 s cu) (h3 : R.Ok U rev w SR (some rr)) (h5 : HeadK U w K2 rr) (h6 : w.ownsRow 0 5 1 cu cn cx) (hp : NodP U rev w g 0 (ncells L R (nonE rl) K1 (nonE rr) K2 g s cu rev) L SL K1 r E w2) : NodS U rev w2 g L R (gro S w w2) r rr s cu cn cx ∧ FrS S w w2 := by
  obtain ⟨K', a1, a2, a3, a4, a5, a6, a7⟩ := h1.left rfl hB hp h3 h5 h6
  exact ⟨⟨_, SR, K', K2, a1, a2, a3, a4, a5, a6⟩, a7⟩
end
def FixP (U : Nat → Prop) (rev : Bool) (w : World) (g : Nat) (L R : Tr) (S : Nat → Prop) (rl rr : List Ent) (cu : Value) (cn : Nat) (cx : List Value) (E : Ending) (w' : World) : Prop :=
  E = .returned (.tuple #[]) ∧ ∃ s' rr', NodS U rev w' g L R (gro S w w') rl rr' s' cu cn cx ∧ Sml rev s' rl rr' ∧ mergeD rev rl rr' = mergeD rev rl rr ∧ FrS S w w'
section
variable {U S : Nat → Prop} {rev : Bool} {w : World} {g : Nat} {L R : Tr} {s : Bool} {cu : Value} {rl rr : List Ent} {cn : Nat} {cx : List Value}
theorem fix_stay {w' : World} (h : NodS U rev w g L R S rl rr s cu cn cx) (hB : Bnd U S w) (hs : Sml rev s rl rr) (hd : Drew w w') : FixP U rev w g L R S rl rr cu cn cx (.returned (.tuple #[])) w' := by
  obtain ⟨n, rfl⟩ := hd
  exact ⟨rfl, s, rr, (h.drewN hB n).more gro_in, hs, rfl, (FrS.refl _ w).drewN n⟩
theorem fix_swap {w' : World} (h : NodS U rev w g L R S rl rr s cu cn cx) (hB : Bnd U S w) (hs : Sml rev (!s) rl rr) (hd : Drew w w') : FixP U rev w g L R S rl rr cu cn cx (.returned (.tuple #[])) (w'.setCell ⟨g, 10, none⟩ (.pointer (some ⟨g, offS (!s), none⟩))) := by
  obtain ⟨n, rfl⟩ := hd
  exact ⟨rfl, !s, rr, ((h.drewN hB n).swap hB).more gro_in, hs, rfl, ((FrS.refl _ w).drewN n).andSet _ _ h.gS⟩
theorem fix_done {w2 w3 : World} {a b : Ent} (h : NodS U rev w2 g L R (gro S w w2) (a :: rl) rr true cu cn cx) (hB : Bnd U S w) (hN : NewU U w) (hs : Sml rev true (a :: rl) rr) (hm : mergeD rev (a :: rl) rr = mergeD rev (a :: rl) (b :: rr)) (hf : FrS S w w2) (hd : Drew w2 w3) : FixP U rev w g L R S (a :: rl) (b :: rr) cu cn cx (.returned (.tuple #[])) w3 := by
  obtain ⟨k, rfl⟩ := hd
  exact ⟨rfl, true, rr, h.drewN (Bnd.gro hB hN hf.size) k, hs, hm, hf.drewN k⟩
theorem fix_done2 {w2 w3 : World} {a b : Ent} (h : NodS U rev w2 g L R (gro S w w2) (a :: rl) rr false cu cn cx) (hB : Bnd U S w) (hN : NewU U w) (hs : Sml rev true (a :: rl) rr) (hm : mergeD rev (a :: rl) rr = mergeD rev (a :: rl) (b :: rr)) (hf : FrS S w w2) (hd : Drew w2 w3) : FixP U rev w g L R S (a :: rl) (b :: rr) cu cn cx (.returned (.tuple #[])) (w3.setCell ⟨g, 10, none⟩ (.pointer (some ⟨g, offS (!false), none⟩))) := by
  obtain ⟨k, rfl⟩ := hd
  have hB2 := Bnd.gro hB hN hf.size
  have h2 := (h.drewN hB2 k).swap hB2
  have hf2 : FrS S w ((w2.drewN k).setCell ⟨g, 10, none⟩ (.pointer (some ⟨g, offS (!false), none⟩))) := by
    refine (hf.drewN k).trans (S2 := (· = g)) ((FrS.refl _ _).andSet _ _ rfl) (fun i hi => ?_)
    rcases h.gS with hg | hg
    · exact .inl (hi ▸ hg)
    · exact .inr (hi ▸ hg.1)
  refine ⟨rfl, true, rr, h2.more (fun i hi => ?_), hs, hm, hf2⟩
  rcases hi with hi | hi
  · exact .inl hi
  · exact .inr ⟨hi.1, by simpa [World.setCell] using hi.2⟩
set_option maxRecDepth 100000 in
set_option maxHeartbeats 4000000 in
theorem fix1T  (h : NodS U rev w g L R S rl [] true cu cn cx) (hB : Bnd U S w) :
    Calls Tryz.prog 78 #[.pointer (some ⟨g, 0, none⟩)] w (FixP U rev w g L R S rl [] cu cn cx) := by
  obtain ⟨K1, K2, hbk, hk1, hk2, hx1, hx2⟩ := h.blk
  have HN := Lib.hid h
  have HB := Lib.hid hB
  have HS : Hid (Sml rev true rl []) := by show Sml _ _ _ _; cases rl with | nil => exact trivial | cons a l => exact rfl
  have HK := Lib.hid hbk
  clear h hB hbk hk1 hk2 hx1 hx2
  go_enter Tryz.func78, Tryz.ntmps78
  go_wp2_with fail
  refine (show Calls Tryz.prog 84 #[.pointer (some ⟨g, 0, none⟩)] w fun E w' => E = .returned (.pointer (some ⟨g, 5, none⟩)) ∧ Drew w w' from bigger_any g true _ w HK.out rfl).mono ?_
  rintro E w1 ⟨rfl, hd1⟩
  have HD1 := Lib.hid hd1
  have hbk1 := HK.out.drewD hd1
  have HK1 := Lib.hid hbk1
  have u5 := hbk1.at_ (i := 5) rfl
  rw [show nonE [] = false from rfl] at u5
  clear hd1 hbk1
  go_wp2
  go_returns
  exact fix_stay HN.out HB.out HS.out HD1.out
set_option maxRecDepth 100000 in
set_option maxHeartbeats 4000000 in
theorem fix2T {b : Ent} (h : NodS U rev w g L R S [] (b :: rr) true cu cn cx) (hB : Bnd U S w) :
    Calls Tryz.prog 78 #[.pointer (some ⟨g, 0, none⟩)] w (FixP U rev w g L R S [] (b :: rr) cu cn cx) := by
  obtain ⟨K1, K2, hbk, hk1, hk2, hx1, hx2⟩ := h.blk
  have HN := Lib.hid h
  have HB := Lib.hid hB
  have HS : Hid (Sml rev (!true) [] (b :: rr)) := rfl
  have HK := Lib.hid hbk
  clear h hB hbk hk1 hk2 hx1 hx2
  go_enter Tryz.func78, Tryz.ntmps78
  go_wp2_with fail
  refine (show Calls Tryz.prog 84 #[.pointer (some ⟨g, 0, none⟩)] w fun E w' => E = .returned (.pointer (some ⟨g, 5, none⟩)) ∧ Drew w w' from bigger_any g true _ w HK.out rfl).mono ?_
  rintro E w1 ⟨rfl, hd1⟩
  have HD1 := Lib.hid hd1
  have hbk1 := HK.out.drewD hd1
  have HK1 := Lib.hid hbk1
  have u0 := hbk1.at_ (i := 0) rfl
  have u5 := hbk1.at_ (i := 5) rfl
  have u10 := hbk1.at_ (i := 10) rfl
  rw [show nonE [] = false from rfl] at u0
  rw [show nonE (b :: rr) = true from rfl] at u5
  rw [show (bif true then 0 else 5) = 0 from rfl] at u10
  clear hd1 hbk1
  go_wp2_with fail
  refine (swap_any g true _ w1 HK1.out rfl).mono ?_
  rintro E w2 ⟨rfl, n2, rfl⟩
  go_wp2
  go_returns
  exact fix_swap HN.out HB.out HS.out (HD1.out.by_ n2)
set_option maxRecDepth 100000 in
set_option maxHeartbeats 4000000 in
theorem fix3Tltf {a b : Ent} (h : NodS U false w g L R S (a :: rl) (b :: rr) true cu cn cx) (hB : Bnd U S w) (hcmp : a.ord b = -1) :
    Calls Tryz.prog 78 #[.pointer (some ⟨g, 0, none⟩)] w (FixP U false w g L R S (a :: rl) (b :: rr) cu cn cx) := by
  have hrem := h.rem
  have HN := Lib.hid h
  obtain ⟨SL, SR, K1, K2, n1, n2, n3, n4, n5, n6⟩ := h
  have hbk := n1.blk
  have hk1 := n4
  have hk2 := n5
  obtain ⟨A1, m1, c1, hK1, hc1, hm1, hf1⟩ := hk1
  obtain ⟨A2, m2, c2, hK2, hc2, hm2, hf2⟩ := hk2
  have hra := hrem.1.each a (List.mem_cons_self ..)
  have hrb := hrem.2.each b (List.mem_cons_self ..)
  have hma : m1 = a.k.length + 8 := by have := hf1.now.1; rw [nums_length, keyB_len] at this; omega
  have hmb : m2 = b.k.length + 8 := by have := hf2.now.1; rw [nums_length, keyB_len] at this; omega
  have HC : Hid (∀ w1, Drew w w1 → ∀ n, Calls Tryz.prog 65 #[.slice A1 m1 c1, .slice A2 m2 c2] (w1.drewN n) fun E w' => E = .returned (.int .i64 (-1)) ∧ Drew (w1.drewN n) w') := fun w1 hd n => by
    have := compareKeys_any A1 A2 m1 m2 c1 c2 _ _ (w1.drewN n) (hf1.now.drewD (hd.by_ n)) (hf2.now.drewD (hd.by_ n)) (bytKey hra.kb hra.v0 hra.v1) (bytKey hrb.kb hrb.v0 hrb.v1) (by omega) (by omega) hc1 hc2 (by omega) (by omega)
    rw [cmpKeys_keyB] at this
    have h9 : orderL a.k a.v b.k b.v = -1 := hcmp
    rwa [h9] at this
  have HBG : Hid (∀ w1, Drew w w1 → ∀ n, Calls Tryz.prog 84 #[.pointer (some ⟨g, 0, none⟩)] (w1.drewN n) fun E w' => E = .returned (.pointer (some ⟨g, 5, none⟩)) ∧ Drew (w1.drewN n) w') := fun w1 hd n => bigger_any g true _ (w1.drewN n) (hbk.drewD (hd.by_ n)) rfl
  have HS : Hid (Sml false (true) (a :: rl) (b :: rr)) := .inl ⟨rfl, by
    have h9 : a.ord b = -1 := hcmp
    have h8 := ordD_anti false a b
    have h7 : ordD false a b = a.ord b := rfl
    have h6 : ordD false b a = b.ord a := rfl
    have h5 : ordD true a b = b.ord a := rfl
    omega⟩
  have HB := Lib.hid hB
  have HK := Lib.hid hbk
  have HKK := Lib.hid (And.intro hK1 hK2)
  clear hbk hc1 hc2 hm1 hm2 hf1 hf2 hra hrb hma hmb hK1 hK2 hrem n1 n2 n3 n4 n5 n6 hB hcmp
  go_enter Tryz.func78, Tryz.ntmps78
  go_wp2_with fail
  refine (show Calls Tryz.prog 84 #[.pointer (some ⟨g, 0, none⟩)] w fun E w' => E = .returned (.pointer (some ⟨g, 5, none⟩)) ∧ Drew w w' from bigger_any g true _ w HK.out rfl).mono ?_
  rintro E w1 ⟨rfl, hd1⟩
  have HD1 := Lib.hid hd1
  have hbk1 := HK.out.drewD hd1
  have HK1 := Lib.hid hbk1
  have u0 := hbk1.at_ (i := 0) rfl
  have u1 := hbk1.at_ (i := 1) rfl
  have u5 := hbk1.at_ (i := 5) rfl
  have u6 := hbk1.at_ (i := 6) rfl
  have u10 := hbk1.at_ (i := 10) rfl
  have u12 := hbk1.at_ (i := 12) rfl
  rw [HKK.out.1] at u1
  rw [HKK.out.2] at u6
  rw [show nonE (a :: rl) = true from rfl] at u0
  rw [show nonE (b :: rr) = true from rfl] at u5
  rw [show (bif true then 0 else 5) = 0 from rfl] at u10
  replace HBG := Lib.hid (HBG.out w1 hd1)
  replace HC := Lib.hid (HC.out w1 hd1)
  clear hd1 hbk1
  go_wp2_with fail
  go_quiet (first | (go_at_call 84; exact quiet_drew (HBG.out _)) | (go_at_call 65; exact quiet_drew (HC.out _)))
  clear HBG HC
  go_wp2
  go_returns
  exact fix_stay HN.out HB.out HS.out (HD1.out.by_ nq)
set_option maxRecDepth 100000 in
set_option maxHeartbeats 4000000 in
theorem fix3Tltt {a b : Ent} (h : NodS U true w g L R S (a :: rl) (b :: rr) true cu cn cx) (hB : Bnd U S w) (hcmp : a.ord b = -1) :
    Calls Tryz.prog 78 #[.pointer (some ⟨g, 0, none⟩)] w (FixP U true w g L R S (a :: rl) (b :: rr) cu cn cx) := by
  have hrem := h.rem
  have HN := Lib.hid h
  obtain ⟨SL, SR, K1, K2, n1, n2, n3, n4, n5, n6⟩ := h
  have hbk := n1.blk
  have hk1 := n4
  have hk2 := n5
  obtain ⟨A1, m1, c1, hK1, hc1, hm1, hf1⟩ := hk1
  obtain ⟨A2, m2, c2, hK2, hc2, hm2, hf2⟩ := hk2
  have hra := hrem.1.each a (List.mem_cons_self ..)
  have hrb := hrem.2.each b (List.mem_cons_self ..)
  have hma : m1 = a.k.length + 8 := by have := hf1.now.1; rw [nums_length, keyB_len] at this; omega
  have hmb : m2 = b.k.length + 8 := by have := hf2.now.1; rw [nums_length, keyB_len] at this; omega
  have HC : Hid (∀ w1, Drew w w1 → ∀ n, Calls Tryz.prog 65 #[.slice A1 m1 c1, .slice A2 m2 c2] (w1.drewN n) fun E w' => E = .returned (.int .i64 (-1)) ∧ Drew (w1.drewN n) w') := fun w1 hd n => by
    have := compareKeys_any A1 A2 m1 m2 c1 c2 _ _ (w1.drewN n) (hf1.now.drewD (hd.by_ n)) (hf2.now.drewD (hd.by_ n)) (bytKey hra.kb hra.v0 hra.v1) (bytKey hrb.kb hrb.v0 hrb.v1) (by omega) (by omega) hc1 hc2 (by omega) (by omega)
    rw [cmpKeys_keyB] at this
    have h9 : orderL a.k a.v b.k b.v = -1 := hcmp
    rwa [h9] at this
  have HBG : Hid (∀ w1, Drew w w1 → ∀ n, Calls Tryz.prog 84 #[.pointer (some ⟨g, 0, none⟩)] (w1.drewN n) fun E w' => E = .returned (.pointer (some ⟨g, 5, none⟩)) ∧ Drew (w1.drewN n) w') := fun w1 hd n => bigger_any g true _ (w1.drewN n) (hbk.drewD (hd.by_ n)) rfl
  have HS : Hid (Sml true (!true) (a :: rl) (b :: rr)) := .inr ⟨rfl, by
    have h9 : a.ord b = -1 := hcmp
    have h8 := ordD_anti false a b
    have h7 : ordD false a b = a.ord b := rfl
    have h6 : ordD false b a = b.ord a := rfl
    have h5 : ordD true a b = b.ord a := rfl
    omega⟩
  have HB := Lib.hid hB
  have HK := Lib.hid hbk
  have HKK := Lib.hid (And.intro hK1 hK2)
  clear hbk hc1 hc2 hm1 hm2 hf1 hf2 hra hrb hma hmb hK1 hK2 hrem n1 n2 n3 n4 n5 n6 hB hcmp
  go_enter Tryz.func78, Tryz.ntmps78
  go_wp2_with fail
  refine (show Calls Tryz.prog 84 #[.pointer (some ⟨g, 0, none⟩)] w fun E w' => E = .returned (.pointer (some ⟨g, 5, none⟩)) ∧ Drew w w' from bigger_any g true _ w HK.out rfl).mono ?_
  rintro E w1 ⟨rfl, hd1⟩
  have HD1 := Lib.hid hd1
  have hbk1 := HK.out.drewD hd1
  have HK1 := Lib.hid hbk1
  have u0 := hbk1.at_ (i := 0) rfl
  have u1 := hbk1.at_ (i := 1) rfl
  have u5 := hbk1.at_ (i := 5) rfl
  have u6 := hbk1.at_ (i := 6) rfl
  have u10 := hbk1.at_ (i := 10) rfl
  have u12 := hbk1.at_ (i := 12) rfl
  rw [HKK.out.1] at u1
  rw [HKK.out.2] at u6
  rw [show nonE (a :: rl) = true from rfl] at u0
  rw [show nonE (b :: rr) = true from rfl] at u5
  rw [show (bif true then 0 else 5) = 0 from rfl] at u10
  replace HBG := Lib.hid (HBG.out w1 hd1)
  replace HC := Lib.hid (HC.out w1 hd1)
  clear hd1 hbk1
  go_wp2_with fail
  go_quiet (first | (go_at_call 84; exact quiet_drew (HBG.out _)) | (go_at_call 65; exact quiet_drew (HC.out _)))
  clear HBG HC
  go_wp2_with fail
  refine (swap_any g true _ (w1.drewN nq) (HK1.out.drewN nq) rfl).mono ?_
  rintro E w3 ⟨rfl, ns, rfl⟩
  go_wp2
  go_returns
  exact fix_swap HN.out HB.out HS.out (HD1.out.by_ (nq + ns))
set_option maxRecDepth 100000 in
set_option maxHeartbeats 4000000 in
theorem fix3Teq {a b : Ent} (h : NodS U rev w g L R S (a :: rl) (b :: rr) true cu cn cx) (hB : Bnd U S w) (hNU : NewU U w) (hO : OpsT R) (hG : R.Good rev) (hcmp : a.ord b = 0) :
    Calls Tryz.prog 78 #[.pointer (some ⟨g, 0, none⟩)] w (FixP U rev w g L R S (a :: rl) (b :: rr) cu cn cx) := by
  have hrem := h.rem
  have HN := Lib.hid h
  obtain ⟨SL, SR, K1, K2, n1, n2, n3, n4, n5, n6⟩ := h
  have hbk := n1.blk
  have hk1 := n4
  have hk2 := n5
  obtain ⟨A1, m1, c1, hK1, hc1, hm1, hf1⟩ := hk1
  obtain ⟨A2, m2, c2, hK2, hc2, hm2, hf2⟩ := hk2
  have hra := hrem.1.each a (List.mem_cons_self ..)
  have hrb := hrem.2.each b (List.mem_cons_self ..)
  have hma : m1 = a.k.length + 8 := by have := hf1.now.1; rw [nums_length, keyB_len] at this; omega
  have hmb : m2 = b.k.length + 8 := by have := hf2.now.1; rw [nums_length, keyB_len] at this; omega
  have HC : Hid (∀ w1, Drew w w1 → ∀ n, Calls Tryz.prog 65 #[.slice A1 m1 c1, .slice A2 m2 c2] (w1.drewN n) fun E w' => E = .returned (.int .i64 (0)) ∧ Drew (w1.drewN n) w') := fun w1 hd n => by
    have := compareKeys_any A1 A2 m1 m2 c1 c2 _ _ (w1.drewN n) (hf1.now.drewD (hd.by_ n)) (hf2.now.drewD (hd.by_ n)) (bytKey hra.kb hra.v0 hra.v1) (bytKey hrb.kb hrb.v0 hrb.v1) (by omega) (by omega) hc1 hc2 (by omega) (by omega)
    rw [cmpKeys_keyB] at this
    have h9 : orderL a.k a.v b.k b.v = 0 := hcmp
    rwa [h9] at this
  have HBG : Hid (∀ w1, Drew w w1 → ∀ n, Calls Tryz.prog 84 #[.pointer (some ⟨g, 0, none⟩)] (w1.drewN n) fun E w' => E = .returned (.pointer (some ⟨g, 5, none⟩)) ∧ Drew (w1.drewN n) w') := fun w1 hd n => bigger_any g true _ (w1.drewN n) (hbk.drewD (hd.by_ n)) rfl
  have hab : ordD rev a b = 0 := by have h0 : ordD false a b = 0 := hcmp; rw [ordD_zero] at h0 ⊢; exact ⟨h0.1, h0.2⟩
  have HS : Hid (Sml rev true (a :: rl) rr) := by
    show Sml _ _ _ _
    cases rr with
    | nil => exact rfl
    | cons c rr => exact .inl ⟨rfl, by rw [ordD_eq_l hab]; exact (sortD_cons.1 hrem.2.sort).1 c (List.mem_cons_self ..)⟩
  have HM : Hid (mergeD rev (a :: rl) rr = mergeD rev (a :: rl) (b :: rr)) := (mergeD_skip hab hrem.2.sort).symm
  have HNX : Hid (∀ w1, Drew w w1 → Calls Tryz.prog 77 #[.pointer (some ⟨g, 5, none⟩)] w1 fun E w' => E = .returned (.tuple #[]) ∧ NodS U rev w' g L R (gro S w w') (a :: rl) rr true cu cn cx ∧ FrS S w w' ∧ ∃ K1' K2', Blk w' g 83 (ncells L R true K1' (nonE rr) K2' g true cu rev)) := fun w1 hd => by
    obtain ⟨n, rfl⟩ := hd
    have hf : FrS (fun _ => False) w (w.drewN n) := (FrS.refl _ w).drewN n
    have hX : ∀ i : Nat, False → U i := fun _ x => x.elim
    have d1 := n1.frS hf hX (fun x => x) (fun _ _ x => x)
    refine (nodeNext (o := 5) (T := R) d1.blk rfl rfl rfl rfl rfl (n3.frS hf hX (fun _ _ x => x)) hG hO (fun i hi => hB i (d1.hr i hi).1) hNU (fun hx => (d1.hr g hx).2 rfl) (hB g n1.gS).1).mono ?_
    rintro E w' hp
    obtain ⟨q1, q2⟩ := NodS.nextR (w := w.drewN n) (S := S) hB d1 (n2.frS hf hX (fun _ _ x => x)) (n4.on hf hX) n6 hp
    obtain ⟨K1', K2', q3, _⟩ := q1.blk
    exact ⟨hp.1, q1, q2.ahead, K1', K2', q3⟩
  have HNU := Lib.hid hNU
  have HB := Lib.hid hB
  have HK := Lib.hid hbk
  have HKK := Lib.hid (And.intro hK1 hK2)
  clear hbk hc1 hc2 hm1 hm2 hf1 hf2 hra hrb hma hmb hK1 hK2 hrem n1 n2 n3 n4 n5 n6 hB hcmp hab hNU hO hG
  go_enter Tryz.func78, Tryz.ntmps78
  go_wp2_with fail
  refine (show Calls Tryz.prog 84 #[.pointer (some ⟨g, 0, none⟩)] w fun E w' => E = .returned (.pointer (some ⟨g, 5, none⟩)) ∧ Drew w w' from bigger_any g true _ w HK.out rfl).mono ?_
  rintro E w1 ⟨rfl, hd1⟩
  have HD1 := Lib.hid hd1
  have hbk1 := HK.out.drewD hd1
  have HK1 := Lib.hid hbk1
  have u0 := hbk1.at_ (i := 0) rfl
  have u1 := hbk1.at_ (i := 1) rfl
  have u5 := hbk1.at_ (i := 5) rfl
  have u6 := hbk1.at_ (i := 6) rfl
  have u10 := hbk1.at_ (i := 10) rfl
  rw [HKK.out.1] at u1
  rw [HKK.out.2] at u6
  rw [show nonE (a :: rl) = true from rfl] at u0
  rw [show nonE (b :: rr) = true from rfl] at u5
  rw [show (bif true then 0 else 5) = 0 from rfl] at u10
  replace HBG := Lib.hid (HBG.out w1 hd1)
  replace HC := Lib.hid (HC.out w1 hd1)
  clear hd1 hbk1
  go_wp2_with fail
  go_quiet (first | (go_at_call 84; exact quiet_drew (HBG.out _)) | (go_at_call 65; exact quiet_drew (HC.out _)))
  clear HBG HC
  clear u0 u1 u5 u6 u10
  go_wp2_with fail
  refine (HNX.out _ (HD1.out.by_ nq)).mono ?_
  rintro E w2 ⟨rfl, hn2, hf2, K1', K2', hb2⟩
  have HN2 := Lib.hid hn2
  have HF2 := Lib.hid hf2
  have HB2 := Lib.hid hb2
  have v10 := hb2.at_ (i := 10) rfl
  rw [show (bif true then 0 else 5) = 0 from rfl] at v10
  have q : ∀ n, (binOp .eql 81 (.pointer (some ⟨g, 5, none⟩)) (.pointer (some ⟨g, 0, none⟩))).run Tryz.prog (w2.drewN n) = .ok (.bool false) (w2.drewN n) := fun n => nptr_other (hb2.drewN n) (by decide)
  clear hn2 hf2 hb2 HNX
  go_wp2_with fail
  go_quiet (fail)
  go_wp2
  go_returns
  exact fix_done HN2.out HB.out HNU.out HS.out HM.out HF2.out ⟨_, rfl⟩
set_option maxRecDepth 100000 in
set_option maxHeartbeats 4000000 in
theorem fix3Tgtf {a b : Ent} (h : NodS U false w g L R S (a :: rl) (b :: rr) true cu cn cx) (hB : Bnd U S w) (hcmp : a.ord b = 1) :
    Calls Tryz.prog 78 #[.pointer (some ⟨g, 0, none⟩)] w (FixP U false w g L R S (a :: rl) (b :: rr) cu cn cx) := by
  have hrem := h.rem
  have HN := Lib.hid h
  obtain ⟨SL, SR, K1, K2, n1, n2, n3, n4, n5, n6⟩ := h
  have hbk := n1.blk
  have hk1 := n4
  have hk2 := n5
  obtain ⟨A1, m1, c1, hK1, hc1, hm1, hf1⟩ := hk1
  obtain ⟨A2, m2, c2, hK2, hc2, hm2, hf2⟩ := hk2
  have hra := hrem.1.each a (List.mem_cons_self ..)
  have hrb := hrem.2.each b (List.mem_cons_self ..)
  have hma : m1 = a.k.length + 8 := by have := hf1.now.1; rw [nums_length, keyB_len] at this; omega
  have hmb : m2 = b.k.length + 8 := by have := hf2.now.1; rw [nums_length, keyB_len] at this; omega
  have HC : Hid (∀ w1, Drew w w1 → ∀ n, Calls Tryz.prog 65 #[.slice A1 m1 c1, .slice A2 m2 c2] (w1.drewN n) fun E w' => E = .returned (.int .i64 (1)) ∧ Drew (w1.drewN n) w') := fun w1 hd n => by
    have := compareKeys_any A1 A2 m1 m2 c1 c2 _ _ (w1.drewN n) (hf1.now.drewD (hd.by_ n)) (hf2.now.drewD (hd.by_ n)) (bytKey hra.kb hra.v0 hra.v1) (bytKey hrb.kb hrb.v0 hrb.v1) (by omega) (by omega) hc1 hc2 (by omega) (by omega)
    rw [cmpKeys_keyB] at this
    have h9 : orderL a.k a.v b.k b.v = 1 := hcmp
    rwa [h9] at this
  have HBG : Hid (∀ w1, Drew w w1 → ∀ n, Calls Tryz.prog 84 #[.pointer (some ⟨g, 0, none⟩)] (w1.drewN n) fun E w' => E = .returned (.pointer (some ⟨g, 5, none⟩)) ∧ Drew (w1.drewN n) w') := fun w1 hd n => bigger_any g true _ (w1.drewN n) (hbk.drewD (hd.by_ n)) rfl
  have HS : Hid (Sml false (!true) (a :: rl) (b :: rr)) := .inr ⟨rfl, by
    have h9 : a.ord b = 1 := hcmp
    have h8 := ordD_anti false a b
    have h7 : ordD false a b = a.ord b := rfl
    have h6 : ordD false b a = b.ord a := rfl
    have h5 : ordD true a b = b.ord a := rfl
    omega⟩
  have HB := Lib.hid hB
  have HK := Lib.hid hbk
  have HKK := Lib.hid (And.intro hK1 hK2)
  clear hbk hc1 hc2 hm1 hm2 hf1 hf2 hra hrb hma hmb hK1 hK2 hrem n1 n2 n3 n4 n5 n6 hB hcmp
  go_enter Tryz.func78, Tryz.ntmps78
  go_wp2_with fail
  refine (show Calls Tryz.prog 84 #[.pointer (some ⟨g, 0, none⟩)] w fun E w' => E = .returned (.pointer (some ⟨g, 5, none⟩)) ∧ Drew w w' from bigger_any g true _ w HK.out rfl).mono ?_
  rintro E w1 ⟨rfl, hd1⟩
  have HD1 := Lib.hid hd1
  have hbk1 := HK.out.drewD hd1
  have HK1 := Lib.hid hbk1
  have u0 := hbk1.at_ (i := 0) rfl
  have u1 := hbk1.at_ (i := 1) rfl
  have u5 := hbk1.at_ (i := 5) rfl
  have u6 := hbk1.at_ (i := 6) rfl
  have u10 := hbk1.at_ (i := 10) rfl
  have u12 := hbk1.at_ (i := 12) rfl
  rw [HKK.out.1] at u1
  rw [HKK.out.2] at u6
  rw [show nonE (a :: rl) = true from rfl] at u0
  rw [show nonE (b :: rr) = true from rfl] at u5
  rw [show (bif true then 0 else 5) = 0 from rfl] at u10
  replace HBG := Lib.hid (HBG.out w1 hd1)
  replace HC := Lib.hid (HC.out w1 hd1)
  clear hd1 hbk1
  go_wp2_with fail
  go_quiet (first | (go_at_call 84; exact quiet_drew (HBG.out _)) | (go_at_call 65; exact quiet_drew (HC.out _)))
  clear HBG HC
  go_wp2_with fail
  refine (swap_any g true _ (w1.drewN nq) (HK1.out.drewN nq) rfl).mono ?_
  rintro E w3 ⟨rfl, ns, rfl⟩
  go_wp2
  go_returns
  exact fix_swap HN.out HB.out HS.out (HD1.out.by_ (nq + ns))
set_option maxRecDepth 100000 in
set_option maxHeartbeats 4000000 in
theorem fix3Tgtt {a b : Ent} (h : NodS U true w g L R S (a :: rl) (b :: rr) true cu cn cx) (hB : Bnd U S w) (hcmp : a.ord b = 1) :
    Calls Tryz.prog 78 #[.pointer (some ⟨g, 0, none⟩)] w (FixP U true w g L R S (a :: rl) (b :: rr) cu cn cx) := by
  have hrem := h.rem
  have HN := Lib.hid h
  obtain ⟨SL, SR, K1, K2, n1, n2, n3, n4, n5, n6⟩ := h
  have hbk := n1.blk
  have hk1 := n4
  have hk2 := n5
  obtain ⟨A1, m1, c1, hK1, hc1, hm1, hf1⟩ := hk1
  obtain ⟨A2, m2, c2, hK2, hc2, hm2, hf2⟩ := hk2
  have hra := hrem.1.each a (List.mem_cons_self ..)
  have hrb := hrem.2.each b (List.mem_cons_self ..)
  have hma : m1 = a.k.length + 8 := by have := hf1.now.1; rw [nums_length, keyB_len] at this; omega
  have hmb : m2 = b.k.length + 8 := by have := hf2.now.1; rw [nums_length, keyB_len] at this; omega
  have HC : Hid (∀ w1, Drew w w1 → ∀ n, Calls Tryz.prog 65 #[.slice A1 m1 c1, .slice A2 m2 c2] (w1.drewN n) fun E w' => E = .returned (.int .i64 (1)) ∧ Drew (w1.drewN n) w') := fun w1 hd n => by
    have := compareKeys_any A1 A2 m1 m2 c1 c2 _ _ (w1.drewN n) (hf1.now.drewD (hd.by_ n)) (hf2.now.drewD (hd.by_ n)) (bytKey hra.kb hra.v0 hra.v1) (bytKey hrb.kb hrb.v0 hrb.v1) (by omega) (by omega) hc1 hc2 (by omega) (by omega)
    rw [cmpKeys_keyB] at this
    have h9 : orderL a.k a.v b.k b.v = 1 := hcmp
    rwa [h9] at this
  have HBG : Hid (∀ w1, Drew w w1 → ∀ n, Calls Tryz.prog 84 #[.pointer (some ⟨g, 0, none⟩)] (w1.drewN n) fun E w' => E = .returned (.pointer (some ⟨g, 5, none⟩)) ∧ Drew (w1.drewN n) w') := fun w1 hd n => bigger_any g true _ (w1.drewN n) (hbk.drewD (hd.by_ n)) rfl
  have HS : Hid (Sml true (true) (a :: rl) (b :: rr)) := .inl ⟨rfl, by
    have h9 : a.ord b = 1 := hcmp
    have h8 := ordD_anti false a b
    have h7 : ordD false a b = a.ord b := rfl
    have h6 : ordD false b a = b.ord a := rfl
    have h5 : ordD true a b = b.ord a := rfl
    omega⟩
  have HB := Lib.hid hB
  have HK := Lib.hid hbk
  have HKK := Lib.hid (And.intro hK1 hK2)
  clear hbk hc1 hc2 hm1 hm2 hf1 hf2 hra hrb hma hmb hK1 hK2 hrem n1 n2 n3 n4 n5 n6 hB hcmp
  go_enter Tryz.func78, Tryz.ntmps78
  go_wp2_with fail
  refine (show Calls Tryz.prog 84 #[.pointer (some ⟨g, 0, none⟩)] w fun E w' => E = .returned (.pointer (some ⟨g, 5, none⟩)) ∧ Drew w w' from bigger_any g true _ w HK.out rfl).mono ?_
  rintro E w1 ⟨rfl, hd1⟩
  have HD1 := Lib.hid hd1
  have hbk1 := HK.out.drewD hd1
  have HK1 := Lib.hid hbk1
  have u0 := hbk1.at_ (i := 0) rfl
  have u1 := hbk1.at_ (i := 1) rfl
  have u5 := hbk1.at_ (i := 5) rfl
  have u6 := hbk1.at_ (i := 6) rfl
  have u10 := hbk1.at_ (i := 10) rfl
  have u12 := hbk1.at_ (i := 12) rfl
  rw [HKK.out.1] at u1
  rw [HKK.out.2] at u6
  rw [show nonE (a :: rl) = true from rfl] at u0
  rw [show nonE (b :: rr) = true from rfl] at u5
  rw [show (bif true then 0 else 5) = 0 from rfl] at u10
  replace HBG := Lib.hid (HBG.out w1 hd1)
  replace HC := Lib.hid (HC.out w1 hd1)
  clear hd1 hbk1
  go_wp2_with fail
  go_quiet (first | (go_at_call 84; exact quiet_drew (HBG.out _)) | (go_at_call 65; exact quiet_drew (HC.out _)))
  clear HBG HC
  go_wp2
  go_returns
  exact fix_stay HN.out HB.out HS.out (HD1.out.by_ nq)
set_option maxRecDepth 100000 in
set_option maxHeartbeats 4000000 in
theorem fix1F  (h : NodS U rev w g L R S [] rr false cu cn cx) (hB : Bnd U S w) :
    Calls Tryz.prog 78 #[.pointer (some ⟨g, 0, none⟩)] w (FixP U rev w g L R S [] rr cu cn cx) := by
  obtain ⟨K1, K2, hbk, hk1, hk2, hx1, hx2⟩ := h.blk
  have HN := Lib.hid h
  have HB := Lib.hid hB
  have HS : Hid (Sml rev false [] rr) := by show Sml _ _ _ _; cases rr with | nil => exact trivial | cons a l => exact rfl
  have HK := Lib.hid hbk
  clear h hB hbk hk1 hk2 hx1 hx2
  go_enter Tryz.func78, Tryz.ntmps78
  go_wp2_with fail
  refine (show Calls Tryz.prog 84 #[.pointer (some ⟨g, 0, none⟩)] w fun E w' => E = .returned (.pointer (some ⟨g, 0, none⟩)) ∧ Drew w w' from bigger_any g false _ w HK.out rfl).mono ?_
  rintro E w1 ⟨rfl, hd1⟩
  have HD1 := Lib.hid hd1
  have hbk1 := HK.out.drewD hd1
  have HK1 := Lib.hid hbk1
  have u0 := hbk1.at_ (i := 0) rfl
  rw [show nonE [] = false from rfl] at u0
  clear hd1 hbk1
  go_wp2
  go_returns
  exact fix_stay HN.out HB.out HS.out HD1.out
set_option maxRecDepth 100000 in
set_option maxHeartbeats 4000000 in
theorem fix2F {b : Ent} (h : NodS U rev w g L R S (b :: rl) [] false cu cn cx) (hB : Bnd U S w) :
    Calls Tryz.prog 78 #[.pointer (some ⟨g, 0, none⟩)] w (FixP U rev w g L R S (b :: rl) [] cu cn cx) := by
  obtain ⟨K1, K2, hbk, hk1, hk2, hx1, hx2⟩ := h.blk
  have HN := Lib.hid h
  have HB := Lib.hid hB
  have HS : Hid (Sml rev (!false) (b :: rl) []) := rfl
  have HK := Lib.hid hbk
  clear h hB hbk hk1 hk2 hx1 hx2
  go_enter Tryz.func78, Tryz.ntmps78
  go_wp2_with fail
  refine (show Calls Tryz.prog 84 #[.pointer (some ⟨g, 0, none⟩)] w fun E w' => E = .returned (.pointer (some ⟨g, 0, none⟩)) ∧ Drew w w' from bigger_any g false _ w HK.out rfl).mono ?_
  rintro E w1 ⟨rfl, hd1⟩
  have HD1 := Lib.hid hd1
  have hbk1 := HK.out.drewD hd1
  have HK1 := Lib.hid hbk1
  have u0 := hbk1.at_ (i := 0) rfl
  have u5 := hbk1.at_ (i := 5) rfl
  have u10 := hbk1.at_ (i := 10) rfl
  rw [show nonE [] = false from rfl] at u5
  rw [show nonE (b :: rl) = true from rfl] at u0
  rw [show (bif false then 0 else 5) = 5 from rfl] at u10
  clear hd1 hbk1
  go_wp2_with fail
  refine (swap_any g false _ w1 HK1.out rfl).mono ?_
  rintro E w2 ⟨rfl, n2, rfl⟩
  go_wp2
  go_returns
  exact fix_swap HN.out HB.out HS.out (HD1.out.by_ n2)
set_option maxRecDepth 100000 in
set_option maxHeartbeats 4000000 in
theorem fix3Fltf {a b : Ent} (h : NodS U false w g L R S (a :: rl) (b :: rr) false cu cn cx) (hB : Bnd U S w) (hcmp : b.ord a = -1) :
    Calls Tryz.prog 78 #[.pointer (some ⟨g, 0, none⟩)] w (FixP U false w g L R S (a :: rl) (b :: rr) cu cn cx) := by
  have hrem := h.rem
  have HN := Lib.hid h
  obtain ⟨SL, SR, K1, K2, n1, n2, n3, n4, n5, n6⟩ := h
  have hbk := n1.blk
  have hk1 := n4
  have hk2 := n5
  obtain ⟨A1, m1, c1, hK1, hc1, hm1, hf1⟩ := hk1
  obtain ⟨A2, m2, c2, hK2, hc2, hm2, hf2⟩ := hk2
  have hra := hrem.1.each a (List.mem_cons_self ..)
  have hrb := hrem.2.each b (List.mem_cons_self ..)
  have hma : m1 = a.k.length + 8 := by have := hf1.now.1; rw [nums_length, keyB_len] at this; omega
  have hmb : m2 = b.k.length + 8 := by have := hf2.now.1; rw [nums_length, keyB_len] at this; omega
  have HC : Hid (∀ w1, Drew w w1 → ∀ n, Calls Tryz.prog 65 #[.slice A2 m2 c2, .slice A1 m1 c1] (w1.drewN n) fun E w' => E = .returned (.int .i64 (-1)) ∧ Drew (w1.drewN n) w') := fun w1 hd n => by
    have := compareKeys_any A2 A1 m2 m1 c2 c1 _ _ (w1.drewN n) (hf2.now.drewD (hd.by_ n)) (hf1.now.drewD (hd.by_ n)) (bytKey hrb.kb hrb.v0 hrb.v1) (bytKey hra.kb hra.v0 hra.v1) (by omega) (by omega) hc2 hc1 (by omega) (by omega)
    rw [cmpKeys_keyB] at this
    have h9 : orderL b.k b.v a.k a.v = -1 := hcmp
    rwa [h9] at this
  have HBG : Hid (∀ w1, Drew w w1 → ∀ n, Calls Tryz.prog 84 #[.pointer (some ⟨g, 0, none⟩)] (w1.drewN n) fun E w' => E = .returned (.pointer (some ⟨g, 0, none⟩)) ∧ Drew (w1.drewN n) w') := fun w1 hd n => bigger_any g false _ (w1.drewN n) (hbk.drewD (hd.by_ n)) rfl
  have HS : Hid (Sml false (false) (a :: rl) (b :: rr)) := .inr ⟨rfl, by
    have h9 : b.ord a = -1 := hcmp
    have h8 := ordD_anti false a b
    have h7 : ordD false a b = a.ord b := rfl
    have h6 : ordD false b a = b.ord a := rfl
    have h5 : ordD true a b = b.ord a := rfl
    omega⟩
  have HB := Lib.hid hB
  have HK := Lib.hid hbk
  have HKK := Lib.hid (And.intro hK1 hK2)
  clear hbk hc1 hc2 hm1 hm2 hf1 hf2 hra hrb hma hmb hK1 hK2 hrem n1 n2 n3 n4 n5 n6 hB hcmp
  go_enter Tryz.func78, Tryz.ntmps78
  go_wp2_with fail
  refine (show Calls Tryz.prog 84 #[.pointer (some ⟨g, 0, none⟩)] w fun E w' => E = .returned (.pointer (some ⟨g, 0, none⟩)) ∧ Drew w w' from bigger_any g false _ w HK.out rfl).mono ?_
  rintro E w1 ⟨rfl, hd1⟩
  have HD1 := Lib.hid hd1
  have hbk1 := HK.out.drewD hd1
  have HK1 := Lib.hid hbk1
  have u0 := hbk1.at_ (i := 0) rfl
  have u1 := hbk1.at_ (i := 1) rfl
  have u5 := hbk1.at_ (i := 5) rfl
  have u6 := hbk1.at_ (i := 6) rfl
  have u10 := hbk1.at_ (i := 10) rfl
  have u12 := hbk1.at_ (i := 12) rfl
  rw [HKK.out.1] at u1
  rw [HKK.out.2] at u6
  rw [show nonE (a :: rl) = true from rfl] at u0
  rw [show nonE (b :: rr) = true from rfl] at u5
  rw [show (bif false then 0 else 5) = 5 from rfl] at u10
  replace HBG := Lib.hid (HBG.out w1 hd1)
  replace HC := Lib.hid (HC.out w1 hd1)
  clear hd1 hbk1
  go_wp2_with fail
  go_quiet (first | (go_at_call 84; exact quiet_drew (HBG.out _)) | (go_at_call 65; exact quiet_drew (HC.out _)))
  clear HBG HC
  go_wp2
  go_returns
  exact fix_stay HN.out HB.out HS.out (HD1.out.by_ nq)
set_option maxRecDepth 100000 in
set_option maxHeartbeats 4000000 in
theorem fix3Fltt {a b : Ent} (h : NodS U true w g L R S (a :: rl) (b :: rr) false cu cn cx) (hB : Bnd U S w) (hcmp : b.ord a = -1) :
    Calls Tryz.prog 78 #[.pointer (some ⟨g, 0, none⟩)] w (FixP U true w g L R S (a :: rl) (b :: rr) cu cn cx) := by
  have hrem := h.rem
  have HN := Lib.hid h
  obtain ⟨SL, SR, K1, K2, n1, n2, n3, n4, n5, n6⟩ := h
  have hbk := n1.blk
  have hk1 := n4
  have hk2 := n5
  obtain ⟨A1, m1, c1, hK1, hc1, hm1, hf1⟩ := hk1
  obtain ⟨A2, m2, c2, hK2, hc2, hm2, hf2⟩ := hk2
  have hra := hrem.1.each a (List.mem_cons_self ..)
  have hrb := hrem.2.each b (List.mem_cons_self ..)
  have hma : m1 = a.k.length + 8 := by have := hf1.now.1; rw [nums_length, keyB_len] at this; omega
  have hmb : m2 = b.k.length + 8 := by have := hf2.now.1; rw [nums_length, keyB_len] at this; omega
  have HC : Hid (∀ w1, Drew w w1 → ∀ n, Calls Tryz.prog 65 #[.slice A2 m2 c2, .slice A1 m1 c1] (w1.drewN n) fun E w' => E = .returned (.int .i64 (-1)) ∧ Drew (w1.drewN n) w') := fun w1 hd n => by
    have := compareKeys_any A2 A1 m2 m1 c2 c1 _ _ (w1.drewN n) (hf2.now.drewD (hd.by_ n)) (hf1.now.drewD (hd.by_ n)) (bytKey hrb.kb hrb.v0 hrb.v1) (bytKey hra.kb hra.v0 hra.v1) (by omega) (by omega) hc2 hc1 (by omega) (by omega)
    rw [cmpKeys_keyB] at this
    have h9 : orderL b.k b.v a.k a.v = -1 := hcmp
    rwa [h9] at this
  have HBG : Hid (∀ w1, Drew w w1 → ∀ n, Calls Tryz.prog 84 #[.pointer (some ⟨g, 0, none⟩)] (w1.drewN n) fun E w' => E = .returned (.pointer (some ⟨g, 0, none⟩)) ∧ Drew (w1.drewN n) w') := fun w1 hd n => bigger_any g false _ (w1.drewN n) (hbk.drewD (hd.by_ n)) rfl
  have HS : Hid (Sml true (!false) (a :: rl) (b :: rr)) := .inl ⟨rfl, by
    have h9 : b.ord a = -1 := hcmp
    have h8 := ordD_anti false a b
    have h7 : ordD false a b = a.ord b := rfl
    have h6 : ordD false b a = b.ord a := rfl
    have h5 : ordD true a b = b.ord a := rfl
    omega⟩
  have HB := Lib.hid hB
  have HK := Lib.hid hbk
  have HKK := Lib.hid (And.intro hK1 hK2)
  clear hbk hc1 hc2 hm1 hm2 hf1 hf2 hra hrb hma hmb hK1 hK2 hrem n1 n2 n3 n4 n5 n6 hB hcmp
  go_enter Tryz.func78, Tryz.ntmps78
  go_wp2_with fail
  refine (show Calls Tryz.prog 84 #[.pointer (some ⟨g, 0, none⟩)] w fun E w' => E = .returned (.pointer (some ⟨g, 0, none⟩)) ∧ Drew w w' from bigger_any g false _ w HK.out rfl).mono ?_
  rintro E w1 ⟨rfl, hd1⟩
  have HD1 := Lib.hid hd1
  have hbk1 := HK.out.drewD hd1
  have HK1 := Lib.hid hbk1
  have u0 := hbk1.at_ (i := 0) rfl
  have u1 := hbk1.at_ (i := 1) rfl
  have u5 := hbk1.at_ (i := 5) rfl
  have u6 := hbk1.at_ (i := 6) rfl
  have u10 := hbk1.at_ (i := 10) rfl
  have u12 := hbk1.at_ (i := 12) rfl
  rw [HKK.out.1] at u1
  rw [HKK.out.2] at u6
  rw [show nonE (a :: rl) = true from rfl] at u0
  rw [show nonE (b :: rr) = true from rfl] at u5
  rw [show (bif false then 0 else 5) = 5 from rfl] at u10
  replace HBG := Lib.hid (HBG.out w1 hd1)
  replace HC := Lib.hid (HC.out w1 hd1)
  clear hd1 hbk1
  go_wp2_with fail
  go_quiet (first | (go_at_call 84; exact quiet_drew (HBG.out _)) | (go_at_call 65; exact quiet_drew (HC.out _)))
  clear HBG HC
  go_wp2_with fail
  refine (swap_any g false _ (w1.drewN nq) (HK1.out.drewN nq) rfl).mono ?_
  rintro E w3 ⟨rfl, ns, rfl⟩
  go_wp2
  go_returns
  exact fix_swap HN.out HB.out HS.out (HD1.out.by_ (nq + ns))
set_option maxRecDepth 100000 in
set_option maxHeartbeats 4000000 in
theorem fix3Feq {a b : Ent} (h : NodS U rev w g L R S (a :: rl) (b :: rr) false cu cn cx) (hB : Bnd U S w) (hNU : NewU U w) (hO : OpsT R) (hG : R.Good rev) (hcmp : b.ord a = 0) :
    Calls Tryz.prog 78 #[.pointer (some ⟨g, 0, none⟩)] w (FixP U rev w g L R S (a :: rl) (b :: rr) cu cn cx) := by
  have hrem := h.rem
  have HN := Lib.hid h
  obtain ⟨SL, SR, K1, K2, n1, n2, n3, n4, n5, n6⟩ := h
  have hbk := n1.blk
  have hk1 := n4
  have hk2 := n5
  obtain ⟨A1, m1, c1, hK1, hc1, hm1, hf1⟩ := hk1
  obtain ⟨A2, m2, c2, hK2, hc2, hm2, hf2⟩ := hk2
  have hra := hrem.1.each a (List.mem_cons_self ..)
  have hrb := hrem.2.each b (List.mem_cons_self ..)
  have hma : m1 = a.k.length + 8 := by have := hf1.now.1; rw [nums_length, keyB_len] at this; omega
  have hmb : m2 = b.k.length + 8 := by have := hf2.now.1; rw [nums_length, keyB_len] at this; omega
  have HC : Hid (∀ w1, Drew w w1 → ∀ n, Calls Tryz.prog 65 #[.slice A2 m2 c2, .slice A1 m1 c1] (w1.drewN n) fun E w' => E = .returned (.int .i64 (0)) ∧ Drew (w1.drewN n) w') := fun w1 hd n => by
    have := compareKeys_any A2 A1 m2 m1 c2 c1 _ _ (w1.drewN n) (hf2.now.drewD (hd.by_ n)) (hf1.now.drewD (hd.by_ n)) (bytKey hrb.kb hrb.v0 hrb.v1) (bytKey hra.kb hra.v0 hra.v1) (by omega) (by omega) hc2 hc1 (by omega) (by omega)
    rw [cmpKeys_keyB] at this
    have h9 : orderL b.k b.v a.k a.v = 0 := hcmp
    rwa [h9] at this
  have HBG : Hid (∀ w1, Drew w w1 → ∀ n, Calls Tryz.prog 84 #[.pointer (some ⟨g, 0, none⟩)] (w1.drewN n) fun E w' => E = .returned (.pointer (some ⟨g, 0, none⟩)) ∧ Drew (w1.drewN n) w') := fun w1 hd n => bigger_any g false _ (w1.drewN n) (hbk.drewD (hd.by_ n)) rfl
  have hab : ordD rev a b = 0 := by have h0 : ordD false b a = 0 := hcmp; rw [ordD_zero] at h0 ⊢; exact ⟨h0.1.symm, h0.2.symm⟩
  have HS : Hid (Sml rev true (a :: rl) rr) := by
    show Sml _ _ _ _
    cases rr with
    | nil => exact rfl
    | cons c rr => exact .inl ⟨rfl, by rw [ordD_eq_l hab]; exact (sortD_cons.1 hrem.2.sort).1 c (List.mem_cons_self ..)⟩
  have HM : Hid (mergeD rev (a :: rl) rr = mergeD rev (a :: rl) (b :: rr)) := (mergeD_skip hab hrem.2.sort).symm
  have HNX : Hid (∀ w1, Drew w w1 → Calls Tryz.prog 77 #[.pointer (some ⟨g, 5, none⟩)] w1 fun E w' => E = .returned (.tuple #[]) ∧ NodS U rev w' g L R (gro S w w') (a :: rl) rr false cu cn cx ∧ FrS S w w' ∧ ∃ K1' K2', Blk w' g 83 (ncells L R true K1' (nonE rr) K2' g false cu rev)) := fun w1 hd => by
    obtain ⟨n, rfl⟩ := hd
    have hf : FrS (fun _ => False) w (w.drewN n) := (FrS.refl _ w).drewN n
    have hX : ∀ i : Nat, False → U i := fun _ x => x.elim
    have d1 := n1.frS hf hX (fun x => x) (fun _ _ x => x)
    refine (nodeNext (o := 5) (T := R) d1.blk rfl rfl rfl rfl rfl (n3.frS hf hX (fun _ _ x => x)) hG hO (fun i hi => hB i (d1.hr i hi).1) hNU (fun hx => (d1.hr g hx).2 rfl) (hB g n1.gS).1).mono ?_
    rintro E w' hp
    obtain ⟨q1, q2⟩ := NodS.nextR (w := w.drewN n) (S := S) hB d1 (n2.frS hf hX (fun _ _ x => x)) (n4.on hf hX) n6 hp
    obtain ⟨K1', K2', q3, _⟩ := q1.blk
    exact ⟨hp.1, q1, q2.ahead, K1', K2', q3⟩
  have HNU := Lib.hid hNU
  have HB := Lib.hid hB
  have HK := Lib.hid hbk
  have HKK := Lib.hid (And.intro hK1 hK2)
  clear hbk hc1 hc2 hm1 hm2 hf1 hf2 hra hrb hma hmb hK1 hK2 hrem n1 n2 n3 n4 n5 n6 hB hcmp hab hNU hO hG
  go_enter Tryz.func78, Tryz.ntmps78
  go_wp2_with fail
  refine (show Calls Tryz.prog 84 #[.pointer (some ⟨g, 0, none⟩)] w fun E w' => E = .returned (.pointer (some ⟨g, 0, none⟩)) ∧ Drew w w' from bigger_any g false _ w HK.out rfl).mono ?_
  rintro E w1 ⟨rfl, hd1⟩
  have HD1 := Lib.hid hd1
  have hbk1 := HK.out.drewD hd1
  have HK1 := Lib.hid hbk1
  have u0 := hbk1.at_ (i := 0) rfl
  have u1 := hbk1.at_ (i := 1) rfl
  have u5 := hbk1.at_ (i := 5) rfl
  have u6 := hbk1.at_ (i := 6) rfl
  have u10 := hbk1.at_ (i := 10) rfl
  rw [HKK.out.1] at u1
  rw [HKK.out.2] at u6
  rw [show nonE (a :: rl) = true from rfl] at u0
  rw [show nonE (b :: rr) = true from rfl] at u5
  rw [show (bif false then 0 else 5) = 5 from rfl] at u10
  replace HBG := Lib.hid (HBG.out w1 hd1)
  replace HC := Lib.hid (HC.out w1 hd1)
  clear hd1 hbk1
  go_wp2_with fail
  go_quiet (first | (go_at_call 84; exact quiet_drew (HBG.out _)) | (go_at_call 65; exact quiet_drew (HC.out _)))
  clear HBG HC
  clear u0 u1 u5 u6 u10
  go_wp2_with fail
  refine (HNX.out _ (HD1.out.by_ nq)).mono ?_
  rintro E w2 ⟨rfl, hn2, hf2, K1', K2', hb2⟩
  have HN2 := Lib.hid hn2
  have HF2 := Lib.hid hf2
  have HB2 := Lib.hid hb2
  have v10 := hb2.at_ (i := 10) rfl
  rw [show (bif false then 0 else 5) = 5 from rfl] at v10
  have q : ∀ n, (binOp .eql 81 (.pointer (some ⟨g, 5, none⟩)) (.pointer (some ⟨g, 5, none⟩))).run Tryz.prog (w2.drewN n) = .ok (.bool true) (w2.drewN n) := fun n => nptr_same _ _
  clear hn2 hf2 hb2 HNX
  go_wp2_with fail
  go_quiet (fail)
  go_wp2_with fail
  refine (swap_any g false _ (w2.drewN nq) (HB2.out.drewN nq) rfl).mono ?_
  rintro E w3 ⟨rfl, ns, rfl⟩
  go_wp2
  go_returns
  exact fix_done2 HN2.out HB.out HNU.out HS.out HM.out HF2.out ⟨nq + ns, rfl⟩
set_option maxRecDepth 100000 in
set_option maxHeartbeats 4000000 in
theorem fix3Fgtf {a b : Ent} (h : NodS U false w g L R S (a :: rl) (b :: rr) false cu cn cx) (hB : Bnd U S w) (hcmp : b.ord a = 1) :
    Calls Tryz.prog 78 #[.pointer (some ⟨g, 0, none⟩)] w (FixP U false w g L R S (a :: rl) (b :: rr) cu cn cx) := by
  have hrem := h.rem
  have HN := Lib.hid h
  obtain ⟨SL, SR, K1, K2, n1, n2, n3, n4, n5, n6⟩ := h
  have hbk := n1.blk
  have hk1 := n4
  have hk2 := n5
  obtain ⟨A1, m1, c1, hK1, hc1, hm1, hf1⟩ := hk1
  obtain ⟨A2, m2, c2, hK2, hc2, hm2, hf2⟩ := hk2
  have hra := hrem.1.each a (List.mem_cons_self ..)
  have hrb := hrem.2.each b (List.mem_cons_self ..)
  have hma : m1 = a.k.length + 8 := by have := hf1.now.1; rw [nums_length, keyB_len] at this; omega
  have hmb : m2 = b.k.length + 8 := by have := hf2.now.1; rw [nums_length, keyB_len] at this; omega
  have HC : Hid (∀ w1, Drew w w1 → ∀ n, Calls Tryz.prog 65 #[.slice A2 m2 c2, .slice A1 m1 c1] (w1.drewN n) fun E w' => E = .returned (.int .i64 (1)) ∧ Drew (w1.drewN n) w') := fun w1 hd n => by
    have := compareKeys_any A2 A1 m2 m1 c2 c1 _ _ (w1.drewN n) (hf2.now.drewD (hd.by_ n)) (hf1.now.drewD (hd.by_ n)) (bytKey hrb.kb hrb.v0 hrb.v1) (bytKey hra.kb hra.v0 hra.v1) (by omega) (by omega) hc2 hc1 (by omega) (by omega)
    rw [cmpKeys_keyB] at this
    have h9 : orderL b.k b.v a.k a.v = 1 := hcmp
    rwa [h9] at this
  have HBG : Hid (∀ w1, Drew w w1 → ∀ n, Calls Tryz.prog 84 #[.pointer (some ⟨g, 0, none⟩)] (w1.drewN n) fun E w' => E = .returned (.pointer (some ⟨g, 0, none⟩)) ∧ Drew (w1.drewN n) w') := fun w1 hd n => bigger_any g false _ (w1.drewN n) (hbk.drewD (hd.by_ n)) rfl
  have HS : Hid (Sml false (!false) (a :: rl) (b :: rr)) := .inl ⟨rfl, by
    have h9 : b.ord a = 1 := hcmp
    have h8 := ordD_anti false a b
    have h7 : ordD false a b = a.ord b := rfl
    have h6 : ordD false b a = b.ord a := rfl
    have h5 : ordD true a b = b.ord a := rfl
    omega⟩
  have HB := Lib.hid hB
  have HK := Lib.hid hbk
  have HKK := Lib.hid (And.intro hK1 hK2)
  clear hbk hc1 hc2 hm1 hm2 hf1 hf2 hra hrb hma hmb hK1 hK2 hrem n1 n2 n3 n4 n5 n6 hB hcmp
  go_enter Tryz.func78, Tryz.ntmps78
  go_wp2_with fail
  refine (show Calls Tryz.prog 84 #[.pointer (some ⟨g, 0, none⟩)] w fun E w' => E = .returned (.pointer (some ⟨g, 0, none⟩)) ∧ Drew w w' from bigger_any g false _ w HK.out rfl).mono ?_
  rintro E w1 ⟨rfl, hd1⟩
  have HD1 := Lib.hid hd1
  have hbk1 := HK.out.drewD hd1
  have HK1 := Lib.hid hbk1
  have u0 := hbk1.at_ (i := 0) rfl
  have u1 := hbk1.at_ (i := 1) rfl
  have u5 := hbk1.at_ (i := 5) rfl
  have u6 := hbk1.at_ (i := 6) rfl
  have u10 := hbk1.at_ (i := 10) rfl
  have u12 := hbk1.at_ (i := 12) rfl
  rw [HKK.out.1] at u1
  rw [HKK.out.2] at u6
  rw [show nonE (a :: rl) = true from rfl] at u0
  rw [show nonE (b :: rr) = true from rfl] at u5
  rw [show (bif false then 0 else 5) = 5 from rfl] at u10
  replace HBG := Lib.hid (HBG.out w1 hd1)
  replace HC := Lib.hid (HC.out w1 hd1)
  clear hd1 hbk1
  go_wp2_with fail
  go_quiet (first | (go_at_call 84; exact quiet_drew (HBG.out _)) | (go_at_call 65; exact quiet_drew (HC.out _)))
  clear HBG HC
  go_wp2_with fail
  refine (swap_any g false _ (w1.drewN nq) (HK1.out.drewN nq) rfl).mono ?_
  rintro E w3 ⟨rfl, ns, rfl⟩
  go_wp2
  go_returns
  exact fix_swap HN.out HB.out HS.out (HD1.out.by_ (nq + ns))
set_option maxRecDepth 100000 in
set_option maxHeartbeats 4000000 in
theorem fix3Fgtt {a b : Ent} (h : NodS U true w g L R S (a :: rl) (b :: rr) false cu cn cx) (hB : Bnd U S w) (hcmp : b.ord a = 1) :
    Calls Tryz.prog 78 #[.pointer (some ⟨g, 0, none⟩)] w (FixP U true w g L R S (a :: rl) (b :: rr) cu cn cx) := by
  have hrem := h.rem
  have HN := Lib.hid h
  obtain ⟨SL, SR, K1, K2, n1, n2, n3, n4, n5, n6⟩ := h
  have hbk := n1.blk
  have hk1 := n4
  have hk2 := n5
  obtain ⟨A1, m1, c1, hK1, hc1, hm1, hf1⟩ := hk1
  obtain ⟨A2, m2, c2, hK2, hc2, hm2, hf2⟩ := hk2
  have hra := hrem.1.each a (List.mem_cons_self ..)
  have hrb := hrem.2.each b (List.mem_cons_self ..)
  have hma : m1 = a.k.length + 8 := by have := hf1.now.1; rw [nums_length, keyB_len] at this; omega
  have hmb : m2 = b.k.length + 8 := by have := hf2.now.1; rw [nums_length, keyB_len] at this; omega
  have HC : Hid (∀ w1, Drew w w1 → ∀ n, Calls Tryz.prog 65 #[.slice A2 m2 c2, .slice A1 m1 c1] (w1.drewN n) fun E w' => E = .returned (.int .i64 (1)) ∧ Drew (w1.drewN n) w') := fun w1 hd n => by
    have := compareKeys_any A2 A1 m2 m1 c2 c1 _ _ (w1.drewN n) (hf2.now.drewD (hd.by_ n)) (hf1.now.drewD (hd.by_ n)) (bytKey hrb.kb hrb.v0 hrb.v1) (bytKey hra.kb hra.v0 hra.v1) (by omega) (by omega) hc2 hc1 (by omega) (by omega)
    rw [cmpKeys_keyB] at this
    have h9 : orderL b.k b.v a.k a.v = 1 := hcmp
    rwa [h9] at this
  have HBG : Hid (∀ w1, Drew w w1 → ∀ n, Calls Tryz.prog 84 #[.pointer (some ⟨g, 0, none⟩)] (w1.drewN n) fun E w' => E = .returned (.pointer (some ⟨g, 0, none⟩)) ∧ Drew (w1.drewN n) w') := fun w1 hd n => bigger_any g false _ (w1.drewN n) (hbk.drewD (hd.by_ n)) rfl
  have HS : Hid (Sml true (false) (a :: rl) (b :: rr)) := .inr ⟨rfl, by
    have h9 : b.ord a = 1 := hcmp
    have h8 := ordD_anti false a b
    have h7 : ordD false a b = a.ord b := rfl
    have h6 : ordD false b a = b.ord a := rfl
    have h5 : ordD true a b = b.ord a := rfl
    omega⟩
  have HB := Lib.hid hB
  have HK := Lib.hid hbk
  have HKK := Lib.hid (And.intro hK1 hK2)
  clear hbk hc1 hc2 hm1 hm2 hf1 hf2 hra hrb hma hmb hK1 hK2 hrem n1 n2 n3 n4 n5 n6 hB hcmp
  go_enter Tryz.func78, Tryz.ntmps78
  go_wp2_with fail
  refine (show Calls Tryz.prog 84 #[.pointer (some ⟨g, 0, none⟩)] w fun E w' => E = .returned (.pointer (some ⟨g, 0, none⟩)) ∧ Drew w w' from bigger_any g false _ w HK.out rfl).mono ?_
  rintro E w1 ⟨rfl, hd1⟩
  have HD1 := Lib.hid hd1
  have hbk1 := HK.out.drewD hd1
  have HK1 := Lib.hid hbk1
  have u0 := hbk1.at_ (i := 0) rfl
  have u1 := hbk1.at_ (i := 1) rfl
  have u5 := hbk1.at_ (i := 5) rfl
  have u6 := hbk1.at_ (i := 6) rfl
  have u10 := hbk1.at_ (i := 10) rfl
  have u12 := hbk1.at_ (i := 12) rfl
  rw [HKK.out.1] at u1
  rw [HKK.out.2] at u6
  rw [show nonE (a :: rl) = true from rfl] at u0
  rw [show nonE (b :: rr) = true from rfl] at u5
  rw [show (bif false then 0 else 5) = 5 from rfl] at u10
  replace HBG := Lib.hid (HBG.out w1 hd1)
  replace HC := Lib.hid (HC.out w1 hd1)
  clear hd1 hbk1
  go_wp2_with fail
  go_quiet (first | (go_at_call 84; exact quiet_drew (HBG.out _)) | (go_at_call 65; exact quiet_drew (HC.out _)))
  clear HBG HC
  go_wp2
  go_returns
  exact fix_stay HN.out HB.out HS.out (HD1.out.by_ nq)
theorem fix_any (h : NodS U rev w g L R S rl rr s cu cn cx) (hB : Bnd U S w) (hNU : NewU U w) (hO : OpsT R) (hG : R.Good rev) :
    Calls Tryz.prog 78 #[.pointer (some ⟨g, 0, none⟩)] w (FixP U rev w g L R S rl rr cu cn cx) := by
  cases s with
  | true =>
    cases rr with
    | nil => exact fix1T h hB
    | cons b rr =>
      cases rl with
      | nil => exact fix2T h hB
      | cons a rl =>
        rcases orderL_three a.k b.k a.v b.v with hc | hc | hc
        · cases rev with
          | false => exact fix3Tltf h hB hc
          | true => exact fix3Tltt h hB hc
        · exact fix3Teq h hB hNU hO hG hc
        · cases rev with
          | false => exact fix3Tgtf h hB hc
          | true => exact fix3Tgtt h hB hc
  | false =>
    cases rl with
    | nil => exact fix1F h hB
    | cons a rl =>
      cases rr with
      | nil => exact fix2F h hB
      | cons b rr =>
        rcases orderL_three b.k a.k b.v a.v with hc | hc | hc
        · cases rev with
          | false => exact fix3Fltf h hB hc
          | true => exact fix3Fltt h hB hc
        · exact fix3Feq h hB hNU hO hG hc
        · cases rev with
          | false => exact fix3Fgtf h hB hc
          | true => exact fix3Fgtt h hB hc
end
end Go.Proofs.YtegaigpolhdicaaGreat
