/- Changes as the package has them, told. -/
import Derived.Test.YtbbncbjdpopkiaaF2
import Derived.Maps.AppendAt
import Derived.Stop.LaidErr
namespace Go.Proofs.Ytbbncbjdpopkiaa
open Go.RowKit
set_option linter.unusedVariables false
set_option linter.unusedSimpArgs false
theorem op_gone (d : Chg) : (d.op == 1) = d.gone := by
  unfold Chg.op
  cases d.gone <;> rfl
def cellsL (l : List Chg) : List Value := l.flatMap Chg.cells
theorem infoChg : (Try.prog.info? 61).map (fun i => (i.zero, i.size, i.bytes)) = some (some (.agg #[.int .u64 0, .bool false, .int .u32 0, .int .u64 0, .int .u32 0]), 5, 32) := by kernel_rfl
theorem info_some {α β : Type} {o : Option α} {f : α → β} {b : β} (h : o.map f = some b) : ∃ i, o = some i ∧ f i = b := by
  cases o with
  | none => cases h
  | some i => exact ⟨i, rfl, Option.some.inj h⟩
theorem step_append5 {ops : Array Oper} {o : Oper} {a : Act} {w : World} {K : Act → World → Prop} {Q : Exit → Act → World → Prop} {E : Prop} (hgd : o.guard = none) (s x : Operand)
    (ho : o.op = .call { callee := .builtin .append, args := #[s, x], argTypes := #[34, 34] })
    (base : Nat) (v : Value) (n : Nat) (xs : List Value) (hs : a.eval s = v) (hown : w.ownsRow base 61 5 v n xs)
    (g c : Nat) (news : List Value) (hx : a.eval x = .slice (some ⟨g, 0, none⟩) 1 c) (hl : news.length = 5) (hb : Blk w g 61 news) (h1 : ∀ u ∈ news, u.oneCell' = true)
    (hn : n ≤ 1000000) (hbase : base ≤ w.heap.size)
    (h : ∀ v' w', w'.ownsRow base 61 5 v' (n + 1) (xs ++ news) → w.grownBy w' v.ownBlock → (v'.ownBlock = v.ownBlock ∨ v'.ownBlock = some w.heap.size) → K (a.put o.dst v') w') :
    if Region.wanted o (yielded ops a.tmps) = true then Oper.wp Try.prog o a w K Q else E := by
  have hw : Region.wanted o (yielded ops a.tmps) = true := by simp [Region.wanted, hgd]
  rw [if_pos hw]
  obtain ⟨i, hi, hf⟩ := info_some infoChg
  simp only [Prod.mk.injEq] at hf
  obtain ⟨hz0, hz1, hz2⟩ := hf
  obtain ⟨v', w', hrun, h2, h3, _, h4⟩ := run_append_own_at (P := Try.prog) w base 34 o.type 61 i _ 5 32 Try.underlying34 hi hz0 hz1 hz2 rfl (by omega) v n xs hown ⟨g, 0, none⟩ 1 c news (by omega)
    (fun j u hu => by
      have e : (⟨g, 0, none⟩ : Addr).add j = ⟨g, j, none⟩ := by cases j <;> simp [Addr.add]
      rw [e, hb.cell]
      exact hu) h1 (by simp [maxLen]; omega) (by omega) hbase
  unfold Oper.wp execOp
  simp only [ho, resolve, invoke, builtin, Sem.run_bind, Sem.run_pure, Result.andThen_ok, List.map_toArray, List.map_cons, List.map_nil, hs, hx, hrun]
  exact h v' w' h2 h3 h4
theorem cellsL_snoc (l : List Chg) (d : Chg) : cellsL (l ++ [d]) = cellsL l ++ d.cells := by simp [cellsL]
set_option maxRecDepth 100000 in
theorem toldChanges_any (b : Nat) (A : Option Addr) (n c : Nat) (gs : List Nat) (l : List Chg) (w : World) (h : Sl w A n (ptrV gs)) (hp : Ptrs w b gs l) (hn : n ≤ 1000) :
    Calls Try.prog 22 #[.slice A n c] w fun E w' => ∃ v, E = .returned v ∧ w'.ownsRow w.heap.size 61 5 v l.length (cellsL l) ∧ Below w.heap.size w w' := by
  have H : Hid (Sl w A n (ptrV gs)) := h
  have HP : Hid (Ptrs w b gs l) := hp
  clear h hp
  go_enter Try.func22, Try.ntmps22
  go_wp2
  go_loopg [3, 9] n (fun q v3 v9 wr => ∃ (i : Nat), v9 = .int .i64 i ∧ i ≤ n ∧ Hid (i + q = n) ∧ Hid (wr.ownsRow w.heap.size 61 5 v3 i (cellsL (l.take i))) ∧ Hid (Below w.heap.size w wr))
  case atStart => exact ⟨0, rfl, by omega, by simp [Hid], World.ownsRow_made w #[] 0 (Nat.le_refl _) (by simp [maxLen]) rfl, (Below.refl _ _).alloc (Nat.le_refl _) _⟩
  case round =>
    obtain ⟨i, rfl, hi1, hq, ho, hbl⟩ := hrel
    have hnl : l.length = n := by
      have e1 := HP.out.1
      have e2 := H.out.1
      rw [ptrV, List.length_map] at e2
      omega
    by_cases h1 : i < n
    · obtain ⟨gkO, rfl⟩ : ∃ q, gk = q + 1 := ⟨gk - 1, by have := hq.out; omega⟩
      obtain ⟨d, gi, hd, hgi⟩ : ∃ d gi, l[i]? = some d ∧ gs[i]? = some gi := by
        have e1 := HP.out.1
        exact ⟨_, _, List.getElem?_eq_getElem (by omega), List.getElem?_eq_getElem (by omega)⟩
      obtain ⟨hb0, hblkw⟩ := HP.out.2 i gi d hgi hd
      have hgi2 : gi < w.heap.size := hblkw.lt
      have hblk : Hid (Blk wr gi 76 d.row) := hblkw.below hbl.out hgi2
      obtain ⟨ga, oa, u, rfl, hu, hcell⟩ := (H.out.below hbl.out).at_ h1
      have hu2 : u = .pointer (some ⟨gi, 0, none⟩) := by
        rw [ptrV, List.getElem?_map, hgi] at hu
        exact (Option.some.inj hu).symm
      subst hu2
      clear hu hb0
      have hc := hblk.out
      have e0 : wr.cell? ⟨gi, 0, none⟩ = some (.int .u64 d.id) := by rw [hc.cell]; rfl
      have e1 : wr.cell? ⟨gi, 1, none⟩ = some (.int .i32 d.op) := by rw [hc.cell]; rfl
      have e2 : wr.cell? ⟨gi, 2, none⟩ = some (.int .u32 d.level) := by rw [hc.cell]; rfl
      have e3 : wr.cell? ⟨gi, 3, none⟩ = some (.int .u64 d.keyId) := by rw [hc.cell]; rfl
      have e5 : wr.cell? ⟨gi, 5, none⟩ = some (.int .u32 d.comp) := by rw [hc.cell]; rfl
      clear hc
      go_wp2_with fail
      refine Go.Proofs.YtbbncbjdpopkiaaW.PrintLast.start_ (n := 26) (S := fun w' => w'.cell? ⟨gi, 0, none⟩ = some (.int .u64 d.id) ∧ w'.cell? ⟨gi, 1, none⟩ = some (.int .i32 d.op) ∧ w'.cell? ⟨gi, 2, none⟩ = some (.int .u32 d.level) ∧ w'.cell? ⟨gi, 3, none⟩ = some (.int .u64 d.keyId) ∧ w'.cell? ⟨gi, 5, none⟩ = some (.int .u32 d.comp)) (ds := []) #[false, false, false, false, false, false, false, false, false, false, false, false, false, false, false, false, false, false, false, false, false, false, false, false, false, false] (by kernel_rfl) rfl rfl (⟨e0, e1, e2, e3, e5⟩) (fun hHeld => ?_)
      have hb6 : Hid (Below w.heap.size w wr.drew) := hbl.out.drew
      have ho6 : Hid (wr.drew.ownsRow w.heap.size 61 5 u3 i (cellsL (l.take i))) := ho.out
      clear e0 e1 e2 e3 e5 ho hbl hblk hcell
      generalize wr.drew = w6 at *
      refine Go.Proofs.YtbbncbjdpopkiaaW.PrintLast.pure_ (i := 0) (N := some 13) (v := ?_) (a' := ?_) #[true, false, false, false, false, false, false, false, false, false, false, false, false, false, false, false, false, false, false, false, false, false, false, false, false, false] rfl rfl (by kernel_rfl) (fun _ _ _ h => h) (Or.inl ⟨by rfl, ?_⟩) ?_ ?_
      rotate_left
      · intro w'
        go_simp
        with_reducible rfl
      rotate_left
      · simp only [Act.put, List.setIfInBounds_toArray, List.set_cons_zero, List.set_cons_succ, Go.Proofs.YtbbncbjdpopkiaaW.PrintLast.i64_w, Go.Proofs.YtbbncbjdpopkiaaW.PrintLast.i32_w]
        rfl
      refine Go.Proofs.YtbbncbjdpopkiaaW.PrintLast.pure_ (i := 1) (N := some 14) (v := ?_) (a' := ?_) #[true, true, false, false, false, false, false, false, false, false, false, false, false, false, false, false, false, false, false, false, false, false, false, false, false, false] rfl rfl (by kernel_rfl) (fun _ _ _ h => h) (Or.inl ⟨by rfl, ?_⟩) ?_ ?_
      rotate_left
      · intro w'
        go_simp
        with_reducible rfl
      rotate_left
      · simp only [Act.put, List.setIfInBounds_toArray, List.set_cons_zero, List.set_cons_succ, Go.Proofs.YtbbncbjdpopkiaaW.PrintLast.i64_w, Go.Proofs.YtbbncbjdpopkiaaW.PrintLast.i32_w]
        rfl
      refine Go.Proofs.YtbbncbjdpopkiaaW.PrintLast.pure_ (i := 2) (N := some 15) (v := ?_) (a' := ?_) #[true, true, true, false, false, false, false, false, false, false, false, false, false, false, false, false, false, false, false, false, false, false, false, false, false, false] rfl rfl (by kernel_rfl) (fun _ _ _ h => h) (Or.inl ⟨by rfl, ?_⟩) ?_ ?_
      rotate_left
      · intro w'
        go_simp
        with_reducible rfl
      rotate_left
      · simp only [Act.put, List.setIfInBounds_toArray, List.set_cons_zero, List.set_cons_succ, Go.Proofs.YtbbncbjdpopkiaaW.PrintLast.i64_w, Go.Proofs.YtbbncbjdpopkiaaW.PrintLast.i32_w]
        rfl
      refine Go.Proofs.YtbbncbjdpopkiaaW.PrintLast.pure_ (i := 3) (N := some 16) (v := ?_) (a' := ?_) #[true, true, true, true, false, false, false, false, false, false, false, false, false, false, false, false, false, false, false, false, false, false, false, false, false, false] rfl rfl (by kernel_rfl) (fun _ _ _ h => h) (Or.inl ⟨by rfl, ?_⟩) ?_ ?_
      rotate_left
      · intro w'
        go_simp
        with_reducible rfl
      rotate_left
      · simp only [Act.put, List.setIfInBounds_toArray, List.set_cons_zero, List.set_cons_succ, Go.Proofs.YtbbncbjdpopkiaaW.PrintLast.i64_w, Go.Proofs.YtbbncbjdpopkiaaW.PrintLast.i32_w]
        rfl
      refine Go.Proofs.YtbbncbjdpopkiaaW.PrintLast.take_ (i := 4) (N := some 17) (v := ?_) (a' := ?_) #[true, true, true, true, true, false, false, false, false, false, false, false, false, false, false, false, false, false, false, false, false, false, false, false, false, false] rfl rfl (by kernel_rfl) (fun _ _ _ h => h) (Or.inl ⟨by rfl, ?_⟩) hHeld ?_ ?_
      rotate_left
      · rintro w' ⟨e0, e1, e2, e3, e5⟩
        go_simp
        with_reducible rfl
      rotate_left
      · simp only [Act.put, List.setIfInBounds_toArray, List.set_cons_zero, List.set_cons_succ, Go.Proofs.YtbbncbjdpopkiaaW.PrintLast.i64_w, Go.Proofs.YtbbncbjdpopkiaaW.PrintLast.i32_w]
        rfl
      refine Go.Proofs.YtbbncbjdpopkiaaW.PrintLast.pure_ (i := 5) (N := some 18) (v := ?_) (a' := ?_) #[true, true, true, true, true, true, false, false, false, false, false, false, false, false, false, false, false, false, false, false, false, false, false, false, false, false] rfl rfl (by kernel_rfl) (fun _ _ _ h => h) (Or.inl ⟨by rfl, ?_⟩) ?_ ?_
      rotate_left
      · intro w'
        go_simp
        with_reducible rfl
      rotate_left
      · simp only [Act.put, List.setIfInBounds_toArray, List.set_cons_zero, List.set_cons_succ, Go.Proofs.YtbbncbjdpopkiaaW.PrintLast.i64_w, Go.Proofs.YtbbncbjdpopkiaaW.PrintLast.i32_w]
        rfl
      refine Go.Proofs.YtbbncbjdpopkiaaW.PrintLast.pure_ (i := 6) (N := some 19) (v := ?_) (a' := ?_) #[true, true, true, true, true, true, true, false, false, false, false, false, false, false, false, false, false, false, false, false, false, false, false, false, false, false] rfl rfl (by kernel_rfl) (fun _ _ _ h => h) (Or.inl ⟨by rfl, ?_⟩) ?_ ?_
      rotate_left
      · intro w'
        go_simp
        with_reducible rfl
      rotate_left
      · simp only [Act.put, List.setIfInBounds_toArray, List.set_cons_zero, List.set_cons_succ, Go.Proofs.YtbbncbjdpopkiaaW.PrintLast.i64_w, Go.Proofs.YtbbncbjdpopkiaaW.PrintLast.i32_w]
        rfl
      refine Go.Proofs.YtbbncbjdpopkiaaW.PrintLast.pure_ (i := 7) (N := some 20) (v := ?_) (a' := ?_) #[true, true, true, true, true, true, true, true, false, false, false, false, false, false, false, false, false, false, false, false, false, false, false, false, false, false] rfl rfl (by kernel_rfl) (fun _ _ _ h => h) (Or.inl ⟨by rfl, ?_⟩) ?_ ?_
      rotate_left
      · intro w'
        go_simp
        with_reducible rfl
      rotate_left
      · simp only [Act.put, List.setIfInBounds_toArray, List.set_cons_zero, List.set_cons_succ, Go.Proofs.YtbbncbjdpopkiaaW.PrintLast.i64_w, Go.Proofs.YtbbncbjdpopkiaaW.PrintLast.i32_w]
        rfl
      refine Go.Proofs.YtbbncbjdpopkiaaW.PrintLast.take_ (i := 8) (N := some 21) (v := ?_) (a' := ?_) #[true, true, true, true, true, true, true, true, true, false, false, false, false, false, false, false, false, false, false, false, false, false, false, false, false, false] rfl rfl (by kernel_rfl) (fun _ _ _ h => h) (Or.inl ⟨by rfl, ?_⟩) hHeld ?_ ?_
      rotate_left
      · rintro w' ⟨e0, e1, e2, e3, e5⟩
        go_simp
        with_reducible rfl
      rotate_left
      · simp only [Act.put, List.setIfInBounds_toArray, List.set_cons_zero, List.set_cons_succ, Go.Proofs.YtbbncbjdpopkiaaW.PrintLast.i64_w, Go.Proofs.YtbbncbjdpopkiaaW.PrintLast.i32_w]
        rfl
      refine Go.Proofs.YtbbncbjdpopkiaaW.PrintLast.pure_ (i := 9) (N := some 22) (v := ?_) (a' := ?_) #[true, true, true, true, true, true, true, true, true, true, false, false, false, false, false, false, false, false, false, false, false, false, false, false, false, false] rfl rfl (by kernel_rfl) (fun _ _ _ h => h) (Or.inl ⟨by rfl, ?_⟩) ?_ ?_
      rotate_left
      · intro w'
        go_simp
        with_reducible rfl
      rotate_left
      · simp only [Act.put, List.setIfInBounds_toArray, List.set_cons_zero, List.set_cons_succ, Go.Proofs.YtbbncbjdpopkiaaW.PrintLast.i64_w, Go.Proofs.YtbbncbjdpopkiaaW.PrintLast.i32_w]
        rfl
      refine Go.Proofs.YtbbncbjdpopkiaaW.PrintLast.pure_ (i := 10) (N := some 23) (v := ?_) (a' := ?_) #[true, true, true, true, true, true, true, true, true, true, true, false, false, false, false, false, false, false, false, false, false, false, false, false, false, false] rfl rfl (by kernel_rfl) (fun _ _ _ h => h) (Or.inl ⟨by rfl, ?_⟩) ?_ ?_
      rotate_left
      · intro w'
        go_simp
        with_reducible rfl
      rotate_left
      · simp only [Act.put, List.setIfInBounds_toArray, List.set_cons_zero, List.set_cons_succ, Go.Proofs.YtbbncbjdpopkiaaW.PrintLast.i64_w, Go.Proofs.YtbbncbjdpopkiaaW.PrintLast.i32_w]
        rfl
      refine Go.Proofs.YtbbncbjdpopkiaaW.PrintLast.pure_ (i := 11) (N := some 24) (v := ?_) (a' := ?_) #[true, true, true, true, true, true, true, true, true, true, true, true, false, false, false, false, false, false, false, false, false, false, false, false, false, false] rfl rfl (by kernel_rfl) (fun _ _ _ h => h) (Or.inl ⟨by rfl, ?_⟩) ?_ ?_
      rotate_left
      · intro w'
        go_simp
        with_reducible rfl
      rotate_left
      · simp only [Act.put, List.setIfInBounds_toArray, List.set_cons_zero, List.set_cons_succ, Go.Proofs.YtbbncbjdpopkiaaW.PrintLast.i64_w, Go.Proofs.YtbbncbjdpopkiaaW.PrintLast.i32_w]
        rfl
      refine Go.Proofs.YtbbncbjdpopkiaaW.PrintLast.pure_ (i := 12) (N := some 25) (v := ?_) (a' := ?_) #[true, true, true, true, true, true, true, true, true, true, true, true, true, false, false, false, false, false, false, false, false, false, false, false, false, false] rfl rfl (by kernel_rfl) (fun _ _ _ h => h) (Or.inl ⟨by rfl, ?_⟩) ?_ ?_
      rotate_left
      · intro w'
        go_simp
        with_reducible rfl
      rotate_left
      · simp only [Act.put, List.setIfInBounds_toArray, List.set_cons_zero, List.set_cons_succ, Go.Proofs.YtbbncbjdpopkiaaW.PrintLast.i64_w, Go.Proofs.YtbbncbjdpopkiaaW.PrintLast.i32_w]
        rfl
      refine Go.Proofs.YtbbncbjdpopkiaaW.PrintLast.take_ (i := 13) (N := some 26) (v := ?_) (a' := ?_) #[true, true, true, true, true, true, true, true, true, true, true, true, true, true, false, false, false, false, false, false, false, false, false, false, false, false] rfl rfl (by kernel_rfl) (fun _ _ _ h => h) (Or.inl ⟨by rfl, ?_⟩) hHeld ?_ ?_
      rotate_left
      · rintro w' ⟨e0, e1, e2, e3, e5⟩
        go_simp
        with_reducible rfl
      rotate_left
      · simp only [Act.put, List.setIfInBounds_toArray, List.set_cons_zero, List.set_cons_succ, Go.Proofs.YtbbncbjdpopkiaaW.PrintLast.i64_w, Go.Proofs.YtbbncbjdpopkiaaW.PrintLast.i32_w]
        rfl
      refine Go.Proofs.YtbbncbjdpopkiaaW.PrintLast.pure_ (i := 14) (N := some 27) (v := ?_) (a' := ?_) #[true, true, true, true, true, true, true, true, true, true, true, true, true, true, true, false, false, false, false, false, false, false, false, false, false, false] rfl rfl (by kernel_rfl) (fun _ _ _ h => h) (Or.inl ⟨by rfl, ?_⟩) ?_ ?_
      rotate_left
      · intro w'
        go_simp
        with_reducible rfl
      rotate_left
      · simp only [Act.put, List.setIfInBounds_toArray, List.set_cons_zero, List.set_cons_succ, Go.Proofs.YtbbncbjdpopkiaaW.PrintLast.i64_w, Go.Proofs.YtbbncbjdpopkiaaW.PrintLast.i32_w]
        rfl
      refine Go.Proofs.YtbbncbjdpopkiaaW.PrintLast.pure_ (i := 15) (N := some 28) (v := ?_) (a' := ?_) #[true, true, true, true, true, true, true, true, true, true, true, true, true, true, true, true, false, false, false, false, false, false, false, false, false, false] rfl rfl (by kernel_rfl) (fun _ _ _ h => h) (Or.inl ⟨by rfl, ?_⟩) ?_ ?_
      rotate_left
      · intro w'
        go_simp
        with_reducible rfl
      rotate_left
      · simp only [Act.put, List.setIfInBounds_toArray, List.set_cons_zero, List.set_cons_succ, Go.Proofs.YtbbncbjdpopkiaaW.PrintLast.i64_w, Go.Proofs.YtbbncbjdpopkiaaW.PrintLast.i32_w]
        rfl
      refine Go.Proofs.YtbbncbjdpopkiaaW.PrintLast.pure_ (i := 16) (N := some 29) (v := ?_) (a' := ?_) #[true, true, true, true, true, true, true, true, true, true, true, true, true, true, true, true, true, false, false, false, false, false, false, false, false, false] rfl rfl (by kernel_rfl) (fun _ _ _ h => h) (Or.inl ⟨by rfl, ?_⟩) ?_ ?_
      rotate_left
      · intro w'
        go_simp
        with_reducible rfl
      rotate_left
      · simp only [Act.put, List.setIfInBounds_toArray, List.set_cons_zero, List.set_cons_succ, Go.Proofs.YtbbncbjdpopkiaaW.PrintLast.i64_w, Go.Proofs.YtbbncbjdpopkiaaW.PrintLast.i32_w]
        rfl
      refine Go.Proofs.YtbbncbjdpopkiaaW.PrintLast.take_ (i := 17) (N := some 30) (v := ?_) (a' := ?_) #[true, true, true, true, true, true, true, true, true, true, true, true, true, true, true, true, true, true, false, false, false, false, false, false, false, false] rfl rfl (by kernel_rfl) (fun _ _ _ h => h) (Or.inl ⟨by rfl, ?_⟩) hHeld ?_ ?_
      rotate_left
      · rintro w' ⟨e0, e1, e2, e3, e5⟩
        go_simp
        with_reducible rfl
      rotate_left
      · simp only [Act.put, List.setIfInBounds_toArray, List.set_cons_zero, List.set_cons_succ, Go.Proofs.YtbbncbjdpopkiaaW.PrintLast.i64_w, Go.Proofs.YtbbncbjdpopkiaaW.PrintLast.i32_w]
        rfl
      refine Go.Proofs.YtbbncbjdpopkiaaW.PrintLast.pure_ (i := 18) (N := some 31) (v := ?_) (a' := ?_) #[true, true, true, true, true, true, true, true, true, true, true, true, true, true, true, true, true, true, true, false, false, false, false, false, false, false] rfl rfl (by kernel_rfl) (fun _ _ _ h => h) (Or.inl ⟨by rfl, ?_⟩) ?_ ?_
      rotate_left
      · intro w'
        go_simp
        with_reducible rfl
      rotate_left
      · simp only [Act.put, List.setIfInBounds_toArray, List.set_cons_zero, List.set_cons_succ, Go.Proofs.YtbbncbjdpopkiaaW.PrintLast.i64_w, Go.Proofs.YtbbncbjdpopkiaaW.PrintLast.i32_w]
        rfl
      refine Go.Proofs.YtbbncbjdpopkiaaW.PrintLast.pure_ (i := 19) (N := some 32) (v := ?_) (a' := ?_) #[true, true, true, true, true, true, true, true, true, true, true, true, true, true, true, true, true, true, true, true, false, false, false, false, false, false] rfl rfl (by kernel_rfl) (fun _ _ _ h => h) (Or.inl ⟨by rfl, ?_⟩) ?_ ?_
      rotate_left
      · intro w'
        go_simp
        with_reducible rfl
      rotate_left
      · simp only [Act.put, List.setIfInBounds_toArray, List.set_cons_zero, List.set_cons_succ, Go.Proofs.YtbbncbjdpopkiaaW.PrintLast.i64_w, Go.Proofs.YtbbncbjdpopkiaaW.PrintLast.i32_w]
        rfl
      refine Go.Proofs.YtbbncbjdpopkiaaW.PrintLast.pure_ (i := 20) (N := some 33) (v := ?_) (a' := ?_) #[true, true, true, true, true, true, true, true, true, true, true, true, true, true, true, true, true, true, true, true, true, false, false, false, false, false] rfl rfl (by kernel_rfl) (fun _ _ _ h => h) (Or.inl ⟨by rfl, ?_⟩) ?_ ?_
      rotate_left
      · intro w'
        go_simp
        with_reducible rfl
      rotate_left
      · simp only [Act.put, List.setIfInBounds_toArray, List.set_cons_zero, List.set_cons_succ, Go.Proofs.YtbbncbjdpopkiaaW.PrintLast.i64_w, Go.Proofs.YtbbncbjdpopkiaaW.PrintLast.i32_w]
        rfl
      refine Go.Proofs.YtbbncbjdpopkiaaW.PrintLast.take_ (i := 21) (N := some 34) (v := ?_) (a' := ?_) #[true, true, true, true, true, true, true, true, true, true, true, true, true, true, true, true, true, true, true, true, true, true, false, false, false, false] rfl rfl (by kernel_rfl) (fun _ _ _ h => h) (Or.inl ⟨by rfl, ?_⟩) hHeld ?_ ?_
      rotate_left
      · rintro w' ⟨e0, e1, e2, e3, e5⟩
        go_simp
        with_reducible rfl
      rotate_left
      · simp only [Act.put, List.setIfInBounds_toArray, List.set_cons_zero, List.set_cons_succ, Go.Proofs.YtbbncbjdpopkiaaW.PrintLast.i64_w, Go.Proofs.YtbbncbjdpopkiaaW.PrintLast.i32_w]
        rfl
      refine Go.Proofs.YtbbncbjdpopkiaaW.PrintLast.pure_ (i := 22) (N := some 35) (v := ?_) (a' := ?_) #[true, true, true, true, true, true, true, true, true, true, true, true, true, true, true, true, true, true, true, true, true, true, true, false, false, false] rfl rfl (by kernel_rfl) (fun _ _ _ h => h) (Or.inl ⟨by rfl, ?_⟩) ?_ ?_
      rotate_left
      · intro w'
        go_simp
        with_reducible rfl
      rotate_left
      · simp only [Act.put, List.setIfInBounds_toArray, List.set_cons_zero, List.set_cons_succ, Go.Proofs.YtbbncbjdpopkiaaW.PrintLast.i64_w, Go.Proofs.YtbbncbjdpopkiaaW.PrintLast.i32_w]
        rfl
      refine Go.Proofs.YtbbncbjdpopkiaaW.PrintLast.one_ (i := 23) (N := some 36) #[true, true, true, true, true, true, true, true, true, true, true, true, true, true, true, true, true, true, true, true, true, true, true, true, false, false] rfl rfl (by kernel_rfl) (by decide) (fun K hK => ?_)
      refine Go.Proofs.YtbbncbjdpopkiaaW.PrintLast.value_ (v := .slice (some ⟨w6.heap.size, 0, none⟩) 1 1) (w1 := w6.alloc (.cells #[.int .u64 d.id, .bool (d.op == 1), .int .u32 d.level, .int .u64 d.keyId, .int .u32 d.comp] 61)) (by rfl) rfl ?_ ?_
      · go_simp
        try rfl
      refine hK.out _ _ (⟨cell?_alloc_old _ hHeld.1, cell?_alloc_old _ hHeld.2.1, cell?_alloc_old _ hHeld.2.2.1, cell?_alloc_old _ hHeld.2.2.2.1, cell?_alloc_old _ hHeld.2.2.2.2⟩) (fun hHeld => ?_)
      clear hK K
      refine Go.Proofs.YtbbncbjdpopkiaaW.PrintLast.norm_ (a' := ?_) ?_ ?_
      rotate_left
      · show Act.put _ (some 36) _ = _
        simp only [Act.put, List.setIfInBounds_toArray, List.set_cons_zero, List.set_cons_succ, Go.Proofs.YtbbncbjdpopkiaaW.PrintLast.i64_w, Go.Proofs.YtbbncbjdpopkiaaW.PrintLast.i32_w]
        rfl
      have hb7 : Hid (Below w.heap.size w (w6.alloc (.cells #[.int .u64 d.id, .bool (d.op == 1), .int .u32 d.level, .int .u64 d.keyId, .int .u32 d.comp] 61))) := hb6.out.alloc hb6.out.size _
      have ho7 : Hid ((w6.alloc (.cells #[.int .u64 d.id, .bool (d.op == 1), .int .u32 d.level, .int .u64 d.keyId, .int .u32 d.comp] 61)).ownsRow w.heap.size 61 5 u3 i (cellsL (l.take i))) := ho6.out.alloc _
      have hk7 : Hid (Blk (w6.alloc (.cells #[.int .u64 d.id, .bool (d.op == 1), .int .u32 d.level, .int .u64 d.keyId, .int .u32 d.comp] 61)) w6.heap.size 61 d.cells) := by
        have := Blk.new w6 61 d.cells
        rw [Chg.cells, ← op_gone d] at this
        rw [Chg.cells, ← op_gone d]
        exact this
      have hS7 := hHeld
      clear hb6 ho6
      generalize w6.heap.size = g6 at *
      generalize w6.alloc (.cells #[.int .u64 d.id, .bool (d.op == 1), .int .u32 d.level, .int .u64 d.keyId, .int .u32 d.comp] 61) = w7 at *
      refine Go.Proofs.YtbbncbjdpopkiaaW.PrintLast.one_ (i := 24) (N := some 37) #[true, true, true, true, true, true, true, true, true, true, true, true, true, true, true, true, true, true, true, true, true, true, true, true, true, false] rfl rfl (by kernel_rfl) (by decide) (fun K hK => ?_)
      refine step_append5 rfl (.tmp 13) (.tmp 36) rfl w.heap.size u3 i (cellsL (l.take i)) rfl ho7.out g6 1 d.cells rfl rfl hk7.out (by simp [Chg.cells, Value.oneCell']) (by omega) hb7.out.size ?_
      intro v8 w8 ho8 hg8 hat8
      have HO8 := Lib.hid ho8
      have hb8 : Hid (Below w.heap.size w w8) := hb7.out.grown hg8 hb7.out.size (fun k hk => (ho7.out.lt k hk).1)
      have hS8 : w8.cell? ⟨gi, 0, none⟩ = some (.int .u64 d.id) ∧ w8.cell? ⟨gi, 1, none⟩ = some (.int .i32 d.op) ∧ w8.cell? ⟨gi, 2, none⟩ = some (.int .u32 d.level) ∧ w8.cell? ⟨gi, 3, none⟩ = some (.int .u64 d.keyId) ∧ w8.cell? ⟨gi, 5, none⟩ = some (.int .u32 d.comp) := by
        have hne : (⟨gi, 0, none⟩ : Addr).block < w.heap.size := hgi2
        have hk : Blk w8 gi 76 d.row := hblkw.below hb8.out hgi2
        exact ⟨by rw [hk.cell]; rfl, by rw [hk.cell]; rfl, by rw [hk.cell]; rfl, by rw [hk.cell]; rfl, by rw [hk.cell]; rfl⟩
      clear ho8 hg8 hat8
      refine hK.out _ _ (hS8) (fun hHeld => ?_)
      clear hK K
      refine Go.Proofs.YtbbncbjdpopkiaaW.PrintLast.norm_ (a' := ?_) ?_ ?_
      rotate_left
      · show Act.put _ (some 37) _ = _
        simp only [Act.put, List.setIfInBounds_toArray, List.set_cons_zero, List.set_cons_succ, Go.Proofs.YtbbncbjdpopkiaaW.PrintLast.i64_w, Go.Proofs.YtbbncbjdpopkiaaW.PrintLast.i32_w]
        rfl
      refine Go.Proofs.YtbbncbjdpopkiaaW.PrintLast.pure_ (i := 25) (N := some 3) (v := ?_) (a' := ?_) #[true, true, true, true, true, true, true, true, true, true, true, true, true, true, true, true, true, true, true, true, true, true, true, true, true, true] rfl rfl (by kernel_rfl) (fun _ _ _ h => h) (Or.inl ⟨by rfl, ?_⟩) ?_ ?_
      rotate_left
      · intro w'
        go_simp
        with_reducible rfl
      rotate_left
      · simp only [Act.put, List.setIfInBounds_toArray, List.set_cons_zero, List.set_cons_succ, Go.Proofs.YtbbncbjdpopkiaaW.PrintLast.i64_w, Go.Proofs.YtbbncbjdpopkiaaW.PrintLast.i32_w]
        rfl
      refine Go.Proofs.YtbbncbjdpopkiaaW.PrintLast.done_ (by kernel_rfl) ?_
      have HO9 : Hid (w8.ownsRow w.heap.size 61 5 v8 (i + 1) (cellsL (l.take (i + 1)))) := by
        rw [take_snoc l i d hd, cellsL_snoc]
        exact HO8.out
      clear HO8 hHeld hS8 hS7
      go_wp2
      go_roundg gkO
      case measure => omega
      case rel => exact ⟨i + 1, by go_num, by omega, by have := hq.out; show _ = _; omega, HO9, hb8⟩
    · obtain rfl : i = n := by omega
      go_wp2
      go_ret
      have := ho.out
      rw [List.take_of_length_le (by omega)] at this
      exact ⟨_, rfl, by rw [hnl]; exact this, hbl.out⟩
theorem own_slc {w : World} {base n : Nat} {v : Value} {l : List Chg} (h : w.ownsRow base 61 5 v n (cellsL l)) (hl : l.length = n) : ∃ A c, v = .slice A n c ∧ Slc w A n l := by
  rcases h.2 with ⟨rfl, h0⟩ | ⟨g, cap, cur, rfl, hg, hh, hnc, hcm, hcs, ht⟩
  · subst h0
    exact ⟨none, 0, rfl, hl, fun h => by omega⟩
  · refine ⟨_, cap, rfl, hl, fun _ => ⟨g, 0, rfl, fun j d hj k u hk => ?_⟩⟩
    have hk5 : k < 5 := by
      have := (List.getElem?_eq_some_iff.1 hk).1
      simpa [Chg.cells] using this
    have hjl : j < l.length := (List.getElem?_eq_some_iff.1 hj).1
    have hx : ∀ (l : List Chg) (j : Nat) (d : Chg), l[j]? = some d → (cellsL l)[j * 5 + k]? = d.cells[k]? := by
      intro l
      induction l with
      | nil => intro j d h; simp at h
      | cons e l ih =>
        intro j d h
        have e5 : e.cells.length = 5 := rfl
        cases j with
        | zero =>
          simp only [List.getElem?_cons_zero, Option.some.injEq] at h
          subst h
          simp only [cellsL, List.flatMap_cons, Nat.zero_mul, Nat.zero_add]
          rw [List.getElem?_append_left (by omega)]
        | succ j =>
          simp only [List.getElem?_cons_succ] at h
          have := ih j d h
          simp only [cellsL, List.flatMap_cons] at this ⊢
          rw [List.getElem?_append_right (by omega), ← this]
          congr 1
          omega
    have h1 : (cellsL l)[j * 5 + k]? = some u := (hx l j d hj).trans hk
    rw [← ht, List.getElem?_take] at h1
    split at h1
    · rw [Nat.zero_add]
      have := cell_of_row w g (j * 5 + k) cur _ (0, 0) hh
      rw [this, ← h1]
      simp
    · cases h1
end Go.Proofs.Ytbbncbjdpopkiaa
