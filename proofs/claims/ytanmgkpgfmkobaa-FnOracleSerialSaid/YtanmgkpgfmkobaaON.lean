/- The oracle's functions: a transaction reads. -/
import Derived.Test.YtanmgkpgfmkobaaOM
namespace Go.Proofs.Ytanmgkpgfmkobaa
open Go.RowKit
set_option linter.unusedVariables false
set_option linter.unusedSimpArgs false
set_option maxRecDepth 100000
/-- append of one number to a row of one's own, at the operation. -/
theorem wpList_appendO {ops : Array Oper} {rest : List Oper} {o : Oper} {a : Act} {w : World} {Q : Exit → Act → World → Prop} (hgd : o.guard = none) (s x : Operand)
    (ho : o.op = .call { callee := .builtin .append, args := #[s, x], argTypes := #[59, 59] })
    (B : Nat) (v : Value) (l : List Int) (hs : a.eval s = v) (hown : OwnO w B 28 v (nums .u64 l))
    (g c : Nat) (y : Int) (hx : a.eval x = .slice (some ⟨g, 0, none⟩) 1 c) (hb : w.cell? ⟨g, 0, none⟩ = some (.int .u64 y))
    (hn : l.length ≤ 1000000) (hB : B ≤ w.heap.size)
    (h : ∀ v' w', OwnO w' B 28 v' (nums .u64 (l ++ [y])) → w.grownBy w' v.ownBlock → (v'.ownBlock = v.ownBlock ∨ v'.ownBlock = some w.heap.size) → wpList Try.prog ops Q rest (a.put o.dst v') w') :
    wpList Try.prog ops Q (o :: rest) a w := by
  refine wpList_plain hgd fun K' hK' => ?_
  obtain ⟨i, hi, hf⟩ := info_someO infoU64O
  simp only [Prod.mk.injEq] at hf
  obtain ⟨hz0, hz1, hz2⟩ := hf
  obtain ⟨v', w', hrun, h2, h3, h4⟩ := run_appendO (P := Try.prog) w B 59 o.type 28 i (.int .u64 0) 8 Try.underlying59 hi hz0 hz1 hz2 rfl v (nums .u64 l) hown ⟨g, 0, none⟩ c (.int .u64 y) hb rfl (by rw [nums_length]; simp only [maxLen]; omega) (by rw [nums_length]; omega) hB
  unfold Oper.wp execOp
  simp only [ho, resolve, invoke, builtin, Sem.run_bind, Sem.run_pure, Result.andThen_ok, List.map_toArray, List.map_cons, List.map_nil, hs, hx, hrun]
  exact hK' _ _ (h v' w' (by rw [nums_snoc]; exact h2) h3 h4)
section
variable {B N K : Nat} {p : OP} {cf : Bool} {r : ORun} {w : World} {ow : Nat → Nat}
/-- A key is read. -/
theorem readT_any (h : Ora B N p cf r w ow) {t : Nat} {x : OTx} {q : Nat × Nat} (hx : r.s.txs[t]? = some x) (hq : r.gs[t]? = some q) (hl : x.reads.length ≤ 1000000) (k : Int) :
    Calls Try.prog 58 #[.pointer (some ⟨q.1, 0, none⟩), .int .u64 k] w (ActP B N p cf { r with s := { r.s with txs := r.s.txs.set t { x with reads := x.reads ++ [k] } } } (.tuple #[]) ow w) := by
  have H := Lib.hid h
  have HX := Lib.hid hx
  have HQ := Lib.hid hq
  obtain ⟨rv, ht, hto⟩ := h.tx hx hq
  have HT := Lib.hid ht
  have HTO := Lib.hid hto
  have x2 : w.cell? ⟨q.1, 2, none⟩ = some rv := ht.1.at_ rfl
  have hBB := h.base
  obtain ⟨A2, c2, hrv, _, _⟩ := ht.2.1.sl
  subst hrv
  rw [nums_length] at *
  clear h hx hq ht hto
  go_enter Try.func58, Try.ntmps58
  have hf1 : Hid (Frm [] w (w.alloc (.cells #[.int .u64 k] 28))) := Frm.alloc w _
  have HT1 : Hid (Blk (w.alloc (.cells #[.int .u64 k] 28)) q.1 150 [.int .u64 (x.rts : Int), .int .u64 0, .slice A2 x.reads.length c2, .map (some q.2), .bool x.dr]) := HT.out.1.alloc _
  have HR1 : Hid (OwnO (w.alloc (.cells #[.int .u64 k] 28)) B 28 (.slice A2 x.reads.length c2) (nums .u64 x.reads)) := HT.out.2.1.frm hf1.out (fun _ _ h => by cases h)
  have HP1 : Hid (MapAt Try.prog (w.alloc (.cells #[.int .u64 k] 28)) 28 .u64 q.2 N (wrF x.writes)) := HT.out.2.2.alloc _
  have hc1 : Hid ((w.alloc (.cells #[.int .u64 k] 28)).cell? ⟨w.heap.size, 0, none⟩ = some (.int .u64 k)) := Blk.at_ (Blk.new w 28 [.int .u64 k]) rfl
  have hz1 : Hid ((w.alloc (.cells #[.int .u64 k] 28)).heap.size = w.heap.size + 1) := World.size_alloc w _
  go_wp2_with (at_builtin; (refine wpList_appendO rfl (.tmp 8) (.tmp 10) rfl B (.slice A2 x.reads.length c2) x.reads rfl HR1.out w.heap.size 1 k rfl hc1.out hl (by have := hz1.out; omega) ?_; intro v3 w3 ho3 hg3 hat3; obtain ⟨A3, c3, hv3, _, _⟩ := ho3.sl; subst hv3; have HO3 := Lib.hid ho3; have HA3 := Lib.hid hat3; have HF3 : Hid (Frm (Value.slice A2 x.reads.length c2).ownBlock.toList (w.alloc (.cells #[.int .u64 k] 28)) w3) := frmRowO hg3; have HT3 : Hid (Blk w3 q.1 150 [.int .u64 (x.rts : Int), .int .u64 0, .slice A2 x.reads.length c2, .map (some q.2), .bool x.dr]) := HT1.out.frm HF3.out (fun hk => by (obtain ⟨cs, hb, _⟩ := HR1.out.blk hk); exact blk_neO hb HT1.out (by decide) rfl); have f2 := HT3.out.frozen 2; have z2 : w3.cell? ⟨q.1, 2, none⟩ = some (.slice A2 x.reads.length c2) := HT3.out.at_ rfl; clear ho3 hg3 hat3))
  go_end0
  have hset := Frm.set w3 ⟨q.1, 2, none⟩ (.slice A3 (nums .u64 (x.reads ++ [k])).length c3)
  have hqo : ow q.1 = t + 4 := HTO.out q.1 (by simp)
  have hf : Frm (q.1 :: (Value.slice A2 x.reads.length c2).ownBlock.toList) w (w3.setCell ⟨q.1, 2, none⟩ (.slice A3 (nums .u64 (x.reads ++ [k])).length c3)) :=
    ((hf1.out.mono (fun _ h => by cases h)).trans HF3.out (fun j hj => .inl (List.mem_cons_of_mem _ hj))).andSet _ _ (.inl (List.mem_cons_self ..))
  obtain ⟨ow', h1, h2⟩ := H.out.setTx (N' := N) (rv' := .slice A3 (nums .u64 (x.reads ++ [k])).length c3) (x' := { x with reads := x.reads ++ [k] }) HQ.out hf (fun b hb _ => by
    rcases List.mem_cons.1 hb with rfl | hb
    · exact hqo
    · exact HTO.out b (by simp only [List.mem_cons]; exact .inr (.inr hb))) ⟨HT3.out.set_ 2 _, HO3.out.frm hset (fun j hj => by
    obtain ⟨cs, hb, _⟩ := HO3.out.blk hj
    rw [List.mem_singleton]
    exact blk_neO hb HT3.out (by decide)), (HP1.out.frm HF3.out (fun hk => by
    obtain ⟨cs, hb, _⟩ := HR1.out.blk hk
    exact mapAt_ne_blk HP1.out hb rfl)).frm hset (by
    rw [List.mem_singleton]
    exact mapAt_ne_blk HP1.out HT1.out)⟩ (fun b hb hlt => by
    rcases List.mem_cons.1 hb with rfl | hb
    · exact hqo
    · rcases List.mem_cons.1 hb with rfl | hb
      · exact HTO.out _ (by simp)
      · rcases HA3.out with e | e
        · rw [e] at hb
          exact HTO.out b (by simp only [List.mem_cons]; exact .inr (.inr hb))
        · rw [e] at hb
          simp only [Option.toList_some, List.mem_singleton] at hb
          have := hz1.out
          omega) (Nat.le_refl _)
  exact ⟨rfl, ow', h1, h2⟩
end
end Go.Proofs.Ytanmgkpgfmkobaa
