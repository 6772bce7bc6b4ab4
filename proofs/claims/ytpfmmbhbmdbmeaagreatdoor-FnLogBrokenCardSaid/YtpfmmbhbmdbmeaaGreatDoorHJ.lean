/- What stays while a log is read; the records that are handed on. -/
import Derived.Test.YtpfmmbhbmdbmeaaGreatDoorHI
import Derived.Maps.AppendAt
namespace Go.Proofs.YtpfmmbhbmdbmeaaGreatDoor
open Go.RowKit
set_option linter.unusedVariables false
set_option linter.unusedSimpArgs false
/-- W2 has what w has, but for the blocks of X. -/
def SameB (X : List Nat) (w W2 : World) : Prop := ∀ k, k < w.heap.size → k ∉ X → W2.heap[k]? = w.heap[k]?
/-- What holds in w, and in whatever has what w has but for the blocks of X. -/
def Stab (X : List Nat) (w : World) (P : World → Prop) : Prop := ∀ W2, SameB X w W2 → P W2
section
variable {X Y L : List Nat} {w w' W2 : World} {P Q : World → Prop}
theorem Stab.now (h : Stab X w P) : P w := h w (fun _ _ _ => rfl)
theorem Stab.frm (h : Stab X w P) (hf : Frm L w w') (h1 : ∀ k, k ∈ L → k < w.heap.size → k ∈ X) (h2 : ∀ k, k ∈ Y → k < w.heap.size → k ∈ X) : Stab Y w' P := fun W2 hs => h W2 (fun k hk hn => (hs k (Nat.lt_of_lt_of_le hk hf.size) (fun hy => hn (h2 k hy hk))).trans (hf.block k hk (fun hl => hn (h1 k hl hk))))
theorem Stab.imp (h : Stab X w P) (hi : ∀ W, P W → Q W) : Stab X w Q := fun W2 hs => hi _ (h W2 hs)
theorem Stab.and (h : Stab X w P) (k : Stab X w Q) : Stab X w (fun W => P W ∧ Q W) := fun W2 hs => ⟨h W2 hs, k W2 hs⟩
theorem stab_blk {g t : Nat} {cs : List Value} (h : Blk w g t cs) (hg : g ∉ X) : Stab X w (fun W => Blk W g t cs) := fun W2 hs => (hs g h.lt hg).trans h
theorem Sl.same {A : Option Addr} {n : Nat} {xs : List Value} (h : Sl w A n xs) (k : SameB X w W2) (hg : ∀ b o, A = some ⟨b, o, none⟩ → 0 < n → b ∉ X) : Sl W2 A n xs :=
  ⟨h.1, fun hn => by
    obtain ⟨b, o, e, hc⟩ := h.2 hn
    refine ⟨b, o, e, fun j u hu => ?_⟩
    have h1 := hc j u hu
    have hlt := World.block_lt_of_cell? w _ h1
    have hb := k b hlt (hg b o e hn)
    unfold World.cell? at h1 ⊢
    rw [show (⟨b, o + j, none⟩ : Addr).block = b from rfl] at h1 ⊢
    rw [hb]
    exact h1⟩
theorem stab_sl {A : Option Addr} {n : Nat} {xs : List Value} (h : Sl w A n xs) (hg : ∀ b o, A = some ⟨b, o, none⟩ → 0 < n → b ∉ X) : Stab X w (fun W => Sl W A n xs) := fun W2 hs => h.same hs hg
end
/-- A row of one's own, and what it is not. -/
theorem own_neT {w : World} {base e s n k t : Nat} {v : Value} {xs cs : List Value} (h : w.ownsRow base e s v n xs) (hk : Blk w k t cs) (hne : t ≠ e) : k ∉ v.ownBlock.toList := by
  rcases h.2 with ⟨rfl, _⟩ | ⟨g, cap, cur, rfl, _, hh, _⟩
  · intro h; cases h
  · intro h
    simp only [Value.ownBlock, Option.toList_some, List.mem_singleton] at h
    subst h
    have h2 : w.heap[k]? = some (.cells cs.toArray t (0, 0)) := hk
    rw [hh] at h2
    injection h2 with h2
    injection h2 with _ h3 _
    exact hne h3.symm
theorem own_blkT {w : World} {base e s n k : Nat} {v : Value} {xs : List Value} (h : w.ownsRow base e s v n xs) (hk : k ∈ v.ownBlock.toList) : ∃ cs, Blk w k e cs ∧ base ≤ k := by
  rcases h.2 with ⟨rfl, _⟩ | ⟨g, cap, cur, rfl, hb, hh, _⟩
  · cases hk
  · simp only [Value.ownBlock, Option.toList_some, List.mem_singleton] at hk
    subst hk
    exact ⟨cur.toList, by unfold Blk; rw [Array.toArray_toList]; exact hh, hb⟩
theorem own_frmL {L : List Nat} {w w' : World} {base e s n : Nat} {v : Value} {xs : List Value} (h : w.ownsRow base e s v n xs) (hf : Frm L w w') (hl : ∀ k ∈ v.ownBlock.toList, k ∉ L) : w'.ownsRow base e s v n xs := by
  have hlt := h.lt
  obtain ⟨h1, h2⟩ := h
  refine ⟨h1, ?_⟩
  rcases h2 with h2 | ⟨g, cap, cur, e1, hg, hh, r⟩
  · exact .inl h2
  · have hg2 := (hlt g (by rw [e1]; rfl)).2
    exact .inr ⟨g, cap, cur, e1, hg, (hf.block g hg2 (hl g (by rw [e1]; simp [Value.ownBlock]))).trans hh, r⟩
theorem own_frmT {L : List Nat} {w w' : World} {base e s n : Nat} {v : Value} {xs : List Value} (h : w.ownsRow base e s v n xs) (hf : Frm L w w') (hl : ∀ k ∈ L, k < w.heap.size → ∃ t cs, Blk w k t cs ∧ t ≠ e) : w'.ownsRow base e s v n xs :=
  own_frmL h hf (fun k hk hm => by
    obtain ⟨cs, hb, _⟩ := own_blkT h hk
    obtain ⟨t, cs', hb', hne⟩ := hl k hm hb.lt
    exact blk_neZ hb' hb hne rfl)
theorem frm_rowT {w w' : World} {row : Option Nat} (hg : w.grownBy w' row) : Frm row.toList w w' := ⟨hg.os, hg.tape, hg.output, hg.size, fun i hi hn => hg.block i hi (fun e => hn (by simp [← e]))⟩
theorem frm_appT {w w' : World} {row : Option Nat} (o : Obj) (hg : (w.alloc o).grownBy w' row) : Frm row.toList w w' := ((Frm.alloc w o).mono (l2 := row.toList) (fun i hi => by cases hi)).trans (frm_rowT hg) (fun i hi => .inl hi)
/-- A row whose end is cut off. -/
theorem own_takeT {w : World} {base e s n m c : Nat} {A : Option Addr} {xs : List Value} (h : w.ownsRow base e s (.slice A n c) n xs) (hm : m ≤ n) : w.ownsRow base e s (.slice A m c) m (xs.take (m * s)) := by
  obtain ⟨h1, h2⟩ := h
  refine ⟨by rw [List.length_take, h1]; exact Nat.min_eq_left (Nat.mul_le_mul_right _ hm), ?_⟩
  rcases h2 with ⟨hv, h0⟩ | ⟨g, cap, cur, e1, hg, hh, h3, h4, h5, h6⟩
  · injection hv with ha _ hc
    subst ha hc h0
    exact .inl ⟨by rw [Nat.le_zero.1 hm], Nat.le_zero.1 hm⟩
  · injection e1 with ha _ hc
    subst ha hc
    refine .inr ⟨g, c, cur, rfl, hg, hh, Nat.le_trans hm h3, h4, h5, ?_⟩
    rw [← h6, List.take_take, Nat.min_eq_left (Nat.mul_le_mul_right _ hm)]
theorem own_slT {w : World} {base e s n : Nat} {v : Value} {xs : List Value} (h : w.ownsRow base e s v n xs) : ∃ A c, v = .slice A n c ∧ n ≤ c ∧ Sl w A (n * s) xs ∧ ∀ b o, A = some ⟨b, o, none⟩ → base ≤ b ∧ b < w.heap.size ∧ b ∈ v.ownBlock.toList := by
  have hlt := h.lt
  obtain ⟨hl, h2⟩ := h
  rcases h2 with ⟨rfl, rfl⟩ | ⟨g, cap, cur, rfl, hg, hh, hnc, hcm, hcs, ht⟩
  · exact ⟨none, 0, rfl, Nat.le_refl _, ⟨by simpa using hl, fun h => absurd h (by omega)⟩, fun b o e => by cases e⟩
  · refine ⟨some ⟨g, 0, none⟩, cap, rfl, hnc, ⟨hl, fun _ => ⟨g, 0, rfl, fun j u hu => ?_⟩⟩, fun b o e => by injection e with e; injection e with e1 e2; subst e1; exact ⟨(hlt g rfl).1, (hlt g rfl).2, by simp [Value.ownBlock]⟩⟩
    have h0 : w.ownsRow base e s (.slice (some ⟨g, 0, none⟩) n cap) n xs := ⟨hl, .inr ⟨g, cap, cur, rfl, hg, hh, hnc, hcm, hcs, ht⟩⟩
    have hj : j < n * s := by have := (List.getElem?_eq_some_iff.1 hu).1; omega
    rw [Nat.zero_add, h0.cellAt j hj]
    exact hu
/-- append, to a row of one's own, of whatever slice. -/
theorem run_appT (w : World) (base ty t e : Nat) (z : Value) (size bytes : Nat) (ht : Tryz.prog.underlying t = some (.slice e)) (hinfo : (Tryz.prog.info? e).map (fun i => (i.zero, i.size, i.bytes)) = some (some z, size, bytes)) (hz : z.cells.size = size) (hs0 : 0 < size) (hb0 : bytes ≤ 1000) (v : Value) (n : Nat) (xs : List Value) (hown : w.ownsRow base e size v n xs)
    (A : Option Addr) (m c : Nat) (news : List Value) (hr : Sl w A (m * size) news) (h1 : ∀ u ∈ news, u.oneCell' = true) (hb : n + m ≤ 10000000000) (hbase : base ≤ w.heap.size) :
    ∃ v' w', (Builtin.append_ #[t, t] ty #[v, .slice A m c]).run Tryz.prog w = .ok v' w' ∧ w'.ownsRow base e size v' (n + m) (xs ++ news) ∧ w.grownBy w' v.ownBlock ∧ (v'.ownBlock = v.ownBlock ∨ v'.ownBlock = some w.heap.size) := by
  obtain ⟨i, hi, hz0, hz1, hz2⟩ := info_parts hinfo
  rcases Nat.eq_zero_or_pos m with h0 | h0
  · subst h0
    have hn : news = [] := List.eq_nil_of_length_eq_zero (by have := hr.1; omega)
    subst hn
    exact ⟨v, w, run_append_nothing w base t ty e i size ht hi v n xs hown A c (by cases A <;> simp), by simpa using hown, World.grownBy.refl w _, .inl rfl⟩
  · obtain ⟨g, o, rfl, hc⟩ := hr.2 (Nat.mul_pos h0 hs0)
    obtain ⟨v', w', hrun, h2, h3, _, h5⟩ := run_append_own_at (P := Tryz.prog) w base t ty e i _ size bytes ht hi hz0 hz1 hz2 hz hs0 v n xs hown ⟨g, o, none⟩ m c news (by rw [hr.1])
      (Sl.adds ⟨hr.1, fun _ => ⟨g, o, rfl, hc⟩⟩) h1 (by simp only [maxLen]; omega) (Nat.le_trans (Nat.mul_le_mul hb hb0) (by omega)) hbase
    exact ⟨v', w', hrun, h2, h3, h5⟩
theorem wpList_appT {w : World} {ops : Array Oper} {rest : List Oper} {o : Oper} {a : Act} {Q : Exit → Act → World → Prop} (hgd : o.guard = none) (s x : Operand) (t e : Nat)
    (ho : o.op = .call { callee := .builtin .append, args := #[s, x], argTypes := #[t, t] })
    (z : Value) (size bytes : Nat) (ht : Tryz.prog.underlying t = some (.slice e)) (hinfo : (Tryz.prog.info? e).map (fun i => (i.zero, i.size, i.bytes)) = some (some z, size, bytes)) (hz : z.cells.size = size) (hs0 : 0 < size) (hb0 : bytes ≤ 1000)
    (base : Nat) (v : Value) (n : Nat) (xs : List Value) (hs : a.eval s = v) (hown : w.ownsRow base e size v n xs)
    (A : Option Addr) (m c : Nat) (news : List Value) (hx : a.eval x = .slice A m c) (hr : Sl w A (m * size) news) (h1 : ∀ u ∈ news, u.oneCell' = true) (hb : n + m ≤ 10000000000) (hbase : base ≤ w.heap.size)
    (h : ∀ v' w', w'.ownsRow base e size v' (n + m) (xs ++ news) → w.grownBy w' v.ownBlock → (v'.ownBlock = v.ownBlock ∨ v'.ownBlock = some w.heap.size) → wpList Tryz.prog ops Q rest (a.put o.dst v') w') : wpList Tryz.prog ops Q (o :: rest) a w := by
  refine wpList_plain hgd fun K hK => ?_
  obtain ⟨v', w', hrun, h2, h3, h4⟩ := run_appT w base o.type t e z size bytes ht hinfo hz hs0 hb0 v n xs hown A m c news hr h1 hb hbase
  unfold Oper.wp execOp
  simp only [ho, resolve, invoke, builtin, Sem.run_bind, Sem.run_pure, Result.andThen_ok, List.map_toArray, List.map_cons, List.map_nil, hs, hx, hrun]
  exact hK _ _ (h v' w' h2 h3 h4)
/-- A record as it lies. -/
structure RR where
  Ak : Option Addr
  nk : Nat
  ck : Nat
  Ad : Option Addr
  nd : Nat
  cd : Nat
  key : List Int
  dat : List Int
  e : Int
  m : Int
  u : Int
def RR.cells (r : RR) : List Value := [.slice r.Ak r.nk r.ck, .slice r.Ad r.nd r.cd, .int .u64 r.e, .int .u8 r.m, .int .u8 r.u]
structure RR.In (r : RR) (w : World) : Prop where
  key : Sl w r.Ak r.nk (nums .u8 r.key)
  dat : Sl w r.Ad r.nd (nums .u8 r.dat)
  hk : r.nk ≤ r.ck
  hd : r.nd ≤ r.cd
theorem RR.one (r : RR) : ∀ u ∈ r.cells, u.oneCell' = true := by
  intro u hu
  unfold RR.cells at hu
  simp only [List.mem_cons, List.not_mem_nil, or_false] at hu
  rcases hu with rfl | rfl | rfl | rfl | rfl <;> rfl
theorem RR.nk_eq {w : World} {r : RR} (h : r.In w) : r.key.length = r.nk := by have := h.key.1; rwa [nums_length] at this
theorem RR.nd_eq {w : World} {r : RR} (h : r.In w) : r.dat.length = r.nd := by have := h.dat.1; rwa [nums_length] at this
abbrev Sp3 := Int × Int × Int
def spC (p : Sp3) : List Value := [.int .u32 p.1, .int .u32 p.2.1, .int .u32 p.2.2]
def flatRR (l : List RR) : List Value := l.flatMap RR.cells
def flatSp (l : List Sp3) : List Value := l.flatMap spC
theorem flatRR_snoc (l : List RR) (r : RR) : flatRR l ++ r.cells = flatRR (l ++ [r]) := by simp [flatRR]
theorem flatSp_snoc (l : List Sp3) (p : Sp3) : flatSp l ++ spC p = flatSp (l ++ [p]) := by simp [flatSp]
theorem spC_one (p : Sp3) : ∀ u ∈ spC p, u.oneCell' = true := by
  intro u hu
  unfold spC at hu
  simp only [List.mem_cons, List.not_mem_nil, or_false] at hu
  rcases hu with rfl | rfl | rfl <;> rfl
theorem infoRec : (Tryz.prog.info? 51).map (fun i => (i.zero, i.size, i.bytes)) = some (some (.agg #[.slice none 0 0, .slice none 0 0, .int .u64 0, .int .u8 0, .int .u8 0]), 5, 64) := by kernel_rfl
theorem infoPlc : (Tryz.prog.info? 75).map (fun i => (i.zero, i.size, i.bytes)) = some (some (.agg #[.int .u32 0, .int .u32 0, .int .u32 0]), 3, 12) := by kernel_rfl
theorem blkSl5 {w : World} (t : Nat) (cs : List Value) (n : Nat) (hn : cs.length = n) : Sl (w.alloc (.cells cs.toArray t)) (some ⟨w.heap.size, 0, none⟩) n cs := by
  have h := (Blk.new w t cs).sl (off := 0) (n := n) (by omega)
  rwa [List.drop_zero, List.take_of_length_le (by omega)] at h
def HandOk (B gl gp : Nat) (vL vQ : Value) (rs : List RR) (ps : List Sp3) (r : RR) (p : Sp3) (w : World) (E : Ending) (w' : World) : Prop :=
  E = .returned .nilIface ∧ ∃ vL' vQ', Blk w' gl 49 [vL'] ∧ Blk w' gp 70 [vQ'] ∧ w'.ownsRow B 51 5 vL' (rs.length + 1) (flatRR (rs ++ [r])) ∧ w'.ownsRow B 75 3 vQ' (ps.length + 1) (flatSp (ps ++ [p])) ∧ Frm (gl :: gp :: (vL.ownBlock.toList ++ vQ.ownBlock.toList)) w w' ∧ (∀ k ∈ vL'.ownBlock.toList, k ∈ vL.ownBlock.toList ∨ w.heap.size ≤ k) ∧ (∀ k ∈ vQ'.ownBlock.toList, k ∈ vQ.ownBlock.toList ∨ w.heap.size ≤ k)
set_option maxRecDepth 100000 in
set_option maxHeartbeats 4000000 in
theorem hand_any (B gl gp : Nat) (vL vQ : Value) (rs : List RR) (ps : List Sp3) (r : RR) (p : Sp3) (ver off hl vt : Int) (w : World) (hgl : Blk w gl 49 [vL]) (hgp : Blk w gp 70 [vQ]) (hL : w.ownsRow B 51 5 vL rs.length (flatRR rs)) (hQ : w.ownsRow B 75 3 vQ ps.length (flatSp ps)) (hB : B ≤ w.heap.size) (h1 : rs.length ≤ 1000000) (h2 : ps.length ≤ 1000000) :
    Calls Tryz.prog 39 #[.agg #[.slice r.Ak r.nk r.ck, .slice r.Ad r.nd r.cd, .int .u64 r.e, .int .u64 ver, .int .u32 off, .int .u8 r.u, .int .u8 r.m, .int .i64 hl, .int .i64 vt], .agg #[.int .u32 p.1, .int .u32 p.2.1, .int .u32 p.2.2], .pointer (some ⟨gl, 0, none⟩), .pointer (some ⟨gp, 0, none⟩)] w (HandOk B gl gp vL vQ rs ps r p w) := by
  have HGL := Lib.hid hgl
  have HGP := Lib.hid hgp
  have HL := Lib.hid hL
  have HQ := Lib.hid hQ
  have HB := Lib.hid hB
  clear hgl hgp hL hQ hB
  go_enter Tryz.func39, Tryz.ntmps39
  go_upto_region 1 with fail
  have HE : Hid (Blk ((w.alloc (.cells #[.slice r.Ak r.nk r.ck, .slice r.Ad r.nd r.cd, .int .u64 r.e, .int .u64 ver, .int .u32 off, .int .u8 r.u, .int .u8 r.m, .int .i64 hl, .int .i64 vt] 91)).alloc (.cells #[.int .u32 p.1, .int .u32 p.2.1, .int .u32 p.2.2] 95)) w.heap.size 91 [.slice r.Ak r.nk r.ck, .slice r.Ad r.nd r.cd, .int .u64 r.e, .int .u64 ver, .int .u32 off, .int .u8 r.u, .int .u8 r.m, .int .i64 hl, .int .i64 vt]) := (Blk.new w 91 [.slice r.Ak r.nk r.ck, .slice r.Ad r.nd r.cd, .int .u64 r.e, .int .u64 ver, .int .u32 off, .int .u8 r.u, .int .u8 r.m, .int .i64 hl, .int .i64 vt]).alloc _
  have HP : Hid (Blk ((w.alloc (.cells #[.slice r.Ak r.nk r.ck, .slice r.Ad r.nd r.cd, .int .u64 r.e, .int .u64 ver, .int .u32 off, .int .u8 r.u, .int .u8 r.m, .int .i64 hl, .int .i64 vt] 91)).alloc (.cells #[.int .u32 p.1, .int .u32 p.2.1, .int .u32 p.2.2] 95)) (w.heap.size + 1) 95 [.int .u32 p.1, .int .u32 p.2.1, .int .u32 p.2.2]) := by
    have h := Blk.new (w.alloc (.cells #[.slice r.Ak r.nk r.ck, .slice r.Ad r.nd r.cd, .int .u64 r.e, .int .u64 ver, .int .u32 off, .int .u8 r.u, .int .u8 r.m, .int .i64 hl, .int .i64 vt] 91)) 95 [.int .u32 p.1, .int .u32 p.2.1, .int .u32 p.2.2]
    rw [World.size_alloc] at h
    exact h
  have HGL2 := Lib.hid ((HGL.out.alloc (.cells #[.slice r.Ak r.nk r.ck, .slice r.Ad r.nd r.cd, .int .u64 r.e, .int .u64 ver, .int .u32 off, .int .u8 r.u, .int .u8 r.m, .int .i64 hl, .int .i64 vt] 91)).alloc (.cells #[.int .u32 p.1, .int .u32 p.2.1, .int .u32 p.2.2] 95))
  have HGP2 := Lib.hid ((HGP.out.alloc (.cells #[.slice r.Ak r.nk r.ck, .slice r.Ad r.nd r.cd, .int .u64 r.e, .int .u64 ver, .int .u32 off, .int .u8 r.u, .int .u8 r.m, .int .i64 hl, .int .i64 vt] 91)).alloc (.cells #[.int .u32 p.1, .int .u32 p.2.1, .int .u32 p.2.2] 95))
  have HL2 := Lib.hid ((HL.out.alloc (.cells #[.slice r.Ak r.nk r.ck, .slice r.Ad r.nd r.cd, .int .u64 r.e, .int .u64 ver, .int .u32 off, .int .u8 r.u, .int .u8 r.m, .int .i64 hl, .int .i64 vt] 91)).alloc (.cells #[.int .u32 p.1, .int .u32 p.2.1, .int .u32 p.2.2] 95))
  have HQ2 := Lib.hid ((HQ.out.alloc (.cells #[.slice r.Ak r.nk r.ck, .slice r.Ad r.nd r.cd, .int .u64 r.e, .int .u64 ver, .int .u32 off, .int .u8 r.u, .int .u8 r.m, .int .i64 hl, .int .i64 vt] 91)).alloc (.cells #[.int .u32 p.1, .int .u32 p.2.1, .int .u32 p.2.2] 95))
  have HF2 : Hid (Frm [] w ((w.alloc (.cells #[.slice r.Ak r.nk r.ck, .slice r.Ad r.nd r.cd, .int .u64 r.e, .int .u64 ver, .int .u32 off, .int .u8 r.u, .int .u8 r.m, .int .i64 hl, .int .i64 vt] 91)).alloc (.cells #[.int .u32 p.1, .int .u32 p.2.1, .int .u32 p.2.2] 95))) := (Frm.alloc w _).andAlloc _
  have HB2 : Hid (B ≤ ((w.alloc (.cells #[.slice r.Ak r.nk r.ck, .slice r.Ad r.nd r.cd, .int .u64 r.e, .int .u64 ver, .int .u32 off, .int .u8 r.u, .int .u8 r.m, .int .i64 hl, .int .i64 vt] 91)).alloc (.cells #[.int .u32 p.1, .int .u32 p.2.1, .int .u32 p.2.2] 95)).heap.size) := Nat.le_trans HB.out HF2.out.size
  generalize ((w.alloc (.cells #[.slice r.Ak r.nk r.ck, .slice r.Ad r.nd r.cd, .int .u64 r.e, .int .u64 ver, .int .u32 off, .int .u8 r.u, .int .u8 r.m, .int .i64 hl, .int .i64 vt] 91)).alloc (.cells #[.int .u32 p.1, .int .u32 p.2.1, .int .u32 p.2.2] 95)) = w2 at *
  have q0 := HE.out.at_ (i := 0) rfl
  have q1 := HE.out.at_ (i := 1) rfl
  have q2 := HE.out.at_ (i := 2) rfl
  have q6 := HE.out.at_ (i := 6) rfl
  have q5 := HE.out.at_ (i := 5) rfl
  have g0 := HGL2.out.at_ (i := 0) rfl
  go_upto_region 2 with (at_builtin; refine wpList_appT rfl (.tmp 7) (.tmp 19) 49 51 rfl _ 5 64 Tryz.underlying49 infoRec rfl (by omega) (by omega) B vL rs.length (flatRR rs) rfl (HL2.out.alloc _) _ 1 1 r.cells rfl (blkSl5 _ _ 5 rfl) (RR.one r) (by omega) ?cx ?_; (case cx => rw [World.size_alloc]; have := HB2.out; omega); intro v20 w3 ho3 hg3 hat3; obtain ⟨A3, c3, hv3, _, _, _⟩ := own_slT ho3; subst hv3; have hf3 := frm_appT _ hg3; have HO3 := Lib.hid ho3; have HAT3 := Lib.hid hat3; have HGL3 := Lib.hid (HGL2.out.frm hf3 (own_neT HL2.out HGL2.out (by decide))); have g3 := HGL3.out.at_ (i := 0) rfl; have f3 := HGL3.out.frozen 0; clear ho3 hg3 hat3)
  have hf4 : Frm (gl :: vL.ownBlock.toList) w2 (w3.setCell ⟨gl, 0, none⟩ (.slice A3 (rs.length + 1) c3)) := (hf3.mono (l2 := gl :: vL.ownBlock.toList) (fun i hi => .inl (List.mem_cons_of_mem _ hi))).andSet ⟨gl, 0, none⟩ _ (.inl (List.mem_cons_self ..))
  have hty4 : ∀ k ∈ gl :: vL.ownBlock.toList, (∃ cs, Blk w2 k 49 cs) ∨ (∃ cs, Blk w2 k 51 cs) := fun k hk => by
    rcases List.mem_cons.1 hk with rfl | hk
    · exact .inl ⟨_, HGL2.out⟩
    · obtain ⟨cs, hb, _⟩ := own_blkT HL2.out hk
      exact .inr ⟨cs, hb⟩
  have HGL4 := Lib.hid (HGL3.out.set_ 0 (.slice A3 (rs.length + 1) c3))
  have HGP4 := Lib.hid (HGP2.out.frm hf4 (fun hm => by
    rcases hty4 _ hm with ⟨cs, h⟩ | ⟨cs, h⟩
    · exact blk_neZ h HGP2.out (by decide) rfl
    · exact blk_neZ h HGP2.out (by decide) rfl))
  have HP4 := Lib.hid (HP.out.frm hf4 (fun hm => by
    rcases hty4 _ hm with ⟨cs, h⟩ | ⟨cs, h⟩
    · exact blk_neZ h HP.out (by decide) rfl
    · exact blk_neZ h HP.out (by decide) rfl))
  have HQ4 := Lib.hid (own_frmT HQ2.out hf4 (fun k hk _ => by
    rcases hty4 _ hk with ⟨cs, h⟩ | ⟨cs, h⟩
    · exact ⟨_, _, h, by decide⟩
    · exact ⟨_, _, h, by decide⟩))
  have HO4 := Lib.hid (own_frmT HO3.out (Frm.set w3 ⟨gl, 0, none⟩ (.slice A3 (rs.length + 1) c3)) (fun k hk _ => by
    rw [List.mem_singleton] at hk
    subst hk
    exact ⟨_, _, HGL3.out, by decide⟩))
  have HF4 := Lib.hid hf4
  have HB4 : Hid (B ≤ (w3.setCell ⟨gl, 0, none⟩ (.slice A3 (rs.length + 1) c3)).heap.size) := Nat.le_trans HB2.out hf4.size
  clear q0 q1 q2 q5 q6 g0 g3 f3 hf3 hf4 hty4 HQ2 HO3 HGL3 HGP2 HP
  generalize w3.setCell ⟨gl, 0, none⟩ (.slice A3 (rs.length + 1) c3) = w4 at *
  have q0 := HP4.out.at_ (i := 0) rfl
  have q1 := HP4.out.at_ (i := 1) rfl
  have q2 := HP4.out.at_ (i := 2) rfl
  have g0 := HGP4.out.at_ (i := 0) rfl
  go_wp2_with (at_builtin; refine wpList_appT rfl (.tmp 21) (.tmp 29) 70 75 rfl _ 3 12 Tryz.underlying70 infoPlc rfl (by omega) (by omega) B vQ ps.length (flatSp ps) rfl (HQ4.out.alloc _) _ 1 1 (spC p) rfl (blkSl5 _ _ 3 rfl) (spC_one p) (by omega) ?cx ?_; (case cx => rw [World.size_alloc]; have := HB4.out; omega); intro v30 w5 ho5 hg5 hat5; obtain ⟨A5, c5, hv5, _, _, _⟩ := own_slT ho5; subst hv5; have hf5 := frm_appT _ hg5; have HO5 := Lib.hid ho5; have HAT5 := Lib.hid hat5; have HGP5 := Lib.hid (HGP4.out.frm hf5 (own_neT HQ4.out HGP4.out (by decide))); have g5 := HGP5.out.at_ (i := 0) rfl; have f5 := HGP5.out.frozen 0; clear ho5 hg5 hat5)
  have hf6 : Frm (gp :: vQ.ownBlock.toList) w4 (w5.setCell ⟨gp, 0, none⟩ (.slice A5 (ps.length + 1) c5)) := (hf5.mono (l2 := gp :: vQ.ownBlock.toList) (fun i hi => .inl (List.mem_cons_of_mem _ hi))).andSet ⟨gp, 0, none⟩ _ (.inl (List.mem_cons_self ..))
  have hty6 : ∀ k ∈ gp :: vQ.ownBlock.toList, (∃ cs, Blk w4 k 70 cs) ∨ (∃ cs, Blk w4 k 75 cs) := fun k hk => by
    rcases List.mem_cons.1 hk with rfl | hk
    · exact .inl ⟨_, HGP4.out⟩
    · obtain ⟨cs, hb, _⟩ := own_blkT HQ4.out hk
      exact .inr ⟨cs, hb⟩
  have r1 := HGL4.out.frm hf6 (fun hm => by
    rcases hty6 _ hm with ⟨cs, h⟩ | ⟨cs, h⟩
    · exact blk_neZ h HGL4.out (by decide) rfl
    · exact blk_neZ h HGL4.out (by decide) rfl)
  have r2 := HGP5.out.set_ 0 (.slice A5 (ps.length + 1) c5)
  have r3 := own_frmT HO4.out hf6 (fun k hk _ => by
    rcases hty6 _ hk with ⟨cs, h⟩ | ⟨cs, h⟩
    · exact ⟨_, _, h, by decide⟩
    · exact ⟨_, _, h, by decide⟩)
  have r4 := own_frmT HO5.out (Frm.set w5 ⟨gp, 0, none⟩ (.slice A5 (ps.length + 1) c5)) (fun k hk _ => by
    rw [List.mem_singleton] at hk
    subst hk
    exact ⟨_, _, HGP5.out, by decide⟩)
  rw [flatRR_snoc] at r3
  rw [flatSp_snoc] at r4
  have hs2 := HF2.out.size
  have hs4 := HF4.out.size
  go_ret
  refine ⟨by simp, _, _, r1, r2, r3, r4, ?_, ?_, ?_⟩
  · have a1 : Frm (gl :: gp :: (vL.ownBlock.toList ++ vQ.ownBlock.toList)) w w2 := HF2.out.mono (fun i hi => by cases hi)
    have a2 := a1.trans HF4.out (fun i hi => by
      rcases List.mem_cons.1 hi with rfl | hi
      · exact .inl (List.mem_cons_self ..)
      · exact .inl (List.mem_cons_of_mem _ (List.mem_cons_of_mem _ (List.mem_append_left _ hi))))
    exact a2.trans hf6 (fun i hi => by
      rcases List.mem_cons.1 hi with rfl | hi
      · exact .inl (List.mem_cons_of_mem _ (List.mem_cons_self ..))
      · exact .inl (List.mem_cons_of_mem _ (List.mem_cons_of_mem _ (List.mem_append_right _ hi))))
  · intro k hk
    rcases HAT3.out with h | h
    · rw [h] at hk; exact .inl hk
    · rw [h, World.size_alloc] at hk
      simp only [Option.toList_some, List.mem_singleton] at hk
      exact .inr (by omega)
  · intro k hk
    rcases HAT5.out with h | h
    · rw [h] at hk; exact .inl hk
    · rw [h, World.size_alloc] at hk
      simp only [Option.toList_some, List.mem_singleton] at hk
      exact .inr (by omega)
end Go.Proofs.YtpfmmbhbmdbmeaaGreatDoor
