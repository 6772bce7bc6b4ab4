/- spec.Oracle: what should be told. -/
import Derived.Test.YtanmgkpgfmkobaaOY
namespace Go.Proofs.Ytanmgkpgfmkobaa
open Go.Proofs.YtanmgkpgfmkobaaW.PrintLast
open Go.RowKit
set_option linter.unusedVariables false
set_option linter.unusedSimpArgs false
set_option maxRecDepth 100000
def toT (q : Nat × Bool × Nat) : OTold := ⟨q.1, q.2.1, 0, q.2.2⟩
/-- The reference's bounds. -/
structure SQ (first i : Nat) (s : SSt) : Prop where
  one : 1 ≤ s.next
  nx : s.next ≤ first + i
  tx : s.txs.length ≤ i
  each : ∀ x ∈ s.txs, x.read.length ≤ i ∧ x.writes.length ≤ i
  la : s.last.length ≤ i * 100
theorem SQ.act {first i : Nat} {s : SSt} {cf : Bool} {a : OAct} {r : SSt × Nat × Bool} (h : SQ first i s) (hi : i ≤ 100) (hr : s.act cf a = some r) : SQ first (i + 1) r.1 := by
  have hmore : SQ first (i + 1) s := ⟨h.one, by have := h.nx; omega, by have := h.tx; omega, fun x hx => by have := h.each x hx; omega, by have := h.la; omega⟩
  have hset : ∀ (t : Nat) (x y : STx), s.txs[t]? = some x → y.read.length ≤ x.read.length + 1 → y.writes.length ≤ x.writes.length + 1 → SQ first (i + 1) { s with txs := s.txs.set t y } := fun t x y hx h1 h2 => by
    refine ⟨hmore.one, hmore.nx, by rw [List.length_set]; exact hmore.tx, fun z hz => ?_, hmore.la⟩
    have hb := h.each x (List.mem_of_getElem? hx)
    rcases List.mem_or_eq_of_mem_set hz with hz | rfl
    · exact hmore.each z hz
    · omega
  unfold SSt.act at hr
  split at hr
  · injection hr with hr
    subst hr
    refine ⟨h.one, hmore.nx, by rw [List.length_append]; have := h.tx; simp; omega, fun z hz => ?_, hmore.la⟩
    rcases List.mem_append.1 hz with hz | hz
    · exact hmore.each z hz
    · rw [List.mem_singleton] at hz
      subst hz
      exact ⟨Nat.zero_le _, Nat.zero_le _⟩
  · split at hr
    · cases hr
    · split at hr
      · cases hr
      · rename_i x hx
        split at hr
        · cases hr
        · split at hr
          · injection hr with hr
            subst hr
            exact hset _ x _ hx (by simp) (by simp)
          · split at hr
            · injection hr with hr
              subst hr
              exact hset _ x _ hx (by simp) (by simp)
            · split at hr
              · injection hr with hr
                subst hr
                exact hset _ x _ hx (by simp) (by simp)
              · split at hr
                · split at hr
                  · injection hr with hr
                    subst hr
                    exact hmore
                  · injection hr with hr
                    subst hr
                    have h1 := hset _ x { x with ended := true } hx (by simp) (by simp)
                    refine ⟨by show 1 ≤ s.next + 1; omega, by have := h.nx; show s.next + 1 ≤ _; omega, h1.tx, h1.each, ?_⟩
                    have hb := h.each x (List.mem_of_getElem? hx)
                    have := h.la
                    show (s.last ++ _).length ≤ _
                    rw [List.length_append, List.length_map]
                    omega
                · cases hr
theorem sq_init (first : Nat) (h : 1 ≤ first) : SQ first 0 (sInit first) := ⟨h, Nat.le_refl _, Nat.le_refl _, fun x hx => (by cases hx), Nat.zero_le _⟩
def QPost (cf : Bool) (first : Nat) (l : List OAct) (n : Nat) (w : World) (E : Ending) (w' : World) : Prop :=
  Below w.heap.size w w' ∧ match sRun cf (sInit first) l with
  | none => E = .returned (.tuple #[.slice none 0 0, .bool false])
  | some L => ∃ A' c', E = .returned (.tuple #[.slice A' n c', .bool true]) ∧ w'.ownsRow w.heap.size 57 4 (.slice A' n c') n (flatT (L.map toT))
theorem QPost.no {cf : Bool} {first n : Nat} {l : List OAct} {w w' : World} (h : sRun cf (sInit first) l = none) (hb : Below w.heap.size w w') : QPost cf first l n w (.returned (.tuple #[.slice none 0 0, .bool false])) w' := by
  unfold QPost
  rw [h]
  exact ⟨hb, rfl⟩
theorem infoPQ : (Try.prog.info? 105).map (fun i => (i.zero, i.size, i.bytes)) = some (some (.pointer none), 1, 8) := by kernel_rfl
theorem infoCM : (Try.prog.info? 109).map (fun i => (i.zero, i.size, i.bytes)) = some (some (.agg #[.int .u64 0, .int .u64 0]), 2, 16) := by kernel_rfl
theorem wpList_append_pq {ops : Array Oper} {rest : List Oper} {o : Oper} {a : Act} {w : World} {Q : Exit → Act → World → Prop} (hgd : o.guard = none) (s x : Operand)
    (ho : o.op = .call { callee := .builtin .append, args := #[s, x], argTypes := #[103, 103] })
    (base : Nat) (v : Value) (n : Nat) (xs : List Value) (hs : a.eval s = v) (hown : w.ownsRow base 105 1 v n xs)
    (g c : Nat) (u : Value) (hx : a.eval x = .slice (some ⟨g, 0, none⟩) 1 c) (hb : w.cell? ⟨g, 0, none⟩ = some u) (h1 : u.oneCell' = true)
    (hn : n ≤ 1000000) (hbase : base ≤ w.heap.size)
    (h : ∀ v' w', w'.ownsRow base 105 1 v' (n + 1) (xs ++ [u]) → w.grownBy w' v.ownBlock → (v'.ownBlock = v.ownBlock ∨ v'.ownBlock = some w.heap.size) → wpList Try.prog ops Q rest (a.put o.dst v') w') :
    wpList Try.prog ops Q (o :: rest) a w := by
  obtain ⟨i, hi, hf⟩ := info_someO infoPQ
  simp only [Prod.mk.injEq] at hf
  obtain ⟨hz0, hz1, hz2⟩ := hf
  exact wpList_append_own_at w hgd s x 103 ho base 105 i _ 1 8 Try.underlying103 hi hz0 hz1 hz2 rfl (by omega) v n xs hs hown ⟨g, 0, none⟩ 1 c [u] hx rfl (fun j y hy => by
    match j, hy with
    | 0, hy =>
      simp only [List.getElem?_cons_zero, Option.some.injEq] at hy
      subst hy
      have e : (⟨g, 0, none⟩ : Addr).add 0 = ⟨g, 0, none⟩ := by simp [Addr.add]
      rw [e]; exact hb) (fun y hy => by rw [List.mem_singleton] at hy; subst hy; exact h1) (by simp [maxLen]; omega) (by omega) hbase (fun v' w' h2 h3 _ h4 => h v' w' h2 h3 h4)
theorem wpList_append_cm {ops : Array Oper} {rest : List Oper} {o : Oper} {a : Act} {w : World} {Q : Exit → Act → World → Prop} (hgd : o.guard = none) (s x : Operand)
    (ho : o.op = .call { callee := .builtin .append, args := #[s, x], argTypes := #[104, 104] })
    (base : Nat) (v : Value) (n : Nat) (xs : List Value) (hs : a.eval s = v) (hown : w.ownsRow base 109 2 v n xs)
    (g c : Nat) (news : List Value) (hx : a.eval x = .slice (some ⟨g, 0, none⟩) 1 c) (hl : news.length = 2) (hb : Blk w g 109 news) (h1 : ∀ u ∈ news, u.oneCell' = true)
    (hn : n ≤ 1000000) (hbase : base ≤ w.heap.size)
    (h : ∀ v' w', w'.ownsRow base 109 2 v' (n + 1) (xs ++ news) → w.grownBy w' v.ownBlock → (v'.ownBlock = v.ownBlock ∨ v'.ownBlock = some w.heap.size) → wpList Try.prog ops Q rest (a.put o.dst v') w') :
    wpList Try.prog ops Q (o :: rest) a w := by
  obtain ⟨i, hi, hf⟩ := info_someO infoCM
  simp only [Prod.mk.injEq] at hf
  obtain ⟨hz0, hz1, hz2⟩ := hf
  exact wpList_append_own_at w hgd s x 104 ho base 109 i _ 2 16 Try.underlying104 hi hz0 hz1 hz2 rfl (by omega) v n xs hs hown ⟨g, 0, none⟩ 1 c news hx (by omega) (fun j y hy => by
    have e : (⟨g, 0, none⟩ : Addr).add j = ⟨g, j, none⟩ := by cases j <;> simp [Addr.add]
    rw [e, hb.cell]; exact hy) h1 (by simp [maxLen]; omega) (by omega) hbase (fun v' w' h2 h3 _ h4 => h v' w' h2 h3 h4)
theorem qr_init (first : Nat) (w : World) : QR w.heap.size [] (sInit first) (((w.alloc (.cells #[] 57)).alloc (.cells #[] 105)).alloc (.cells #[] 109)) (fun _ => 0) (some ⟨w.heap.size + 1, 0, none⟩) 0 (some ⟨w.heap.size + 1 + 1, 0, none⟩) 0 (some ⟨w.heap.size, 0, none⟩) 0 [] := by
  have e1 : (w.alloc (.cells #[] 57)).heap.size = w.heap.size + 1 := World.size_alloc w _
  have e2 : ((w.alloc (.cells #[] 57)).alloc (.cells #[] 105)).heap.size = w.heap.size + 1 + 1 := by rw [World.size_alloc, e1]
  have h1 : (w.alloc (.cells #[] 57)).ownsRow w.heap.size 57 4 (.slice (some ⟨w.heap.size, 0, none⟩) 0 0) 0 [] := World.ownsRow_made w #[] 0 (Nat.le_refl _) (by simp [maxLen]) rfl
  have h2 : ((w.alloc (.cells #[] 57)).alloc (.cells #[] 105)).ownsRow w.heap.size 105 1 (.slice (some ⟨w.heap.size + 1, 0, none⟩) 0 0) 0 [] := by
    have h3 := World.ownsRow_made (base := w.heap.size) (e := 105) (size := 1) (w.alloc (.cells #[] 57)) #[] 0 (by rw [e1]; omega) (by simp [maxLen]) rfl
    rw [e1] at h3
    exact h3
  have h3 : (((w.alloc (.cells #[] 57)).alloc (.cells #[] 105)).alloc (.cells #[] 109)).ownsRow w.heap.size 109 2 (.slice (some ⟨w.heap.size + 1 + 1, 0, none⟩) 0 0) 0 [] := by
    have h3 := World.ownsRow_made (base := w.heap.size) (e := 109) (size := 2) ((w.alloc (.cells #[] 57)).alloc (.cells #[] 105)) #[] 0 (by rw [e2]; omega) (by simp [maxLen]) rfl
    rw [e2] at h3
    exact h3
  have f2 := Frm.alloc (w.alloc (.cells #[] 57)) (.cells #[] 105)
  have f3 := Frm.alloc ((w.alloc (.cells #[] 57)).alloc (.cells #[] 105)) (.cells #[] 109)
  refine ⟨⟨by rw [World.size_alloc, e2]; omega, fun _ _ => rfl, fun _ _ => rfl, rfl, fun t x g hx => by cases hx⟩, owns_of h2 (fun b hb => f3.block b (h2.lt b (Option.mem_toList.1 hb)).2 (by simp)), fun _ _ => rfl, h3, fun _ _ => rfl, ?_, fun _ _ => rfl⟩
  have h4 := owns_of h1 (fun b hb => f2.block b (h1.lt b (Option.mem_toList.1 hb)).2 (by simp))
  exact owns_of h4 (fun b hb => f3.block b (h4.lt b (Option.mem_toList.1 hb)).2 (by simp))
theorem run_on {cf : Bool} {q0 s : SSt} {l d : List OAct} {a : OAct} {pl : List (Nat × Bool × Nat)} {r : SSt × Nat × Bool} (h : sRun cf q0 l = (sRun cf s (a :: d)).map fun L => pl ++ L) (ha : s.act cf a = some r) : sRun cf q0 l = (sRun cf r.1 d).map fun L => (pl ++ [(r.2.1, r.2.2, r.1.next)]) ++ L := by
  rw [h]
  show Option.map _ (match s.act cf a with | none => none | some r => (sRun cf r.1 d).map fun q => (r.2.1, r.2.2, r.1.next) :: q) = _
  rw [ha]
  show Option.map _ (Option.map _ (sRun cf r.1 d)) = _
  rw [Option.map_map]
  congr 1
  funext L
  simp
theorem run_no {cf : Bool} {q0 s : SSt} {l d : List OAct} {a : OAct} {pl : List (Nat × Bool × Nat)} (h : sRun cf q0 l = (sRun cf s (a :: d)).map fun L => pl ++ L) (ha : s.act cf a = none) : sRun cf q0 l = none := by
  rw [h]
  show Option.map _ (match s.act cf a with | none => none | some r => (sRun cf r.1 d).map fun q => (r.2.1, r.2.2, r.1.next) :: q) = _
  rw [ha]
  rfl
theorem QR.begun {B c9 c10 c8 g : Nat} {gs : List Nat} {s : SSt} {w w1 w2 w3 : World} {ow : Nat → Nat} {A9 A10 A8 A9' : Option Addr} {c9' : Nat} {tl : List OTold} {x' : STx} (h : QR B gs s w ow A9 c9 A10 c10 A8 c8 tl) (hf1 : Frm [] w w1) (hn : TxQ w1 B g (.slice none 0 0) (.slice none 0 0) x') (hge : w.heap.size ≤ g) (hf2 : Frm [] w1 w2)
    (ho : w3.ownsRow B 105 1 (.slice A9' (gs.length + 1) c9') (gs.length + 1) (ptrQ gs ++ [.pointer (some ⟨g, 0, none⟩)])) (hg : w2.grownBy w3 (Value.slice A9 gs.length c9).ownBlock)
    (hat : (Value.slice A9' (gs.length + 1) c9').ownBlock = (Value.slice A9 gs.length c9).ownBlock ∨ (Value.slice A9' (gs.length + 1) c9').ownBlock = some w2.heap.size) :
    QR B (gs ++ [g]) { s with txs := s.txs ++ [x'] } w3 (upO ow w w1 (s.txs.length + 1)) A9' c9' A10 c10 A8 c8 tl ∧ Frm (Value.slice A9 gs.length c9).ownBlock.toList w w3 := by
  have hf := frmRowO hg
  have hq1 := h.qs.add hf1 hn (fun b hb => by
    rcases footQ_mem.1 hb with rfl | hb | hb
    · exact hge
    · cases hb
    · cases hb)
  have hq2 := hq1.idle hf2 (fun b hb => by cases hb)
  have hl := h.lst
  have kl := fun b hb => (hl.lt b (Option.mem_toList.1 hb)).2
  have hq3 := hq2.idle hf (fun b hb _ => (upO_old (kl b hb)).trans (h.l0 b hb))
  have h12 : Frm [] w w2 := hf1.trans hf2 (fun b hb => by cases hb)
  have hff : Frm (Value.slice A9 gs.length c9).ownBlock.toList w w3 := (h12.mono (fun _ h => by cases h)).trans hf (fun j hj => .inl hj)
  have k : ∀ b ∈ (Value.slice A9 gs.length c9).ownBlock.toList, ∃ cs, Blk w b 105 cs := fun b hb => by
    rcases hl.2 with ⟨h0, _⟩ | ⟨g', cap, cur, hv, _, hh, _⟩
    · rw [h0] at hb; cases hb
    · rw [hv] at hb
      simp only [Value.ownBlock, Option.toList_some, List.mem_singleton] at hb
      exact ⟨cur.toList, by unfold Blk; rw [Array.toArray_toList, hb]; exact hh⟩
  refine ⟨⟨hq3, ?_, fun b hb => ?_, owns_of h.com (fun b hb => hff.block b (h.com.lt b (Option.mem_toList.1 hb)).2 (fun hm => ?_)), fun b hb => (upO_old (h.com.lt b (Option.mem_toList.1 hb)).2).trans (h.c0 b hb), owns_of h.out (fun b hb => hff.block b (h.out.lt b (Option.mem_toList.1 hb)).2 (fun hm => ?_)), fun b hb => (upO_old (h.out.lt b (Option.mem_toList.1 hb)).2).trans (h.o0 b hb)⟩, hff⟩
  · rw [List.length_append, show ptrQ (gs ++ [g]) = ptrQ gs ++ [.pointer (some ⟨g, 0, none⟩)] by simp [ptrQ]]
    exact ho
  · rw [List.length_append, List.length_singleton] at hb
    rcases hat with e | e
    · rw [e] at hb; exact (upO_old (kl b hb)).trans (h.l0 b hb)
    · rw [e] at hb
      simp only [Option.toList_some, List.mem_singleton] at hb
      exact hq2.out b (by omega)
  · obtain ⟨cs, hb2⟩ := k b hm
    exact own_ne_blk h.com hb2 (by decide) hb
  · obtain ⟨cs, hb2⟩ := k b hm
    exact own_ne_blk h.out hb2 (by decide) hb
theorem TxQ.reads {w w1 w2 : World} {B g : Nat} {rv wv rv' : Value} {x : STx} {k : Int} (h : TxQ w B g rv wv x) (hf : Frm [] w w1) (ho : OwnO w2 B 28 rv' (nums .u64 (x.read ++ [k]))) (hg : w1.grownBy w2 rv.ownBlock) (hat : rv'.ownBlock = rv.ownBlock ∨ rv'.ownBlock = some w1.heap.size) :
    TxQ (w2.setCell ⟨g, 1, none⟩ rv') B g rv' wv { x with read := x.read ++ [k] } ∧ Frm (g :: rv.ownBlock.toList) w (w2.setCell ⟨g, 1, none⟩ rv') := by
  have h12 : Frm rv.ownBlock.toList w w2 := (hf.mono (fun _ h => by cases h)).trans (frmRowO hg) (fun j hj => .inl hj)
  have hb2 := h.blk.frm h12 h.gr
  have hw2 := h.wr.frm h12 (fun b hb hm => h.ne b hm hb)
  have hs := Frm.set w2 ⟨g, 1, none⟩ rv'
  refine ⟨⟨hb2.set_ 1 rv', ho.frm hs (fun b hb => ?_), hw2.frm hs (fun b hb => ?_), fun b hb hm => ?_⟩, (h12.mono (fun b hb => .inl (List.mem_cons_of_mem _ hb))).andSet _ _ (.inl (List.mem_cons_self ..))⟩
  · obtain ⟨cs, hk, _⟩ := ho.blk hb
    rw [List.mem_singleton]
    exact blk_neO hk hb2 (by decide)
  · rw [List.mem_singleton]
    exact fun e => h.gw (by rw [← show b = g from e]; exact hb)
  · rcases hat with e | e
    · rw [e] at hb; exact h.ne b hb hm
    · rw [e] at hb
      simp only [Option.toList_some, List.mem_singleton] at hb
      have h1 := ownO_lt h.wr b hm
      have h2 := hf.size
      omega
theorem TxQ.wrote {w w1 w2 : World} {B g : Nat} {rv wv wv' : Value} {x : STx} {k : Int} (h : TxQ w B g rv wv x) (hf : Frm [] w w1) (ho : OwnO w2 B 28 wv' (nums .u64 (x.writes ++ [k]))) (hg : w1.grownBy w2 wv.ownBlock) (hat : wv'.ownBlock = wv.ownBlock ∨ wv'.ownBlock = some w1.heap.size) :
    TxQ (w2.setCell ⟨g, 2, none⟩ wv') B g rv wv' { x with writes := x.writes ++ [k] } ∧ Frm (g :: wv.ownBlock.toList) w (w2.setCell ⟨g, 2, none⟩ wv') := by
  have h12 : Frm wv.ownBlock.toList w w2 := (hf.mono (fun _ h => by cases h)).trans (frmRowO hg) (fun j hj => .inl hj)
  have hb2 := h.blk.frm h12 h.gw
  have hw2 := h.rd.frm h12 (fun b hb hm => h.ne b hb hm)
  have hs := Frm.set w2 ⟨g, 2, none⟩ wv'
  refine ⟨⟨hb2.set_ 2 wv', hw2.frm hs (fun b hb => ?_), ho.frm hs (fun b hb => ?_), fun b hb hm => ?_⟩, (h12.mono (fun b hb => .inl (List.mem_cons_of_mem _ hb))).andSet _ _ (.inl (List.mem_cons_self ..))⟩
  · rw [List.mem_singleton]
    exact fun e => h.gr (by rw [← show b = g from e]; exact hb)
  · obtain ⟨cs, hk, _⟩ := ho.blk hb
    rw [List.mem_singleton]
    exact blk_neO hk hb2 (by decide)
  · rcases hat with e | e
    · rw [e] at hm; exact h.ne b hb hm
    · rw [e] at hm
      simp only [Option.toList_some, List.mem_singleton] at hm
      have h1 := ownO_lt h.rd b hb
      have h2 := hf.size
      omega
theorem TxQ.ends {w : World} {B g : Nat} {rv wv : Value} {x : STx} (h : TxQ w B g rv wv x) : TxQ (w.setCell ⟨g, 3, none⟩ (.bool true)) B g rv wv { x with ended := true } := by
  have hs := Frm.set w ⟨g, 3, none⟩ (.bool true)
  refine ⟨h.blk.set_ 3 (.bool true), h.rd.frm hs (fun b hb => ?_), h.wr.frm hs (fun b hb => ?_), h.ne⟩
  · rw [List.mem_singleton]
    exact fun e => h.gr (by rw [← show b = g from e]; exact hb)
  · rw [List.mem_singleton]
    exact fun e => h.gw (by rw [← show b = g from e]; exact hb)
def metQ (cf : Bool) (x : STx) (k : Int) (c : Int × Nat) : Bool := cf && (c.1 == k) && decide (x.rds < c.2)
theorem hitsQ_def (cf : Bool) (s : SSt) (x : STx) : s.hits cf x = x.read.any fun k => s.last.any (metQ cf x k) := rfl
/-- What a switch leaves. -/
structure SwQ (B : Nat) (gs : List Nat) (s : SSt) (w0 w : World) (ow : Nat → Nat) (A9 : Option Addr) (c9 : Nat) (A10 : Option Addr) (c10 : Nat) (A8 : Option Addr) (c8 : Nat) (tl : List OTold) (gt ver : Nat) (conf : Bool) : Prop where
  qr : QR B gs s w ow A9 c9 A10 c10 A8 c8 tl
  told : Blk w gt 57 [.int .u64 (ver : Int), .bool conf, .int .u64 0, .int .u64 0]
  g0 : ow gt = 0
  gn : gt ∉ (Value.slice A8 tl.length c8).ownBlock.toList
  gB : B ≤ gt
  bel : Below B w0 w
/-- A transaction turns under a switch. -/
theorem SwQ.set {B c9 c10 c8 gt ver t g : Nat} {conf : Bool} {gs : List Nat} {s : SSt} {w0 w w' : World} {ow : Nat → Nat} {A9 A10 A8 : Option Addr} {tl : List OTold} {L : List Nat} {x' : STx} {rv wv : Value} (h : SwQ B gs s w0 w ow A9 c9 A10 c10 A8 c8 tl gt ver conf) (hg : gs[t]? = some g) (hf : Frm L w w') (hL : ∀ b ∈ L, ow b = t + 1)
    (hn : TxQ w' B g rv wv x') (ho : ∀ b ∈ footQ g rv wv, b < w.heap.size → ow b = t + 1) : SwQ B gs { s with txs := s.txs.set t x' } w0 w' (upO ow w w' (t + 1)) A9 c9 A10 c10 A8 c8 tl gt ver conf :=
  ⟨h.qr.set hg hf (fun b hb _ => hL b hb) hn ho, h.told.frm hf (fun hm => by have := hL _ hm; have := h.g0; omega), (upO_old h.told.lt).trans h.g0, h.gn, h.gB, h.bel.trans (hf.below h.qr.qs.base (fun b hb => by
    by_cases hlt : b < B
    · have := hL b hb
      have := h.qr.qs.low b hlt
      omega
    · omega))⟩
theorem SwQ.frm {B c9 c10 c8 gt ver ver' : Nat} {conf conf' : Bool} {gs : List Nat} {s : SSt} {w0 w w' : World} {ow : Nat → Nat} {A9 A10 A8 : Option Addr} {tl : List OTold} (h : SwQ B gs s w0 w ow A9 c9 A10 c10 A8 c8 tl gt ver conf) (hf : Frm [gt] w w')
    (hb : Blk w' gt 57 [.int .u64 (ver' : Int), .bool conf', .int .u64 0, .int .u64 0]) : SwQ B gs s w0 w' ow A9 c9 A10 c10 A8 c8 tl gt ver' conf' :=
  ⟨h.qr.frm hf (fun b hm _ => by
    rw [List.mem_singleton] at hm
    subst hm
    exact ⟨h.g0, own_ne_blk h.qr.lst h.told (by decide), own_ne_blk h.qr.com h.told (by decide), h.gn⟩), hb, h.g0, h.gn, h.gB, h.bel.trans (hf.below h.qr.qs.base (fun b hm => by
    rw [List.mem_singleton] at hm
    subst hm
    exact h.gB))⟩
theorem SwQ.grow {B c9 c10 c8 gt ver : Nat} {conf : Bool} {gs : List Nat} {s : SSt} {w0 w w' : World} {ow : Nat → Nat} {A9 A10 A8 : Option Addr} {tl : List OTold} (h : SwQ B gs s w0 w ow A9 c9 A10 c10 A8 c8 tl gt ver conf) (hf : Frm [] w w') : SwQ B gs s w0 w' ow A9 c9 A10 c10 A8 c8 tl gt ver conf :=
  ⟨h.qr.frm hf (fun b hm => by cases hm), h.told.frm hf (by simp), h.g0, h.gn, h.gB, h.bel.trans (hf.below h.qr.qs.base (fun b hm => by cases hm))⟩
theorem SwQ.coms {B c9 c10 c8 c10' gt ver : Nat} {conf : Bool} {gs : List Nat} {s : SSt} {w0 w w' : World} {ow : Nat → Nat} {A9 A10 A8 A10' : Option Addr} {tl : List OTold} {t : Int × Nat} (h : SwQ B gs s w0 w ow A9 c9 A10 c10 A8 c8 tl gt ver conf)
    (ho : w'.ownsRow B 109 2 (.slice A10' (s.last.length + 1) c10') (s.last.length + 1) (flatC s.last ++ [.int .u64 t.1, .int .u64 (t.2 : Int)])) (hg : w.grownBy w' (Value.slice A10 s.last.length c10).ownBlock)
    (hat : (Value.slice A10' (s.last.length + 1) c10').ownBlock = (Value.slice A10 s.last.length c10).ownBlock ∨ (Value.slice A10' (s.last.length + 1) c10').ownBlock = some w.heap.size) :
    SwQ B gs { s with last := s.last ++ [t] } w0 w' ow A9 c9 A10' c10' A8 c8 tl gt ver conf :=
  ⟨h.qr.coms ho hg hat, h.told.frm (frmRowO hg) (own_ne_blk h.qr.com h.told (by decide)), h.g0, h.gn, h.gB, h.bel.trans ((frmRowO hg).below h.qr.qs.base (fun b hb => (h.qr.com.lt b (Option.mem_toList.1 hb)).1))⟩
theorem TxQ.apart {w w' : World} {B g e s n : Nat} {rv wv v : Value} {x : STx} {xs : List Value} (h : TxQ w B g rv wv x) (ho : w.ownsRow B e s v n xs) (hf : Frm v.ownBlock.toList w w') (h1 : 107 ≠ e) (h2 : 28 ≠ e) : TxQ w' B g rv wv x :=
  h.of fun b hb => hf.block b (h.lt b hb) fun hm => by
    rcases footQ_mem.1 hb with rfl | hb | hb
    · exact own_ne_blk ho h.blk h1 hm
    · obtain ⟨cs, hk, _⟩ := h.rd.blk hb
      exact own_ne_blk ho hk h2 hm
    · obtain ⟨cs, hk, _⟩ := h.wr.blk hb
      exact own_ne_blk ho hk h2 hm
set_option maxHeartbeats 8000000 in
theorem specOracle_any (cf : Bool) (first : Nat) (A : Option Addr) (n c : Nat) (l : List OAct) (w : World) (hA : Acts w A l) (hn : l.length = n) (hl : n ≤ 100) (q1 : 1 ≤ first) (q2 : first ≤ 1000) :
    Calls Try.prog 25 #[.bool cf, .int .u64 (first : Int), .slice A n c] w (QPost cf first l n w) := by
  have HA := Lib.hid hA
  have HN := Lib.hid hn
  clear hA hn
  go_enter Try.func25, Try.ntmps25
  go_wp2
  go_loopg [8, 9, 10, 11, 28] n (fun f v8 v9 v10 v11 v28 wr => ∃ (i : Nat) (gs : List Nat) (s : SSt) (ow : Nat → Nat) (A9 : Option Addr) (c9 : Nat) (A10 : Option Addr) (c10 : Nat) (A8 : Option Addr) (c8 : Nat) (pl : List (Nat × Bool × Nat)) (tl : List OTold), v28 = .int .i64 (i : Int) ∧ v8 = .slice A8 tl.length c8 ∧ v9 = .slice A9 gs.length c9 ∧ v10 = .slice A10 s.last.length c10 ∧ v11 = .int .u64 (s.next : Int) ∧ i ≤ n ∧ Hid (i + f = n) ∧
    Hid (sRun cf (sInit first) l = (sRun cf s (l.drop i)).map fun L => pl ++ L) ∧ Hid (pl.length = i ∧ tl = pl.map toT) ∧ Hid (SQ first i s) ∧ Hid (QR w.heap.size gs s wr ow A9 c9 A10 c10 A8 c8 tl) ∧ Hid (Below w.heap.size w wr))
  case atStart =>
    refine ⟨0, [], sInit first, fun _ => 0, some ⟨w.heap.size + 1, 0, none⟩, 0, some ⟨w.heap.size + 1 + 1, 0, none⟩, 0, some ⟨w.heap.size, 0, none⟩, 0, [], [], rfl, rfl, rfl, rfl, rfl, Nat.zero_le _, by simp [Hid], ?_, ⟨rfl, rfl⟩, sq_init first q1, qr_init first w, ?_⟩
    · rw [Hid, List.drop_zero]
      cases sRun cf (sInit first) l <;> rfl
    · exact (((Frm.alloc w _).andAlloc _).andAlloc _).below (Nat.le_refl _) (fun b hb => by cases hb)
  case round =>
    obtain ⟨i, gs, s, ow, A9, c9, A10, c10, A8, c8, pl, tl, rfl, rfl, rfl, rfl, rfl, hin, hf, hrun, hpl, hsq, hqr, hbl⟩ := hrel
    by_cases hlt : i < n
    · obtain ⟨a, ha⟩ : ∃ a, l[i]? = some a := ⟨_, List.getElem?_eq_getElem (by have := HN.out; omega)⟩
      have hlt2 : (i : Int) < (n : Int) := by omega
      obtain ⟨ga, oa, hAe, e0, e1, e2⟩ := (HA.out.below hbl.out).cells ha
      subst hAe
      have hd : l.drop i = a :: l.drop (i + 1) := by
        have hi := List.getElem?_eq_some_iff.1 ha
        rw [← List.getElem_cons_drop hi.1, hi.2]
      rw [hd] at hrun
      clear ha hd
      obtain ⟨gkO, rfl⟩ : ∃ g, gk = g + 1 := ⟨gk - 1, by have := hf.out; omega⟩
      --ROUND
      go_upto_region 6 with fail
      clear e0 e1 e2
      have hsz1 : (wr.alloc (.cells #[.int .i64 a.kind, .int .i64 a.txn, .int .u64 a.key] 55)).heap.size = wr.heap.size + 1 := World.size_alloc wr _
      have hba : Hid (Blk ((wr.alloc (.cells #[.int .i64 a.kind, .int .i64 a.txn, .int .u64 a.key] 55)).alloc (.cells #[.int .u64 0, .bool false, .int .u64 0, .int .u64 0] 57)) wr.heap.size 55 a.cells) := (Blk.new wr _ _).alloc _
      have hbt : Hid (Blk ((wr.alloc (.cells #[.int .i64 a.kind, .int .i64 a.txn, .int .u64 a.key] 55)).alloc (.cells #[.int .u64 0, .bool false, .int .u64 0, .int .u64 0] 57)) (wr.heap.size + 1) 57 [.int .u64 0, .bool false, .int .u64 0, .int .u64 0]) := by
        have := Blk.new (wr.alloc (.cells #[.int .i64 a.kind, .int .i64 a.txn, .int .u64 a.key] 55)) 57 [.int .u64 0, .bool false, .int .u64 0, .int .u64 0]
        rw [hsz1] at this
        exact this
      have hrb : Hid (QR w.heap.size gs s ((wr.alloc (.cells #[.int .i64 a.kind, .int .i64 a.txn, .int .u64 a.key] 55)).alloc (.cells #[.int .u64 0, .bool false, .int .u64 0, .int .u64 0] 57)) ow A9 c9 A10 c10 A8 c8 tl) := (hqr.out.alloc _).alloc _
      have hbb : Hid (Below w.heap.size w ((wr.alloc (.cells #[.int .i64 a.kind, .int .i64 a.txn, .int .u64 a.key] 55)).alloc (.cells #[.int .u64 0, .bool false, .int .u64 0, .int .u64 0] 57))) := (hbl.out.alloc hqr.out.qs.base _).alloc (by rw [hsz1]; have := hqr.out.qs.base; omega) _
      have hg0 : Hid (ow (wr.heap.size + 1) = 0) := hqr.out.qs.out _ (Nat.le_succ _)
      have hga0 : Hid (ow wr.heap.size = 0) := hqr.out.qs.out _ (Nat.le_refl _)
      have hgn : Hid (wr.heap.size + 1 ∉ (Value.slice A8 tl.length c8).ownBlock.toList) := fun hm => by
        have := (hqr.out.out.lt _ (Option.mem_toList.1 hm)).2
        omega
      have hgB : Hid (w.heap.size ≤ wr.heap.size + 1) := by have := hqr.out.qs.base; rw [Hid]; omega
      clear hsz1 hqr hbl HA
      generalize ((wr.alloc (.cells #[.int .i64 a.kind, .int .i64 a.txn, .int .u64 a.key] 55)).alloc (.cells #[.int .u64 0, .bool false, .int .u64 0, .int .u64 0] 57)) = wb at *
      generalize hga : wr.heap.size = ga at *
      generalize hgt : ga + 1 = gt at *
      have HGT := Lib.hid (And.intro hga hgt)
      clear hga hgt
      have k0 : wb.cell? ⟨ga, 0, none⟩ = some (.int .i64 a.kind) := hba.out.at_ rfl
      have k1 : wb.cell? ⟨ga, 1, none⟩ = some (.int .i64 a.txn) := hba.out.at_ rfl
      have k2 : wb.cell? ⟨ga, 2, none⟩ = some (.int .u64 a.key) := hba.out.at_ rfl
      have H01 := Lib.hid hrb.out.qs.len
      have htl : tl.length ≤ 100 := by have h1 := hpl.out.1; have h2 := hpl.out.2; rw [h2, List.length_map]; omega
      have hgl : gs.length ≤ 100 := by have h1 := H01.out; have h2 := hsq.out.tx; omega
      have hrunE : Hid (sRun cf s (a :: l.drop (i + 1)) = match s.act cf a with | none => none | some r => (sRun cf r.1 (l.drop (i + 1))).map fun q => (r.2.1, r.2.2, r.1.next) :: q) := rfl
      by_cases hk0 : a.kind = 0
      · have hk0b : (a.kind == 0) = true := by rw [hk0]; rfl
        obtain ⟨m0, hm0⟩ : ∃ m0, s.next = m0 + 1 := ⟨s.next - 1, by have := hsq.out.one; omega⟩
        have HM0 := Lib.hid hm0
        have hm0le : (m0 : Int) ≤ 2000 := by have := hsq.out.nx; omega
        have hm00 : (0 : Int) ≤ (m0 : Int) := by omega
        rw [hm0]
        clear hm0
        have hact : Hid (s.act cf a = some ({ s with txs := s.txs ++ [⟨m0, [], [], false⟩] }, m0, false)) := by
          rw [Hid]
          unfold SSt.act
          rw [if_pos hk0, show s.next - 1 = m0 by have := HM0.out; omega]
        have hb1 : Hid (Blk (wb.alloc (.cells #[.int .u64 (m0 : Int), .slice none 0 0, .slice none 0 0, .bool false] 107)) wb.heap.size 107 [.int .u64 (m0 : Int), .slice none 0 0, .slice none 0 0, .bool false]) := Blk.new wb _ _
        have hz1 : Hid ((wb.alloc (.cells #[.int .u64 (m0 : Int), .slice none 0 0, .slice none 0 0, .bool false] 107)).heap.size = wb.heap.size + 1) := World.size_alloc wb _
        have hf2 : Hid (Frm [] (wb.alloc (.cells #[.int .u64 (m0 : Int), .slice none 0 0, .slice none 0 0, .bool false] 107)) ((wb.alloc (.cells #[.int .u64 (m0 : Int), .slice none 0 0, .slice none 0 0, .bool false] 107)).alloc (.cells #[.pointer (some ⟨wb.heap.size, 0, none⟩)] 105))) := Frm.alloc _ _
        have hl2 : Hid (((wb.alloc (.cells #[.int .u64 (m0 : Int), .slice none 0 0, .slice none 0 0, .bool false] 107)).alloc (.cells #[.pointer (some ⟨wb.heap.size, 0, none⟩)] 105)).ownsRow w.heap.size 105 1 (.slice A9 gs.length c9) gs.length (ptrQ gs)) := ((hrb.out.alloc (.cells #[.int .u64 (m0 : Int), .slice none 0 0, .slice none 0 0, .bool false] 107)).alloc (.cells #[.pointer (some ⟨wb.heap.size, 0, none⟩)] 105)).lst
        have hc2 : Hid (((wb.alloc (.cells #[.int .u64 (m0 : Int), .slice none 0 0, .slice none 0 0, .bool false] 107)).alloc (.cells #[.pointer (some ⟨wb.heap.size, 0, none⟩)] 105)).cell? ⟨wb.heap.size + 1, 0, none⟩ = some (.pointer (some ⟨wb.heap.size, 0, none⟩))) := by
          have h1 := Blk.at_ (Blk.new (wb.alloc (.cells #[.int .u64 (m0 : Int), .slice none 0 0, .slice none 0 0, .bool false] 107)) 105 [.pointer (some ⟨wb.heap.size, 0, none⟩)]) (i := 0) (v := .pointer (some ⟨wb.heap.size, 0, none⟩)) rfl
          rw [hz1.out] at h1
          exact h1
        have hB2 : Hid (w.heap.size ≤ ((wb.alloc (.cells #[.int .u64 (m0 : Int), .slice none 0 0, .slice none 0 0, .bool false] 107)).alloc (.cells #[.pointer (some ⟨wb.heap.size, 0, none⟩)] 105)).heap.size) := ((hrb.out.alloc (.cells #[.int .u64 (m0 : Int), .slice none 0 0, .slice none 0 0, .bool false] 107)).alloc (.cells #[.pointer (some ⟨wb.heap.size, 0, none⟩)] 105)).qs.base
        go_upto_region 8 with (at_builtin; (refine wpList_append_pq rfl (.tmp 36) (.tmp 41) rfl w.heap.size (.slice A9 gs.length c9) gs.length (ptrQ gs) rfl hl2.out (wb.heap.size + 1) 1 (.pointer (some ⟨wb.heap.size, 0, none⟩)) rfl hc2.out rfl (by omega) hB2.out ?_; intro v3 w3 ho3 hg3 hat3))
        obtain ⟨A3, c3, rfl⟩ : ∃ A c, v3 = .slice A (gs.length + 1) c := by
          rcases ho3.2 with ⟨_, h0⟩ | ⟨g, cap, cur, rfl, _⟩
          · omega
          · exact ⟨_, _, rfl⟩
        obtain ⟨hq3, hf3⟩ := hrb.out.begun (x' := ⟨m0, [], [], false⟩) (Frm.alloc wb (.cells #[.int .u64 (m0 : Int), .slice none 0 0, .slice none 0 0, .bool false] 107)) ⟨hb1.out, .inl ⟨rfl, rfl⟩, .inl ⟨rfl, rfl⟩, fun b hb => by cases hb⟩ (Nat.le_refl _) hf2.out ho3 hg3 hat3
        have HQ3 := Lib.hid hq3
        have HF3 := Lib.hid hf3
        have ht3 : Hid (Blk w3 gt 57 [.int .u64 0, .bool false, .int .u64 0, .int .u64 0]) := hbt.out.frm hf3 (own_ne_blk hrb.out.lst hbt.out (by decide))
        have hg3' : Hid (upO ow wb (wb.alloc (.cells #[.int .u64 (m0 : Int), .slice none 0 0, .slice none 0 0, .bool false] 107)) (s.txs.length + 1) gt = 0) := (upO_old hbt.out.lt).trans hg0.out
        have hbw3 : Hid (Below w.heap.size w w3) := hbb.out.trans (hf3.below hrb.out.qs.base (fun b hb => (hrb.out.lst.lt b (Option.mem_toList.1 hb)).1))
        clear hq3 hf3 ho3 hg3 hat3 hb1 hz1 hf2 hl2 hc2 hB2 hrb hbb hbt hba k0 k1 k2 hg0 hga0 HF3
        generalize upO ow wb (wb.alloc (.cells #[.int .u64 (m0 : Int), .slice none 0 0, .slice none 0 0, .bool false] 107)) (s.txs.length + 1) = ow3 at *
        generalize wb.heap.size = gx at *
        have z0 : w3.cell? ⟨gt, 0, none⟩ = some (.int .u64 0) := ht3.out.at_ rfl
        have z3 : w3.cell? ⟨gt, 3, none⟩ = some (.int .u64 0) := ht3.out.at_ rfl
        have f0 := ht3.out.frozen 0
        have f3 := ht3.out.frozen 3
        go_upto_region 9 with fail
        have ht5 : Hid (Blk ((w3.setCell ⟨gt, 0, none⟩ (.int .u64 (m0 : Int))).setCell ⟨gt, 3, none⟩ (.int .u64 ((m0 : Int) + 1))) gt 57 [.int .u64 (m0 : Int), .bool false, .int .u64 0, .int .u64 ((m0 : Int) + 1)]) := (ht3.out.set_ 0 (.int .u64 (m0 : Int))).set_ 3 (.int .u64 ((m0 : Int) + 1))
        have hf5 : Hid (Frm [gt] w3 ((w3.setCell ⟨gt, 0, none⟩ (.int .u64 (m0 : Int))).setCell ⟨gt, 3, none⟩ (.int .u64 ((m0 : Int) + 1)))) := (Frm.set w3 ⟨gt, 0, none⟩ _).andSet ⟨gt, 3, none⟩ _ (.inl (by simp))
        have hq5 : Hid (QR w.heap.size (gs ++ [gx]) { s with txs := s.txs ++ [⟨m0, [], [], false⟩] } ((w3.setCell ⟨gt, 0, none⟩ (.int .u64 (m0 : Int))).setCell ⟨gt, 3, none⟩ (.int .u64 ((m0 : Int) + 1))) ow3 A3 c3 A10 c10 A8 c8 tl) := HQ3.out.frm hf5.out (fun b hm _ => by
          rw [List.mem_singleton] at hm
          subst hm
          exact ⟨hg3'.out, own_ne_blk HQ3.out.lst ht3.out (by decide), own_ne_blk HQ3.out.com ht3.out (by decide), hgn.out⟩)
        have hb5 : Hid (Below w.heap.size w ((w3.setCell ⟨gt, 0, none⟩ (.int .u64 (m0 : Int))).setCell ⟨gt, 3, none⟩ (.int .u64 ((m0 : Int) + 1)))) := hbw3.out.trans (hf5.out.below HQ3.out.qs.base (fun b hm => by
          rw [List.mem_singleton] at hm
          subst hm
          exact hgB.out))
        clear z0 z3 f0 f3 HQ3 ht3 hf5 hbw3
        generalize ((w3.setCell ⟨gt, 0, none⟩ (.int .u64 (m0 : Int))).setCell ⟨gt, 3, none⟩ (.int .u64 ((m0 : Int) + 1))) = w5 at *
        have t0 : w5.cell? ⟨gt, 0, none⟩ = some (.int .u64 (m0 : Int)) := ht5.out.at_ rfl
        have t1 : w5.cell? ⟨gt, 1, none⟩ = some (.bool false) := ht5.out.at_ rfl
        have t2 : w5.cell? ⟨gt, 2, none⟩ = some (.int .u64 0) := ht5.out.at_ rfl
        have t3 : w5.cell? ⟨gt, 3, none⟩ = some (.int .u64 ((m0 : Int) + 1)) := ht5.out.at_ rfl
        have hq6 : Hid (QR w.heap.size (gs ++ [gx]) { s with txs := s.txs ++ [⟨m0, [], [], false⟩] } (w5.alloc (.cells #[.int .u64 (m0 : Int), .bool false, .int .u64 0, .int .u64 ((m0 : Int) + 1)] 57)) ow3 A3 c3 A10 c10 A8 c8 tl) := hq5.out.alloc _
        have hn6 : Hid (Blk (w5.alloc (.cells #[.int .u64 (m0 : Int), .bool false, .int .u64 0, .int .u64 ((m0 : Int) + 1)] 57)) w5.heap.size 57 [.int .u64 (m0 : Int), .bool false, .int .u64 0, .int .u64 ((m0 : Int) + 1)]) := Blk.new w5 _ _
        have hb6 : Hid (Below w.heap.size w (w5.alloc (.cells #[.int .u64 (m0 : Int), .bool false, .int .u64 0, .int .u64 ((m0 : Int) + 1)] 57))) := hb5.out.alloc hq5.out.qs.base _
        go_wp2_with (at_builtin; (refine wpList_append_td rfl (.tmp 48) (.tmp 50) rfl w.heap.size (.slice A8 tl.length c8) tl.length (flatT tl) rfl hq6.out.out w5.heap.size 1 [.int .u64 (m0 : Int), .bool false, .int .u64 0, .int .u64 ((m0 : Int) + 1)] rfl rfl hn6.out (by simp [Value.oneCell']) (by omega) hq6.out.qs.base ?_; intro v9 w9 ho9 hg9 hat9))
        obtain ⟨A9', c9', rfl⟩ : ∃ A c, v9 = .slice A (tl.length + 1) c := by
          rcases ho9.2 with ⟨_, h0⟩ | ⟨g, cap, cur, rfl, _⟩
          · omega
          · exact ⟨_, _, rfl⟩
        go_roundg gkO
        case measure => omega
        case rel =>
          have hr := run_on hrun.out hact.out
          have hnx : s.next = m0 + 1 := HM0.out
          refine ⟨i + 1, gs ++ [gx], { s with txs := s.txs ++ [⟨m0, [], [], false⟩] }, ow3, A3, c3, A10, c10, A9', c9', pl ++ [(m0, false, s.next)], tl ++ [(⟨m0, false, 0, s.next⟩ : OTold)], rfl, by rw [List.length_append]; rfl, by rw [List.length_append]; rfl, rfl, ?_, by omega, by have := hf.out; show _ = _; omega, hr, ⟨?_, ?_⟩, hsq.out.act (by omega) hact.out, ?_, ?_⟩
          · show Value.int .u64 ((m0 : Int) + 1) = .int .u64 (s.next : Int)
            rw [hnx]
            rfl
          · rw [List.length_append, hpl.out.1]; rfl
          · rw [hpl.out.2, List.map_append]; rfl
          · exact hq6.out.outs (t := ⟨m0, false, 0, s.next⟩) (by
              have e : OTold.cells ⟨m0, false, 0, s.next⟩ = [.int .u64 (m0 : Int), .bool false, .int .u64 0, .int .u64 ((m0 : Int) + 1)] := by
                rw [hnx]; rfl
              rw [e]
              exact ho9) hg9 hat9
          · exact hb6.out.trans ((frmRowO hg9).below hq6.out.qs.base (fun b hb => (hq6.out.out.lt b (Option.mem_toList.1 hb)).1))
      have hk0b : (a.kind == 0) = false := by rw [beq_eq_false_iff_ne]; exact hk0
      by_cases hneg : a.txn < 0
      · have hact : s.act cf a = none := by unfold SSt.act; rw [if_neg hk0, if_pos hneg]
        have HNO := Lib.hid (QPost.no (n := n) (run_no hrun.out hact) hbb.out)
        clear hact
        go_wp2
        go_ret2
        exact HNO.out
      obtain ⟨t, ht⟩ : ∃ t : Nat, a.txn = (t : Int) := ⟨a.txn.toNat, by omega⟩
      have HT := Lib.hid ht
      rw [ht] at k1
      have hneg2 : ¬ ((t : Int) < 0) := by omega
      clear hneg ht
      by_cases hge : gs.length ≤ t
      · have hge2 : (gs.length : Int) ≤ (t : Int) := by omega
        have hact : s.act cf a = none := by
          unfold SSt.act
          rw [if_neg hk0, HT.out, if_neg (by omega), Int.toNat_natCast, List.getElem?_eq_none (by have := H01.out; omega)]
        have HNO := Lib.hid (QPost.no (n := n) (run_no hrun.out hact) hbb.out)
        clear hact
        go_wp2
        go_ret2
        exact HNO.out
      have hge2 : (t : Int) < (gs.length : Int) := by omega
      obtain ⟨x, hx⟩ : ∃ x, s.txs[t]? = some x := ⟨_, List.getElem?_eq_getElem (by have := H01.out; omega)⟩
      obtain ⟨g, hg⟩ : ∃ q, gs[t]? = some q := ⟨_, List.getElem?_eq_getElem (by omega)⟩
      obtain ⟨g9, cs9, hA9, hbk9, _, _, _, _, htk9⟩ := own_cells hrb.out.lst (by omega)
      subst hA9
      have e9 : wb.cell? ⟨g9, t, none⟩ = some (.pointer (some ⟨g, 0, none⟩)) := by
        rw [hbk9.cell]
        have h1 : (ptrQ gs)[t]? = some (.pointer (some ⟨g, 0, none⟩)) := by unfold ptrQ; rw [List.getElem?_map, hg]; rfl
        rw [← htk9, List.getElem?_take_of_lt (by omega)] at h1
        exact h1
      obtain ⟨rv, wv, htx, hto⟩ := hrb.out.qs.each t x g hx hg
      have HX := Lib.hid hx
      have HG := Lib.hid hg
      have HTX := Lib.hid htx
      have HTO := Lib.hid hto
      have hxm := hsq.out.each x (List.mem_of_getElem? hx)
      have HXM := Lib.hid hxm
      have x3 : wb.cell? ⟨g, 3, none⟩ = some (.bool x.ended) := htx.blk.at_ rfl
      have hact0 : Hid (s.act cf a = (if x.ended = true then none
        else if a.kind = 1 then some ({ s with txs := s.txs.set t { x with read := x.read ++ [a.key] } }, 0, false)
        else if a.kind = 2 then some ({ s with txs := s.txs.set t { x with writes := x.writes ++ [a.key] } }, 0, false)
        else if a.kind = 4 then some ({ s with txs := s.txs.set t { x with ended := true } }, 0, false)
        else if a.kind = 3 then
          if s.hits cf x = true then some (s, 0, true)
          else some ({ next := s.next + 1, txs := s.txs.set t { x with ended := true }, last := s.last ++ x.writes.map fun k => (k, s.next) }, s.next, false)
        else none)) := by
        rw [Hid]
        unfold SSt.act
        rw [if_neg hk0, HT.out, if_neg (by omega), Int.toNat_natCast, HX.out]
      clear hx hg hbk9 htk9 htx hto hxm
      cases hen : x.ended with
      | true =>
        rw [hen] at x3
        have hact : s.act cf a = none := by rw [hact0.out, if_pos hen]
        have HNO := Lib.hid (QPost.no (n := n) (run_no hrun.out hact) hbb.out)
        clear hact hen
        go_wp2
        go_ret2
        exact HNO.out
      | false =>
        rw [hen] at x3
        have HEN := Lib.hid hen
        clear hen
        go_upto_region 13 with fail
        go_upto_block 2 with fail
        go_cut [10, 11] (fun v10 v11 wz => ∃ (s' : SSt) (ow' : Nat → Nat) (A10' : Option Addr) (c10' ver : Nat) (conf : Bool), v10 = .slice A10' s'.last.length c10' ∧ v11 = .int .u64 (s'.next : Int) ∧ Hid (s.act cf a = some (s', ver, conf)) ∧ Hid (SwQ w.heap.size gs s' w wz ow' (some ⟨g9, 0, none⟩) c9 A10' c10' A8 c8 tl gt ver conf))
        case first =>
          by_cases hk1 : a.kind = 1
          · have hk1b : (a.kind == 1) = true := by rw [hk1]; rfl
            have HK1 := Lib.hid hk1
            clear hk1
            go_upto_region 16 with fail
            have r1 : wb.cell? ⟨g, 1, none⟩ = some rv := HTX.out.blk.at_ rfl
            have hsw0 : Hid (SwQ w.heap.size gs s w wb ow (some ⟨g9, 0, none⟩) c9 A10 c10 A8 c8 tl gt 0 false) := ⟨hrb.out, hbt.out, hg0.out, hgn.out, hgB.out, hbb.out⟩
            refine start_ (n := 12) (S := fun w' => w'.cell? ⟨g, 1, none⟩ = some rv ∧ w'.cell? ⟨ga, 2, none⟩ = some (.int .u64 a.key)) (ds := [11]) #[ff,ff,ff,ff,ff,ff,ff,ff,ff,ff,ff,ff] (by kernel_rfl) rfl rfl (⟨r1, k2⟩) (fun hHeld => ?_)
            have hsw1 : Hid (SwQ w.heap.size gs s w wb.drew ow (some ⟨g9, 0, none⟩) c9 A10 c10 A8 c8 tl gt 0 false) := hsw0.out.grow (Frm.refl [] wb).drew
            have htx1 : Hid (TxQ wb.drew w.heap.size g rv wv x) := HTX.out.of (fun b hb => rfl)
            have hbd : Hid (Blk wb.drew ga 55 a.cells) := hba.out
            clear hsw0 HTX r1 k0 k1 k2 e9 x3 hrb hbb hbt hba
            generalize wb.drew = wd at *
            refine pure_ (i := 0) (N := some 81) (v := ?_) (a' := ?_) #[tt,ff,ff,ff,ff,ff,ff,ff,ff,ff,ff,ff] rfl rfl (by kernel_rfl) (fun _ _ _ h => h) (Or.inl ⟨by rfl, ?_⟩) ?_ ?_; rotate_left; (intro w'; go_simp; with_reducible rfl); rotate_left; (simp only [Act.put, List.setIfInBounds_toArray, List.set_cons_zero, List.set_cons_succ, i64_w, i32_w]; rfl)
            refine pure_ (i := 1) (N := some 82) (v := ?_) (a' := ?_) #[tt,tt,ff,ff,ff,ff,ff,ff,ff,ff,ff,ff] rfl rfl (by kernel_rfl) (fun _ _ _ h => h) (Or.inl ⟨by rfl, ?_⟩) ?_ ?_; rotate_left; (intro w'; go_simp; with_reducible rfl); rotate_left; (simp only [Act.put, List.setIfInBounds_toArray, List.set_cons_zero, List.set_cons_succ, i64_w, i32_w]; rfl)
            refine pure_ (i := 2) (N := some 83) (v := ?_) (a' := ?_) #[tt,tt,tt,ff,ff,ff,ff,ff,ff,ff,ff,ff] rfl rfl (by kernel_rfl) (fun _ _ _ h => h) (Or.inl ⟨by rfl, ?_⟩) ?_ ?_; rotate_left; (intro w'; go_simp; with_reducible rfl); rotate_left; (simp only [Act.put, List.setIfInBounds_toArray, List.set_cons_zero, List.set_cons_succ, i64_w, i32_w]; rfl)
            refine pure_ (i := 3) (N := some 84) (v := ?_) (a' := ?_) #[tt,tt,tt,tt,ff,ff,ff,ff,ff,ff,ff,ff] rfl rfl (by kernel_rfl) (fun _ _ _ h => h) (Or.inl ⟨by rfl, ?_⟩) ?_ ?_; rotate_left; (intro w'; go_simp; with_reducible rfl); rotate_left; (simp only [Act.put, List.setIfInBounds_toArray, List.set_cons_zero, List.set_cons_succ, i64_w, i32_w]; rfl)
            refine take_ (i := 4) (N := some 85) (v := ?_) (a' := ?_) #[tt,tt,tt,tt,tt,ff,ff,ff,ff,ff,ff,ff] rfl rfl (by kernel_rfl) (fun _ _ _ h => h) (Or.inl ⟨by rfl, ?_⟩) hHeld ?_ ?_; rotate_left; (rintro w' ⟨d0, d1⟩; go_simp; with_reducible rfl); rotate_left; (simp only [Act.put, List.setIfInBounds_toArray, List.set_cons_zero, List.set_cons_succ, i64_w, i32_w]; rfl)
            refine pure_ (i := 5) (N := some 86) (v := ?_) (a' := ?_) #[tt,tt,tt,tt,tt,tt,ff,ff,ff,ff,ff,ff] rfl rfl (by kernel_rfl) (fun _ _ _ h => h) (Or.inl ⟨by rfl, ?_⟩) ?_ ?_; rotate_left; (intro w'; go_simp; with_reducible rfl); rotate_left; (simp only [Act.put, List.setIfInBounds_toArray, List.set_cons_zero, List.set_cons_succ, i64_w, i32_w]; rfl)
            refine take_ (i := 6) (N := some 87) (v := ?_) (a' := ?_) #[tt,tt,tt,tt,tt,tt,tt,ff,ff,ff,ff,ff] rfl rfl (by kernel_rfl) (fun _ _ _ h => h) (Or.inl ⟨by rfl, ?_⟩) hHeld ?_ ?_; rotate_left; (rintro w' ⟨d0, d1⟩; go_simp; with_reducible rfl); rotate_left; (simp only [Act.put, List.setIfInBounds_toArray, List.set_cons_zero, List.set_cons_succ, i64_w, i32_w]; rfl)
            refine one_ (i := 7) (N := some 88) #[tt,tt,tt,tt,tt,tt,tt,tt,ff,ff,ff,ff] rfl rfl (by kernel_rfl) (by decide) (fun K hK => ?_)
            refine Go.Proofs.YtanmgkpgfmkobaaW.PrintLast.value_ (v := .slice (some ⟨wd.heap.size, 0, none⟩) 1 1) (w1 := wd.alloc (.cells #[.int .u64 a.key] 28)) (by rfl) rfl ?_ ?_
            · go_simp
              try rfl
            refine hK.out _ _ (⟨cell_frm hHeld.1 (Frm.alloc wd _) (by simp), cell_frm hHeld.2 (Frm.alloc wd _) (by simp)⟩) (fun hHeld => ?_); clear hK K; refine norm_ (a' := ?_) ?_ ?_; rotate_left; (show Act.put _ (some 88) _ = _; simp only [Act.put, List.setIfInBounds_toArray, List.set_cons_zero, List.set_cons_succ, i64_w, i32_w]; rfl)
            have hfa : Hid (Frm [] wd (wd.alloc (.cells #[.int .u64 a.key] 28))) := Frm.alloc wd _
            have hBa : Hid (w.heap.size ≤ (wd.alloc (.cells #[.int .u64 a.key] 28)).heap.size) := (hsw1.out.grow hfa.out).qr.qs.base
            have hoa : Hid (OwnO (wd.alloc (.cells #[.int .u64 a.key] 28)) w.heap.size 28 rv (nums .u64 x.read)) := htx1.out.rd.frm hfa.out (fun _ _ h => by cases h)
            have hca : Hid ((wd.alloc (.cells #[.int .u64 a.key] 28)).cell? ⟨wd.heap.size, 0, none⟩ = some (.int .u64 a.key)) := Blk.at_ (Blk.new wd 28 [.int .u64 a.key]) rfl
            have hka : Hid (Blk (wd.alloc (.cells #[.int .u64 a.key] 28)) g 107 [.int .u64 (x.rds : Int), rv, wv, .bool x.ended]) := htx1.out.blk.alloc _
            have hkd : Hid (∃ cs, Blk (wd.alloc (.cells #[.int .u64 a.key] 28)) ga 55 cs ∧ cs[2]? = some (.int .u64 a.key)) := ⟨_, (hbd.out).alloc _, rfl⟩
            generalize hgx : wd.heap.size = gx at *
            generalize hwa : wd.alloc (.cells #[.int .u64 a.key] 28) = wa at *
            have HGX := Lib.hid (And.intro hgx hwa)
            clear hgx hwa
            refine one_ (i := 8) (N := some 89) #[tt,tt,tt,tt,tt,tt,tt,tt,tt,ff,ff,ff] rfl rfl (by kernel_rfl) (by decide) (fun K hK => ?_)
            refine step_appendO rfl (.tmp 85) (.tmp 88) rfl w.heap.size rv x.read rfl hoa.out gx 1 a.key rfl hca.out (by have := HXM.out; omega) hBa.out ?_
            intro v8 w8 ho8 hg8 hat8
            obtain ⟨Ar, cr, hv8, _, _⟩ := ho8.sl
            subst hv8
            have HO8 := Lib.hid ho8
            have HG8 := Lib.hid hg8
            have HA8 := Lib.hid hat8
            have hk8 : Hid (Blk w8 g 107 [.int .u64 (x.rds : Int), rv, wv, .bool x.ended]) := hka.out.frm (frmRowO hg8) (htx1.out.gr)
            have hd8 : Hid (∃ cs, Blk w8 ga 55 cs ∧ cs[2]? = some (.int .u64 a.key)) := by
              obtain ⟨cs, h1, h2⟩ := hkd.out
              exact ⟨cs, h1.frm (frmRowO hg8) (fun hm => by
                obtain ⟨cs', hb', _⟩ := hoa.out.blk hm
                exact blk_neO h1 hb' (by decide) rfl), h2⟩
            have hd8c : w8.cell? ⟨ga, 2, none⟩ = some (.int .u64 a.key) := by
              obtain ⟨cs, h1, h2⟩ := hd8.out
              exact h1.at_ h2
            clear ho8 hg8 hat8
            refine hK.out _ _ (⟨hk8.out.at_ rfl, hd8c⟩) (fun hHeld => ?_); clear hK K; refine norm_ (a' := ?_) ?_ ?_; rotate_left; (show Act.put _ (some 89) _ = _; simp only [Act.put, List.setIfInBounds_toArray, List.set_cons_zero, List.set_cons_succ, i64_w, i32_w]; rfl)
            refine pure_ (i := 9) (N := some 90) (v := ?_) (a' := ?_) #[tt,tt,tt,tt,tt,tt,tt,tt,tt,tt,ff,ff] rfl rfl (by kernel_rfl) (fun _ _ _ h => h) (Or.inl ⟨by rfl, ?_⟩) ?_ ?_; rotate_left; (intro w'; go_simp; with_reducible rfl); rotate_left; (simp only [Act.put, List.setIfInBounds_toArray, List.set_cons_zero, List.set_cons_succ, i64_w, i32_w]; rfl)
            refine pure_ (i := 10) (N := some 91) (v := ?_) (a' := ?_) #[tt,tt,tt,tt,tt,tt,tt,tt,tt,tt,tt,ff] rfl rfl (by kernel_rfl) (fun _ _ _ h => h) (Or.inl ⟨by rfl, ?_⟩) ?_ ?_; rotate_left; (intro w'; go_simp; with_reducible rfl); rotate_left; (simp only [Act.put, List.setIfInBounds_toArray, List.set_cons_zero, List.set_cons_succ, i64_w, i32_w]; rfl)
            have f1 := hk8.out.frozen 1
            have z1 : w8.cell? ⟨g, 1, none⟩ = some rv := hk8.out.at_ rfl
            refine last_ (i := 11) (N := none) #[tt,tt,tt,tt,tt,tt,tt,tt,tt,tt,tt,tt] rfl rfl (by kernel_rfl) (by decide) (fun K hK => ?_)
            refine Go.Proofs.YtanmgkpgfmkobaaW.PrintLast.skip_ (w1 := w8.setCell ⟨g, 1, none⟩ (.slice Ar (nums .u64 (x.read ++ [a.key])).length cr)) (by rfl) rfl ?_ ?_
            · simp [go_sem, f1, z1]
            refine hK.out _ _ ?_; clear hK K
            refine done_ (by kernel_rfl) ?_
            clear f1 z1 hHeld
            have hfin : Hid (∃ ow', SwQ w.heap.size gs { s with txs := s.txs.set t { x with read := x.read ++ [a.key] } } w (w8.setCell ⟨g, 1, none⟩ (.slice Ar (nums .u64 (x.read ++ [a.key])).length cr)) ow' (some ⟨g9, 0, none⟩) c9 A10 c10 A8 c8 tl gt 0 false) := by
              obtain ⟨e1, e2⟩ := HGX.out
              obtain ⟨h1, h2⟩ := htx1.out.reads hfa.out HO8.out HG8.out (by rcases HA8.out with e | e; exact .inl e; exact .inr e)
              refine ⟨_, hsw1.out.set HG.out h2 (fun b hb => ?_) h1 (fun b hb hlt => ?_)⟩
              · rcases List.mem_cons.1 hb with rfl | hb
                · exact HTO.out _ (footQ_mem.2 (.inl rfl))
                · exact HTO.out _ (footQ_mem.2 (.inr (.inl hb)))
              · rcases footQ_mem.1 hb with rfl | hb | hb
                · exact HTO.out _ (footQ_mem.2 (.inl rfl))
                · rcases HA8.out with e | e
                  · rw [e] at hb; exact HTO.out _ (footQ_mem.2 (.inr (.inl hb)))
                  · rw [e] at hb
                    simp only [Option.toList_some, List.mem_singleton] at hb
                    have := hfa.out.size
                    omega
                · exact HTO.out _ (footQ_mem.2 (.inr (.inr hb)))
            go_wp2
            go_meet
            obtain ⟨ow', hfin⟩ := hfin.out
            exact ⟨{ s with txs := s.txs.set t { x with read := x.read ++ [a.key] } }, ow', A10, c10, 0, false, rfl, rfl, by rw [Hid, hact0.out, if_neg (by rw [HEN.out]; simp), if_pos HK1.out], hfin⟩
          have hk1b : (a.kind == 1) = false := by rw [beq_eq_false_iff_ne]; exact hk1
          by_cases hk2 : a.kind = 2
          · have hk2b : (a.kind == 2) = true := by rw [hk2]; rfl
            have HK2 := Lib.hid hk2
            clear hk2
            go_upto_region 18 with fail
            have r1 : wb.cell? ⟨g, 2, none⟩ = some wv := HTX.out.blk.at_ rfl
            have hsw0 : Hid (SwQ w.heap.size gs s w wb ow (some ⟨g9, 0, none⟩) c9 A10 c10 A8 c8 tl gt 0 false) := ⟨hrb.out, hbt.out, hg0.out, hgn.out, hgB.out, hbb.out⟩
            refine start_ (n := 12) (S := fun w' => w'.cell? ⟨g, 2, none⟩ = some wv ∧ w'.cell? ⟨ga, 2, none⟩ = some (.int .u64 a.key)) (ds := [11]) #[ff,ff,ff,ff,ff,ff,ff,ff,ff,ff,ff,ff] (by kernel_rfl) rfl rfl (⟨r1, k2⟩) (fun hHeld => ?_)
            have hsw1 : Hid (SwQ w.heap.size gs s w wb.drew ow (some ⟨g9, 0, none⟩) c9 A10 c10 A8 c8 tl gt 0 false) := hsw0.out.grow (Frm.refl [] wb).drew
            have htx1 : Hid (TxQ wb.drew w.heap.size g rv wv x) := HTX.out.of (fun b hb => rfl)
            have hbd : Hid (Blk wb.drew ga 55 a.cells) := hba.out
            clear hsw0 HTX r1 k0 k1 k2 e9 x3 hrb hbb hbt hba
            generalize wb.drew = wd at *
            refine pure_ (i := 0) (N := some 94) (v := ?_) (a' := ?_) #[tt,ff,ff,ff,ff,ff,ff,ff,ff,ff,ff,ff] rfl rfl (by kernel_rfl) (fun _ _ _ h => h) (Or.inl ⟨by rfl, ?_⟩) ?_ ?_; rotate_left; (intro w'; go_simp; with_reducible rfl); rotate_left; (simp only [Act.put, List.setIfInBounds_toArray, List.set_cons_zero, List.set_cons_succ, i64_w, i32_w]; rfl)
            refine pure_ (i := 1) (N := some 95) (v := ?_) (a' := ?_) #[tt,tt,ff,ff,ff,ff,ff,ff,ff,ff,ff,ff] rfl rfl (by kernel_rfl) (fun _ _ _ h => h) (Or.inl ⟨by rfl, ?_⟩) ?_ ?_; rotate_left; (intro w'; go_simp; with_reducible rfl); rotate_left; (simp only [Act.put, List.setIfInBounds_toArray, List.set_cons_zero, List.set_cons_succ, i64_w, i32_w]; rfl)
            refine pure_ (i := 2) (N := some 96) (v := ?_) (a' := ?_) #[tt,tt,tt,ff,ff,ff,ff,ff,ff,ff,ff,ff] rfl rfl (by kernel_rfl) (fun _ _ _ h => h) (Or.inl ⟨by rfl, ?_⟩) ?_ ?_; rotate_left; (intro w'; go_simp; with_reducible rfl); rotate_left; (simp only [Act.put, List.setIfInBounds_toArray, List.set_cons_zero, List.set_cons_succ, i64_w, i32_w]; rfl)
            refine pure_ (i := 3) (N := some 97) (v := ?_) (a' := ?_) #[tt,tt,tt,tt,ff,ff,ff,ff,ff,ff,ff,ff] rfl rfl (by kernel_rfl) (fun _ _ _ h => h) (Or.inl ⟨by rfl, ?_⟩) ?_ ?_; rotate_left; (intro w'; go_simp; with_reducible rfl); rotate_left; (simp only [Act.put, List.setIfInBounds_toArray, List.set_cons_zero, List.set_cons_succ, i64_w, i32_w]; rfl)
            refine take_ (i := 4) (N := some 98) (v := ?_) (a' := ?_) #[tt,tt,tt,tt,tt,ff,ff,ff,ff,ff,ff,ff] rfl rfl (by kernel_rfl) (fun _ _ _ h => h) (Or.inl ⟨by rfl, ?_⟩) hHeld ?_ ?_; rotate_left; (rintro w' ⟨d0, d1⟩; go_simp; with_reducible rfl); rotate_left; (simp only [Act.put, List.setIfInBounds_toArray, List.set_cons_zero, List.set_cons_succ, i64_w, i32_w]; rfl)
            refine pure_ (i := 5) (N := some 99) (v := ?_) (a' := ?_) #[tt,tt,tt,tt,tt,tt,ff,ff,ff,ff,ff,ff] rfl rfl (by kernel_rfl) (fun _ _ _ h => h) (Or.inl ⟨by rfl, ?_⟩) ?_ ?_; rotate_left; (intro w'; go_simp; with_reducible rfl); rotate_left; (simp only [Act.put, List.setIfInBounds_toArray, List.set_cons_zero, List.set_cons_succ, i64_w, i32_w]; rfl)
            refine take_ (i := 6) (N := some 100) (v := ?_) (a' := ?_) #[tt,tt,tt,tt,tt,tt,tt,ff,ff,ff,ff,ff] rfl rfl (by kernel_rfl) (fun _ _ _ h => h) (Or.inl ⟨by rfl, ?_⟩) hHeld ?_ ?_; rotate_left; (rintro w' ⟨d0, d1⟩; go_simp; with_reducible rfl); rotate_left; (simp only [Act.put, List.setIfInBounds_toArray, List.set_cons_zero, List.set_cons_succ, i64_w, i32_w]; rfl)
            refine one_ (i := 7) (N := some 101) #[tt,tt,tt,tt,tt,tt,tt,tt,ff,ff,ff,ff] rfl rfl (by kernel_rfl) (by decide) (fun K hK => ?_)
            refine Go.Proofs.YtanmgkpgfmkobaaW.PrintLast.value_ (v := .slice (some ⟨wd.heap.size, 0, none⟩) 1 1) (w1 := wd.alloc (.cells #[.int .u64 a.key] 28)) (by rfl) rfl ?_ ?_
            · go_simp
              try rfl
            refine hK.out _ _ (⟨cell_frm hHeld.1 (Frm.alloc wd _) (by simp), cell_frm hHeld.2 (Frm.alloc wd _) (by simp)⟩) (fun hHeld => ?_); clear hK K; refine norm_ (a' := ?_) ?_ ?_; rotate_left; (show Act.put _ (some 101) _ = _; simp only [Act.put, List.setIfInBounds_toArray, List.set_cons_zero, List.set_cons_succ, i64_w, i32_w]; rfl)
            have hfa : Hid (Frm [] wd (wd.alloc (.cells #[.int .u64 a.key] 28))) := Frm.alloc wd _
            have hBa : Hid (w.heap.size ≤ (wd.alloc (.cells #[.int .u64 a.key] 28)).heap.size) := (hsw1.out.grow hfa.out).qr.qs.base
            have hoa : Hid (OwnO (wd.alloc (.cells #[.int .u64 a.key] 28)) w.heap.size 28 wv (nums .u64 x.writes)) := htx1.out.wr.frm hfa.out (fun _ _ h => by cases h)
            have hca : Hid ((wd.alloc (.cells #[.int .u64 a.key] 28)).cell? ⟨wd.heap.size, 0, none⟩ = some (.int .u64 a.key)) := Blk.at_ (Blk.new wd 28 [.int .u64 a.key]) rfl
            have hka : Hid (Blk (wd.alloc (.cells #[.int .u64 a.key] 28)) g 107 [.int .u64 (x.rds : Int), rv, wv, .bool x.ended]) := htx1.out.blk.alloc _
            have hkd : Hid (∃ cs, Blk (wd.alloc (.cells #[.int .u64 a.key] 28)) ga 55 cs ∧ cs[2]? = some (.int .u64 a.key)) := ⟨_, (hbd.out).alloc _, rfl⟩
            generalize hgx : wd.heap.size = gx at *
            generalize hwa : wd.alloc (.cells #[.int .u64 a.key] 28) = wa at *
            have HGX := Lib.hid (And.intro hgx hwa)
            clear hgx hwa
            refine one_ (i := 8) (N := some 102) #[tt,tt,tt,tt,tt,tt,tt,tt,tt,ff,ff,ff] rfl rfl (by kernel_rfl) (by decide) (fun K hK => ?_)
            refine step_appendO rfl (.tmp 98) (.tmp 101) rfl w.heap.size wv x.writes rfl hoa.out gx 1 a.key rfl hca.out (by have := HXM.out; omega) hBa.out ?_
            intro v8 w8 ho8 hg8 hat8
            obtain ⟨Ar, cr, hv8, _, _⟩ := ho8.sl
            subst hv8
            have HO8 := Lib.hid ho8
            have HG8 := Lib.hid hg8
            have HA8 := Lib.hid hat8
            have hk8 : Hid (Blk w8 g 107 [.int .u64 (x.rds : Int), rv, wv, .bool x.ended]) := hka.out.frm (frmRowO hg8) (htx1.out.gw)
            have hd8 : Hid (∃ cs, Blk w8 ga 55 cs ∧ cs[2]? = some (.int .u64 a.key)) := by
              obtain ⟨cs, h1, h2⟩ := hkd.out
              exact ⟨cs, h1.frm (frmRowO hg8) (fun hm => by
                obtain ⟨cs', hb', _⟩ := hoa.out.blk hm
                exact blk_neO h1 hb' (by decide) rfl), h2⟩
            have hd8c : w8.cell? ⟨ga, 2, none⟩ = some (.int .u64 a.key) := by
              obtain ⟨cs, h1, h2⟩ := hd8.out
              exact h1.at_ h2
            clear ho8 hg8 hat8
            refine hK.out _ _ (⟨hk8.out.at_ rfl, hd8c⟩) (fun hHeld => ?_); clear hK K; refine norm_ (a' := ?_) ?_ ?_; rotate_left; (show Act.put _ (some 102) _ = _; simp only [Act.put, List.setIfInBounds_toArray, List.set_cons_zero, List.set_cons_succ, i64_w, i32_w]; rfl)
            refine pure_ (i := 9) (N := some 103) (v := ?_) (a' := ?_) #[tt,tt,tt,tt,tt,tt,tt,tt,tt,tt,ff,ff] rfl rfl (by kernel_rfl) (fun _ _ _ h => h) (Or.inl ⟨by rfl, ?_⟩) ?_ ?_; rotate_left; (intro w'; go_simp; with_reducible rfl); rotate_left; (simp only [Act.put, List.setIfInBounds_toArray, List.set_cons_zero, List.set_cons_succ, i64_w, i32_w]; rfl)
            refine pure_ (i := 10) (N := some 104) (v := ?_) (a' := ?_) #[tt,tt,tt,tt,tt,tt,tt,tt,tt,tt,tt,ff] rfl rfl (by kernel_rfl) (fun _ _ _ h => h) (Or.inl ⟨by rfl, ?_⟩) ?_ ?_; rotate_left; (intro w'; go_simp; with_reducible rfl); rotate_left; (simp only [Act.put, List.setIfInBounds_toArray, List.set_cons_zero, List.set_cons_succ, i64_w, i32_w]; rfl)
            have f1 := hk8.out.frozen 2
            have z1 : w8.cell? ⟨g, 2, none⟩ = some wv := hk8.out.at_ rfl
            refine last_ (i := 11) (N := none) #[tt,tt,tt,tt,tt,tt,tt,tt,tt,tt,tt,tt] rfl rfl (by kernel_rfl) (by decide) (fun K hK => ?_)
            refine Go.Proofs.YtanmgkpgfmkobaaW.PrintLast.skip_ (w1 := w8.setCell ⟨g, 2, none⟩ (.slice Ar (nums .u64 (x.writes ++ [a.key])).length cr)) (by rfl) rfl ?_ ?_
            · simp [go_sem, f1, z1]
            refine hK.out _ _ ?_; clear hK K
            refine done_ (by kernel_rfl) ?_
            clear f1 z1 hHeld
            have hfin : Hid (∃ ow', SwQ w.heap.size gs { s with txs := s.txs.set t { x with writes := x.writes ++ [a.key] } } w (w8.setCell ⟨g, 2, none⟩ (.slice Ar (nums .u64 (x.writes ++ [a.key])).length cr)) ow' (some ⟨g9, 0, none⟩) c9 A10 c10 A8 c8 tl gt 0 false) := by
              obtain ⟨e1, e2⟩ := HGX.out
              obtain ⟨h1, h2⟩ := htx1.out.wrote hfa.out HO8.out HG8.out (by rcases HA8.out with e | e; exact .inl e; exact .inr e)
              refine ⟨_, hsw1.out.set HG.out h2 (fun b hb => ?_) h1 (fun b hb hlt => ?_)⟩
              · rcases List.mem_cons.1 hb with rfl | hb
                · exact HTO.out _ (footQ_mem.2 (.inl rfl))
                · exact HTO.out _ (footQ_mem.2 (.inr (.inr hb)))
              · rcases footQ_mem.1 hb with rfl | hb | hb
                · exact HTO.out _ (footQ_mem.2 (.inl rfl))
                · exact HTO.out _ (footQ_mem.2 (.inr (.inl hb)))
                · rcases HA8.out with e | e
                  · rw [e] at hb; exact HTO.out _ (footQ_mem.2 (.inr (.inr hb)))
                  · rw [e] at hb
                    simp only [Option.toList_some, List.mem_singleton] at hb
                    have := hfa.out.size
                    omega
            go_wp2
            go_meet
            obtain ⟨ow', hfin⟩ := hfin.out
            exact ⟨{ s with txs := s.txs.set t { x with writes := x.writes ++ [a.key] } }, ow', A10, c10, 0, false, rfl, rfl, by rw [Hid, hact0.out, if_neg (by rw [HEN.out]; simp), if_neg hk1, if_pos HK2.out], hfin⟩
          have hk2b : (a.kind == 2) = false := by rw [beq_eq_false_iff_ne]; exact hk2
          have hsw0 : Hid (SwQ w.heap.size gs s w wb ow (some ⟨g9, 0, none⟩) c9 A10 c10 A8 c8 tl gt 0 false) := ⟨hrb.out, hbt.out, hg0.out, hgn.out, hgB.out, hbb.out⟩
          by_cases hk4 : a.kind = 4
          · have hk4b : (a.kind == 4) = true := by rw [hk4]; rfl
            have HK4 := Lib.hid hk4
            clear hk4
            have f3 := HTX.out.blk.frozen 3
            have hfin : Hid (SwQ w.heap.size gs { s with txs := s.txs.set t { x with ended := true } } w (wb.setCell ⟨g, 3, none⟩ (.bool true)) (upO ow wb (wb.setCell ⟨g, 3, none⟩ (.bool true)) (t + 1)) (some ⟨g9, 0, none⟩) c9 A10 c10 A8 c8 tl gt 0 false) :=
              hsw0.out.set HG.out (Frm.set wb ⟨g, 3, none⟩ (.bool true)) (fun b hb => by rw [List.mem_singleton] at hb; subst hb; exact HTO.out _ (footQ_mem.2 (.inl rfl))) HTX.out.ends (fun b hb _ => HTO.out b hb)
            go_wp2
            go_meet
            exact ⟨{ s with txs := s.txs.set t { x with ended := true } }, _, A10, c10, 0, false, rfl, rfl, by rw [Hid, hact0.out, if_neg (by rw [HEN.out]; simp), if_neg hk1, if_neg hk2, if_pos HK4.out], hfin.out⟩
          have hk4b : (a.kind == 4) = false := by rw [beq_eq_false_iff_ne]; exact hk4
          by_cases hk3 : a.kind = 3
          · have hk3b : (a.kind == 3) = true := by rw [hk3]; rfl
            have HK3 := Lib.hid hk3
            clear hk3
            have HM1 := Lib.hid hk1
            have HM2 := Lib.hid hk2
            have HM4 := Lib.hid hk4
            clear hk1 hk2 hk4
            obtain ⟨Ar, cr, hrv, _, hsl⟩ := HTX.out.rd.sl
            obtain ⟨Aw, cw, hwv, _, hslw⟩ := HTX.out.wr.sl
            subst hrv hwv
            rw [nums_length .u64 x.read] at *
            rw [nums_length .u64 x.writes] at *
            have HSL := Lib.hid hsl
            have HSLW := Lib.hid hslw
            have r1 : wb.cell? ⟨g, 1, none⟩ = some (.slice Ar x.read.length cr) := HTX.out.blk.at_ rfl
            have hrl : x.read.length ≤ 100 := by have := HXM.out.1; omega
            have hwl : x.writes.length ≤ 100 := by have := HXM.out.2; omega
            have hla : s.last.length ≤ 10000 := by have := hsq.out.la; omega
            have HLA := Lib.hid hla
            clear hsl hslw hrb hbb hbt hba hg0 hga0 hgn hgB hla
            go_wp2
            go_loopg [117] x.read.length (fun f v117 wr => ∃ (j : Nat) (conf : Bool), v117 = .int .i64 (j : Int) ∧ j ≤ x.read.length ∧ Hid (j + f = x.read.length) ∧ Hid (conf = (x.read.take j).any fun k => s.last.any (metQ cf x k)) ∧ Hid (SwQ w.heap.size gs s w wr ow (some ⟨g9, 0, none⟩) c9 A10 c10 A8 c8 tl gt 0 conf) ∧ Hid (TxQ wr w.heap.size g (.slice Ar x.read.length cr) (.slice Aw x.writes.length cw) x))
            case atStart => exact ⟨0, false, rfl, Nat.zero_le _, by simp [Hid], rfl, hsw0.out, HTX.out⟩
            case round =>
              obtain ⟨j, conf, rfl, hjn, hjf, hcj, hswj, htxj⟩ := hrel
              by_cases hjlt : j < x.read.length
              · obtain ⟨k, hk⟩ : ∃ k, x.read[j]? = some k := ⟨_, List.getElem?_eq_getElem hjlt⟩
                have hjlt2 : (j : Int) < (x.read.length : Int) := by omega
                obtain ⟨gar, oar, u, hAr, hu, hcell⟩ : ∃ ga o u, Ar = some ⟨ga, o, none⟩ ∧ (nums .u64 x.read)[j]? = some u ∧ wr.cell? ⟨ga, o + j, none⟩ = some u := by
                  obtain ⟨A', c', h1, _, h2⟩ := htxj.out.rd.sl
                  rw [nums_length] at h1 h2
                  injection h1 with h3 h4 h5
                  subst h3
                  exact h2.at_ hjlt
                obtain rfl : Value.int .u64 k = u := by
                  unfold nums at hu
                  rw [List.getElem?_map, hk] at hu
                  injection hu
                subst hAr
                clear hu
                have htk : x.read.take (j + 1) = x.read.take j ++ [k] := by rw [List.take_add_one, hk]; rfl
                have HTK := Lib.hid htk
                clear htk hk
                obtain ⟨gjO, rfl⟩ : ∃ g, gk = g + 1 := ⟨gk - 1, by have := hjf.out; omega⟩
                go_wp2
                go_loopg [123] s.last.length (fun f v123 wr => ∃ (m : Nat) (cn : Bool), v123 = .int .i64 (m : Int) ∧ m ≤ s.last.length ∧ Hid (m + f = s.last.length) ∧ Hid (cn = (conf || (s.last.take m).any (metQ cf x k))) ∧ Hid (SwQ w.heap.size gs s w wr ow (some ⟨g9, 0, none⟩) c9 A10 c10 A8 c8 tl gt 0 cn) ∧ Hid (TxQ wr w.heap.size g (.slice (some ⟨gar, oar, none⟩) x.read.length cr) (.slice Aw x.writes.length cw) x))
                case atStart => exact ⟨0, conf, rfl, Nat.zero_le _, by simp [Hid], by simp [Hid], hswj.out, htxj.out⟩
                case round =>
                  obtain ⟨m, cn, rfl, hmn, hmf, hcm, hswm, htxm⟩ := hrel
                  by_cases hmlt : m < s.last.length
                  · obtain ⟨c, hc⟩ : ∃ c, s.last[m]? = some c := ⟨_, List.getElem?_eq_getElem hmlt⟩
                    have hmlt2 : (m : Int) < (s.last.length : Int) := by omega
                    obtain ⟨g10, cs10, hA10, hbk10, _, _, _, _, htk10⟩ := own_cells hswm.out.qr.com (by omega)
                    subst hA10
                    have hcs : ∀ j v, (flatC s.last)[j]? = some v → wr.cell? ⟨g10, j, none⟩ = some v := fun j v hv => by
                      have hj := (List.getElem?_eq_some_iff.1 hv).1
                      rw [flatC_len] at hj
                      rw [hbk10.cell, ← hv, ← htk10, List.getElem?_take_of_lt hj]
                    have y0 : wr.cell? ⟨g10, m * 2, none⟩ = some (.int .u64 c.1) := hcs _ _ (flatC_at _ m c hc).1
                    have y1 : wr.cell? ⟨g10, m * 2 + 1, none⟩ = some (.int .u64 (c.2 : Int)) := hcs _ _ (flatC_at _ m c hc).2
                    have htkm : s.last.take (m + 1) = s.last.take m ++ [c] := by rw [List.take_add_one, hc]; rfl
                    have HTKM := Lib.hid htkm
                    clear htkm hc hcs hbk10 htk10
                    obtain ⟨gmO, rfl⟩ : ∃ g, gk = g + 1 := ⟨gk - 1, by have := hmf.out; omega⟩
                    go_upto_region 28 with fail
                    have hswa : Hid (SwQ w.heap.size gs s w (wr.alloc (.cells #[.int .u64 c.1, .int .u64 (c.2 : Int)] 109)) ow (some ⟨g9, 0, none⟩) c9 (some ⟨g10, 0, none⟩) c10 A8 c8 tl gt 0 cn) := hswm.out.grow (Frm.alloc wr _)
                    have htxa : Hid (TxQ (wr.alloc (.cells #[.int .u64 c.1, .int .u64 (c.2 : Int)] 109)) w.heap.size g (.slice (some ⟨gar, oar, none⟩) x.read.length cr) (.slice Aw x.writes.length cw) x) := htxm.out.of (fun b hb => (Frm.alloc wr _).block b (htxm.out.lt b hb) (by simp))
                    have hba : Hid (Blk (wr.alloc (.cells #[.int .u64 c.1, .int .u64 (c.2 : Int)] 109)) wr.heap.size 109 [.int .u64 c.1, .int .u64 (c.2 : Int)]) := Blk.new wr _ _
                    clear y0 y1 hswm htxm
                    generalize wr.alloc (.cells #[.int .u64 c.1, .int .u64 (c.2 : Int)] 109) = wa at *
                    generalize wr.heap.size = gc at *
                    have t1 : wa.cell? ⟨gt, 1, none⟩ = some (.bool cn) := hswa.out.told.at_ rfl
                    have b0 : wa.cell? ⟨gc, 0, none⟩ = some (.int .u64 c.1) := hba.out.at_ rfl
                    have b1 : wa.cell? ⟨gc, 1, none⟩ = some (.int .u64 (c.2 : Int)) := hba.out.at_ rfl
                    have d0 : wa.cell? ⟨g, 0, none⟩ = some (.int .u64 (x.rds : Int)) := htxa.out.blk.at_ rfl
                    have hany : ∀ bo : Bool, (cn || metQ cf x k c) = bo → Hid (bo = (conf || (s.last.take (m + 1)).any (metQ cf x k))) := fun bo hb => by
                      rw [Hid, HTKM.out, List.any_append, ← hb, hcm.out, Bool.or_assoc]
                      simp
                    have HANY := Lib.hid hany
                    clear hany hcm
                    have hset : ∀ bo : Bool, SwQ w.heap.size gs s w (wa.drew.setCell ⟨gt, 1, none⟩ (.bool bo)) ow (some ⟨g9, 0, none⟩) c9 (some ⟨g10, 0, none⟩) c10 A8 c8 tl gt 0 bo ∧ TxQ (wa.drew.setCell ⟨gt, 1, none⟩ (.bool bo)) w.heap.size g (.slice (some ⟨gar, oar, none⟩) x.read.length cr) (.slice Aw x.writes.length cw) x := fun bo => by
                      have h1 := hswa.out.grow (Frm.refl [] wa).drew
                      have hs := Frm.set wa.drew ⟨gt, 1, none⟩ (.bool bo)
                      refine ⟨h1.frm hs (h1.told.set_ 1 (.bool bo)), htxa.out.of (fun b hb => hs.block b (htxa.out.lt b hb) (fun hm => ?_))⟩
                      rw [List.mem_singleton] at hm
                      have hm : b = gt := hm
                      subst hm
                      rcases footQ_mem.1 hb with e | hb | hb
                      · subst e; exact blk_neO htxa.out.blk h1.told (by decide) rfl
                      · obtain ⟨cs, hk, _⟩ := htxa.out.rd.blk hb
                        exact blk_neO hk h1.told (by decide) rfl
                      · obtain ⟨cs, hk, _⟩ := htxa.out.wr.blk hb
                        exact blk_neO hk h1.told (by decide) rfl
                    have HSET := Lib.hid hset
                    clear hset
                    have ft : wa.drew.frozen? ⟨gt, 1, none⟩ = false := hswa.out.told.frozen 1
                    have tt1 : wa.drew.cell? ⟨gt, 1, none⟩ = some (.bool cn) := t1
                    cases cn with
                    | true =>
                      refine start_ (n := 22) (S := fun w' => w'.cell? ⟨gt, 1, none⟩ = some (.bool true) ∧ w'.cell? ⟨gc, 0, none⟩ = some (.int .u64 c.1) ∧ w'.cell? ⟨gc, 1, none⟩ = some (.int .u64 (c.2 : Int)) ∧ w'.cell? ⟨g, 0, none⟩ = some (.int .u64 (x.rds : Int))) (ds := [21]) #[ff,ff,ff,ff,ff,ff,ff,ff,ff,ff,ff,ff,ff,ff,ff,ff,ff,ff,ff,ff,ff,ff] (by kernel_rfl) rfl rfl (⟨t1, b0, b1, d0⟩) (fun hHeld => ?_)
                      clear t1 b0 b1 d0
                      refine pure_ (i := 0) (N := some 127) (v := ?_) (a' := ?_) #[tt,ff,ff,ff,ff,ff,ff,ff,ff,ff,ff,ff,ff,ff,ff,ff,ff,ff,ff,ff,ff,ff] rfl rfl (by kernel_rfl) (fun _ _ _ h => h) (Or.inl ⟨by rfl, ?_⟩) ?_ ?_; rotate_left; (intro w'; go_simp; with_reducible rfl); rotate_left; (simp only [Act.put, List.setIfInBounds_toArray, List.set_cons_zero, List.set_cons_succ, i64_w, i32_w]; rfl)
                      refine take_ (i := 1) (N := some 128) (v := ?_) (a' := ?_) #[tt,tt,ff,ff,ff,ff,ff,ff,ff,ff,ff,ff,ff,ff,ff,ff,ff,ff,ff,ff,ff,ff] rfl rfl (by kernel_rfl) (fun _ _ _ h => h) (Or.inl ⟨by rfl, ?_⟩) hHeld ?_ ?_; rotate_left; (rintro w' ⟨t1, b0, b1, d0⟩; go_simp; with_reducible rfl); rotate_left; (simp only [Act.put, List.setIfInBounds_toArray, List.set_cons_zero, List.set_cons_succ, i64_w, i32_w]; rfl)
                      refine pure_ (i := 2) (N := some 129) (v := ?_) (a' := ?_) #[tt,tt,tt,ff,ff,ff,ff,ff,ff,ff,ff,ff,ff,ff,ff,ff,ff,ff,ff,ff,ff,ff] rfl rfl (by kernel_rfl) (fun _ _ _ h => h) (Or.inl ⟨by rfl, ?_⟩) ?_ ?_; rotate_left; (intro w'; go_simp; with_reducible rfl); rotate_left; (simp only [Act.put, List.setIfInBounds_toArray, List.set_cons_zero, List.set_cons_succ, i64_w, i32_w]; rfl)
                      refine pure_ (i := 3) (N := some 130) (v := undef) (a' := ?_) #[tt,tt,tt,tt,ff,ff,ff,ff,ff,ff,ff,ff,ff,ff,ff,ff,ff,ff,ff,ff,ff,ff] rfl rfl (by kernel_rfl) (fun _ _ _ h => h) (Or.inr ⟨by rfl, rfl⟩) ?_ ?_; rotate_left; (simp only [Act.put, List.setIfInBounds_toArray, List.set_cons_zero, List.set_cons_succ, i64_w, i32_w]; rfl)
                      refine pure_ (i := 4) (N := some 131) (v := undef) (a' := ?_) #[tt,tt,tt,tt,tt,ff,ff,ff,ff,ff,ff,ff,ff,ff,ff,ff,ff,ff,ff,ff,ff,ff] rfl rfl (by kernel_rfl) (fun _ _ _ h => h) (Or.inr ⟨by rfl, rfl⟩) ?_ ?_; rotate_left; (simp only [Act.put, List.setIfInBounds_toArray, List.set_cons_zero, List.set_cons_succ, i64_w, i32_w]; rfl)
                      refine pure_ (i := 5) (N := some 132) (v := undef) (a' := ?_) #[tt,tt,tt,tt,tt,tt,ff,ff,ff,ff,ff,ff,ff,ff,ff,ff,ff,ff,ff,ff,ff,ff] rfl rfl (by kernel_rfl) (fun _ _ _ h => h) (Or.inr ⟨by rfl, rfl⟩) ?_ ?_; rotate_left; (simp only [Act.put, List.setIfInBounds_toArray, List.set_cons_zero, List.set_cons_succ, i64_w, i32_w]; rfl)
                      refine pure_ (i := 6) (N := some 133) (v := undef) (a' := ?_) #[tt,tt,tt,tt,tt,tt,tt,ff,ff,ff,ff,ff,ff,ff,ff,ff,ff,ff,ff,ff,ff,ff] rfl rfl (by kernel_rfl) (fun _ _ _ h => h) (Or.inr ⟨by rfl, rfl⟩) ?_ ?_; rotate_left; (simp only [Act.put, List.setIfInBounds_toArray, List.set_cons_zero, List.set_cons_succ, i64_w, i32_w]; rfl)
                      refine pure_ (i := 7) (N := some 134) (v := undef) (a' := ?_) #[tt,tt,tt,tt,tt,tt,tt,tt,ff,ff,ff,ff,ff,ff,ff,ff,ff,ff,ff,ff,ff,ff] rfl rfl (by kernel_rfl) (fun _ _ _ h => h) (Or.inr ⟨by rfl, rfl⟩) ?_ ?_; rotate_left; (simp only [Act.put, List.setIfInBounds_toArray, List.set_cons_zero, List.set_cons_succ, i64_w, i32_w]; rfl)
                      refine pure_ (i := 8) (N := some 135) (v := undef) (a' := ?_) #[tt,tt,tt,tt,tt,tt,tt,tt,tt,ff,ff,ff,ff,ff,ff,ff,ff,ff,ff,ff,ff,ff] rfl rfl (by kernel_rfl) (fun _ _ _ h => h) (Or.inr ⟨by rfl, rfl⟩) ?_ ?_; rotate_left; (simp only [Act.put, List.setIfInBounds_toArray, List.set_cons_zero, List.set_cons_succ, i64_w, i32_w]; rfl)
                      refine pure_ (i := 9) (N := some 136) (v := undef) (a' := ?_) #[tt,tt,tt,tt,tt,tt,tt,tt,tt,tt,ff,ff,ff,ff,ff,ff,ff,ff,ff,ff,ff,ff] rfl rfl (by kernel_rfl) (fun _ _ _ h => h) (Or.inr ⟨by rfl, rfl⟩) ?_ ?_; rotate_left; (simp only [Act.put, List.setIfInBounds_toArray, List.set_cons_zero, List.set_cons_succ, i64_w, i32_w]; rfl)
                      refine pure_ (i := 10) (N := some 137) (v := undef) (a' := ?_) #[tt,tt,tt,tt,tt,tt,tt,tt,tt,tt,tt,ff,ff,ff,ff,ff,ff,ff,ff,ff,ff,ff] rfl rfl (by kernel_rfl) (fun _ _ _ h => h) (Or.inr ⟨by rfl, rfl⟩) ?_ ?_; rotate_left; (simp only [Act.put, List.setIfInBounds_toArray, List.set_cons_zero, List.set_cons_succ, i64_w, i32_w]; rfl)
                      refine pure_ (i := 11) (N := some 138) (v := undef) (a' := ?_) #[tt,tt,tt,tt,tt,tt,tt,tt,tt,tt,tt,tt,ff,ff,ff,ff,ff,ff,ff,ff,ff,ff] rfl rfl (by kernel_rfl) (fun _ _ _ h => h) (Or.inr ⟨by rfl, rfl⟩) ?_ ?_; rotate_left; (simp only [Act.put, List.setIfInBounds_toArray, List.set_cons_zero, List.set_cons_succ, i64_w, i32_w]; rfl)
                      refine pure_ (i := 12) (N := some 139) (v := undef) (a' := ?_) #[tt,tt,tt,tt,tt,tt,tt,tt,tt,tt,tt,tt,tt,ff,ff,ff,ff,ff,ff,ff,ff,ff] rfl rfl (by kernel_rfl) (fun _ _ _ h => h) (Or.inr ⟨by rfl, rfl⟩) ?_ ?_; rotate_left; (simp only [Act.put, List.setIfInBounds_toArray, List.set_cons_zero, List.set_cons_succ, i64_w, i32_w]; rfl)
                      refine pure_ (i := 13) (N := some 140) (v := undef) (a' := ?_) #[tt,tt,tt,tt,tt,tt,tt,tt,tt,tt,tt,tt,tt,tt,ff,ff,ff,ff,ff,ff,ff,ff] rfl rfl (by kernel_rfl) (fun _ _ _ h => h) (Or.inr ⟨by rfl, rfl⟩) ?_ ?_; rotate_left; (simp only [Act.put, List.setIfInBounds_toArray, List.set_cons_zero, List.set_cons_succ, i64_w, i32_w]; rfl)
                      refine pure_ (i := 14) (N := some 141) (v := undef) (a' := ?_) #[tt,tt,tt,tt,tt,tt,tt,tt,tt,tt,tt,tt,tt,tt,tt,ff,ff,ff,ff,ff,ff,ff] rfl rfl (by kernel_rfl) (fun _ _ _ h => h) (Or.inr ⟨by rfl, rfl⟩) ?_ ?_; rotate_left; (simp only [Act.put, List.setIfInBounds_toArray, List.set_cons_zero, List.set_cons_succ, i64_w, i32_w]; rfl)
                      refine pure_ (i := 15) (N := some 142) (v := undef) (a' := ?_) #[tt,tt,tt,tt,tt,tt,tt,tt,tt,tt,tt,tt,tt,tt,tt,tt,ff,ff,ff,ff,ff,ff] rfl rfl (by kernel_rfl) (fun _ _ _ h => h) (Or.inr ⟨by rfl, rfl⟩) ?_ ?_; rotate_left; (simp only [Act.put, List.setIfInBounds_toArray, List.set_cons_zero, List.set_cons_succ, i64_w, i32_w]; rfl)
                      refine pure_ (i := 16) (N := some 143) (v := undef) (a' := ?_) #[tt,tt,tt,tt,tt,tt,tt,tt,tt,tt,tt,tt,tt,tt,tt,tt,tt,ff,ff,ff,ff,ff] rfl rfl (by kernel_rfl) (fun _ _ _ h => h) (Or.inr ⟨by rfl, rfl⟩) ?_ ?_; rotate_left; (simp only [Act.put, List.setIfInBounds_toArray, List.set_cons_zero, List.set_cons_succ, i64_w, i32_w]; rfl)
                      refine pure_ (i := 17) (N := some 144) (v := undef) (a' := ?_) #[tt,tt,tt,tt,tt,tt,tt,tt,tt,tt,tt,tt,tt,tt,tt,tt,tt,tt,ff,ff,ff,ff] rfl rfl (by kernel_rfl) (fun _ _ _ h => h) (Or.inr ⟨by rfl, rfl⟩) ?_ ?_; rotate_left; (simp only [Act.put, List.setIfInBounds_toArray, List.set_cons_zero, List.set_cons_succ, i64_w, i32_w]; rfl)
                      refine pure_ (i := 18) (N := some 145) (v := undef) (a' := ?_) #[tt,tt,tt,tt,tt,tt,tt,tt,tt,tt,tt,tt,tt,tt,tt,tt,tt,tt,tt,ff,ff,ff] rfl rfl (by kernel_rfl) (fun _ _ _ h => h) (Or.inr ⟨by rfl, rfl⟩) ?_ ?_; rotate_left; (simp only [Act.put, List.setIfInBounds_toArray, List.set_cons_zero, List.set_cons_succ, i64_w, i32_w]; rfl)
                      refine pure_ (i := 19) (N := some 146) (v := ?_) (a' := ?_) #[tt,tt,tt,tt,tt,tt,tt,tt,tt,tt,tt,tt,tt,tt,tt,tt,tt,tt,tt,tt,ff,ff] rfl rfl (by kernel_rfl) (fun _ _ _ h => h) (Or.inl ⟨by rfl, ?_⟩) ?_ ?_; rotate_left; (intro w'; go_simp; with_reducible rfl); rotate_left; (simp only [Act.put, List.setIfInBounds_toArray, List.set_cons_zero, List.set_cons_succ, i64_w, i32_w]; rfl)
                      refine pure_ (i := 20) (N := some 147) (v := ?_) (a' := ?_) #[tt,tt,tt,tt,tt,tt,tt,tt,tt,tt,tt,tt,tt,tt,tt,tt,tt,tt,tt,tt,tt,ff] rfl rfl (by kernel_rfl) (fun _ _ _ h => h) (Or.inl ⟨by rfl, ?_⟩) ?_ ?_; rotate_left; (intro w'; go_simp; with_reducible rfl); rotate_left; (simp only [Act.put, List.setIfInBounds_toArray, List.set_cons_zero, List.set_cons_succ, i64_w, i32_w]; rfl)
                      refine last_ (i := 21) (N := none) #[tt,tt,tt,tt,tt,tt,tt,tt,tt,tt,tt,tt,tt,tt,tt,tt,tt,tt,tt,tt,tt,tt] rfl rfl (by kernel_rfl) (by decide) (fun K hK => ?_)
                      refine Go.Proofs.YtanmgkpgfmkobaaW.PrintLast.skip_ (w1 := wa.drew.setCell ⟨gt, 1, none⟩ (.bool true)) (by rfl) rfl ?_ ?_
                      · simp [go_sem, ft, tt1]
                      refine hK.out _ _ ?_; clear hK K
                      refine done_ (by kernel_rfl) ?_
                      clear tt1 ft
                      go_wp2
                      go_roundg gmO
                      case measure => omega
                      case rel =>
                        exact ⟨m + 1, true, by show Value.int .i64 (wrap64 ((m : Int) + 1)) = _; rw [IntWalk.wrap64_in _ (by have := HLA.out; omega)]; rfl, by omega, by have := hmf.out; show _ = _; omega, HANY.out true rfl, (HSET.out true).1, (HSET.out true).2⟩
                    | false =>
                      cases cf with
                      | false =>
                        refine start_ (n := 22) (S := fun w' => w'.cell? ⟨gt, 1, none⟩ = some (.bool false) ∧ w'.cell? ⟨gc, 0, none⟩ = some (.int .u64 c.1) ∧ w'.cell? ⟨gc, 1, none⟩ = some (.int .u64 (c.2 : Int)) ∧ w'.cell? ⟨g, 0, none⟩ = some (.int .u64 (x.rds : Int))) (ds := [21]) #[ff,ff,ff,ff,ff,ff,ff,ff,ff,ff,ff,ff,ff,ff,ff,ff,ff,ff,ff,ff,ff,ff] (by kernel_rfl) rfl rfl (⟨t1, b0, b1, d0⟩) (fun hHeld => ?_)
                        clear t1 b0 b1 d0
                        refine pure_ (i := 0) (N := some 127) (v := ?_) (a' := ?_) #[tt,ff,ff,ff,ff,ff,ff,ff,ff,ff,ff,ff,ff,ff,ff,ff,ff,ff,ff,ff,ff,ff] rfl rfl (by kernel_rfl) (fun _ _ _ h => h) (Or.inl ⟨by rfl, ?_⟩) ?_ ?_; rotate_left; (intro w'; go_simp; with_reducible rfl); rotate_left; (simp only [Act.put, List.setIfInBounds_toArray, List.set_cons_zero, List.set_cons_succ, i64_w, i32_w]; rfl)
                        refine take_ (i := 1) (N := some 128) (v := ?_) (a' := ?_) #[tt,tt,ff,ff,ff,ff,ff,ff,ff,ff,ff,ff,ff,ff,ff,ff,ff,ff,ff,ff,ff,ff] rfl rfl (by kernel_rfl) (fun _ _ _ h => h) (Or.inl ⟨by rfl, ?_⟩) hHeld ?_ ?_; rotate_left; (rintro w' ⟨t1, b0, b1, d0⟩; go_simp; with_reducible rfl); rotate_left; (simp only [Act.put, List.setIfInBounds_toArray, List.set_cons_zero, List.set_cons_succ, i64_w, i32_w]; rfl)
                        refine pure_ (i := 2) (N := some 129) (v := ?_) (a' := ?_) #[tt,tt,tt,ff,ff,ff,ff,ff,ff,ff,ff,ff,ff,ff,ff,ff,ff,ff,ff,ff,ff,ff] rfl rfl (by kernel_rfl) (fun _ _ _ h => h) (Or.inl ⟨by rfl, ?_⟩) ?_ ?_; rotate_left; (intro w'; go_simp; with_reducible rfl); rotate_left; (simp only [Act.put, List.setIfInBounds_toArray, List.set_cons_zero, List.set_cons_succ, i64_w, i32_w]; rfl)
                        refine pure_ (i := 3) (N := some 130) (v := ?_) (a' := ?_) #[tt,tt,tt,tt,ff,ff,ff,ff,ff,ff,ff,ff,ff,ff,ff,ff,ff,ff,ff,ff,ff,ff] rfl rfl (by kernel_rfl) (fun _ _ _ h => h) (Or.inl ⟨by rfl, ?_⟩) ?_ ?_; rotate_left; (intro w'; go_simp; with_reducible rfl); rotate_left; (simp only [Act.put, List.setIfInBounds_toArray, List.set_cons_zero, List.set_cons_succ, i64_w, i32_w]; rfl)
                        refine pure_ (i := 4) (N := some 131) (v := ?_) (a' := ?_) #[tt,tt,tt,tt,tt,ff,ff,ff,ff,ff,ff,ff,ff,ff,ff,ff,ff,ff,ff,ff,ff,ff] rfl rfl (by kernel_rfl) (fun _ _ _ h => h) (Or.inl ⟨by rfl, ?_⟩) ?_ ?_; rotate_left; (intro w'; go_simp; with_reducible rfl); rotate_left; (simp only [Act.put, List.setIfInBounds_toArray, List.set_cons_zero, List.set_cons_succ, i64_w, i32_w]; rfl)
                        refine pure_ (i := 5) (N := some 132) (v := undef) (a' := ?_) #[tt,tt,tt,tt,tt,tt,ff,ff,ff,ff,ff,ff,ff,ff,ff,ff,ff,ff,ff,ff,ff,ff] rfl rfl (by kernel_rfl) (fun _ _ _ h => h) (Or.inr ⟨by rfl, rfl⟩) ?_ ?_; rotate_left; (simp only [Act.put, List.setIfInBounds_toArray, List.set_cons_zero, List.set_cons_succ, i64_w, i32_w]; rfl)
                        refine pure_ (i := 6) (N := some 133) (v := undef) (a' := ?_) #[tt,tt,tt,tt,tt,tt,tt,ff,ff,ff,ff,ff,ff,ff,ff,ff,ff,ff,ff,ff,ff,ff] rfl rfl (by kernel_rfl) (fun _ _ _ h => h) (Or.inr ⟨by rfl, rfl⟩) ?_ ?_; rotate_left; (simp only [Act.put, List.setIfInBounds_toArray, List.set_cons_zero, List.set_cons_succ, i64_w, i32_w]; rfl)
                        refine pure_ (i := 7) (N := some 134) (v := undef) (a' := ?_) #[tt,tt,tt,tt,tt,tt,tt,tt,ff,ff,ff,ff,ff,ff,ff,ff,ff,ff,ff,ff,ff,ff] rfl rfl (by kernel_rfl) (fun _ _ _ h => h) (Or.inr ⟨by rfl, rfl⟩) ?_ ?_; rotate_left; (simp only [Act.put, List.setIfInBounds_toArray, List.set_cons_zero, List.set_cons_succ, i64_w, i32_w]; rfl)
                        refine pure_ (i := 8) (N := some 135) (v := undef) (a' := ?_) #[tt,tt,tt,tt,tt,tt,tt,tt,tt,ff,ff,ff,ff,ff,ff,ff,ff,ff,ff,ff,ff,ff] rfl rfl (by kernel_rfl) (fun _ _ _ h => h) (Or.inr ⟨by rfl, rfl⟩) ?_ ?_; rotate_left; (simp only [Act.put, List.setIfInBounds_toArray, List.set_cons_zero, List.set_cons_succ, i64_w, i32_w]; rfl)
                        refine pure_ (i := 9) (N := some 136) (v := ?_) (a' := ?_) #[tt,tt,tt,tt,tt,tt,tt,tt,tt,tt,ff,ff,ff,ff,ff,ff,ff,ff,ff,ff,ff,ff] rfl rfl (by kernel_rfl) (fun _ _ _ h => h) (Or.inl ⟨by rfl, ?_⟩) ?_ ?_; rotate_left; (intro w'; go_simp; with_reducible rfl); rotate_left; (simp only [Act.put, List.setIfInBounds_toArray, List.set_cons_zero, List.set_cons_succ, i64_w, i32_w]; rfl)
                        refine pure_ (i := 10) (N := some 137) (v := ?_) (a' := ?_) #[tt,tt,tt,tt,tt,tt,tt,tt,tt,tt,tt,ff,ff,ff,ff,ff,ff,ff,ff,ff,ff,ff] rfl rfl (by kernel_rfl) (fun _ _ _ h => h) (Or.inl ⟨by rfl, ?_⟩) ?_ ?_; rotate_left; (intro w'; go_simp; with_reducible rfl); rotate_left; (simp only [Act.put, List.setIfInBounds_toArray, List.set_cons_zero, List.set_cons_succ, i64_w, i32_w]; rfl)
                        refine pure_ (i := 11) (N := some 138) (v := undef) (a' := ?_) #[tt,tt,tt,tt,tt,tt,tt,tt,tt,tt,tt,tt,ff,ff,ff,ff,ff,ff,ff,ff,ff,ff] rfl rfl (by kernel_rfl) (fun _ _ _ h => h) (Or.inr ⟨by rfl, rfl⟩) ?_ ?_; rotate_left; (simp only [Act.put, List.setIfInBounds_toArray, List.set_cons_zero, List.set_cons_succ, i64_w, i32_w]; rfl)
                        refine pure_ (i := 12) (N := some 139) (v := undef) (a' := ?_) #[tt,tt,tt,tt,tt,tt,tt,tt,tt,tt,tt,tt,tt,ff,ff,ff,ff,ff,ff,ff,ff,ff] rfl rfl (by kernel_rfl) (fun _ _ _ h => h) (Or.inr ⟨by rfl, rfl⟩) ?_ ?_; rotate_left; (simp only [Act.put, List.setIfInBounds_toArray, List.set_cons_zero, List.set_cons_succ, i64_w, i32_w]; rfl)
                        refine pure_ (i := 13) (N := some 140) (v := undef) (a' := ?_) #[tt,tt,tt,tt,tt,tt,tt,tt,tt,tt,tt,tt,tt,tt,ff,ff,ff,ff,ff,ff,ff,ff] rfl rfl (by kernel_rfl) (fun _ _ _ h => h) (Or.inr ⟨by rfl, rfl⟩) ?_ ?_; rotate_left; (simp only [Act.put, List.setIfInBounds_toArray, List.set_cons_zero, List.set_cons_succ, i64_w, i32_w]; rfl)
                        refine pure_ (i := 14) (N := some 141) (v := undef) (a' := ?_) #[tt,tt,tt,tt,tt,tt,tt,tt,tt,tt,tt,tt,tt,tt,tt,ff,ff,ff,ff,ff,ff,ff] rfl rfl (by kernel_rfl) (fun _ _ _ h => h) (Or.inr ⟨by rfl, rfl⟩) ?_ ?_; rotate_left; (simp only [Act.put, List.setIfInBounds_toArray, List.set_cons_zero, List.set_cons_succ, i64_w, i32_w]; rfl)
                        refine pure_ (i := 15) (N := some 142) (v := undef) (a' := ?_) #[tt,tt,tt,tt,tt,tt,tt,tt,tt,tt,tt,tt,tt,tt,tt,tt,ff,ff,ff,ff,ff,ff] rfl rfl (by kernel_rfl) (fun _ _ _ h => h) (Or.inr ⟨by rfl, rfl⟩) ?_ ?_; rotate_left; (simp only [Act.put, List.setIfInBounds_toArray, List.set_cons_zero, List.set_cons_succ, i64_w, i32_w]; rfl)
                        refine pure_ (i := 16) (N := some 143) (v := undef) (a' := ?_) #[tt,tt,tt,tt,tt,tt,tt,tt,tt,tt,tt,tt,tt,tt,tt,tt,tt,ff,ff,ff,ff,ff] rfl rfl (by kernel_rfl) (fun _ _ _ h => h) (Or.inr ⟨by rfl, rfl⟩) ?_ ?_; rotate_left; (simp only [Act.put, List.setIfInBounds_toArray, List.set_cons_zero, List.set_cons_succ, i64_w, i32_w]; rfl)
                        refine pure_ (i := 17) (N := some 144) (v := undef) (a' := ?_) #[tt,tt,tt,tt,tt,tt,tt,tt,tt,tt,tt,tt,tt,tt,tt,tt,tt,tt,ff,ff,ff,ff] rfl rfl (by kernel_rfl) (fun _ _ _ h => h) (Or.inr ⟨by rfl, rfl⟩) ?_ ?_; rotate_left; (simp only [Act.put, List.setIfInBounds_toArray, List.set_cons_zero, List.set_cons_succ, i64_w, i32_w]; rfl)
                        refine pure_ (i := 18) (N := some 145) (v := ?_) (a' := ?_) #[tt,tt,tt,tt,tt,tt,tt,tt,tt,tt,tt,tt,tt,tt,tt,tt,tt,tt,tt,ff,ff,ff] rfl rfl (by kernel_rfl) (fun _ _ _ h => h) (Or.inl ⟨by rfl, ?_⟩) ?_ ?_; rotate_left; (intro w'; go_simp; with_reducible rfl); rotate_left; (simp only [Act.put, List.setIfInBounds_toArray, List.set_cons_zero, List.set_cons_succ, i64_w, i32_w]; rfl)
                        refine pure_ (i := 19) (N := some 146) (v := ?_) (a' := ?_) #[tt,tt,tt,tt,tt,tt,tt,tt,tt,tt,tt,tt,tt,tt,tt,tt,tt,tt,tt,tt,ff,ff] rfl rfl (by kernel_rfl) (fun _ _ _ h => h) (Or.inl ⟨by rfl, ?_⟩) ?_ ?_; rotate_left; (intro w'; go_simp; with_reducible rfl); rotate_left; (simp only [Act.put, List.setIfInBounds_toArray, List.set_cons_zero, List.set_cons_succ, i64_w, i32_w]; rfl)
                        refine pure_ (i := 20) (N := some 147) (v := ?_) (a' := ?_) #[tt,tt,tt,tt,tt,tt,tt,tt,tt,tt,tt,tt,tt,tt,tt,tt,tt,tt,tt,tt,tt,ff] rfl rfl (by kernel_rfl) (fun _ _ _ h => h) (Or.inl ⟨by rfl, ?_⟩) ?_ ?_; rotate_left; (intro w'; go_simp; with_reducible rfl); rotate_left; (simp only [Act.put, List.setIfInBounds_toArray, List.set_cons_zero, List.set_cons_succ, i64_w, i32_w]; rfl)
                        refine last_ (i := 21) (N := none) #[tt,tt,tt,tt,tt,tt,tt,tt,tt,tt,tt,tt,tt,tt,tt,tt,tt,tt,tt,tt,tt,tt] rfl rfl (by kernel_rfl) (by decide) (fun K hK => ?_)
                        refine Go.Proofs.YtanmgkpgfmkobaaW.PrintLast.skip_ (w1 := wa.drew.setCell ⟨gt, 1, none⟩ (.bool false)) (by rfl) rfl ?_ ?_
                        · simp [go_sem, ft, tt1]
                        refine hK.out _ _ ?_; clear hK K
                        refine done_ (by kernel_rfl) ?_
                        clear tt1 ft
                        go_wp2
                        go_roundg gmO
                        case measure => omega
                        case rel =>
                          exact ⟨m + 1, false, by show Value.int .i64 (wrap64 ((m : Int) + 1)) = _; rw [IntWalk.wrap64_in _ (by have := HLA.out; omega)]; rfl, by omega, by have := hmf.out; show _ = _; omega, HANY.out false rfl, (HSET.out false).1, (HSET.out false).2⟩
                      | true =>
                        by_cases hke : c.1 = k
                        · have hkb : (c.1 == k) = true := by rw [hke]; exact beq_self_eq_true _
                          have HKE := Lib.hid hkb
                          clear hke
                          by_cases hver : x.rds < c.2
                          · have hver2 : (x.rds : Int) < (c.2 : Int) := by omega
                            have e : (false || metQ true x k c) = true := by unfold metQ; rw [HKE.out]; simp [hver]
                            have HE := Lib.hid e
                            clear e
                            refine start_ (n := 22) (S := fun w' => w'.cell? ⟨gt, 1, none⟩ = some (.bool false) ∧ w'.cell? ⟨gc, 0, none⟩ = some (.int .u64 c.1) ∧ w'.cell? ⟨gc, 1, none⟩ = some (.int .u64 (c.2 : Int)) ∧ w'.cell? ⟨g, 0, none⟩ = some (.int .u64 (x.rds : Int))) (ds := [21]) #[ff,ff,ff,ff,ff,ff,ff,ff,ff,ff,ff,ff,ff,ff,ff,ff,ff,ff,ff,ff,ff,ff] (by kernel_rfl) rfl rfl (⟨t1, b0, b1, d0⟩) (fun hHeld => ?_)
                            clear t1 b0 b1 d0
                            refine pure_ (i := 0) (N := some 127) (v := ?_) (a' := ?_) #[tt,ff,ff,ff,ff,ff,ff,ff,ff,ff,ff,ff,ff,ff,ff,ff,ff,ff,ff,ff,ff,ff] rfl rfl (by kernel_rfl) (fun _ _ _ h => h) (Or.inl ⟨by rfl, ?_⟩) ?_ ?_; rotate_left; (intro w'; go_simp; with_reducible rfl); rotate_left; (simp only [Act.put, List.setIfInBounds_toArray, List.set_cons_zero, List.set_cons_succ, i64_w, i32_w]; rfl)
                            refine take_ (i := 1) (N := some 128) (v := ?_) (a' := ?_) #[tt,tt,ff,ff,ff,ff,ff,ff,ff,ff,ff,ff,ff,ff,ff,ff,ff,ff,ff,ff,ff,ff] rfl rfl (by kernel_rfl) (fun _ _ _ h => h) (Or.inl ⟨by rfl, ?_⟩) hHeld ?_ ?_; rotate_left; (rintro w' ⟨t1, b0, b1, d0⟩; go_simp; with_reducible rfl); rotate_left; (simp only [Act.put, List.setIfInBounds_toArray, List.set_cons_zero, List.set_cons_succ, i64_w, i32_w]; rfl)
                            refine pure_ (i := 2) (N := some 129) (v := ?_) (a' := ?_) #[tt,tt,tt,ff,ff,ff,ff,ff,ff,ff,ff,ff,ff,ff,ff,ff,ff,ff,ff,ff,ff,ff] rfl rfl (by kernel_rfl) (fun _ _ _ h => h) (Or.inl ⟨by rfl, ?_⟩) ?_ ?_; rotate_left; (intro w'; go_simp; with_reducible rfl); rotate_left; (simp only [Act.put, List.setIfInBounds_toArray, List.set_cons_zero, List.set_cons_succ, i64_w, i32_w]; rfl)
                            refine pure_ (i := 3) (N := some 130) (v := ?_) (a' := ?_) #[tt,tt,tt,tt,ff,ff,ff,ff,ff,ff,ff,ff,ff,ff,ff,ff,ff,ff,ff,ff,ff,ff] rfl rfl (by kernel_rfl) (fun _ _ _ h => h) (Or.inl ⟨by rfl, ?_⟩) ?_ ?_; rotate_left; (intro w'; go_simp; with_reducible rfl); rotate_left; (simp only [Act.put, List.setIfInBounds_toArray, List.set_cons_zero, List.set_cons_succ, i64_w, i32_w]; rfl)
                            refine pure_ (i := 4) (N := some 131) (v := ?_) (a' := ?_) #[tt,tt,tt,tt,tt,ff,ff,ff,ff,ff,ff,ff,ff,ff,ff,ff,ff,ff,ff,ff,ff,ff] rfl rfl (by kernel_rfl) (fun _ _ _ h => h) (Or.inl ⟨by rfl, ?_⟩) ?_ ?_; rotate_left; (intro w'; go_simp; with_reducible rfl); rotate_left; (simp only [Act.put, List.setIfInBounds_toArray, List.set_cons_zero, List.set_cons_succ, i64_w, i32_w]; rfl)
                            refine pure_ (i := 5) (N := some 132) (v := ?_) (a' := ?_) #[tt,tt,tt,tt,tt,tt,ff,ff,ff,ff,ff,ff,ff,ff,ff,ff,ff,ff,ff,ff,ff,ff] rfl rfl (by kernel_rfl) (fun _ _ _ h => h) (Or.inl ⟨by rfl, ?_⟩) ?_ ?_; rotate_left; (intro w'; go_simp; with_reducible rfl); rotate_left; (simp only [Act.put, List.setIfInBounds_toArray, List.set_cons_zero, List.set_cons_succ, i64_w, i32_w]; rfl)
                            refine take_ (i := 6) (N := some 133) (v := ?_) (a' := ?_) #[tt,tt,tt,tt,tt,tt,tt,ff,ff,ff,ff,ff,ff,ff,ff,ff,ff,ff,ff,ff,ff,ff] rfl rfl (by kernel_rfl) (fun _ _ _ h => h) (Or.inl ⟨by rfl, ?_⟩) hHeld ?_ ?_; rotate_left; (rintro w' ⟨t1, b0, b1, d0⟩; go_simp; with_reducible rfl); rotate_left; (simp only [Act.put, List.setIfInBounds_toArray, List.set_cons_zero, List.set_cons_succ, i64_w, i32_w]; rfl)
                            refine pure_ (i := 7) (N := some 134) (v := ?_) (a' := ?_) #[tt,tt,tt,tt,tt,tt,tt,tt,ff,ff,ff,ff,ff,ff,ff,ff,ff,ff,ff,ff,ff,ff] rfl rfl (by kernel_rfl) (fun _ _ _ h => h) (Or.inl ⟨by rfl, ?_⟩) ?_ ?_; rotate_left; (intro w'; go_simp; with_reducible rfl); rotate_left; (simp only [Act.put, List.setIfInBounds_toArray, List.set_cons_zero, List.set_cons_succ, i64_w, i32_w]; rfl)
                            refine pure_ (i := 8) (N := some 135) (v := ?_) (a' := ?_) #[tt,tt,tt,tt,tt,tt,tt,tt,tt,ff,ff,ff,ff,ff,ff,ff,ff,ff,ff,ff,ff,ff] rfl rfl (by kernel_rfl) (fun _ _ _ h => h) (Or.inl ⟨by rfl, ?_⟩) ?_ ?_; rotate_left; (intro w'; go_simp; with_reducible rfl); rotate_left; (simp only [Act.put, List.setIfInBounds_toArray, List.set_cons_zero, List.set_cons_succ, i64_w, i32_w]; rfl)
                            refine pure_ (i := 9) (N := some 136) (v := ?_) (a' := ?_) #[tt,tt,tt,tt,tt,tt,tt,tt,tt,tt,ff,ff,ff,ff,ff,ff,ff,ff,ff,ff,ff,ff] rfl rfl (by kernel_rfl) (fun _ _ _ h => h) (Or.inl ⟨by rfl, ?_⟩) ?_ ?_; rotate_left; (intro w'; go_simp; with_reducible rfl); rotate_left; (simp only [Act.put, List.setIfInBounds_toArray, List.set_cons_zero, List.set_cons_succ, i64_w, i32_w]; rfl)
                            refine pure_ (i := 10) (N := some 137) (v := ?_) (a' := ?_) #[tt,tt,tt,tt,tt,tt,tt,tt,tt,tt,tt,ff,ff,ff,ff,ff,ff,ff,ff,ff,ff,ff] rfl rfl (by kernel_rfl) (fun _ _ _ h => h) (Or.inl ⟨by rfl, ?_⟩) ?_ ?_; rotate_left; (intro w'; go_simp; with_reducible rfl); rotate_left; (simp only [Act.put, List.setIfInBounds_toArray, List.set_cons_zero, List.set_cons_succ, i64_w, i32_w]; rfl)
                            refine pure_ (i := 11) (N := some 138) (v := ?_) (a' := ?_) #[tt,tt,tt,tt,tt,tt,tt,tt,tt,tt,tt,tt,ff,ff,ff,ff,ff,ff,ff,ff,ff,ff] rfl rfl (by kernel_rfl) (fun _ _ _ h => h) (Or.inl ⟨by rfl, ?_⟩) ?_ ?_; rotate_left; (intro w'; go_simp; with_reducible rfl); rotate_left; (simp only [Act.put, List.setIfInBounds_toArray, List.set_cons_zero, List.set_cons_succ, i64_w, i32_w]; rfl)
                            refine take_ (i := 12) (N := some 139) (v := ?_) (a' := ?_) #[tt,tt,tt,tt,tt,tt,tt,tt,tt,tt,tt,tt,tt,ff,ff,ff,ff,ff,ff,ff,ff,ff] rfl rfl (by kernel_rfl) (fun _ _ _ h => h) (Or.inl ⟨by rfl, ?_⟩) hHeld ?_ ?_; rotate_left; (rintro w' ⟨t1, b0, b1, d0⟩; go_simp; with_reducible rfl); rotate_left; (simp only [Act.put, List.setIfInBounds_toArray, List.set_cons_zero, List.set_cons_succ, i64_w, i32_w]; rfl)
                            refine pure_ (i := 13) (N := some 140) (v := ?_) (a' := ?_) #[tt,tt,tt,tt,tt,tt,tt,tt,tt,tt,tt,tt,tt,tt,ff,ff,ff,ff,ff,ff,ff,ff] rfl rfl (by kernel_rfl) (fun _ _ _ h => h) (Or.inl ⟨by rfl, ?_⟩) ?_ ?_; rotate_left; (intro w'; go_simp; with_reducible rfl); rotate_left; (simp only [Act.put, List.setIfInBounds_toArray, List.set_cons_zero, List.set_cons_succ, i64_w, i32_w]; rfl)
                            refine pure_ (i := 14) (N := some 141) (v := ?_) (a' := ?_) #[tt,tt,tt,tt,tt,tt,tt,tt,tt,tt,tt,tt,tt,tt,tt,ff,ff,ff,ff,ff,ff,ff] rfl rfl (by kernel_rfl) (fun _ _ _ h => h) (Or.inl ⟨by rfl, ?_⟩) ?_ ?_; rotate_left; (intro w'; go_simp; with_reducible rfl); rotate_left; (simp only [Act.put, List.setIfInBounds_toArray, List.set_cons_zero, List.set_cons_succ, i64_w, i32_w]; rfl)
                            refine pure_ (i := 15) (N := some 142) (v := ?_) (a' := ?_) #[tt,tt,tt,tt,tt,tt,tt,tt,tt,tt,tt,tt,tt,tt,tt,tt,ff,ff,ff,ff,ff,ff] rfl rfl (by kernel_rfl) (fun _ _ _ h => h) (Or.inl ⟨by rfl, ?_⟩) ?_ ?_; rotate_left; (intro w'; go_simp; with_reducible rfl); rotate_left; (simp only [Act.put, List.setIfInBounds_toArray, List.set_cons_zero, List.set_cons_succ, i64_w, i32_w]; rfl)
                            refine take_ (i := 16) (N := some 143) (v := ?_) (a' := ?_) #[tt,tt,tt,tt,tt,tt,tt,tt,tt,tt,tt,tt,tt,tt,tt,tt,tt,ff,ff,ff,ff,ff] rfl rfl (by kernel_rfl) (fun _ _ _ h => h) (Or.inl ⟨by rfl, ?_⟩) hHeld ?_ ?_; rotate_left; (rintro w' ⟨t1, b0, b1, d0⟩; go_simp; with_reducible rfl); rotate_left; (simp only [Act.put, List.setIfInBounds_toArray, List.set_cons_zero, List.set_cons_succ, i64_w, i32_w]; rfl)
                            refine pure_ (i := 17) (N := some 144) (v := ?_) (a' := ?_) #[tt,tt,tt,tt,tt,tt,tt,tt,tt,tt,tt,tt,tt,tt,tt,tt,tt,tt,ff,ff,ff,ff] rfl rfl (by kernel_rfl) (fun _ _ _ h => h) (Or.inl ⟨by rfl, ?_⟩) ?_ ?_; rotate_left; (intro w'; go_simp; with_reducible rfl); rotate_left; (simp only [Act.put, List.setIfInBounds_toArray, List.set_cons_zero, List.set_cons_succ, i64_w, i32_w]; rfl)
                            refine pure_ (i := 18) (N := some 145) (v := ?_) (a' := ?_) #[tt,tt,tt,tt,tt,tt,tt,tt,tt,tt,tt,tt,tt,tt,tt,tt,tt,tt,tt,ff,ff,ff] rfl rfl (by kernel_rfl) (fun _ _ _ h => h) (Or.inl ⟨by rfl, ?_⟩) ?_ ?_; rotate_left; (intro w'; go_simp; with_reducible rfl); rotate_left; (simp only [Act.put, List.setIfInBounds_toArray, List.set_cons_zero, List.set_cons_succ, i64_w, i32_w]; rfl)
                            refine pure_ (i := 19) (N := some 146) (v := ?_) (a' := ?_) #[tt,tt,tt,tt,tt,tt,tt,tt,tt,tt,tt,tt,tt,tt,tt,tt,tt,tt,tt,tt,ff,ff] rfl rfl (by kernel_rfl) (fun _ _ _ h => h) (Or.inl ⟨by rfl, ?_⟩) ?_ ?_; rotate_left; (intro w'; go_simp; with_reducible rfl); rotate_left; (simp only [Act.put, List.setIfInBounds_toArray, List.set_cons_zero, List.set_cons_succ, i64_w, i32_w]; rfl)
                            refine pure_ (i := 20) (N := some 147) (v := ?_) (a' := ?_) #[tt,tt,tt,tt,tt,tt,tt,tt,tt,tt,tt,tt,tt,tt,tt,tt,tt,tt,tt,tt,tt,ff] rfl rfl (by kernel_rfl) (fun _ _ _ h => h) (Or.inl ⟨by rfl, ?_⟩) ?_ ?_; rotate_left; (intro w'; go_simp; with_reducible rfl); rotate_left; (simp only [Act.put, List.setIfInBounds_toArray, List.set_cons_zero, List.set_cons_succ, i64_w, i32_w]; rfl)
                            refine last_ (i := 21) (N := none) #[tt,tt,tt,tt,tt,tt,tt,tt,tt,tt,tt,tt,tt,tt,tt,tt,tt,tt,tt,tt,tt,tt] rfl rfl (by kernel_rfl) (by decide) (fun K hK => ?_)
                            refine Go.Proofs.YtanmgkpgfmkobaaW.PrintLast.skip_ (w1 := wa.drew.setCell ⟨gt, 1, none⟩ (.bool true)) (by rfl) rfl ?_ ?_
                            · simp [go_sem, ft, tt1]
                            refine hK.out _ _ ?_; clear hK K
                            refine done_ (by kernel_rfl) ?_
                            clear tt1 ft
                            go_wp2
                            go_roundg gmO
                            case measure => omega
                            case rel =>
                              exact ⟨m + 1, true, by show Value.int .i64 (wrap64 ((m : Int) + 1)) = _; rw [IntWalk.wrap64_in _ (by have := HLA.out; omega)]; rfl, by omega, by have := hmf.out; show _ = _; omega, HANY.out true HE.out, (HSET.out true).1, (HSET.out true).2⟩
                          · have hver2 : ¬ (x.rds : Int) < (c.2 : Int) := by omega
                            have e : (false || metQ true x k c) = false := by unfold metQ; rw [HKE.out]; simp [hver]
                            have HE := Lib.hid e
                            clear e
                            refine start_ (n := 22) (S := fun w' => w'.cell? ⟨gt, 1, none⟩ = some (.bool false) ∧ w'.cell? ⟨gc, 0, none⟩ = some (.int .u64 c.1) ∧ w'.cell? ⟨gc, 1, none⟩ = some (.int .u64 (c.2 : Int)) ∧ w'.cell? ⟨g, 0, none⟩ = some (.int .u64 (x.rds : Int))) (ds := [21]) #[ff,ff,ff,ff,ff,ff,ff,ff,ff,ff,ff,ff,ff,ff,ff,ff,ff,ff,ff,ff,ff,ff] (by kernel_rfl) rfl rfl (⟨t1, b0, b1, d0⟩) (fun hHeld => ?_)
                            clear t1 b0 b1 d0
                            refine pure_ (i := 0) (N := some 127) (v := ?_) (a' := ?_) #[tt,ff,ff,ff,ff,ff,ff,ff,ff,ff,ff,ff,ff,ff,ff,ff,ff,ff,ff,ff,ff,ff] rfl rfl (by kernel_rfl) (fun _ _ _ h => h) (Or.inl ⟨by rfl, ?_⟩) ?_ ?_; rotate_left; (intro w'; go_simp; with_reducible rfl); rotate_left; (simp only [Act.put, List.setIfInBounds_toArray, List.set_cons_zero, List.set_cons_succ, i64_w, i32_w]; rfl)
                            refine take_ (i := 1) (N := some 128) (v := ?_) (a' := ?_) #[tt,tt,ff,ff,ff,ff,ff,ff,ff,ff,ff,ff,ff,ff,ff,ff,ff,ff,ff,ff,ff,ff] rfl rfl (by kernel_rfl) (fun _ _ _ h => h) (Or.inl ⟨by rfl, ?_⟩) hHeld ?_ ?_; rotate_left; (rintro w' ⟨t1, b0, b1, d0⟩; go_simp; with_reducible rfl); rotate_left; (simp only [Act.put, List.setIfInBounds_toArray, List.set_cons_zero, List.set_cons_succ, i64_w, i32_w]; rfl)
                            refine pure_ (i := 2) (N := some 129) (v := ?_) (a' := ?_) #[tt,tt,tt,ff,ff,ff,ff,ff,ff,ff,ff,ff,ff,ff,ff,ff,ff,ff,ff,ff,ff,ff] rfl rfl (by kernel_rfl) (fun _ _ _ h => h) (Or.inl ⟨by rfl, ?_⟩) ?_ ?_; rotate_left; (intro w'; go_simp; with_reducible rfl); rotate_left; (simp only [Act.put, List.setIfInBounds_toArray, List.set_cons_zero, List.set_cons_succ, i64_w, i32_w]; rfl)
                            refine pure_ (i := 3) (N := some 130) (v := ?_) (a' := ?_) #[tt,tt,tt,tt,ff,ff,ff,ff,ff,ff,ff,ff,ff,ff,ff,ff,ff,ff,ff,ff,ff,ff] rfl rfl (by kernel_rfl) (fun _ _ _ h => h) (Or.inl ⟨by rfl, ?_⟩) ?_ ?_; rotate_left; (intro w'; go_simp; with_reducible rfl); rotate_left; (simp only [Act.put, List.setIfInBounds_toArray, List.set_cons_zero, List.set_cons_succ, i64_w, i32_w]; rfl)
                            refine pure_ (i := 4) (N := some 131) (v := ?_) (a' := ?_) #[tt,tt,tt,tt,tt,ff,ff,ff,ff,ff,ff,ff,ff,ff,ff,ff,ff,ff,ff,ff,ff,ff] rfl rfl (by kernel_rfl) (fun _ _ _ h => h) (Or.inl ⟨by rfl, ?_⟩) ?_ ?_; rotate_left; (intro w'; go_simp; with_reducible rfl); rotate_left; (simp only [Act.put, List.setIfInBounds_toArray, List.set_cons_zero, List.set_cons_succ, i64_w, i32_w]; rfl)
                            refine pure_ (i := 5) (N := some 132) (v := ?_) (a' := ?_) #[tt,tt,tt,tt,tt,tt,ff,ff,ff,ff,ff,ff,ff,ff,ff,ff,ff,ff,ff,ff,ff,ff] rfl rfl (by kernel_rfl) (fun _ _ _ h => h) (Or.inl ⟨by rfl, ?_⟩) ?_ ?_; rotate_left; (intro w'; go_simp; with_reducible rfl); rotate_left; (simp only [Act.put, List.setIfInBounds_toArray, List.set_cons_zero, List.set_cons_succ, i64_w, i32_w]; rfl)
                            refine take_ (i := 6) (N := some 133) (v := ?_) (a' := ?_) #[tt,tt,tt,tt,tt,tt,tt,ff,ff,ff,ff,ff,ff,ff,ff,ff,ff,ff,ff,ff,ff,ff] rfl rfl (by kernel_rfl) (fun _ _ _ h => h) (Or.inl ⟨by rfl, ?_⟩) hHeld ?_ ?_; rotate_left; (rintro w' ⟨t1, b0, b1, d0⟩; go_simp; with_reducible rfl); rotate_left; (simp only [Act.put, List.setIfInBounds_toArray, List.set_cons_zero, List.set_cons_succ, i64_w, i32_w]; rfl)
                            refine pure_ (i := 7) (N := some 134) (v := ?_) (a' := ?_) #[tt,tt,tt,tt,tt,tt,tt,tt,ff,ff,ff,ff,ff,ff,ff,ff,ff,ff,ff,ff,ff,ff] rfl rfl (by kernel_rfl) (fun _ _ _ h => h) (Or.inl ⟨by rfl, ?_⟩) ?_ ?_; rotate_left; (intro w'; go_simp; with_reducible rfl); rotate_left; (simp only [Act.put, List.setIfInBounds_toArray, List.set_cons_zero, List.set_cons_succ, i64_w, i32_w]; rfl)
                            refine pure_ (i := 8) (N := some 135) (v := ?_) (a' := ?_) #[tt,tt,tt,tt,tt,tt,tt,tt,tt,ff,ff,ff,ff,ff,ff,ff,ff,ff,ff,ff,ff,ff] rfl rfl (by kernel_rfl) (fun _ _ _ h => h) (Or.inl ⟨by rfl, ?_⟩) ?_ ?_; rotate_left; (intro w'; go_simp; with_reducible rfl); rotate_left; (simp only [Act.put, List.setIfInBounds_toArray, List.set_cons_zero, List.set_cons_succ, i64_w, i32_w]; rfl)
                            refine pure_ (i := 9) (N := some 136) (v := ?_) (a' := ?_) #[tt,tt,tt,tt,tt,tt,tt,tt,tt,tt,ff,ff,ff,ff,ff,ff,ff,ff,ff,ff,ff,ff] rfl rfl (by kernel_rfl) (fun _ _ _ h => h) (Or.inl ⟨by rfl, ?_⟩) ?_ ?_; rotate_left; (intro w'; go_simp; with_reducible rfl); rotate_left; (simp only [Act.put, List.setIfInBounds_toArray, List.set_cons_zero, List.set_cons_succ, i64_w, i32_w]; rfl)
                            refine pure_ (i := 10) (N := some 137) (v := ?_) (a' := ?_) #[tt,tt,tt,tt,tt,tt,tt,tt,tt,tt,tt,ff,ff,ff,ff,ff,ff,ff,ff,ff,ff,ff] rfl rfl (by kernel_rfl) (fun _ _ _ h => h) (Or.inl ⟨by rfl, ?_⟩) ?_ ?_; rotate_left; (intro w'; go_simp; with_reducible rfl); rotate_left; (simp only [Act.put, List.setIfInBounds_toArray, List.set_cons_zero, List.set_cons_succ, i64_w, i32_w]; rfl)
                            refine pure_ (i := 11) (N := some 138) (v := ?_) (a' := ?_) #[tt,tt,tt,tt,tt,tt,tt,tt,tt,tt,tt,tt,ff,ff,ff,ff,ff,ff,ff,ff,ff,ff] rfl rfl (by kernel_rfl) (fun _ _ _ h => h) (Or.inl ⟨by rfl, ?_⟩) ?_ ?_; rotate_left; (intro w'; go_simp; with_reducible rfl); rotate_left; (simp only [Act.put, List.setIfInBounds_toArray, List.set_cons_zero, List.set_cons_succ, i64_w, i32_w]; rfl)
                            refine take_ (i := 12) (N := some 139) (v := ?_) (a' := ?_) #[tt,tt,tt,tt,tt,tt,tt,tt,tt,tt,tt,tt,tt,ff,ff,ff,ff,ff,ff,ff,ff,ff] rfl rfl (by kernel_rfl) (fun _ _ _ h => h) (Or.inl ⟨by rfl, ?_⟩) hHeld ?_ ?_; rotate_left; (rintro w' ⟨t1, b0, b1, d0⟩; go_simp; with_reducible rfl); rotate_left; (simp only [Act.put, List.setIfInBounds_toArray, List.set_cons_zero, List.set_cons_succ, i64_w, i32_w]; rfl)
                            refine pure_ (i := 13) (N := some 140) (v := ?_) (a' := ?_) #[tt,tt,tt,tt,tt,tt,tt,tt,tt,tt,tt,tt,tt,tt,ff,ff,ff,ff,ff,ff,ff,ff] rfl rfl (by kernel_rfl) (fun _ _ _ h => h) (Or.inl ⟨by rfl, ?_⟩) ?_ ?_; rotate_left; (intro w'; go_simp; with_reducible rfl); rotate_left; (simp only [Act.put, List.setIfInBounds_toArray, List.set_cons_zero, List.set_cons_succ, i64_w, i32_w]; rfl)
                            refine pure_ (i := 14) (N := some 141) (v := ?_) (a' := ?_) #[tt,tt,tt,tt,tt,tt,tt,tt,tt,tt,tt,tt,tt,tt,tt,ff,ff,ff,ff,ff,ff,ff] rfl rfl (by kernel_rfl) (fun _ _ _ h => h) (Or.inl ⟨by rfl, ?_⟩) ?_ ?_; rotate_left; (intro w'; go_simp; with_reducible rfl); rotate_left; (simp only [Act.put, List.setIfInBounds_toArray, List.set_cons_zero, List.set_cons_succ, i64_w, i32_w]; rfl)
                            refine pure_ (i := 15) (N := some 142) (v := ?_) (a' := ?_) #[tt,tt,tt,tt,tt,tt,tt,tt,tt,tt,tt,tt,tt,tt,tt,tt,ff,ff,ff,ff,ff,ff] rfl rfl (by kernel_rfl) (fun _ _ _ h => h) (Or.inl ⟨by rfl, ?_⟩) ?_ ?_; rotate_left; (intro w'; go_simp; with_reducible rfl); rotate_left; (simp only [Act.put, List.setIfInBounds_toArray, List.set_cons_zero, List.set_cons_succ, i64_w, i32_w]; rfl)
                            refine take_ (i := 16) (N := some 143) (v := ?_) (a' := ?_) #[tt,tt,tt,tt,tt,tt,tt,tt,tt,tt,tt,tt,tt,tt,tt,tt,tt,ff,ff,ff,ff,ff] rfl rfl (by kernel_rfl) (fun _ _ _ h => h) (Or.inl ⟨by rfl, ?_⟩) hHeld ?_ ?_; rotate_left; (rintro w' ⟨t1, b0, b1, d0⟩; go_simp; with_reducible rfl); rotate_left; (simp only [Act.put, List.setIfInBounds_toArray, List.set_cons_zero, List.set_cons_succ, i64_w, i32_w]; rfl)
                            refine pure_ (i := 17) (N := some 144) (v := ?_) (a' := ?_) #[tt,tt,tt,tt,tt,tt,tt,tt,tt,tt,tt,tt,tt,tt,tt,tt,tt,tt,ff,ff,ff,ff] rfl rfl (by kernel_rfl) (fun _ _ _ h => h) (Or.inl ⟨by rfl, ?_⟩) ?_ ?_; rotate_left; (intro w'; go_simp; with_reducible rfl); rotate_left; (simp only [Act.put, List.setIfInBounds_toArray, List.set_cons_zero, List.set_cons_succ, i64_w, i32_w]; rfl)
                            refine pure_ (i := 18) (N := some 145) (v := ?_) (a' := ?_) #[tt,tt,tt,tt,tt,tt,tt,tt,tt,tt,tt,tt,tt,tt,tt,tt,tt,tt,tt,ff,ff,ff] rfl rfl (by kernel_rfl) (fun _ _ _ h => h) (Or.inl ⟨by rfl, ?_⟩) ?_ ?_; rotate_left; (intro w'; go_simp; with_reducible rfl); rotate_left; (simp only [Act.put, List.setIfInBounds_toArray, List.set_cons_zero, List.set_cons_succ, i64_w, i32_w]; rfl)
                            refine pure_ (i := 19) (N := some 146) (v := ?_) (a' := ?_) #[tt,tt,tt,tt,tt,tt,tt,tt,tt,tt,tt,tt,tt,tt,tt,tt,tt,tt,tt,tt,ff,ff] rfl rfl (by kernel_rfl) (fun _ _ _ h => h) (Or.inl ⟨by rfl, ?_⟩) ?_ ?_; rotate_left; (intro w'; go_simp; with_reducible rfl); rotate_left; (simp only [Act.put, List.setIfInBounds_toArray, List.set_cons_zero, List.set_cons_succ, i64_w, i32_w]; rfl)
                            refine pure_ (i := 20) (N := some 147) (v := ?_) (a' := ?_) #[tt,tt,tt,tt,tt,tt,tt,tt,tt,tt,tt,tt,tt,tt,tt,tt,tt,tt,tt,tt,tt,ff] rfl rfl (by kernel_rfl) (fun _ _ _ h => h) (Or.inl ⟨by rfl, ?_⟩) ?_ ?_; rotate_left; (intro w'; go_simp; with_reducible rfl); rotate_left; (simp only [Act.put, List.setIfInBounds_toArray, List.set_cons_zero, List.set_cons_succ, i64_w, i32_w]; rfl)
                            refine last_ (i := 21) (N := none) #[tt,tt,tt,tt,tt,tt,tt,tt,tt,tt,tt,tt,tt,tt,tt,tt,tt,tt,tt,tt,tt,tt] rfl rfl (by kernel_rfl) (by decide) (fun K hK => ?_)
                            refine Go.Proofs.YtanmgkpgfmkobaaW.PrintLast.skip_ (w1 := wa.drew.setCell ⟨gt, 1, none⟩ (.bool false)) (by rfl) rfl ?_ ?_
                            · simp [go_sem, ft, tt1]
                            refine hK.out _ _ ?_; clear hK K
                            refine done_ (by kernel_rfl) ?_
                            clear tt1 ft
                            go_wp2
                            go_roundg gmO
                            case measure => omega
                            case rel =>
                              exact ⟨m + 1, false, by show Value.int .i64 (wrap64 ((m : Int) + 1)) = _; rw [IntWalk.wrap64_in _ (by have := HLA.out; omega)]; rfl, by omega, by have := hmf.out; show _ = _; omega, HANY.out false HE.out, (HSET.out false).1, (HSET.out false).2⟩
                        · have hkb : (c.1 == k) = false := by rw [beq_eq_false_iff_ne]; exact hke
                          have e : (false || metQ true x k c) = false := by unfold metQ; rw [hkb]; rfl
                          have HE := Lib.hid e
                          clear e
                          refine start_ (n := 22) (S := fun w' => w'.cell? ⟨gt, 1, none⟩ = some (.bool false) ∧ w'.cell? ⟨gc, 0, none⟩ = some (.int .u64 c.1) ∧ w'.cell? ⟨gc, 1, none⟩ = some (.int .u64 (c.2 : Int)) ∧ w'.cell? ⟨g, 0, none⟩ = some (.int .u64 (x.rds : Int))) (ds := [21]) #[ff,ff,ff,ff,ff,ff,ff,ff,ff,ff,ff,ff,ff,ff,ff,ff,ff,ff,ff,ff,ff,ff] (by kernel_rfl) rfl rfl (⟨t1, b0, b1, d0⟩) (fun hHeld => ?_)
                          clear t1 b0 b1 d0
                          refine pure_ (i := 0) (N := some 127) (v := ?_) (a' := ?_) #[tt,ff,ff,ff,ff,ff,ff,ff,ff,ff,ff,ff,ff,ff,ff,ff,ff,ff,ff,ff,ff,ff] rfl rfl (by kernel_rfl) (fun _ _ _ h => h) (Or.inl ⟨by rfl, ?_⟩) ?_ ?_; rotate_left; (intro w'; go_simp; with_reducible rfl); rotate_left; (simp only [Act.put, List.setIfInBounds_toArray, List.set_cons_zero, List.set_cons_succ, i64_w, i32_w]; rfl)
                          refine take_ (i := 1) (N := some 128) (v := ?_) (a' := ?_) #[tt,tt,ff,ff,ff,ff,ff,ff,ff,ff,ff,ff,ff,ff,ff,ff,ff,ff,ff,ff,ff,ff] rfl rfl (by kernel_rfl) (fun _ _ _ h => h) (Or.inl ⟨by rfl, ?_⟩) hHeld ?_ ?_; rotate_left; (rintro w' ⟨t1, b0, b1, d0⟩; go_simp; with_reducible rfl); rotate_left; (simp only [Act.put, List.setIfInBounds_toArray, List.set_cons_zero, List.set_cons_succ, i64_w, i32_w]; rfl)
                          refine pure_ (i := 2) (N := some 129) (v := ?_) (a' := ?_) #[tt,tt,tt,ff,ff,ff,ff,ff,ff,ff,ff,ff,ff,ff,ff,ff,ff,ff,ff,ff,ff,ff] rfl rfl (by kernel_rfl) (fun _ _ _ h => h) (Or.inl ⟨by rfl, ?_⟩) ?_ ?_; rotate_left; (intro w'; go_simp; with_reducible rfl); rotate_left; (simp only [Act.put, List.setIfInBounds_toArray, List.set_cons_zero, List.set_cons_succ, i64_w, i32_w]; rfl)
                          refine pure_ (i := 3) (N := some 130) (v := ?_) (a' := ?_) #[tt,tt,tt,tt,ff,ff,ff,ff,ff,ff,ff,ff,ff,ff,ff,ff,ff,ff,ff,ff,ff,ff] rfl rfl (by kernel_rfl) (fun _ _ _ h => h) (Or.inl ⟨by rfl, ?_⟩) ?_ ?_; rotate_left; (intro w'; go_simp; with_reducible rfl); rotate_left; (simp only [Act.put, List.setIfInBounds_toArray, List.set_cons_zero, List.set_cons_succ, i64_w, i32_w]; rfl)
                          refine pure_ (i := 4) (N := some 131) (v := ?_) (a' := ?_) #[tt,tt,tt,tt,tt,ff,ff,ff,ff,ff,ff,ff,ff,ff,ff,ff,ff,ff,ff,ff,ff,ff] rfl rfl (by kernel_rfl) (fun _ _ _ h => h) (Or.inl ⟨by rfl, ?_⟩) ?_ ?_; rotate_left; (intro w'; go_simp; with_reducible rfl); rotate_left; (simp only [Act.put, List.setIfInBounds_toArray, List.set_cons_zero, List.set_cons_succ, i64_w, i32_w]; rfl)
                          refine pure_ (i := 5) (N := some 132) (v := ?_) (a' := ?_) #[tt,tt,tt,tt,tt,tt,ff,ff,ff,ff,ff,ff,ff,ff,ff,ff,ff,ff,ff,ff,ff,ff] rfl rfl (by kernel_rfl) (fun _ _ _ h => h) (Or.inl ⟨by rfl, ?_⟩) ?_ ?_; rotate_left; (intro w'; go_simp; with_reducible rfl); rotate_left; (simp only [Act.put, List.setIfInBounds_toArray, List.set_cons_zero, List.set_cons_succ, i64_w, i32_w]; rfl)
                          refine take_ (i := 6) (N := some 133) (v := ?_) (a' := ?_) #[tt,tt,tt,tt,tt,tt,tt,ff,ff,ff,ff,ff,ff,ff,ff,ff,ff,ff,ff,ff,ff,ff] rfl rfl (by kernel_rfl) (fun _ _ _ h => h) (Or.inl ⟨by rfl, ?_⟩) hHeld ?_ ?_; rotate_left; (rintro w' ⟨t1, b0, b1, d0⟩; go_simp; with_reducible rfl); rotate_left; (simp only [Act.put, List.setIfInBounds_toArray, List.set_cons_zero, List.set_cons_succ, i64_w, i32_w]; rfl)
                          refine pure_ (i := 7) (N := some 134) (v := ?_) (a' := ?_) #[tt,tt,tt,tt,tt,tt,tt,tt,ff,ff,ff,ff,ff,ff,ff,ff,ff,ff,ff,ff,ff,ff] rfl rfl (by kernel_rfl) (fun _ _ _ h => h) (Or.inl ⟨by rfl, ?_⟩) ?_ ?_; rotate_left; (intro w'; go_simp; with_reducible rfl); rotate_left; (simp only [Act.put, List.setIfInBounds_toArray, List.set_cons_zero, List.set_cons_succ, i64_w, i32_w]; rfl)
                          refine pure_ (i := 8) (N := some 135) (v := ?_) (a' := ?_) #[tt,tt,tt,tt,tt,tt,tt,tt,tt,ff,ff,ff,ff,ff,ff,ff,ff,ff,ff,ff,ff,ff] rfl rfl (by kernel_rfl) (fun _ _ _ h => h) (Or.inl ⟨by rfl, ?_⟩) ?_ ?_; rotate_left; (intro w'; go_simp; with_reducible rfl); rotate_left; (simp only [Act.put, List.setIfInBounds_toArray, List.set_cons_zero, List.set_cons_succ, i64_w, i32_w]; rfl)
                          refine pure_ (i := 9) (N := some 136) (v := ?_) (a' := ?_) #[tt,tt,tt,tt,tt,tt,tt,tt,tt,tt,ff,ff,ff,ff,ff,ff,ff,ff,ff,ff,ff,ff] rfl rfl (by kernel_rfl) (fun _ _ _ h => h) (Or.inl ⟨by rfl, ?_⟩) ?_ ?_; rotate_left; (intro w'; go_simp; with_reducible rfl); rotate_left; (simp only [Act.put, List.setIfInBounds_toArray, List.set_cons_zero, List.set_cons_succ, i64_w, i32_w]; rfl)
                          refine pure_ (i := 10) (N := some 137) (v := ?_) (a' := ?_) #[tt,tt,tt,tt,tt,tt,tt,tt,tt,tt,tt,ff,ff,ff,ff,ff,ff,ff,ff,ff,ff,ff] rfl rfl (by kernel_rfl) (fun _ _ _ h => h) (Or.inl ⟨by rfl, ?_⟩) ?_ ?_; rotate_left; (intro w'; go_simp; with_reducible rfl); rotate_left; (simp only [Act.put, List.setIfInBounds_toArray, List.set_cons_zero, List.set_cons_succ, i64_w, i32_w]; rfl)
                          refine pure_ (i := 11) (N := some 138) (v := undef) (a' := ?_) #[tt,tt,tt,tt,tt,tt,tt,tt,tt,tt,tt,tt,ff,ff,ff,ff,ff,ff,ff,ff,ff,ff] rfl rfl (by kernel_rfl) (fun _ _ _ h => h) (Or.inr ⟨by rfl, rfl⟩) ?_ ?_; rotate_left; (simp only [Act.put, List.setIfInBounds_toArray, List.set_cons_zero, List.set_cons_succ, i64_w, i32_w]; rfl)
                          refine pure_ (i := 12) (N := some 139) (v := undef) (a' := ?_) #[tt,tt,tt,tt,tt,tt,tt,tt,tt,tt,tt,tt,tt,ff,ff,ff,ff,ff,ff,ff,ff,ff] rfl rfl (by kernel_rfl) (fun _ _ _ h => h) (Or.inr ⟨by rfl, rfl⟩) ?_ ?_; rotate_left; (simp only [Act.put, List.setIfInBounds_toArray, List.set_cons_zero, List.set_cons_succ, i64_w, i32_w]; rfl)
                          refine pure_ (i := 13) (N := some 140) (v := undef) (a' := ?_) #[tt,tt,tt,tt,tt,tt,tt,tt,tt,tt,tt,tt,tt,tt,ff,ff,ff,ff,ff,ff,ff,ff] rfl rfl (by kernel_rfl) (fun _ _ _ h => h) (Or.inr ⟨by rfl, rfl⟩) ?_ ?_; rotate_left; (simp only [Act.put, List.setIfInBounds_toArray, List.set_cons_zero, List.set_cons_succ, i64_w, i32_w]; rfl)
                          refine pure_ (i := 14) (N := some 141) (v := undef) (a' := ?_) #[tt,tt,tt,tt,tt,tt,tt,tt,tt,tt,tt,tt,tt,tt,tt,ff,ff,ff,ff,ff,ff,ff] rfl rfl (by kernel_rfl) (fun _ _ _ h => h) (Or.inr ⟨by rfl, rfl⟩) ?_ ?_; rotate_left; (simp only [Act.put, List.setIfInBounds_toArray, List.set_cons_zero, List.set_cons_succ, i64_w, i32_w]; rfl)
                          refine pure_ (i := 15) (N := some 142) (v := undef) (a' := ?_) #[tt,tt,tt,tt,tt,tt,tt,tt,tt,tt,tt,tt,tt,tt,tt,tt,ff,ff,ff,ff,ff,ff] rfl rfl (by kernel_rfl) (fun _ _ _ h => h) (Or.inr ⟨by rfl, rfl⟩) ?_ ?_; rotate_left; (simp only [Act.put, List.setIfInBounds_toArray, List.set_cons_zero, List.set_cons_succ, i64_w, i32_w]; rfl)
                          refine pure_ (i := 16) (N := some 143) (v := undef) (a' := ?_) #[tt,tt,tt,tt,tt,tt,tt,tt,tt,tt,tt,tt,tt,tt,tt,tt,tt,ff,ff,ff,ff,ff] rfl rfl (by kernel_rfl) (fun _ _ _ h => h) (Or.inr ⟨by rfl, rfl⟩) ?_ ?_; rotate_left; (simp only [Act.put, List.setIfInBounds_toArray, List.set_cons_zero, List.set_cons_succ, i64_w, i32_w]; rfl)
                          refine pure_ (i := 17) (N := some 144) (v := undef) (a' := ?_) #[tt,tt,tt,tt,tt,tt,tt,tt,tt,tt,tt,tt,tt,tt,tt,tt,tt,tt,ff,ff,ff,ff] rfl rfl (by kernel_rfl) (fun _ _ _ h => h) (Or.inr ⟨by rfl, rfl⟩) ?_ ?_; rotate_left; (simp only [Act.put, List.setIfInBounds_toArray, List.set_cons_zero, List.set_cons_succ, i64_w, i32_w]; rfl)
                          refine pure_ (i := 18) (N := some 145) (v := ?_) (a' := ?_) #[tt,tt,tt,tt,tt,tt,tt,tt,tt,tt,tt,tt,tt,tt,tt,tt,tt,tt,tt,ff,ff,ff] rfl rfl (by kernel_rfl) (fun _ _ _ h => h) (Or.inl ⟨by rfl, ?_⟩) ?_ ?_; rotate_left; (intro w'; go_simp; with_reducible rfl); rotate_left; (simp only [Act.put, List.setIfInBounds_toArray, List.set_cons_zero, List.set_cons_succ, i64_w, i32_w]; rfl)
                          refine pure_ (i := 19) (N := some 146) (v := ?_) (a' := ?_) #[tt,tt,tt,tt,tt,tt,tt,tt,tt,tt,tt,tt,tt,tt,tt,tt,tt,tt,tt,tt,ff,ff] rfl rfl (by kernel_rfl) (fun _ _ _ h => h) (Or.inl ⟨by rfl, ?_⟩) ?_ ?_; rotate_left; (intro w'; go_simp; with_reducible rfl); rotate_left; (simp only [Act.put, List.setIfInBounds_toArray, List.set_cons_zero, List.set_cons_succ, i64_w, i32_w]; rfl)
                          refine pure_ (i := 20) (N := some 147) (v := ?_) (a' := ?_) #[tt,tt,tt,tt,tt,tt,tt,tt,tt,tt,tt,tt,tt,tt,tt,tt,tt,tt,tt,tt,tt,ff] rfl rfl (by kernel_rfl) (fun _ _ _ h => h) (Or.inl ⟨by rfl, ?_⟩) ?_ ?_; rotate_left; (intro w'; go_simp; with_reducible rfl); rotate_left; (simp only [Act.put, List.setIfInBounds_toArray, List.set_cons_zero, List.set_cons_succ, i64_w, i32_w]; rfl)
                          refine last_ (i := 21) (N := none) #[tt,tt,tt,tt,tt,tt,tt,tt,tt,tt,tt,tt,tt,tt,tt,tt,tt,tt,tt,tt,tt,tt] rfl rfl (by kernel_rfl) (by decide) (fun K hK => ?_)
                          refine Go.Proofs.YtanmgkpgfmkobaaW.PrintLast.skip_ (w1 := wa.drew.setCell ⟨gt, 1, none⟩ (.bool false)) (by rfl) rfl ?_ ?_
                          · simp [go_sem, ft, tt1]
                          refine hK.out _ _ ?_; clear hK K
                          refine done_ (by kernel_rfl) ?_
                          clear tt1 ft
                          go_wp2
                          go_roundg gmO
                          case measure => omega
                          case rel =>
                            exact ⟨m + 1, false, by show Value.int .i64 (wrap64 ((m : Int) + 1)) = _; rw [IntWalk.wrap64_in _ (by have := HLA.out; omega)]; rfl, by omega, by have := hmf.out; show _ = _; omega, HANY.out false HE.out, (HSET.out false).1, (HSET.out false).2⟩
                  · have hme : m = s.last.length := by omega
                    have hmlt2 : ¬ (m : Int) < (s.last.length : Int) := by omega
                    go_wp2
                    go_roundg gjO
                    case measure => omega
                    case rel =>
                      refine ⟨j + 1, cn, rfl, by omega, by have := hjf.out; show _ = _; omega, ?_, hswm.out, htxm.out⟩
                      rw [Hid, HTK.out, List.any_append, ← hcj.out, hcm.out, hme, List.take_length]
                      simp
              · have hje : j = x.read.length := by omega
                have hjlt2 : ¬ (j : Int) < (x.read.length : Int) := by omega
                have hcf : Hid (conf = s.hits cf x) := by rw [Hid, hitsQ_def, hcj.out, hje, List.take_length]
                have t1 : wr.cell? ⟨gt, 1, none⟩ = some (.bool conf) := hswj.out.told.at_ rfl
                cases conf with
                | true =>
                  go_wp2
                  go_meet
                  exact ⟨s, ow, A10, c10, 0, true, rfl, rfl, by rw [Hid, hact0.out, if_neg (by rw [HEN.out]; simp), if_neg HM1.out, if_neg HM2.out, if_neg HM4.out, if_pos HK3.out, if_pos hcf.out.symm], hswj.out⟩
                | false =>
                  have hn1 : (s.next : Int) ≤ 2000 := by have := hsq.out.nx; omega
                  have hn0 : (0 : Int) ≤ (s.next : Int) := by omega
                  have hsw1 : Hid (SwQ w.heap.size gs s w (wr.setCell ⟨gt, 0, none⟩ (.int .u64 (s.next : Int))) ow (some ⟨g9, 0, none⟩) c9 A10 c10 A8 c8 tl gt s.next false) := hswj.out.frm (Frm.set wr ⟨gt, 0, none⟩ _) (hswj.out.told.set_ 0 (.int .u64 (s.next : Int)))
                  have htx1 : Hid (TxQ (wr.setCell ⟨gt, 0, none⟩ (.int .u64 (s.next : Int))) w.heap.size g (.slice Ar x.read.length cr) (.slice Aw x.writes.length cw) x) := htxj.out.of (fun b hb => (Frm.set wr ⟨gt, 0, none⟩ _).block b (htxj.out.lt b hb) (fun hm => by
                    rw [List.mem_singleton] at hm
                    have hm : b = gt := hm
                    subst hm
                    rcases footQ_mem.1 hb with e | hb | hb
                    · subst e; exact blk_neO htxj.out.blk hswj.out.told (by decide) rfl
                    · obtain ⟨cs, hk, _⟩ := htxj.out.rd.blk hb
                      exact blk_neO hk hswj.out.told (by decide) rfl
                    · obtain ⟨cs, hk, _⟩ := htxj.out.wr.blk hb
                      exact blk_neO hk hswj.out.told (by decide) rfl))
                  have htx2 : Hid (TxQ ((wr.setCell ⟨gt, 0, none⟩ (.int .u64 (s.next : Int))).setCell ⟨g, 3, none⟩ (.bool true)) w.heap.size g (.slice Ar x.read.length cr) (.slice Aw x.writes.length cw) { x with ended := true }) := htx1.out.ends
                  have hsw2 : Hid (SwQ w.heap.size gs { s with txs := s.txs.set t { x with ended := true } } w ((wr.setCell ⟨gt, 0, none⟩ (.int .u64 (s.next : Int))).setCell ⟨g, 3, none⟩ (.bool true)) (upO ow (wr.setCell ⟨gt, 0, none⟩ (.int .u64 (s.next : Int))) ((wr.setCell ⟨gt, 0, none⟩ (.int .u64 (s.next : Int))).setCell ⟨g, 3, none⟩ (.bool true)) (t + 1)) (some ⟨g9, 0, none⟩) c9 A10 c10 A8 c8 tl gt s.next false) := hsw1.out.set HG.out (Frm.set (wr.setCell ⟨gt, 0, none⟩ (.int .u64 (s.next : Int))) ⟨g, 3, none⟩ (.bool true)) (fun b hb => by rw [List.mem_singleton] at hb; subst hb; exact HTO.out _ (footQ_mem.2 (.inl rfl))) htx2.out (fun b hb _ => HTO.out b hb)
                  have z0 : wr.cell? ⟨gt, 0, none⟩ = some (.int .u64 0) := hswj.out.told.at_ rfl
                  have f0 := hswj.out.told.frozen 0
                  have z3 : (wr.setCell ⟨gt, 0, none⟩ (.int .u64 (s.next : Int))).cell? ⟨g, 3, none⟩ = some (.bool x.ended) := htx1.out.blk.at_ rfl
                  have f3 := htx1.out.blk.frozen 3
                  go_upto_region 33 with fail
                  have z2 : ((wr.setCell ⟨gt, 0, none⟩ (.int .u64 (s.next : Int))).setCell ⟨g, 3, none⟩ (.bool true)).cell? ⟨g, 2, none⟩ = some (.slice Aw x.writes.length cw) := htx2.out.blk.at_ rfl
                  clear z0 f0 z3 f3 t1 hsw1 htx1 hswj htxj
                  generalize upO ow (wr.setCell ⟨gt, 0, none⟩ (.int .u64 (s.next : Int))) ((wr.setCell ⟨gt, 0, none⟩ (.int .u64 (s.next : Int))).setCell ⟨g, 3, none⟩ (.bool true)) (t + 1) = ow2 at *
                  generalize ((wr.setCell ⟨gt, 0, none⟩ (.int .u64 (s.next : Int))).setCell ⟨g, 3, none⟩ (.bool true)) = w2 at *
                  go_wp2
                  go_loopg [10, 163] x.writes.length (fun f v10 v163 wr => ∃ (j : Nat) (A10' : Option Addr) (c10' : Nat), v10 = .slice A10' (s.last.length + j) c10' ∧ v163 = .int .i64 (j : Int) ∧ j ≤ x.writes.length ∧ Hid (j + f = x.writes.length) ∧ Hid (SwQ w.heap.size gs { s with txs := s.txs.set t { x with ended := true }, last := s.last ++ (x.writes.take (j)).map fun k => (k, s.next) } w wr ow2 (some ⟨g9, 0, none⟩) c9 A10' c10' A8 c8 tl gt s.next false) ∧ Hid (TxQ wr w.heap.size g (.slice Ar x.read.length cr) (.slice Aw x.writes.length cw) { x with ended := true }))
                  case atStart =>
                    refine ⟨0, A10, c10, rfl, rfl, Nat.zero_le _, by simp [Hid], ?_, htx2.out⟩
                    have e : ({ s with txs := s.txs.set t { x with ended := true }, last := s.last ++ (x.writes.take (0)).map fun k => (k, s.next) } : SSt) = { s with txs := s.txs.set t { x with ended := true } } := by simp
                    rw [e]
                    exact hsw2.out
                  case round =>
                    obtain ⟨j, A10', c10', rfl, rfl, hjn, hjf, hswk, htxk⟩ := hrel
                    have hlj : (s.last ++ (x.writes.take j).map fun k => (k, s.next)).length = s.last.length + j := by rw [List.length_append, List.length_map, List.length_take]; omega
                    have HLJ := Lib.hid hlj
                    clear hlj
                    by_cases hjlt : j < x.writes.length
                    · obtain ⟨k, hk⟩ : ∃ k, x.writes[j]? = some k := ⟨_, List.getElem?_eq_getElem hjlt⟩
                      have hjlt2 : (j : Int) < (x.writes.length : Int) := by omega
                      obtain ⟨gaw, oaw, u, hAw, hu, hcell⟩ : ∃ ga o u, Aw = some ⟨ga, o, none⟩ ∧ (nums .u64 x.writes)[j]? = some u ∧ wr.cell? ⟨ga, o + j, none⟩ = some u := by
                        obtain ⟨A', c', h1, _, h2⟩ := htxk.out.wr.sl
                        rw [nums_length] at h1 h2
                        injection h1 with h3 h4 h5
                        subst h3
                        exact h2.at_ hjlt
                      obtain rfl : Value.int .u64 k = u := by
                        unfold nums at hu
                        rw [List.getElem?_map, hk] at hu
                        injection hu
                      subst hAw
                      clear hu
                      have htk : x.writes.take (j + 1) = x.writes.take j ++ [k] := by rw [List.take_add_one, hk]; rfl
                      have HTK := Lib.hid htk
                      clear htk hk
                      obtain ⟨gjO, rfl⟩ : ∃ g, gk = g + 1 := ⟨gk - 1, by have := hjf.out; omega⟩
                      have hswa : Hid (SwQ w.heap.size gs { s with txs := s.txs.set t { x with ended := true }, last := s.last ++ (x.writes.take (j)).map fun k => (k, s.next) } w (wr.alloc (.cells #[.int .u64 k, .int .u64 (s.next : Int)] 109)) ow2 (some ⟨g9, 0, none⟩) c9 A10' c10' A8 c8 tl gt s.next false) := hswk.out.grow (Frm.alloc wr _)
                      have hna : Hid (Blk (wr.alloc (.cells #[.int .u64 k, .int .u64 (s.next : Int)] 109)) wr.heap.size 109 [.int .u64 k, .int .u64 (s.next : Int)]) := Blk.new wr _ _
                      have htxa : Hid (TxQ (wr.alloc (.cells #[.int .u64 k, .int .u64 (s.next : Int)] 109)) w.heap.size g (.slice Ar x.read.length cr) (.slice (some ⟨gaw, oaw, none⟩) x.writes.length cw) { x with ended := true }) := htxk.out.of (fun b hb => (Frm.alloc wr _).block b (htxk.out.lt b hb) (by simp))
                      have hcom : Hid ((wr.alloc (.cells #[.int .u64 k, .int .u64 (s.next : Int)] 109)).ownsRow w.heap.size 109 2 (.slice A10' (s.last.length + j) c10') (s.last.length + j) (flatC (s.last ++ (x.writes.take j).map fun k => (k, s.next)))) := by
                        have h := hswa.out.qr.com
                        have h : (wr.alloc (.cells #[.int .u64 k, .int .u64 (s.next : Int)] 109)).ownsRow w.heap.size 109 2 (.slice A10' (s.last ++ (x.writes.take j).map fun k => (k, s.next)).length c10') (s.last ++ (x.writes.take j).map fun k => (k, s.next)).length (flatC (s.last ++ (x.writes.take j).map fun k => (k, s.next))) := h
                        rw [HLJ.out] at h
                        exact h
                      go_wp2_with (at_builtin; (refine wpList_append_cm rfl (.tmp 167) (.tmp 171) rfl w.heap.size (.slice A10' (s.last.length + j) c10') (s.last.length + j) (flatC (s.last ++ (x.writes.take j).map fun k => (k, s.next))) rfl hcom.out wr.heap.size 1 [.int .u64 k, .int .u64 (s.next : Int)] rfl rfl hna.out (by simp [Value.oneCell']) (by have := HLA.out; omega) hswa.out.qr.qs.base ?_; intro v9 w9 ho9 hg9 hat9))
                      obtain ⟨A11, c11, rfl⟩ : ∃ A c, v9 = .slice A (s.last.length + j + 1) c := by
                        rcases ho9.2 with ⟨_, h0⟩ | ⟨g, cap, cur, rfl, _⟩
                        · omega
                        · exact ⟨_, _, rfl⟩
                      go_roundg gjO
                      case measure => omega
                      case rel =>
                        have hsn : s.last ++ (x.writes.take (j + 1)).map (fun k => (k, s.next)) = (s.last ++ (x.writes.take j).map fun k => (k, s.next)) ++ [(k, s.next)] := by rw [HTK.out, List.map_append, List.append_assoc]; rfl
                        refine ⟨j + 1, A11, c11, rfl, rfl, by omega, by have := hjf.out; show _ = _; omega, ?_, htxa.out.apart hcom.out (frmRowO hg9) (by decide) (by decide)⟩
                        rw [Hid, hsn]
                        refine hswa.out.coms (t := (k, s.next)) ?_ ?_ ?_
                        · show World.ownsRow _ _ _ _ (.slice _ ((s.last ++ (x.writes.take j).map fun k => (k, s.next)).length + 1) _) ((s.last ++ (x.writes.take j).map fun k => (k, s.next)).length + 1) _
                          rw [HLJ.out]
                          exact ho9
                        · show World.grownBy _ _ (Value.slice A10' (s.last ++ (x.writes.take j).map fun k => (k, s.next)).length c10').ownBlock
                          rw [HLJ.out]
                          exact hg9
                        · show (Value.slice A11 ((s.last ++ (x.writes.take j).map fun k => (k, s.next)).length + 1) c11).ownBlock = (Value.slice A10' (s.last ++ (x.writes.take j).map fun k => (k, s.next)).length c10').ownBlock ∨ _
                          rw [HLJ.out]
                          exact hat9
                    · have hje2 : j = x.writes.length := by omega
                      have hjlt2 : ¬ (j : Int) < (x.writes.length : Int) := by omega
                      have HJE := Lib.hid hje2
                      clear hje2
                      go_wp2
                      go_meet
                      have h := hswk.out
                      have htot : x.writes.take j = x.writes := by rw [HJE.out, List.take_length]
                      rw [htot] at h
                      refine ⟨{ next := s.next + 1, txs := s.txs.set t { x with ended := true }, last := s.last ++ x.writes.map fun k => (k, s.next) }, ow2, A10', c10', s.next, false, ?_, ?_, by rw [Hid, hact0.out, if_neg (by rw [HEN.out]; simp), if_neg HM1.out, if_neg HM2.out, if_neg HM4.out, if_pos HK3.out, if_neg (by rw [← hcf.out]; simp)], ?_⟩
                      · show _ = Value.slice _ (s.last ++ x.writes.map fun k => (k, s.next)).length _
                        have h3 := HLJ.out
                        rw [htot] at h3
                        rw [h3]
                      · show _ = Value.int .u64 ((s.next + 1 : Nat) : Int)
                        rfl
                      · exact ⟨⟨h.qr.qs, h.qr.lst, h.qr.l0, h.qr.com, h.qr.c0, h.qr.out, h.qr.o0⟩, h.told, h.g0, h.gn, h.gB, h.bel⟩
          have hk3b : (a.kind == 3) = false := by rw [beq_eq_false_iff_ne]; exact hk3
          have hact : s.act cf a = none := by rw [hact0.out, if_neg (by rw [HEN.out]; simp), if_neg hk1, if_neg hk2, if_neg hk4, if_neg hk3]
          have HNO := Lib.hid (QPost.no (n := n) (run_no hrun.out hact) hbb.out)
          clear hact
          go_wp2
          go_ret2
          exact HNO.out
        case rest =>
          obtain ⟨s', ow', A10', c10', ver, conf, rfl, rfl, hact, hsw⟩ := hcut
          have HACT := Lib.hid hact.out
          have HSW := Lib.hid hsw.out
          clear hact hsw hrb hbb hbt hba k0 k1 k2 e9 x3 hg0 hga0 hgn hgB HTX HTO
          have z3 : wc.cell? ⟨gt, 3, none⟩ = some (.int .u64 0) := HSW.out.told.at_ rfl
          have f3 := HSW.out.told.frozen 3
          go_upto_region 40 with fail
          have ht5 : Hid (Blk (wc.setCell ⟨gt, 3, none⟩ (.int .u64 (s'.next : Int))) gt 57 [.int .u64 (ver : Int), .bool conf, .int .u64 0, .int .u64 (s'.next : Int)]) := HSW.out.told.set_ 3 (.int .u64 (s'.next : Int))
          have hf5 : Hid (Frm [gt] wc (wc.setCell ⟨gt, 3, none⟩ (.int .u64 (s'.next : Int)))) := Frm.set wc ⟨gt, 3, none⟩ _
          have hq5 : Hid (QR w.heap.size gs s' (wc.setCell ⟨gt, 3, none⟩ (.int .u64 (s'.next : Int))) ow' (some ⟨g9, 0, none⟩) c9 A10' c10' A8 c8 tl) := HSW.out.qr.frm hf5.out (fun b hm _ => by
            rw [List.mem_singleton] at hm
            subst hm
            exact ⟨HSW.out.g0, own_ne_blk HSW.out.qr.lst HSW.out.told (by decide), own_ne_blk HSW.out.qr.com HSW.out.told (by decide), HSW.out.gn⟩)
          have hb5 : Hid (Below w.heap.size w (wc.setCell ⟨gt, 3, none⟩ (.int .u64 (s'.next : Int)))) := HSW.out.bel.trans (hf5.out.below HSW.out.qr.qs.base (fun b hm => by
            rw [List.mem_singleton] at hm
            subst hm
            exact HSW.out.gB))
          clear z3 f3 HSW hf5
          generalize (wc.setCell ⟨gt, 3, none⟩ (.int .u64 (s'.next : Int))) = w5 at *
          have t0 : w5.cell? ⟨gt, 0, none⟩ = some (.int .u64 (ver : Int)) := ht5.out.at_ rfl
          have t1 : w5.cell? ⟨gt, 1, none⟩ = some (.bool conf) := ht5.out.at_ rfl
          have t2 : w5.cell? ⟨gt, 2, none⟩ = some (.int .u64 0) := ht5.out.at_ rfl
          have t3 : w5.cell? ⟨gt, 3, none⟩ = some (.int .u64 (s'.next : Int)) := ht5.out.at_ rfl
          have hq6 : Hid (QR w.heap.size gs s' (w5.alloc (.cells #[.int .u64 (ver : Int), .bool conf, .int .u64 0, .int .u64 (s'.next : Int)] 57)) ow' (some ⟨g9, 0, none⟩) c9 A10' c10' A8 c8 tl) := hq5.out.alloc _
          have hn6 : Hid (Blk (w5.alloc (.cells #[.int .u64 (ver : Int), .bool conf, .int .u64 0, .int .u64 (s'.next : Int)] 57)) w5.heap.size 57 [.int .u64 (ver : Int), .bool conf, .int .u64 0, .int .u64 (s'.next : Int)]) := Blk.new w5 _ _
          have hb6 : Hid (Below w.heap.size w (w5.alloc (.cells #[.int .u64 (ver : Int), .bool conf, .int .u64 0, .int .u64 (s'.next : Int)] 57))) := hb5.out.alloc hq5.out.qs.base _
          go_wp2_with (at_builtin; (refine wpList_append_td rfl (.tmp 178) (.tmp 180) rfl w.heap.size (.slice A8 tl.length c8) tl.length (flatT tl) rfl hq6.out.out w5.heap.size 1 [.int .u64 (ver : Int), .bool conf, .int .u64 0, .int .u64 (s'.next : Int)] rfl rfl hn6.out (by simp [Value.oneCell']) (by omega) hq6.out.qs.base ?_; intro v9 w9 ho9 hg9 hat9))
          obtain ⟨A9', c9', rfl⟩ : ∃ A c, v9 = .slice A (tl.length + 1) c := by
            rcases ho9.2 with ⟨_, h0⟩ | ⟨g, cap, cur, rfl, _⟩
            · omega
            · exact ⟨_, _, rfl⟩
          go_roundg gkO
          case measure => omega
          case rel =>
            have hr := run_on hrun.out HACT.out
            refine ⟨i + 1, gs, s', ow', some ⟨g9, 0, none⟩, c9, A10', c10', A9', c9', pl ++ [(ver, conf, s'.next)], tl ++ [(⟨ver, conf, 0, s'.next⟩ : OTold)], rfl, by rw [List.length_append]; rfl, rfl, rfl, rfl, by omega, by have := hf.out; show _ = _; omega, hr, ⟨?_, ?_⟩, hsq.out.act (by omega) HACT.out, ?_, ?_⟩
            · rw [List.length_append, hpl.out.1]; rfl
            · rw [hpl.out.2, List.map_append]; rfl
            · exact hq6.out.outs (t := ⟨ver, conf, 0, s'.next⟩) ho9 hg9 hat9
            · exact hb6.out.trans ((frmRowO hg9).below hq6.out.qs.base (fun b hb => (hq6.out.out.lt b (Option.mem_toList.1 hb)).1))
      --END
    · have hie : i = n := by omega
      have hlt2 : ¬ (i : Int) < (n : Int) := by omega
      go_wp2
      go_ret2
      refine ⟨hbl.out, ?_⟩
      have hdn : l.drop i = [] := List.drop_eq_nil_of_le (by have := HN.out; omega)
      rw [hrun.out, hdn]
      show ∃ A' c', _ ∧ _
      have ho := hqr.out.out
      obtain ⟨hp1, hp2⟩ := hpl.out
      have htl : tl.length = n := by rw [hp2, List.length_map]; omega
      refine ⟨A8, c8, by rw [htl]; rfl, ?_⟩
      show World.ownsRow _ _ _ _ _ _ (flatT ((pl ++ []).map toT))
      rw [List.append_nil, ← hp2]
      rw [htl] at ho
      exact ho
end Go.Proofs.Ytanmgkpgfmkobaa
