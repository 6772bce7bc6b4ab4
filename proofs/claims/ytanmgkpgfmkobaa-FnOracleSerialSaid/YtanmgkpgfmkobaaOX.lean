/- impl.RunOracle. -/
import Derived.Test.YtanmgkpgfmkobaaOW
import Derived.Deep.DeepCutAuto
import Derived.Deep.CutBlock
namespace Go.Proofs.Ytanmgkpgfmkobaa
open Go.RowKit
set_option linter.unusedVariables false
set_option linter.unusedSimpArgs false
set_option maxRecDepth 100000
theorem oRun_snoc (cf : Bool) (a : OAct) : ∀ (l : List OAct) (s : OSt), oRun cf s (l ++ [a]) = oRun cf s l ++ [⟨((oState cf s l).act cf a).2.1, ((oState cf s l).act cf a).2.2, ((oState cf s l).act cf a).1.rmk.til, ((oState cf s l).act cf a).1.next⟩]
  | [], s => rfl
  | b :: l, s => by
    show _ :: oRun cf (s.act cf b).1 (l ++ [a]) = _ :: (oRun cf (s.act cf b).1 l ++ _)
    rw [oRun_snoc cf a l (s.act cf b).1]
    rfl
structure RS (B N : Nat) (p : OP) (cf : Bool) (r : ORun) (w : World) (ow : Nat → Nat) (A8 : Option Addr) (c8 : Nat) (A9 : Option Addr) (c9 : Nat) (tl : List OTold) : Prop where
  ora : Ora B N p cf r w ow
  lst : w.ownsRow B 97 1 (.slice A8 r.gs.length c8) r.gs.length (ptrL r.gs)
  l0 : ∀ b ∈ (Value.slice A8 r.gs.length c8).ownBlock.toList, ow b = 0
  out : w.ownsRow B 57 4 (.slice A9 tl.length c9) tl.length (flatT tl)
  o0 : ∀ b ∈ (Value.slice A9 tl.length c9).ownBlock.toList, ow b = 0
section
variable {B N N' c8 c9 : Nat} {p : OP} {cf : Bool} {r r' : ORun} {w w' : World} {ow ow' : Nat → Nat} {A8 A9 : Option Addr} {tl : List OTold}
theorem RS.act (h : RS B N p cf r w ow A8 c8 A9 c9 tl) (ho : Ora B N' p cf r' w' ow') (hs : Stp ow w ow' w') (hgs : r'.gs = r.gs) : RS B N' p cf r' w' ow' A8 c8 A9 c9 tl := by
  refine ⟨ho, ?_, ?_, hs.owns h.out h.o0, fun b hb => ?_⟩
  · rw [hgs]
    exact hs.owns h.lst h.l0
  · rw [hgs]
    exact fun b hb => (hs.same b (h.lst.lt b (Option.mem_toList.1 hb)).2).trans (h.l0 b hb)
  · exact (hs.same b (h.out.lt b (Option.mem_toList.1 hb)).2).trans (h.o0 b hb)
theorem RS.frm {L : List Nat} (h : RS B N p cf r w ow A8 c8 A9 c9 tl) (hf : Frm L w w') (hL : ∀ b ∈ L, b < w.heap.size → ow b = 0 ∧ b ∉ (Value.slice A8 r.gs.length c8).ownBlock.toList ∧ b ∉ (Value.slice A9 tl.length c9).ownBlock.toList) : RS B N p cf r w' ow A8 c8 A9 c9 tl :=
  ⟨h.ora.idle hf (fun b hb hl => (hL b hb hl).1), owns_of h.lst (fun b hb => hf.block b (h.lst.lt b (Option.mem_toList.1 hb)).2 (fun hm => (hL b hm (h.lst.lt b (Option.mem_toList.1 hb)).2).2.1 hb)), h.l0,
    owns_of h.out (fun b hb => hf.block b (h.out.lt b (Option.mem_toList.1 hb)).2 (fun hm => (hL b hm (h.out.lt b (Option.mem_toList.1 hb)).2).2.2 hb)), h.o0⟩
theorem RS.alloc (h : RS B N p cf r w ow A8 c8 A9 c9 tl) (o : Obj) : RS B N p cf r (w.alloc o) ow A8 c8 A9 c9 tl := h.frm (Frm.alloc w o) (fun b hb => by cases hb)
theorem RS.more (h : RS B N p cf r w ow A8 c8 A9 c9 tl) (hn : N ≤ N') : RS B N' p cf r w ow A8 c8 A9 c9 tl := ⟨h.ora.more hn, h.lst, h.l0, h.out, h.o0⟩
end
/-- What a switch leaves: the oracle behind the act, what is told so far. -/
structure SwP (B N : Nat) (p : OP) (cf : Bool) (s : OSt) (r : ORun) (w0 wr : World) (ow : Nat → Nat) (A8 : Option Addr) (c8 : Nat) (A9 : Option Addr) (c9 : Nat) (tl : List OTold) (gt ver : Nat) (conf : Bool) : Prop where
  rs : RS B N p cf r wr ow A8 c8 A9 c9 tl
  st : r.s = s
  tm : ∃ u, r.tm = ⟨[], u⟩
  told : Blk wr gt 57 [.int .u64 (ver : Int), .bool conf, .int .u64 0, .int .u64 0]
  g0 : ow gt = 0
  gn : gt ∉ (Value.slice A9 tl.length c9).ownBlock.toList
  bel : Below B w0 wr
  gB : B ≤ gt
theorem infoPT : (Try.prog.info? 97).map (fun i => (i.zero, i.size, i.bytes)) = some (some (.pointer none), 1, 8) := by kernel_rfl
/-- append of one pointer to a row of one's own, at the operation. -/
theorem wpList_append_ptr {ops : Array Oper} {rest : List Oper} {o : Oper} {a : Act} {w : World} {Q : Exit → Act → World → Prop} (hgd : o.guard = none) (s x : Operand)
    (ho : o.op = .call { callee := .builtin .append, args := #[s, x], argTypes := #[96, 96] })
    (base : Nat) (v : Value) (n : Nat) (xs : List Value) (hs : a.eval s = v) (hown : w.ownsRow base 97 1 v n xs)
    (g c : Nat) (u : Value) (hx : a.eval x = .slice (some ⟨g, 0, none⟩) 1 c) (hb : w.cell? ⟨g, 0, none⟩ = some u) (h1 : u.oneCell' = true)
    (hn : n ≤ 1000000) (hbase : base ≤ w.heap.size)
    (h : ∀ v' w', w'.ownsRow base 97 1 v' (n + 1) (xs ++ [u]) → w.grownBy w' v.ownBlock → (v'.ownBlock = v.ownBlock ∨ v'.ownBlock = some w.heap.size) → wpList Try.prog ops Q rest (a.put o.dst v') w') :
    wpList Try.prog ops Q (o :: rest) a w := by
  obtain ⟨i, hi, hf⟩ := info_someO infoPT
  simp only [Prod.mk.injEq] at hf
  obtain ⟨hz0, hz1, hz2⟩ := hf
  exact wpList_append_own_at w hgd s x 96 ho base 97 i _ 1 8 Try.underlying96 hi hz0 hz1 hz2 rfl (by omega) v n xs hs hown ⟨g, 0, none⟩ 1 c [u] hx rfl (fun j y hy => by
    match j, hy with
    | 0, hy =>
      simp only [List.getElem?_cons_zero, Option.some.injEq] at hy
      subst hy
      have e : (⟨g, 0, none⟩ : Addr).add 0 = ⟨g, 0, none⟩ := by simp [Addr.add]
      rw [e]; exact hb) (fun y hy => by rw [List.mem_singleton] at hy; subst hy; exact h1) (by simp [maxLen]; omega) (by omega) hbase (fun v' w' h2 h3 _ h4 => h v' w' h2 h3 h4)
theorem infoTD : (Try.prog.info? 57).map (fun i => (i.zero, i.size, i.bytes)) = some (some (.agg #[.int .u64 0, .bool false, .int .u64 0, .int .u64 0]), 4, 32) := by kernel_rfl
/-- append of what is told to a row of one's own, at the operation. -/
theorem wpList_append_td {ops : Array Oper} {rest : List Oper} {o : Oper} {a : Act} {w : World} {Q : Exit → Act → World → Prop} (hgd : o.guard = none) (s x : Operand)
    (ho : o.op = .call { callee := .builtin .append, args := #[s, x], argTypes := #[49, 49] })
    (base : Nat) (v : Value) (n : Nat) (xs : List Value) (hs : a.eval s = v) (hown : w.ownsRow base 57 4 v n xs)
    (g c : Nat) (news : List Value) (hx : a.eval x = .slice (some ⟨g, 0, none⟩) 1 c) (hl : news.length = 4) (hb : Blk w g 57 news) (h1 : ∀ u ∈ news, u.oneCell' = true)
    (hn : n ≤ 1000000) (hbase : base ≤ w.heap.size)
    (h : ∀ v' w', w'.ownsRow base 57 4 v' (n + 1) (xs ++ news) → w.grownBy w' v.ownBlock → (v'.ownBlock = v.ownBlock ∨ v'.ownBlock = some w.heap.size) → wpList Try.prog ops Q rest (a.put o.dst v') w') :
    wpList Try.prog ops Q (o :: rest) a w := by
  obtain ⟨i, hi, hf⟩ := info_someO infoTD
  simp only [Prod.mk.injEq] at hf
  obtain ⟨hz0, hz1, hz2⟩ := hf
  exact wpList_append_own_at w hgd s x 49 ho base 57 i _ 4 32 Try.underlying49 hi hz0 hz1 hz2 rfl (by omega) v n xs hs hown ⟨g, 0, none⟩ 1 c news hx (by omega) (fun j y hy => by
    have e : (⟨g, 0, none⟩ : Addr).add j = ⟨g, j, none⟩ := by cases j <;> simp [Addr.add]
    rw [e, hb.cell]; exact hy) h1 (by simp [maxLen]; omega) (by omega) hbase (fun v' w' h2 h3 _ h4 => h v' w' h2 h3 h4)
theorem swp_of {B N N' N'' c8 c9 gt : Nat} {p : OP} {cf : Bool} {s : OSt} {r r' : ORun} {w0 w w' : World} {ow ow' : Nat → Nat} {A8 A9 : Option Addr} {tl : List OTold} (h : RS B N p cf r w ow A8 c8 A9 c9 tl) (ho : Ora B N' p cf r' w' ow') (hs : Stp ow w ow' w') (hgs : r'.gs = r.gs) (hN : N' ≤ N'') (hst : r'.s = s) (htm : ∃ u, r'.tm = ⟨[], u⟩)
    {ver : Nat} {conf : Bool} (ht : Blk w gt 57 [.int .u64 (ver : Int), .bool conf, .int .u64 0, .int .u64 0]) (g0 : ow gt = 0) (gn : gt ∉ (Value.slice A9 tl.length c9).ownBlock.toList) (hb : Below B w0 w) (gB : B ≤ gt) : SwP B N'' p cf s r' w0 w' ow' A8 c8 A9 c9 tl gt ver conf :=
  ⟨(h.act ho hs hgs).more hN, hst, htm, hs.blk ht g0, (hs.same gt ht.lt).trans g0, gn, hb.trans (hs.below h.ora.base h.ora.low), gB⟩
theorem own_ne_blk {w : World} {base e s n g t : Nat} {v : Value} {xs cs : List Value} (h : w.ownsRow base e s v n xs) (hb : Blk w g t cs) (hne : t ≠ e) : g ∉ v.ownBlock.toList := fun hm => by
  rcases h.2 with ⟨rfl, _⟩ | ⟨g', cap, cur, rfl, _, hh, _⟩
  · cases hm
  · simp only [Value.ownBlock, Option.toList_some, List.mem_singleton] at hm
    subst hm
    have hb2 : Blk w g e cur.toList := by unfold Blk; rw [Array.toArray_toList]; exact hh
    exact blk_neO hb hb2 hne rfl
theorem SwP.frm {B N c8 c9 gt ver ver' : Nat} {conf conf' : Bool} {p : OP} {cf : Bool} {s : OSt} {r : ORun} {w0 w w' : World} {ow : Nat → Nat} {A8 A9 : Option Addr} {tl : List OTold} (h : SwP B N p cf s r w0 w ow A8 c8 A9 c9 tl gt ver conf) (hf : Frm [gt] w w')
    (hb : Blk w' gt 57 [.int .u64 (ver' : Int), .bool conf', .int .u64 0, .int .u64 0]) : SwP B N p cf s r w0 w' ow A8 c8 A9 c9 tl gt ver' conf' :=
  ⟨h.rs.frm hf (fun b hm _ => by
    rw [List.mem_singleton] at hm
    subst hm
    exact ⟨h.g0, own_ne_blk h.rs.lst h.told (by decide), h.gn⟩), h.st, h.tm, hb, h.g0, h.gn, h.bel.trans (hf.below h.rs.ora.base (fun b hm => by
    rw [List.mem_singleton] at hm
    subst hm
    exact h.gB)), h.gB⟩
set_option maxHeartbeats 4000000 in
theorem runOracle_any (cf : Bool) (A : Option Addr) (n c : Nat) (l : List OAct) (w : World) (hA : Acts w A l) (hn : l.length = n) (hl : n ≤ 100) (hwf : ∀ a ∈ l, (Lit.int .u64 a.key).wf = true ∧ (Lit.int .i64 a.kind).wf = true ∧ (Lit.int .i64 a.txn).wf = true) :
    Calls Try.prog 24 #[.bool cf, .slice A n c] w fun E w' => ∃ A' c', E = .returned (.tuple #[.int .u64 1, .slice A' n c']) ∧ w'.ownsRow w.heap.size 57 4 (.slice A' n c') n (flatT (oRun cf oInit l)) ∧ Below w.heap.size w w' := by
  have HA := Lib.hid hA
  have HN := Lib.hid hn
  have HW := Lib.hid hwf
  clear hA hn hwf
  go_enter Try.func24, Try.ntmps24
  go_wp2_with fail
  refine (newOracle_any cf w).mono ?_
  rintro E w1 ⟨p, ow1, rfl, ho1, hb1⟩
  have HO1 := Lib.hid ho1
  have HB1 := Lib.hid hb1
  clear ho1 hb1
  go_wp2_with fail
  refine (next_any HO1.out).mono ?_
  rintro E w2 ⟨rfl, rfl⟩
  go_wp2
  go_loopg [8, 9, 21] n (fun f v8 v9 v21 wr => ∃ (i : Nat) (r : ORun) (ow : Nat → Nat) (A8 : Option Addr) (c8 : Nat) (A9 : Option Addr) (c9 : Nat) (tl : List OTold), v21 = .int .i64 (i : Int) ∧ v8 = .slice A8 r.gs.length c8 ∧ v9 = .slice A9 tl.length c9 ∧ i ≤ n ∧ Hid (i + f = n) ∧
    Hid (tl = oRun cf oInit (l.take i)) ∧ Hid (r.s = oState cf oInit (l.take i)) ∧ Hid (∃ u, r.tm = ⟨[], u⟩) ∧ Hid (OOk r.s) ∧ Hid (SB i r.s) ∧ Hid (RS w.heap.size (1 + 3 * i) p cf r wr ow A8 c8 A9 c9 tl) ∧ Hid (Below w.heap.size w wr))
  case atStart =>
    have hbs := HO1.out.base
    refine ⟨0, ⟨oInit, ⟨[], 0⟩, []⟩, ow1, some ⟨w2.heap.size, 0, none⟩, 0, some ⟨w2.heap.size + 1, 0, none⟩, 0, [], rfl, rfl, by simp [World.size_alloc], Nat.zero_le _, by simp [Hid], rfl, rfl, ⟨0, rfl⟩, oInit_ok, sb_init, ?_, ?_⟩
    · have h1 : (w2.alloc (.cells #[] 97)).ownsRow w.heap.size 97 1 (.slice (some ⟨w2.heap.size, 0, none⟩) 0 0) 0 [] := World.ownsRow_made w2 #[] 0 hbs (by simp [maxLen]) rfl
      have h2 : ((w2.alloc (.cells #[] 97)).alloc (.cells #[] 57)).ownsRow w.heap.size 57 4 (.slice (some ⟨w2.heap.size + 1, 0, none⟩) 0 0) 0 [] := by
        have h3 := World.ownsRow_made (base := w.heap.size) (e := 57) (size := 4) (w2.alloc (.cells #[] 97)) #[] 0 (by rw [World.size_alloc]; omega) (by simp [maxLen]) rfl
        rw [World.size_alloc] at h3
        exact h3
      refine ⟨((HO1.out.more (by omega)).idle (Frm.alloc w2 _) (fun b hb => by cases hb)).idle (Frm.alloc _ _) (fun b hb => by cases hb), owns_of h1 (fun b hb => (Frm.alloc _ _).block b (h1.lt b (Option.mem_toList.1 hb)).2 (by simp)), fun b hb => ?_, h2, fun b hb => ?_⟩
      · simp only [Value.ownBlock, Option.toList_some, List.mem_singleton] at hb
        exact HO1.out.out b (by show _ ≤ _; omega)
      · simp only [Value.ownBlock, Option.toList_some, List.mem_singleton] at hb
        exact HO1.out.out b (by show _ ≤ _; omega)
    · exact (HB1.out.alloc hbs _).alloc (by rw [World.size_alloc]; omega) _
  case round =>
    obtain ⟨i, r, ow, A8, c8, A9, c9, tl, rfl, rfl, rfl, hin, hf, htl, hst, htm, hok, hsb, hrs, hbl⟩ := hrel
    by_cases hlt : i < n
    · obtain ⟨a, ha⟩ : ∃ a, l[i]? = some a := ⟨_, List.getElem?_eq_getElem (by have := HN.out; omega)⟩
      have hlt2 : (i : Int) < (n : Int) := by omega
      obtain ⟨ga, oa, hAe, e0, e1, e2⟩ := (HA.out.below hbl.out).cells ha
      subst hAe
      have HAA := Lib.hid ha
      clear ha
      obtain ⟨gkO, rfl⟩ : ∃ g, gk = g + 1 := ⟨gk - 1, by have := hf.out; omega⟩
      go_upto_block 2 with fail
      clear e0 e1 e2
      have hgw : Hid (wr.heap.size < wr.heap.size + 1) := Nat.lt_succ_self _
      have hsz1 : (wr.alloc (.cells #[.int .i64 a.kind, .int .i64 a.txn, .int .u64 a.key] 55)).heap.size = wr.heap.size + 1 := World.size_alloc wr _
      have hba : Hid (Blk ((wr.alloc (.cells #[.int .i64 a.kind, .int .i64 a.txn, .int .u64 a.key] 55)).alloc (.cells #[.int .u64 0, .bool false, .int .u64 0, .int .u64 0] 57)) wr.heap.size 55 a.cells) := (Blk.new wr _ _).alloc _
      have hbt : Hid (Blk ((wr.alloc (.cells #[.int .i64 a.kind, .int .i64 a.txn, .int .u64 a.key] 55)).alloc (.cells #[.int .u64 0, .bool false, .int .u64 0, .int .u64 0] 57)) (wr.heap.size + 1) 57 [.int .u64 0, .bool false, .int .u64 0, .int .u64 0]) := by
        have := Blk.new (wr.alloc (.cells #[.int .i64 a.kind, .int .i64 a.txn, .int .u64 a.key] 55)) 57 [.int .u64 0, .bool false, .int .u64 0, .int .u64 0]
        rw [hsz1] at this
        exact this
      have hrb : Hid (RS w.heap.size (1 + 3 * i) p cf r ((wr.alloc (.cells #[.int .i64 a.kind, .int .i64 a.txn, .int .u64 a.key] 55)).alloc (.cells #[.int .u64 0, .bool false, .int .u64 0, .int .u64 0] 57)) ow A8 c8 A9 c9 tl) := (hrs.out.alloc _).alloc _
      have hbb : Hid (Below w.heap.size w ((wr.alloc (.cells #[.int .i64 a.kind, .int .i64 a.txn, .int .u64 a.key] 55)).alloc (.cells #[.int .u64 0, .bool false, .int .u64 0, .int .u64 0] 57))) := (hbl.out.alloc hrs.out.ora.base _).alloc (by rw [hsz1]; have := hrs.out.ora.base; omega) _
      have hg0 : Hid (ow (wr.heap.size + 1) = 0) := hrs.out.ora.out _ (Nat.le_succ _)
      have hgn : Hid (wr.heap.size + 1 ∉ (Value.slice A9 tl.length c9).ownBlock.toList) := fun hm => by
        have := (hrs.out.out.lt _ (Option.mem_toList.1 hm)).2
        omega
      have hgB : Hid (w.heap.size ≤ wr.heap.size + 1) := by have := hrs.out.ora.base; rw [Hid]; omega
      clear hsz1 hrs hbl hgw HA HO1 HB1
      generalize ((wr.alloc (.cells #[.int .i64 a.kind, .int .i64 a.txn, .int .u64 a.key] 55)).alloc (.cells #[.int .u64 0, .bool false, .int .u64 0, .int .u64 0] 57)) = wb at *
      generalize hga : wr.heap.size = ga at *
      generalize hgt : ga + 1 = gt at *
      have HGT := Lib.hid (And.intro hga hgt)
      clear hga hgt
      have k0 : wb.cell? ⟨ga, 0, none⟩ = some (.int .i64 a.kind) := hba.out.at_ rfl
      have k1 : wb.cell? ⟨ga, 1, none⟩ = some (.int .i64 a.txn) := hba.out.at_ rfl
      have k2 : wb.cell? ⟨ga, 2, none⟩ = some (.int .u64 a.key) := hba.out.at_ rfl
      go_cut [8] (fun v8 wz => ∃ (r' : ORun) (ow' : Nat → Nat) (A8' : Option Addr) (c8' : Nat), v8 = .slice A8' r'.gs.length c8' ∧ Hid (SwP w.heap.size (1 + 3 * (i + 1)) p cf (r.s.act cf a).1 r' w wz ow' A8' c8' A9 c9 tl gt (r.s.act cf a).2.1 (r.s.act cf a).2.2))
      case first =>
        have H01 := Lib.hid hrb.out.ora.len
        by_cases hk0 : a.kind = 0
        · have hk0b : (a.kind == 0) = true := by rw [hk0]; rfl
          obtain ⟨m0, hm0⟩ : ∃ m0, r.s.next = m0 + 1 := ⟨r.s.next - 1, by have := hok.out.nx; omega⟩
          have HM0 := Lib.hid hm0
          have hm0le : m0 ≤ 1000 := by have := hsb.out.nx; omega
          obtain ⟨u, hu⟩ := htm.out
          have HU := Lib.hid hu
          have hact : Hid (r.s.act cf a = ({ r.s with txs := r.s.txs ++ [⟨m0, [], [], false⟩], rmk := r.s.rmk.proc m0 1 }, m0, false)) := by
            rw [Hid]
            unfold OSt.act
            rw [if_pos hk0, show r.s.next - 1 = m0 by omega]
          have HB := Lib.hid (beginO_any hrb.out.ora hsb.out.mkb (by omega) m0 hm0 (by omega) (by omega))
          clear hm0 hu
          go_wp2_with fail
          refine HB.out.mono ?_
          rintro E w5 ⟨q, rfl, ow5, ho5, hs5⟩
          have HO5 := Lib.hid ho5
          have HS5 := Lib.hid hs5
          have hl5 : Hid (w5.ownsRow w.heap.size 97 1 (.slice A8 r.gs.length c8) r.gs.length (ptrL r.gs)) := hs5.owns hrb.out.lst hrb.out.l0
          have hl50 : Hid (∀ b ∈ (Value.slice A8 r.gs.length c8).ownBlock.toList, ow5 b = 0) := fun b hb => (hs5.same b (hrb.out.lst.lt b (Option.mem_toList.1 hb)).2).trans (hrb.out.l0 b hb)
          have hu5 : Hid (w5.ownsRow w.heap.size 57 4 (.slice A9 tl.length c9) tl.length (flatT tl)) := hs5.owns hrb.out.out hrb.out.o0
          have hu50 : Hid (∀ b ∈ (Value.slice A9 tl.length c9).ownBlock.toList, ow5 b = 0) := fun b hb => (hs5.same b (hrb.out.out.lt b (Option.mem_toList.1 hb)).2).trans (hrb.out.o0 b hb)
          have ht5 : Hid (Blk w5 gt 57 [.int .u64 0, .bool false, .int .u64 0, .int .u64 0]) := hs5.blk hbt.out hg0.out
          have hg5 : Hid (ow5 gt = 0) := (hs5.same gt hbt.out.lt).trans hg0.out
          have hb5 : Hid (Below w.heap.size w w5) := hbb.out.trans (hs5.below hrb.out.ora.base hrb.out.ora.low)
          have hrl : r.gs.length ≤ 1000 := by have h1 := hsb.out.tx; have h2 := H01.out; omega
          clear ho5 hs5 k0 k1 k2 HB hbb hbt hba hrb HS5 hg0
          have hfa : Hid (Frm [] w5 (w5.alloc (.cells #[.pointer (some ⟨q.1, 0, none⟩)] 97))) := Frm.alloc w5 _
          have hl6 : Hid ((w5.alloc (.cells #[.pointer (some ⟨q.1, 0, none⟩)] 97)).ownsRow w.heap.size 97 1 (.slice A8 r.gs.length c8) r.gs.length (ptrL r.gs)) := owns_of hl5.out (fun b hb => hfa.out.block b (hl5.out.lt b (Option.mem_toList.1 hb)).2 (by simp))
          have hc6 : Hid ((w5.alloc (.cells #[.pointer (some ⟨q.1, 0, none⟩)] 97)).cell? ⟨w5.heap.size, 0, none⟩ = some (.pointer (some ⟨q.1, 0, none⟩))) := Blk.at_ (Blk.new w5 97 [.pointer (some ⟨q.1, 0, none⟩)]) rfl
          have hB5 : Hid (w.heap.size ≤ w5.heap.size) := HO5.out.base
          have hz6 : Hid ((w5.alloc (.cells #[.pointer (some ⟨q.1, 0, none⟩)] 97)).heap.size = w5.heap.size + 1) := World.size_alloc w5 _
          go_upto_region 10 with (at_builtin; (refine wpList_append_ptr rfl (.tmp 30) (.tmp 33) rfl w.heap.size (.slice A8 r.gs.length c8) r.gs.length (ptrL r.gs) rfl hl6.out w5.heap.size 1 (.pointer (some ⟨q.1, 0, none⟩)) rfl hc6.out rfl (by omega) (by have h1 := hz6.out; have h2 := hB5.out; omega) ?_; intro v7 w7 ho7 hg7 hat7))
          obtain ⟨g7, c7, cur7, rfl, hg7b, hh7, hn7, hm7, hs7, ht7⟩ : ∃ g c cur, v7 = .slice (some ⟨g, 0, none⟩) (r.gs.length + 1) c ∧ w.heap.size ≤ g ∧ w7.heap[g]? = some (.cells cur 97 (0, 0)) ∧ r.gs.length + 1 ≤ c ∧ c ≤ maxLen ∧ cur.size = c * 1 ∧ cur.toList.take ((r.gs.length + 1) * 1) = ptrL r.gs ++ [.pointer (some ⟨q.1, 0, none⟩)] := by
            rcases ho7.2 with ⟨_, h0⟩ | h
            · omega
            · obtain ⟨g, c, cur, h⟩ := h
              exact ⟨g, c, cur, h⟩
          have HO7 := Lib.hid ho7
          have HA7 := Lib.hid hat7
          have HF7 : Hid (Frm (Value.slice A8 r.gs.length c8).ownBlock.toList w5 w7) := (hfa.out.mono (fun _ h => by cases h)).trans (frmRowO hg7) (fun j hj => .inl hj)
          have HOra : Hid (Ora w.heap.size (1 + 3 * i + 1) p cf ⟨{ r.s with txs := r.s.txs ++ [⟨m0, [], [], false⟩], rmk := r.s.rmk.proc m0 1 }, r.tm, r.gs ++ [q]⟩ w7 ow5) := HO5.out.idle HF7.out (fun b hb _ => hl50.out b hb)
          have hne9 : Hid (∀ b ∈ (Value.slice A9 tl.length c9).ownBlock.toList, b ∉ (Value.slice A8 r.gs.length c8).ownBlock.toList) := fun b hb => by
            obtain ⟨cs, hbk, _⟩ : ∃ cs, Blk w5 b 57 cs ∧ True := by
              rcases hu5.out.2 with ⟨h0, _⟩ | ⟨g', cap, cur, hv, _, hh, _⟩
              · rw [h0] at hb; cases hb
              · rw [hv] at hb
                simp only [Value.ownBlock, Option.toList_some, List.mem_singleton] at hb
                subst hb
                exact ⟨cur.toList, by unfold Blk; rw [Array.toArray_toList]; exact hh, trivial⟩
            exact own_ne_blk hl5.out hbk (by decide)
          have hu7 : Hid (w7.ownsRow w.heap.size 57 4 (.slice A9 tl.length c9) tl.length (flatT tl)) := owns_of hu5.out (fun b hb => HF7.out.block b (hu5.out.lt b (Option.mem_toList.1 hb)).2 (hne9.out b hb))
          have ht7b : Hid (Blk w7 gt 57 [.int .u64 0, .bool false, .int .u64 0, .int .u64 0]) := ht5.out.frm HF7.out (own_ne_blk hl5.out ht5.out (by decide))
          have hbk7 : Hid (Blk w7 g7 97 cur7.toList) := by unfold Blk; rw [Hid, Array.toArray_toList]; exact hh7
          have e7 : w7.cell? ⟨g7, r.gs.length, none⟩ = some (.pointer (some ⟨q.1, 0, none⟩)) := by
            rw [hbk7.out.cell]
            have h1 : (ptrL r.gs ++ [Value.pointer (some ⟨q.1, 0, none⟩)])[r.gs.length]? = some (.pointer (some ⟨q.1, 0, none⟩)) := by
              rw [List.getElem?_append_right (by simp [ptrL])]
              simp [ptrL]
            rw [← ht7, List.getElem?_take_of_lt (by omega)] at h1
            exact h1
          have hrow0 : Hid (∀ b ∈ (Value.slice (some ⟨g7, 0, none⟩) (r.gs.length + 1) c7).ownBlock.toList, ow5 b = 0) := fun b hb => by
            rcases HA7.out with e | e
            · rw [e] at hb; exact hl50.out b hb
            · rw [e] at hb
              simp only [Option.toList_some, List.mem_singleton] at hb
              exact HO5.out.out b (by have := hz6.out; omega)
          have hb7 : Hid (Below w.heap.size w w7) := hb5.out.trans (HF7.out.below hB5.out (fun b hb => by
            exact (hl5.out.lt b (Option.mem_toList.1 hb)).1))
          obtain ⟨rvq, htq, _⟩ := HOra.out.tx (t := r.gs.length) (x := ⟨m0, [], [], false⟩) (q := q) (by show (r.s.txs ++ [_])[r.gs.length]? = _; rw [H01.out, List.getElem?_append_right (Nat.le_refl _), Nat.sub_self]; rfl) (by show (r.gs ++ [q])[r.gs.length]? = _; rw [List.getElem?_append_right (Nat.le_refl _), Nat.sub_self]; rfl)
          have q0 : w7.cell? ⟨q.1, 0, none⟩ = some (.int .u64 (m0 : Int)) := htq.1.at_ rfl
          have HRT := Lib.hid (readTsT_any q.1 _ w7 q0)
          have z0 : w7.cell? ⟨gt, 0, none⟩ = some (.int .u64 0) := ht7b.out.at_ rfl
          have f0 := ht7b.out.frozen 0
          clear ho7 hg7 hat7 hh7 ht7 htq q0 hfa hl6 hc6 hl5
          have hlen7 : (r.gs.length : Int) < (r.gs.length + 1 : Nat) := by omega
          have hlen8 : (r.gs.length : Int) ≤ 1000 := by omega
          go_wp2_with fail
          refine HRT.out.mono ?_
          rintro E w8 ⟨rfl, rfl⟩
          have hsw : Hid (SwP w.heap.size (1 + 3 * (i + 1)) p cf { r.s with txs := r.s.txs ++ [⟨m0, [], [], false⟩], rmk := r.s.rmk.proc m0 1 } ⟨{ r.s with txs := r.s.txs ++ [⟨m0, [], [], false⟩], rmk := r.s.rmk.proc m0 1 }, r.tm, r.gs ++ [q]⟩ w w8 ow5 (some ⟨g7, 0, none⟩) c7 A9 c9 tl gt 0 false) := by
            refine ⟨⟨HOra.out.more (by omega), ?_, ?_, hu7.out, hu50.out⟩, rfl, ⟨u, HU.out⟩, ht7b.out, hg5.out, hgn.out, hb7.out, hgB.out⟩
            · show World.ownsRow _ _ _ _ (.slice _ (r.gs ++ [q]).length c7) (r.gs ++ [q]).length (ptrL (r.gs ++ [q]))
              rw [List.length_append, show ptrL (r.gs ++ [q]) = ptrL r.gs ++ [.pointer (some ⟨q.1, 0, none⟩)] by simp [ptrL]]
              exact HO7.out
            · exact hrow0.out
          have hfin : Hid (SwP w.heap.size (1 + 3 * (i + 1)) p cf { r.s with txs := r.s.txs ++ [⟨m0, [], [], false⟩], rmk := r.s.rmk.proc m0 1 } ⟨{ r.s with txs := r.s.txs ++ [⟨m0, [], [], false⟩], rmk := r.s.rmk.proc m0 1 }, r.tm, r.gs ++ [q]⟩ w (w8.setCell ⟨gt, 0, none⟩ (.int .u64 (m0 : Int))) ow5 (some ⟨g7, 0, none⟩) c7 A9 c9 tl gt m0 false) := hsw.out.frm (Frm.set w8 ⟨gt, 0, none⟩ _) (hsw.out.told.set_ 0 (.int .u64 (m0 : Int)))
          go_wp2
          go_meet
          rw [hact.out]
          refine ⟨⟨{ r.s with txs := r.s.txs ++ [⟨m0, [], [], false⟩], rmk := r.s.rmk.proc m0 1 }, r.tm, r.gs ++ [q]⟩, ow5, some ⟨g7, 0, none⟩, c7, ?_, hfin.out⟩
          show Value.slice _ _ _ = .slice _ (r.gs ++ [q]).length _
          rw [List.length_append]
          rfl
        have hk0b : (a.kind == 0) = false := by rw [beq_eq_false_iff_ne]; exact hk0
        by_cases hneg : a.txn < 0
        · go_wp2
          go_meet
          have hact : r.s.act cf a = (r.s, 0, false) := by unfold OSt.act; rw [if_neg hk0, if_pos hneg]
          rw [hact]
          exact ⟨r, ow, A8, c8, rfl, swp_of hrb.out hrb.out.ora (Stp.refl _ _) rfl (by omega) rfl htm.out hbt.out hg0.out hgn.out hbb.out hgB.out⟩
        obtain ⟨t, ht⟩ : ∃ t : Nat, a.txn = (t : Int) := ⟨a.txn.toNat, by omega⟩
        have HT := Lib.hid ht
        rw [ht] at k1
        have hneg2 : ¬ ((t : Int) < 0) := by omega
        clear hneg ht
        by_cases hge : r.gs.length ≤ t
        · have hge2 : (r.gs.length : Int) ≤ (t : Int) := by omega
          go_wp2
          go_meet
          have hact : r.s.act cf a = (r.s, 0, false) := by
            unfold OSt.act
            rw [if_neg hk0, HT.out, if_neg (by omega), Int.toNat_natCast, List.getElem?_eq_none (by have := H01.out; omega)]
          rw [hact]
          exact ⟨r, ow, A8, c8, rfl, swp_of hrb.out hrb.out.ora (Stp.refl _ _) rfl (by omega) rfl htm.out hbt.out hg0.out hgn.out hbb.out hgB.out⟩
        have hge2 : (t : Int) < (r.gs.length : Int) := by omega
        obtain ⟨x, hx⟩ : ∃ x, r.s.txs[t]? = some x := ⟨_, List.getElem?_eq_getElem (by have := H01.out; omega)⟩
        obtain ⟨q, hq⟩ : ∃ q, r.gs[t]? = some q := ⟨_, List.getElem?_eq_getElem (by omega)⟩
        obtain ⟨g8, cs8, hA8, hbk8, _, _, _, _, htk8⟩ := own_cells hrb.out.lst (by omega)
        subst hA8
        have e8 : wb.cell? ⟨g8, t, none⟩ = some (.pointer (some ⟨q.1, 0, none⟩)) := by
          rw [hbk8.cell]
          have h1 : (ptrL r.gs)[t]? = some (.pointer (some ⟨q.1, 0, none⟩)) := by unfold ptrL; rw [List.getElem?_map, hq]; rfl
          rw [← htk8, List.getElem?_take_of_lt (by omega)] at h1
          exact h1
        have HX := Lib.hid hx
        have HQ := Lib.hid hq
        have hxm := hsb.out.each x (List.mem_of_getElem? hx)
        have HXM := Lib.hid hxm
        have hact0 : Hid (r.s.act cf a = (if a.kind = 1 then ({ r.s with txs := r.s.txs.set t { x with reads := x.reads ++ [a.key] } }, 0, false)
            else if a.kind = 2 then ({ r.s with txs := r.s.txs.set t { x with writes := x.writes ++ [a.key] } }, 0, false)
            else if a.kind = 3 then if r.s.hits x = true then (r.s, 0, true) else ({ (r.s.done t x).clean cf with next := ((r.s.done t x).clean cf).next + 1, com := if cf = true then ((r.s.done t x).clean cf).com ++ [(((r.s.done t x).clean cf).next, t)] else ((r.s.done t x).clean cf).com }, ((r.s.done t x).clean cf).next, false)
            else if a.kind = 4 then (r.s.done t x, 0, false) else (r.s, 0, false))) := by
          rw [Hid]
          unfold OSt.act
          rw [if_neg hk0, HT.out, if_neg (by omega), Int.toNat_natCast, HX.out]
        clear hx hq hbk8 htk8 hxm
        by_cases hk1 : a.kind = 1
        · have hk1b : (a.kind == 1) = true := by rw [hk1]; rfl
          go_upto_region 13 with fail
          go_still_tail 7, (by kernel_rfl)
          change wpList _ _ _ _ _ wb.drew
          have hrd : Hid (RS w.heap.size (1 + 3 * i) p cf r wb.drew ow (some ⟨g8, 0, none⟩) c8 A9 c9 tl) := hrb.out.frm (Frm.refl [] wb).drew (fun b hb => by cases hb)
          have hbd : Hid (Below w.heap.size w wb.drew) := hbb.out.drew
          have htd : Hid (Blk wb.drew gt 57 [.int .u64 0, .bool false, .int .u64 0, .int .u64 0]) := hbt.out
          clear hrb hbb hbt hba k0 k1 k2 e8
          generalize wb.drew = wd at *
          go_wp2_with fail
          refine (readT_any hrd.out.ora HX.out HQ.out (by have := HXM.out.1; omega) a.key).mono ?_
          rintro E w5 ⟨rfl, ow5, ho5, hs5⟩
          have HO5 := Lib.hid ho5
          have HS5 := Lib.hid hs5
          clear ho5 hs5
          go_wp2
          go_meet
          rw [hact0.out, if_pos hk1]
          exact ⟨{ r with s := { r.s with txs := r.s.txs.set t { x with reads := x.reads ++ [a.key] } } }, ow5, some ⟨g8, 0, none⟩, c8, rfl, swp_of hrd.out HO5.out HS5.out rfl (by omega) rfl htm.out htd.out hg0.out hgn.out hbd.out hgB.out⟩
        have hk1b : (a.kind == 1) = false := by rw [beq_eq_false_iff_ne]; exact hk1
        by_cases hk2 : a.kind = 2
        · have hk2b : (a.kind == 2) = true := by rw [hk2]; rfl
          go_upto_region 15 with fail
          go_still_tail 7, (by kernel_rfl)
          change wpList _ _ _ _ _ wb.drew
          have hrd : Hid (RS w.heap.size (1 + 3 * i) p cf r wb.drew ow (some ⟨g8, 0, none⟩) c8 A9 c9 tl) := hrb.out.frm (Frm.refl [] wb).drew (fun b hb => by cases hb)
          have hbd : Hid (Below w.heap.size w wb.drew) := hbb.out.drew
          have htd : Hid (Blk wb.drew gt 57 [.int .u64 0, .bool false, .int .u64 0, .int .u64 0]) := hbt.out
          clear hrb hbb hbt hba k0 k1 k2 e8
          generalize wb.drew = wd at *
          go_wp2_with fail
          refine (writeT_any hrd.out.ora (by omega) HX.out HQ.out a.key (HW.out a (List.mem_of_getElem? HAA.out)).1).mono ?_
          rintro E w5 ⟨rfl, ow5, ho5, hs5⟩
          have HO5 := Lib.hid ho5
          have HS5 := Lib.hid hs5
          clear ho5 hs5
          go_wp2
          go_meet
          rw [hact0.out, if_neg hk1, if_pos hk2]
          exact ⟨{ r with s := { r.s with txs := r.s.txs.set t { x with writes := x.writes ++ [a.key] } } }, ow5, some ⟨g8, 0, none⟩, c8, rfl, swp_of hrd.out HO5.out HS5.out rfl (by omega) rfl htm.out htd.out hg0.out hgn.out hbd.out hgB.out⟩
        have hk2b : (a.kind == 2) = false := by rw [beq_eq_false_iff_ne]; exact hk2
        by_cases hk3 : a.kind = 3
        · have hk3b : (a.kind == 3) = true := by rw [hk3]; rfl
          cases hhit : r.s.hits x with
          | true =>
            have HHIT := Lib.hid hhit
            clear hhit
            go_wp2_with fail
            refine (commit_hit hrb.out.ora HX.out HQ.out (by have := HXM.out.1; omega) (by have := hsb.out.co; omega) HXM.out.2.2 HHIT.out).mono ?_
            rintro E w5 ⟨rfl, ow5, ho5, hs5⟩
            have hsw : Hid (SwP w.heap.size (1 + 3 * (i + 1)) p cf r.s r w w5 ow5 (some ⟨g8, 0, none⟩) c8 A9 c9 tl gt 0 false) := swp_of hrb.out ho5 hs5 rfl (by omega) rfl htm.out hbt.out hg0.out hgn.out hbb.out hgB.out
            clear ho5 hs5 k0 k1 k2 e8
            have z0 : w5.cell? ⟨gt, 0, none⟩ = some (.int .u64 0) := hsw.out.told.at_ rfl
            have z1 : w5.cell? ⟨gt, 1, none⟩ = some (.bool false) := hsw.out.told.at_ rfl
            have f0 := hsw.out.told.frozen 0
            have f1 := hsw.out.told.frozen 1
            have hfin : Hid (SwP w.heap.size (1 + 3 * (i + 1)) p cf r.s r w ((w5.setCell ⟨gt, 0, none⟩ (.int .u64 0)).setCell ⟨gt, 1, none⟩ (.bool true)) ow5 (some ⟨g8, 0, none⟩) c8 A9 c9 tl gt 0 true) := hsw.out.frm ((Frm.set w5 ⟨gt, 0, none⟩ _).andSet ⟨gt, 1, none⟩ _ (.inl (by simp))) ((hsw.out.told.set_ 0 (.int .u64 0)).set_ 1 (.bool true))
            go_wp2
            go_meet
            rw [hact0.out, if_neg hk1, if_neg hk2, if_pos hk3, if_pos HHIT.out]
            exact ⟨r, ow5, some ⟨g8, 0, none⟩, c8, rfl, hfin.out⟩
          | false =>
            have HHIT := Lib.hid hhit
            clear hhit
            obtain ⟨u, hu⟩ := htm.out
            go_wp2_with fail
            refine (commit_ok hrb.out.ora hok.out hsb.out.mkb u hu (by omega) (by omega) HX.out HQ.out (by have := HXM.out.1; omega) (by have := hsb.out.co; omega) HXM.out.2.2 HHIT.out (by have := HXM.out.2.1; omega) (by have := hsb.out.nx; omega)).mono ?_
            rintro E w5 ⟨rfl, ow5, ho5, hs5⟩
            have hsw : Hid (SwP w.heap.size (1 + 3 * (i + 1)) p cf (comP cf r t x).s ⟨(comP cf r t x).s, ⟨[], ((r.s.done t x).clean cf).next⟩, r.gs⟩ w w5 ow5 (some ⟨g8, 0, none⟩) c8 A9 c9 tl gt 0 false) := swp_of hrb.out ho5 hs5 rfl (by omega) rfl ⟨_, rfl⟩ hbt.out hg0.out hgn.out hbb.out hgB.out
            have hcs : Hid ((comP cf r t x).s = { (r.s.done t x).clean cf with next := ((r.s.done t x).clean cf).next + 1, com := if cf = true then ((r.s.done t x).clean cf).com ++ [(((r.s.done t x).clean cf).next, t)] else ((r.s.done t x).clean cf).com }) := rfl
            clear ho5 hs5 k0 k1 k2 e8 hu
            generalize comP cf r t x = rc at *
            generalize (r.s.done t x).clean cf = s1 at *
            have z0 : w5.cell? ⟨gt, 0, none⟩ = some (.int .u64 0) := hsw.out.told.at_ rfl
            have z1 : w5.cell? ⟨gt, 1, none⟩ = some (.bool false) := hsw.out.told.at_ rfl
            have f0 := hsw.out.told.frozen 0
            have f1 := hsw.out.told.frozen 1
            have hfin : Hid (SwP w.heap.size (1 + 3 * (i + 1)) p cf rc.s ⟨rc.s, ⟨[], s1.next⟩, r.gs⟩ w ((w5.setCell ⟨gt, 0, none⟩ (.int .u64 (s1.next : Int))).setCell ⟨gt, 1, none⟩ (.bool false)) ow5 (some ⟨g8, 0, none⟩) c8 A9 c9 tl gt s1.next false) := hsw.out.frm ((Frm.set w5 ⟨gt, 0, none⟩ _).andSet ⟨gt, 1, none⟩ _ (.inl (by simp))) ((hsw.out.told.set_ 0 (.int .u64 (s1.next : Int))).set_ 1 (.bool false))
            go_wp2
            go_meet
            rw [hact0.out, if_neg hk1, if_neg hk2, if_pos hk3, if_neg (by rw [HHIT.out]; simp)]
            refine ⟨⟨rc.s, ⟨[], s1.next⟩, r.gs⟩, ow5, some ⟨g8, 0, none⟩, c8, rfl, ?_⟩
            have := hfin.out
            rw [hcs.out] at this ⊢
            exact this
        have hk3b : (a.kind == 3) = false := by rw [beq_eq_false_iff_ne]; exact hk3
        by_cases hk4 : a.kind = 4
        · have hk4b : (a.kind == 4) = true := by rw [hk4]; rfl
          go_wp2_with fail
          refine (discard_any hrb.out.ora hsb.out.mkb (by omega) (by omega) HX.out HQ.out (by have := HXM.out.2.1; omega)).mono ?_
          rintro E w5 ⟨rfl, ow5, ho5, hs5⟩
          have HO5 := Lib.hid ho5
          have HS5 := Lib.hid hs5
          clear ho5 hs5 k0 k1 k2 e8
          go_wp2
          go_meet
          rw [hact0.out, if_neg hk1, if_neg hk2, if_neg hk3, if_pos hk4]
          exact ⟨{ r with s := r.s.done t x }, ow5, some ⟨g8, 0, none⟩, c8, rfl, swp_of hrb.out HO5.out HS5.out rfl (by omega) rfl htm.out hbt.out hg0.out hgn.out hbb.out hgB.out⟩
        have hk4b : (a.kind == 4) = false := by rw [beq_eq_false_iff_ne]; exact hk4
        go_wp2
        go_meet
        rw [hact0.out, if_neg hk1, if_neg hk2, if_neg hk3, if_neg hk4]
        exact ⟨r, ow, some ⟨g8, 0, none⟩, c8, rfl, swp_of hrb.out hrb.out.ora (Stp.refl _ _) rfl (by omega) rfl htm.out hbt.out hg0.out hgn.out hbb.out hgB.out⟩
      case rest =>
        obtain ⟨r', ow', A8', c8', rfl, hsw⟩ := hcut
        have HSW := Lib.hid hsw.out
        have HTM : Hid (∃ u, r'.tm = ⟨[], u⟩) := hsw.out.tm
        clear hsw
        have z2 : wc.cell? ⟨gt, 2, none⟩ = some (.int .u64 0) := HSW.out.told.at_ rfl
        have z3 : wc.cell? ⟨gt, 3, none⟩ = some (.int .u64 0) := HSW.out.told.at_ rfl
        have f2 := HSW.out.told.frozen 2
        have f3 := HSW.out.told.frozen 3
        have HBL := Lib.hid (below_any HSW.out.rs.ora)
        have HNX := Lib.hid (next_any HSW.out.rs.ora)
        clear hrb hbb hba hbt hg0 hgn hgB k0 k1 k2 htm
        go_wp2_with fail
        refine HBL.out.mono ?_
        rintro E w5 ⟨rfl, rfl⟩
        go_wp2_with fail
        refine HNX.out.mono ?_
        rintro E w6 ⟨rfl, rfl⟩
        go_upto_region 21 with fail
        have hst' := HSW.out.st
        obtain ⟨V, hV⟩ : ∃ V, (r.s.act cf a).2.1 = V := ⟨_, rfl⟩
        obtain ⟨C, hC⟩ : ∃ C, (r.s.act cf a).2.2 = C := ⟨_, rfl⟩
        have HV := Lib.hid (And.intro hV (And.intro hC hst'))
        rw [hV, hC] at HSW
        clear hV hC hst' z2 z3 f2 f3 HBL HNX
        have hf7 : Hid (Frm [gt] w6 ((w6.setCell ⟨gt, 2, none⟩ (.int .u64 (r'.s.rmk.til : Int))).setCell ⟨gt, 3, none⟩ (.int .u64 (r'.s.next : Int)))) := (Frm.set w6 ⟨gt, 2, none⟩ _).andSet ⟨gt, 3, none⟩ _ (.inl (by simp))
        have ht7 : Hid (Blk ((w6.setCell ⟨gt, 2, none⟩ (.int .u64 (r'.s.rmk.til : Int))).setCell ⟨gt, 3, none⟩ (.int .u64 (r'.s.next : Int))) gt 57 [.int .u64 (V : Int), .bool C, .int .u64 (r'.s.rmk.til : Int), .int .u64 (r'.s.next : Int)]) := (HSW.out.told.set_ 2 (.int .u64 (r'.s.rmk.til : Int))).set_ 3 (.int .u64 (r'.s.next : Int))
        have hr7 : Hid (RS w.heap.size (1 + 3 * (i + 1)) p cf r' ((w6.setCell ⟨gt, 2, none⟩ (.int .u64 (r'.s.rmk.til : Int))).setCell ⟨gt, 3, none⟩ (.int .u64 (r'.s.next : Int))) ow' A8' c8' A9 c9 tl) := HSW.out.rs.frm hf7.out (fun b hm _ => by
          rw [List.mem_singleton] at hm
          subst hm
          exact ⟨HSW.out.g0, own_ne_blk HSW.out.rs.lst HSW.out.told (by decide), HSW.out.gn⟩)
        have hb7 : Hid (Below w.heap.size w ((w6.setCell ⟨gt, 2, none⟩ (.int .u64 (r'.s.rmk.til : Int))).setCell ⟨gt, 3, none⟩ (.int .u64 (r'.s.next : Int)))) := HSW.out.bel.trans (hf7.out.below HSW.out.rs.ora.base (fun b hm => by
          rw [List.mem_singleton] at hm
          subst hm
          exact HSW.out.gB))
        clear HSW hf7
        generalize ((w6.setCell ⟨gt, 2, none⟩ (.int .u64 (r'.s.rmk.til : Int))).setCell ⟨gt, 3, none⟩ (.int .u64 (r'.s.next : Int))) = w7 at *
        have t0 : w7.cell? ⟨gt, 0, none⟩ = some (.int .u64 (V : Int)) := ht7.out.at_ rfl
        have t1 : w7.cell? ⟨gt, 1, none⟩ = some (.bool C) := ht7.out.at_ rfl
        have t2 : w7.cell? ⟨gt, 2, none⟩ = some (.int .u64 (r'.s.rmk.til : Int)) := ht7.out.at_ rfl
        have t3 : w7.cell? ⟨gt, 3, none⟩ = some (.int .u64 (r'.s.next : Int)) := ht7.out.at_ rfl
        have hr8 : Hid (RS w.heap.size (1 + 3 * (i + 1)) p cf r' (w7.alloc (.cells #[.int .u64 (V : Int), .bool C, .int .u64 (r'.s.rmk.til : Int), .int .u64 (r'.s.next : Int)] 57)) ow' A8' c8' A9 c9 tl) := hr7.out.alloc _
        have hn8 : Hid (Blk (w7.alloc (.cells #[.int .u64 (V : Int), .bool C, .int .u64 (r'.s.rmk.til : Int), .int .u64 (r'.s.next : Int)] 57)) w7.heap.size 57 [.int .u64 (V : Int), .bool C, .int .u64 (r'.s.rmk.til : Int), .int .u64 (r'.s.next : Int)]) := Blk.new w7 _ _
        have hb8 : Hid (Below w.heap.size w (w7.alloc (.cells #[.int .u64 (V : Int), .bool C, .int .u64 (r'.s.rmk.til : Int), .int .u64 (r'.s.next : Int)] 57))) := hb7.out.alloc hr7.out.ora.base _
        have htll : tl.length ≤ 100 := by rw [htl.out, oRun_len, List.length_take]; omega
        go_wp2_with (at_builtin; (refine wpList_append_td rfl (.tmp 111) (.tmp 113) rfl w.heap.size (.slice A9 tl.length c9) tl.length (flatT tl) rfl hr8.out.out w7.heap.size 1 [.int .u64 (V : Int), .bool C, .int .u64 (r'.s.rmk.til : Int), .int .u64 (r'.s.next : Int)] rfl rfl hn8.out (by simp [Value.oneCell']) (by omega) hr8.out.ora.base ?_; intro v9 w9 ho9 hg9 hat9))
        obtain ⟨A9', c9', rfl⟩ : ∃ A c, v9 = .slice A (tl.length + 1) c := by
          rcases ho9.2 with ⟨_, h0⟩ | ⟨g, cap, cur, rfl, _⟩
          · omega
          · exact ⟨_, _, rfl⟩
        have hf9 : Frm (Value.slice A9 tl.length c9).ownBlock.toList (w7.alloc (.cells #[.int .u64 (V : Int), .bool C, .int .u64 (r'.s.rmk.til : Int), .int .u64 (r'.s.next : Int)] 57)) w9 := frmRowO hg9
        obtain ⟨hV, hC, hst'⟩ := HV.out
        have hsnoc : l.take (i + 1) = l.take i ++ [a] := by rw [List.take_add_one, HAA.out]; rfl
        have htl' : tl ++ [⟨V, C, r'.s.rmk.til, r'.s.next⟩] = oRun cf oInit (l.take (i + 1)) := by
          rw [hsnoc, oRun_snoc, ← htl.out, ← hst.out, hV, hC, ← hst']
        go_roundg gkO
        case measure => omega
        case rel =>
          refine ⟨i + 1, r', ow', A8', c8', A9', c9', tl ++ [(⟨V, C, r'.s.rmk.til, r'.s.next⟩ : OTold)], rfl, rfl, by rw [List.length_append]; rfl, by omega, by have := hf.out; show _ = _; omega, htl', ?_, HTM.out, ?_, ?_, ?_, ?_⟩
          · rw [Hid, hsnoc, oState_app, ← hst.out, hst']
            rfl
          · rw [Hid, hst']
            exact (hok.out.act cf a).1
          · rw [Hid, hst']
            exact hsb.out.act cf a (HW.out a (List.mem_of_getElem? HAA.out)).1
          · refine ⟨hr8.out.ora.idle hf9 (fun b hb _ => hr8.out.o0 b hb), owns_of hr8.out.lst (fun b hb => hf9.block b (hr8.out.lst.lt b (Option.mem_toList.1 hb)).2 (fun hm => ?_)), hr8.out.l0, ?_, fun b hb => ?_⟩
            · rcases hr8.out.out.2 with ⟨h0, _⟩ | ⟨g', cap, cur, hv, _, hh, _⟩
              · rw [h0] at hm; cases hm
              · rw [hv] at hm
                simp only [Value.ownBlock, Option.toList_some, List.mem_singleton] at hm
                have hb2 : Blk (w7.alloc (.cells #[.int .u64 (V : Int), .bool C, .int .u64 (r'.s.rmk.til : Int), .int .u64 (r'.s.next : Int)] 57)) b 57 cur.toList := by unfold Blk; rw [Array.toArray_toList, hm]; exact hh
                exact own_ne_blk hr8.out.lst hb2 (by decide) hb
            · rw [flatT_app, List.length_append]
              exact ho9
            · rw [List.length_append] at hb
              rcases hat9 with e | e
              · rw [List.length_singleton, e] at hb; exact hr8.out.o0 b hb
              · rw [List.length_singleton, e] at hb
                simp only [Option.toList_some, List.mem_singleton] at hb
                exact hr8.out.ora.out b (by omega)
          · exact hb8.out.trans (hf9.below hr8.out.ora.base (fun b hb => (hr8.out.out.lt b (Option.mem_toList.1 hb)).1))
    · have hie : i = n := by omega
      have hlt2 : ¬ (i : Int) < (n : Int) := by omega
      go_wp2
      go_ret2
      have htlen : tl.length = n := by rw [htl.out, oRun_len, List.length_take, HN.out]; omega
      have htt : tl = oRun cf oInit l := by rw [htl.out, hie, ← HN.out, List.take_length]
      have ho := hrs.out.out
      refine ⟨A9, c9, ?_, ?_, hbl.out⟩
      · rw [htlen]; rfl
      · rw [htlen, htt] at ho
        exact ho
end Go.Proofs.Ytanmgkpgfmkobaa
