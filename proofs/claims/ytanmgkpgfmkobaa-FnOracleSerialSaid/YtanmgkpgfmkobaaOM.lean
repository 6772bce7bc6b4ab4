/- The oracle's functions: a transaction begins, reads, writes, ends. -/
import Derived.Test.YtanmgkpgfmkobaaOL
import Derived.Test.YtanmgkpgfmkobaaPB
import Derived.StillTailTactics
namespace Go.Proofs.Ytanmgkpgfmkobaa
open Go.RowKit
set_option linter.unusedVariables false
set_option linter.unusedSimpArgs false
set_option maxRecDepth 100000
section
variable {B N K : Nat} {p : OP} {cf : Bool} {r : ORun} {w : World} {ow : Nat → Nat}
/-- A transaction reads no more. -/
theorem doneRead_any (h : Ora B N p cf r w ow) (hm : MB K r.s.rmk) (hK : K ≤ 100000) (hn : N ≤ 1000000) {t : Nat} {x : OTx} {q : Nat × Nat} (hx : r.s.txs[t]? = some x) (hq : r.gs[t]? = some q) (hr : x.rts ≤ 1000000) :
    Calls Try.prog 90 #[.pointer (some ⟨p.O, 0, none⟩), .pointer (some ⟨q.1, 0, none⟩)] w (ActP B (N + 1) p cf { r with s := r.s.done t x } (.tuple #[]) ow w) := by
  have H := Lib.hid h
  have HM := Lib.hid hm
  have HX := Lib.hid hx
  have HQ := Lib.hid hq
  obtain ⟨rv, ht, hto⟩ := h.tx hx hq
  have HT := Lib.hid ht
  have HTO := Lib.hid hto
  have x4 : w.cell? ⟨q.1, 4, none⟩ = some (.bool x.dr) := ht.1.at_ rfl
  have f4 := ht.1.frozen 4
  clear h hm hx hq ht hto
  cases hdr : x.dr with
  | true =>
    rw [hdr] at x4
    have HD := Lib.hid hdr
    clear hdr
    go_enter Try.func90, Try.ntmps90
    go_wp2
    go_end0
    have e : r.s.done t x = r.s := by unfold OSt.done; rw [if_pos HD.out]
    rw [e]
    exact ⟨rfl, ow, H.out.more (Nat.le_succ N), Stp.refl ow w⟩
  | false =>
    rw [hdr] at x4
    have HD := Lib.hid hdr
    have hset : Hid (∃ ow', Ora B N p cf { r with s := { r.s with txs := r.s.txs.set t { x with dr := true } } } (w.setCell ⟨q.1, 4, none⟩ (.bool true)) ow' ∧ Stp ow w ow' (w.setCell ⟨q.1, 4, none⟩ (.bool true))) := by
      have hf := Frm.set w ⟨q.1, 4, none⟩ (.bool true)
      have hqo : ow q.1 = t + 4 := HTO.out q.1 (by simp)
      refine H.out.setTx (L := [q.1]) (rv' := rv) HQ.out hf (fun b hb _ => ?_) ⟨?_, HT.out.2.1.frm hf (fun k hk => ?_), HT.out.2.2.frm hf ?_⟩ (fun b hb _ => HTO.out b hb) (Nat.le_refl _)
      · rw [List.mem_singleton] at hb; subst hb; exact hqo
      · exact HT.out.1.set_ 4 (.bool true)
      · obtain ⟨cs, hb, _⟩ := HT.out.2.1.blk hk
        rw [List.mem_singleton]
        exact blk_neO hb HT.out.1 (by decide)
      · rw [List.mem_singleton]
        exact mapAt_ne_blk HT.out.2.2 HT.out.1
    clear hdr
    have hdone : Hid (r.s.done t x = { r.s with txs := r.s.txs.set t { x with dr := true }, rmk := r.s.rmk.proc x.rts (-1) }) := by
      rw [Hid]; unfold OSt.done; rw [if_neg (by rw [HD.out]; simp)]
    go_enter Try.func90, Try.ntmps90
    go_upto_region 2 with fail
    obtain ⟨ow1, hO1, hS1⟩ := hset.out
    have o5 := hO1.o5
    have x0 : (w.setCell ⟨q.1, 4, none⟩ (.bool true)).cell? ⟨q.1, 0, none⟩ = some (.int .u64 (x.rts : Int)) := (HT.out.1.set_ 4 (.bool true)).at_ rfl
    have HO1 := Lib.hid hO1
    have HS1 := Lib.hid hS1
    clear hset hO1 hS1 x4 f4
    generalize w.setCell ⟨q.1, 4, none⟩ (.bool true) = w1 at *
    go_still_tail 8, (by kernel_rfl)
    change wpList _ _ _ _ _ w1.drew
    have hO2 : Hid (Ora B N p cf { r with s := { r.s with txs := r.s.txs.set t { x with dr := true } } } w1.drew ow1) := HO1.out.idle (Frm.refl [] w1).drew (fun b hb => by cases hb)
    have hS2 : Hid (Stp ow w ow1 w1.drew) := HS1.out.trans (Stp.of_frm (Frm.refl [] w1).drew (fun b hb => by cases hb))
    clear o5 x0 HO1 HS1
    generalize w1.drew = w2 at *
    go_wp2_with fail
    refine (done3 hO2.out (K := K) HM.out hK x.rts hr hn).mono ?_
    rintro E w' ⟨rfl, ow', hO3, hS3⟩
    have HO3 := Lib.hid hO3
    have HS3 := Lib.hid (hS2.out.trans hS3)
    clear hO3 hS3
    go_wp2
    go_end0
    refine ⟨rfl, ow', ?_, HS3.out⟩
    rw [hdone.out]
    exact HO3.out
theorem discard_any (h : Ora B N p cf r w ow) (hm : MB K r.s.rmk) (hK : K ≤ 100000) (hn : N ≤ 1000000) {t : Nat} {x : OTx} {q : Nat × Nat} (hx : r.s.txs[t]? = some x) (hq : r.gs[t]? = some q) (hr : x.rts ≤ 1000000) :
    Calls Try.prog 61 #[.pointer (some ⟨p.P, 0, none⟩), .pointer (some ⟨q.1, 0, none⟩)] w (ActP B (N + 1) p cf { r with s := r.s.done t x } (.tuple #[]) ow w) := by
  have p0 := h.p0
  have H := Lib.hid (doneRead_any h hm hK hn hx hq hr)
  clear h hm hx hq
  go_enter Try.func61, Try.ntmps61
  go_wp2_with fail
  refine H.out.mono ?_
  rintro E w' ⟨rfl, hr⟩
  have HR := Lib.hid hr
  clear hr
  go_wp2
  go_end0
  exact ⟨rfl, HR.out⟩
theorem doneCommit_any (h : Ora B N p cf r w ow) (hm : MB K r.tm) (hK : K ≤ 100000) (hn : N ≤ 1000000) (i : Nat) (hi : i ≤ 1000000) :
    Calls Try.prog 89 #[.pointer (some ⟨p.O, 0, none⟩), .int .u64 (i : Int)] w (ActP B (N + 1) p cf { r with tm := r.tm.proc i (-1) } (.tuple #[]) ow w) := by
  have o0 := h.o0
  have o3 := h.o3
  have H := Lib.hid (done2 h hm hK i hi hn)
  clear h hm
  go_enter Try.func89, Try.ntmps89
  go_wp2_with fail
  refine H.out.mono ?_
  rintro E w' ⟨rfl, hr⟩
  have HR := Lib.hid hr
  clear hr
  go_wp2
  go_end0
  exact ⟨rfl, HR.out⟩
theorem wrF_nil : wrF [] = fun _ => none := by funext x; rfl
theorem wrF_snoc (l : List Int) (k : Int) : updM (wrF l) k (some (.agg #[])) = wrF (l ++ [k]) := by
  funext x
  unfold updM wrF
  by_cases h : x = k
  · subst h; rw [if_pos rfl, if_pos (by simp)]
  · rw [if_neg h]
    have : (l ++ [k]).contains x = l.contains x := by
      rw [Bool.eq_iff_iff]
      simp [h]
    rw [this]
/-- A transaction begins. -/
theorem beginO_any (h : Ora B N p cf r w ow) (hm : MB K r.s.rmk) (hK : K ≤ 100000) (n : Nat) (hnx : r.s.next = n + 1) (hi : n ≤ 1000000) (hn : N ≤ 1000000) :
    Calls Try.prog 56 #[.pointer (some ⟨p.P, 0, none⟩)] w fun E w' => ∃ q : Nat × Nat, E = .returned (.pointer (some ⟨q.1, 0, none⟩)) ∧ ∃ ow', Ora B (N + 1) p cf ⟨{ r.s with txs := r.s.txs ++ [⟨n, [], [], false⟩], rmk := r.s.rmk.proc n 1 }, r.tm, r.gs ++ [q]⟩ w' ow' ∧ Stp ow w ow' w' := by
  have p0 := h.p0
  have hmm := @run_makeMap Try.prog
  have H := Lib.hid (readTs_any h hm hK n hnx hi hn)
  clear h hm hnx
  go_enter Try.func56, Try.ntmps56
  go_wp2_with fail
  refine H.out.mono ?_
  rintro E w1 ⟨rfl, ow1, hO, hS⟩
  have HO := Lib.hid hO
  have HS := Lib.hid hS
  clear hO hS
  go_wp2
  go_ret
  have hf : Frm [] w1 ((w1.alloc (.map #[] 0)).alloc (.cells #[.int .u64 (n : Int), .int .u64 0, .slice none 0 0, .map (some w1.heap.size), .bool false] 150)) := (Frm.alloc w1 _).andAlloc _
  have hsz : (w1.alloc (.map #[] 0)).heap.size = w1.heap.size + 1 := World.size_alloc w1 _
  obtain ⟨ow2, hO2, hS2⟩ := HO.out.addTx (q := (w1.heap.size + 1, w1.heap.size)) (rv' := .slice none 0 0) (x' := ⟨n, [], [], false⟩) hf ⟨by
    have := Blk.new (w1.alloc (.map #[] 0)) 150 [.int .u64 (n : Int), .int .u64 0, .slice none 0 0, .map (some w1.heap.size), .bool false]
    rw [hsz] at this
    exact this, .inl ⟨rfl, rfl⟩, by rw [wrF_nil]; exact ((MapAt.made Try.prog w1 28 .u64).alloc _).mono (Nat.zero_le _)⟩ (fun b hb => by
    simp only [Value.ownBlock, Option.toList_none, List.mem_cons, List.not_mem_nil, or_false] at hb
    omega)
  exact ⟨(w1.heap.size + 1, w1.heap.size), by simp [hsz], ow2, hO2, HS.out.trans hS2⟩
theorem readTsT_any (g : Nat) (n : Int) (w : World) (h : w.cell? ⟨g, 0, none⟩ = some (.int .u64 n)) :
    Calls Try.prog 57 #[.pointer (some ⟨g, 0, none⟩)] w fun E w' => E = .returned (.int .u64 n) ∧ w' = w := by
  go_enter Try.func57, Try.ntmps57
  go_wp2
  go_ret
  exact ⟨rfl, rfl⟩
/-- A key is written. -/
theorem writeT_any (h : Ora B N p cf r w ow) (hn : N ≤ 1000000) {t : Nat} {x : OTx} {q : Nat × Nat} (hx : r.s.txs[t]? = some x) (hq : r.gs[t]? = some q) (k : Int) (hk : (Lit.int .u64 k).wf = true) :
    Calls Try.prog 59 #[.pointer (some ⟨q.1, 0, none⟩), .int .u64 k] w (ActP B (N + 1) p cf { r with s := { r.s with txs := r.s.txs.set t { x with writes := x.writes ++ [k] } } } (.tuple #[]) ow w) := by
  have H := Lib.hid h
  have HX := Lib.hid hx
  have HQ := Lib.hid hq
  obtain ⟨rv, ht, hto⟩ := h.tx hx hq
  have HT := Lib.hid ht
  have HTO := Lib.hid hto
  have x3 : w.cell? ⟨q.1, 3, none⟩ = some (.map (some q.2)) := ht.1.at_ rfl
  clear h hx hq ht hto
  go_enter Try.func59, Try.ntmps59
  go_wp2_with (at_mapUpdate; refine wpList_mapUpdate_at rfl _ _ _ _ rfl HT.out.2.2 u64intO Try.underlying148 ?c1 k (.agg #[]) rfl rfl rfl hk ?_; (case c1 => unfold maxLen; omega); intro w2 hm2 hg2)
  go_end0
  have hf : Frm [q.2] w w2 := Frm.of_grown hg2
  have hqo : ow q.2 = t + 4 := HTO.out q.2 (by simp)
  obtain ⟨ow', h1, h2⟩ := H.out.setTx (L := [q.2]) (N' := N + 1) (rv' := rv) (x' := { x with writes := x.writes ++ [k] }) HQ.out hf (fun b hb _ => by rw [List.mem_singleton] at hb; subst hb; exact hqo) ⟨HT.out.1.frm hf (by rw [List.mem_singleton]; exact fun e => mapAt_ne_blk HT.out.2.2 HT.out.1 e.symm), HT.out.2.1.frm hf (fun j hj => by
    obtain ⟨cs, hb, _⟩ := HT.out.2.1.blk hj
    rw [List.mem_singleton]
    exact fun e => mapAt_ne_blk HT.out.2.2 hb e.symm), by rw [← wrF_snoc]; exact hm2⟩ (fun b hb _ => HTO.out b hb) (Nat.le_succ N)
  exact ⟨rfl, ow', h1, h2⟩
end
end Go.Proofs.Ytanmgkpgfmkobaa
