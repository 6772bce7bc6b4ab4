/- Values in bytes: the thin package's contracts. -/
import Derived.Test.YtadhdimleabljaaGE
import Derived.Test.YtadhdimleabljaaGB
import Derived.Test.YtadhdimleabljaaQV
namespace Go.Proofs.Ytadhdimleabljaa
open Go.RowKit
open Go.Proofs.YtadhdimleabljaaQ.Ext (sl_of_C C_of_sl own_of_R R_of_own)
open Go.Proofs.YtadhdimleabljaaW.PrintWords (Kd)
set_option linter.unusedVariables false
set_option linter.unusedSimpArgs false
theorem own_set {w : World} {base e s n : Nat} {v : Value} {xs : List Value} (h : w.ownsRow base e s v n xs) {p : Addr} (hp : p.block < base) (u : Value) : (w.setCell p u).ownsRow base e s v n xs :=
  Go.Proofs.YtadhdimleabljaaW.PrintWords.own_move h (fun k hk => Below.heap_setCell w p u k (by have := (h.lt k hk).1; omega))
/-- A value of the package: its data lie in new memory. -/
theorem structOf_any (m u e : Int) (A : Option Addr) (n c : Nat) (l : List Int) (w : World) (h : Sl w A n (nums .u8 l)) (hc : n ≤ c) (hn : n ≤ 1000000) :
    Calls Try.prog 109 #[.agg #[.int .u8 m, .int .u8 u, .int .u64 e, .slice A n c]] w fun E w' => ∃ v, E = .returned (.agg #[.int .u8 m, .int .u8 u, .int .u64 e, v, .int .u64 0]) ∧ w'.ownsRow w.heap.size 5 1 v n (nums .u8 l) ∧ Below w.heap.size w w' := by
  have hl : l.length = n := by have := h.1; rwa [nums_length] at this
  subst hl
  have := Go.Proofs.YtadhdimleabljaaQ.QV.impl_structOf.calls m u e A c l m u e l 0 w (C_of_sl h (by omega)) hc (by
    unfold Go.Proofs.YtadhdimleabljaaQ.QV.impl_structOf.f Go.Proofs.YtadhdimleabljaaQ.Ext.impl_own.f
    rw [if_pos (by omega)]
    rfl)
  exact this.mono fun E w' ⟨v, he, hr, hb⟩ => ⟨v, he, own_of_R hr, hb⟩
theorem valueOf_any (m u e ver : Int) (A : Option Addr) (n c : Nat) (l : List Int) (w : World) (h : Sl w A n (nums .u8 l)) (hc : n ≤ c) (hn : n ≤ 1000000) :
    Calls Try.prog 125 #[.agg #[.int .u8 m, .int .u8 u, .int .u64 e, .slice A n c, .int .u64 ver]] w fun E w' => ∃ v, E = .returned (.agg #[.int .u8 m, .int .u8 u, .int .u64 e, v]) ∧ w'.ownsRow w.heap.size 5 1 v n (nums .u8 l) ∧ Below w.heap.size w w' := by
  have hl : l.length = n := by have := h.1; rwa [nums_length] at this
  subst hl
  have := Go.Proofs.YtadhdimleabljaaQ.QV.impl_valueOf.calls m u e A c l ver m u e l w (C_of_sl h (by omega)) hc (by
    unfold Go.Proofs.YtadhdimleabljaaQ.QV.impl_valueOf.f Go.Proofs.YtadhdimleabljaaQ.Ext.impl_own.f
    rw [if_pos (by omega)]
    rfl)
  exact this.mono fun E w' ⟨v, he, hr, hb⟩ => ⟨v, he, own_of_R hr, hb⟩
set_option maxRecDepth 100000 in
theorem encodeValue_any (m u e : Int) (A : Option Addr) (n c : Nat) (l : List Int) (w : World) (h : Sl w A n (nums .u8 l)) (hc : n ≤ c) (hn : n ≤ 1000000) (he0 : 0 ≤ e) (he : Hid (e ≤ 18446744073709551615)) :
    Calls Try.prog 57 #[.agg #[.int .u8 m, .int .u8 u, .int .u64 e, .slice A n c]] w fun E w' => ∃ v, E = .returned (.tuple #[v, .int .u32 (valB m u e l).length]) ∧ w'.ownsRow w.heap.size 5 1 v (valB m u e l).length (nums .u8 (valB m u e l)) ∧ Below w.heap.size w w' := by
  have hlen : l.length = n := by have := h.1; rwa [nums_length] at this
  have hL := valB_len m u e l
  have hv := vint_len 9 e
  have H := Lib.hid h
  have HL := Lib.hid (And.intro hlen (And.intro hL hv))
  clear h hlen hL hv
  obtain ⟨i0, hi0, hz0, hz1, hz2⟩ := info_parts infoU8
  go_enter Try.func57, Try.ntmps57
  go_wp2_with fail
  refine (structOf_any m u e A n c l _ (H.out.alloc _) hc hn).mono ?_
  rintro E w1 ⟨v1, rfl, ho1, hb1⟩
  obtain ⟨A1, c1, rfl, hc1, hs1⟩ := own_sl ho1
  have HO1 := Lib.hid ho1
  have HB1 := Lib.hid hb1
  have HS1 := Lib.hid hs1
  clear ho1 hb1 hs1
  go_wp2_with fail
  have hbx : Blk (w1.alloc (.cells #[.int .u8 m, .int .u8 u, .int .u64 e, .slice A1 n c1, .int .u64 0] 120)) w1.heap.size 120 [.int .u8 m, .int .u8 u, .int .u64 e, .slice A1 n c1, .int .u64 0] := Blk.new _ _ _
  have hAx : ∀ b o, A1 = some ⟨b, o, none⟩ → b < w1.heap.size := by
    intro b o hb
    subst hb
    exact (HO1.out.lt b rfl).2
  have HAX := Lib.hid hAx
  have HBX := Lib.hid hbx
  have HS2 := Lib.hid (HS1.out.alloc (.cells #[.int .u8 m, .int .u8 u, .int .u64 e, .slice A1 n c1, .int .u64 0] 120))
  have HB2 : Hid (Below w.heap.size w (w1.alloc (.cells #[.int .u8 m, .int .u8 u, .int .u64 e, .slice A1 n c1, .int .u64 0] 120))) := by
    have := HB1.out
    rw [World.size_alloc] at this
    exact bl_alloc ((bl_alloc (Below.refl _ _) _).trans (this.mono (by omega))) _
  have HZ : Hid (w1.heap.size < (w1.alloc (.cells #[.int .u8 m, .int .u8 u, .int .u64 e, .slice A1 n c1, .int .u64 0] 120)).heap.size) := by show _ < _; rw [World.size_alloc]; omega
  clear hbx hAx HO1 HB1 HS1
  generalize w1.alloc (.cells #[.int .u8 m, .int .u8 u, .int .u64 e, .slice A1 n c1, .int .u64 0] 120) = w2 at *
  generalize hgx : w1.heap.size = gx at *
  clear hgx
  refine (encodedSize_any gx e A1 n c1 w2 (by rw [HBX.out.cell]; rfl) (by rw [HBX.out.cell]; rfl) hn he0 he).mono ?_
  rintro E w2' ⟨rfl, rfl⟩
  obtain ⟨N, hN⟩ : ∃ N : Nat, N = 2 + (vint 9 e).length + n := ⟨_, rfl⟩
  rw [← hN]
  have hN1 : 3 ≤ N ∧ N ≤ 2000000 := by have := HL.out; omega
  obtain ⟨hN1, hN2⟩ := hN1
  have HN := Lib.hid hN
  clear hN
  go_wp2_with (at_make; refine wpList_make_full _ rfl (.tmp 9) (.tmp 9) 26 rfl w2.heap.size 5 i0 (.int .u8 0) 1 Try.underlying26 hi0 hz0 hz1 .u32 .u32 _ _ N rfl rfl (by omega) (by omega) (by rw [hz2]; omega) (by simp [maxLen]; omega) (Nat.le_refl _) ?_; intro w3 hown1 hg1)
  obtain ⟨g2, cur, hA1, hgb, hblk, hnc, hcl, hct⟩ := own_blk hown1 (by omega)
  injection hA1 with hA1
  injection hA1 with hA1 _
  have HA1 := Lib.hid hA1
  rw [hA1]
  have hgl : gx < g2 := by have := HZ.out; omega
  have hne : gx ≠ g2 := by omega
  have hG : Below w2.heap.size w2 w3 := (Below.refl _ _).grown hg1 (Nat.le_refl _) (by simp)
  have hbx : Blk w3 gx 120 [.int .u8 m, .int .u8 u, .int .u64 e, .slice A1 n c1, .int .u64 0] := HBX.out.below hG HZ.out
  have hs3 : Sl w3 A1 n (nums .u8 l) := HS2.out.below hG
  have hax : ∀ b o, A1 = some ⟨b, o, none⟩ → b ≠ g2 := fun b o hb => by have := HAX.out b o hb; omega
  have HB3 : Hid (Below w.heap.size w w3) := bl_trans HB2.out hG
  have HCL := Lib.hid hcl
  have HGE : Hid (w.heap.size ≤ g2) := by show _ ≤ _; have := HB2.out.size; omega
  have hfit : N ≤ cur.length := by omega
  clear hA1 hgb hnc hcl hct hown1 hg1 hG HBX HS2 hi0 hz0 hz1 hz2
  refine (valEncode_any gx g2 N N 5 n c1 m u e 0 A1 l cur w3 hbx hs3 hblk hne hax HN.out (Nat.le_refl _) hfit hn he0 he).mono ?_
  rintro E w4 ⟨rfl, hw4⟩
  have q2 := cell_wrote hw4 hne (show w3.cell? ⟨gx, 2, none⟩ = some (.int .u64 e) by rw [hbx.cell]; rfl)
  have q3 := cell_wrote hw4 hne (show w3.cell? ⟨gx, 3, none⟩ = some (.slice A1 n c1) by rw [hbx.cell]; rfl)
  have HW4 := Lib.hid hw4
  have hES : ∀ k, Calls Try.prog 110 #[.pointer (some ⟨gx, 0, none⟩)] (w4.drewN k) fun E w' => E = .returned (.int .u32 (N : Int)) ∧ w' = w4.drewN k := by
    intro k
    rw [HN.out]
    exact (encodedSize_any gx e A1 n c1 (w4.drewN k) q2 q3 hn he0 he).mono fun _ _ ⟨h1, h2⟩ => ⟨h1, h2.symm⟩
  have HES := Lib.hid hES
  have hwN : IntKind.i64.wrap (N : Int) = (N : Int) := IntWalk.i64_in _ (by omega)
  clear hw4 hbx hs3 hblk hax q2 q3 hES
  go_wp2_with fail
  go_quiet ((go_at_call 110; exact Calls.quiet_of_same (HES.out _)))
  go_wp2
  go_ret2
  have hNL : (valB m u e l).length = N := by have := HL.out; have := HN.out; omega
  have hcs : splice cur 0 (nums .u8 (valB m u e l)) = nums .u8 (valB m u e l) := splice_zero _ _ (by rw [nums_length, hNL]; exact HCL.out.symm)
  have hw := HW4.out
  rw [hcs] at hw
  refine ⟨.slice (some ⟨g2, 0, none⟩) N N, ?_, ?_, ?_⟩
  · rw [hNL]; rfl
  · have hb : Blk (w4.drewN nq) g2 5 (nums .u8 (valB m u e l)) := hw.1
    have := blk_own (base := w.heap.size) (n := N) (c := N) hb HGE.out (Nat.le_refl _) (by rw [nums_length, hNL]) (by omega)
    rw [List.take_of_length_le (by rw [nums_length, hNL]; omega)] at this
    rw [hNL]
    exact this
  · exact bl_drewN (below_wrote HB3.out HGE.out HB3.out.size hw) _
set_option maxRecDepth 100000 in
theorem valDecode_any (g t g2 n c : Nat) (b0 b1 : Int) (rest : List Int) (v0 v1 v2 v3 v4 : Value) (o : Nat) (x s : Int) (w : World) (h : Blk w g t [v0, v1, v2, v3, v4]) (hs : Sl w (some ⟨g2, o, none⟩) n (nums .u8 (b0 :: b1 :: rest))) (hne : g2 ≠ g)
    (hc : n ≤ c) (hn : n ≤ 1000000) (hB : Byt rest) (hu : uvarL rest 0 0 = (x, s)) (h0 : 0 < s) (hsz : s ≤ rest.length) :
    Calls Try.prog 124 #[.pointer (some ⟨g, 0, none⟩), .slice (some ⟨g2, o, none⟩) n c] w fun E w' =>
      E = .returned (.tuple #[]) ∧ ∃ B d, rest.length - s.toNat ≤ d ∧ Wrote w g t [.int .u8 b0, .int .u8 b1, .int .u64 x, .slice B (rest.length - s.toNat) d, v4] w' ∧ Sl w' B (rest.length - s.toNat) (nums .u8 (rest.drop s.toNat)) := by
  have hlen : rest.length + 2 = n := by have := hs.1; rw [nums_length] at this; simpa using this
  have hb0 : w.cell? ⟨g2, o + 0, none⟩ = some (.int .u8 b0) := by
    obtain ⟨g', o', e1, hcell⟩ := hs.2 (by omega)
    injection e1 with e1; injection e1 with e1 e2; subst e1 e2
    exact hcell 0 _ rfl
  have hb1 : w.cell? ⟨g2, o + 1, none⟩ = some (.int .u8 b1) := by
    obtain ⟨g', o', e1, hcell⟩ := hs.2 (by omega)
    injection e1 with e1; injection e1 with e1 e2; subst e1 e2
    exact hcell 1 _ rfl
  rw [Nat.add_zero] at hb0
  have q0 : w.cell? ⟨g, 0, none⟩ = some v0 := by rw [h.cell]; rfl
  have q1 : w.cell? ⟨g, 1, none⟩ = some v1 := by rw [h.cell]; rfl
  have q2 : w.cell? ⟨g, 2, none⟩ = some v2 := by rw [h.cell]; rfl
  have q3 : w.cell? ⟨g, 3, none⟩ = some v3 := by rw [h.cell]; rfl
  have f0 := h.frozen 0
  have f1 := h.frozen 1
  have f2 := h.frozen 2
  have f3 := h.frozen 3
  have hne' : g ≠ g2 := fun e => hne e.symm
  have HH := Lib.hid h
  have HS := Lib.hid hs
  have HU := Lib.hid hu
  obtain ⟨sn, rfl⟩ := Int.eq_ofNat_of_zero_le (show 0 ≤ s by omega)
  have hsn : 1 ≤ sn ∧ sn ≤ rest.length := by omega
  obtain ⟨hsn1, hsn2⟩ := hsn
  have HLn := Lib.hid hlen
  have s1 : IntKind.i64.wrap (2 + (sn : Int)) = 2 + (sn : Int) := IntWalk.i64_in _ (by omega)
  have s2 : (2 + (sn : Int)).toNat = 2 + sn := by omega
  have s3 : (0 : Int) ≤ 2 + (sn : Int) := by omega
  have s4 : 2 + (sn : Int) ≤ (n : Int) := by omega
  have n2 : 3 ≤ n := by omega
  have c2 : ¬ c = 2 := by omega
  have hs2 : ∀ w', Wrote w g t [.int .u8 b0, .int .u8 b1, v2, v3, v4] w' → Sl w' (some ⟨g2, o + 2, none⟩) (n - 2) (nums .u8 rest) := by
    intro w' hw
    have := (sl_wrote hw (by intro b oo hb; injection hb with hb; injection hb with hb _; omega) hs).drop (m := 2) (c := c) (by omega) hc
    rw [if_neg c2] at this
    simpa [Addr.add, nums] using this
  have HS2 := Lib.hid hs2
  clear h hs hu hlen h0 hsz hsn2 hs2
  go_enter Try.func124, Try.ntmps124
  go_wp2_with fail
  have hW1 : Wrote w g t [.int .u8 b0, .int .u8 b1, v2, v3, v4] ((w.setCell ⟨g, 0, none⟩ (.int .u8 b0)).setCell ⟨g, 1, none⟩ (.int .u8 b1)) := (Wrote.sets HH.out 0 (.int .u8 b0)).trans (Wrote.sets (HH.out.set_ 0 (.int .u8 b0)) 1 (.int .u8 b1))
  have HW1 := Lib.hid hW1
  generalize (w.setCell ⟨g, 0, none⟩ (.int .u8 b0)).setCell ⟨g, 1, none⟩ (.int .u8 b1) = w1 at *
  have r2 : w1.cell? ⟨g, 2, none⟩ = some v2 := by rw [hW1.1.cell]; rfl
  have r3 : w1.cell? ⟨g, 3, none⟩ = some v3 := by rw [hW1.1.cell]; rfl
  have g2' := hW1.1.frozen 2
  have g3' := hW1.1.frozen 3
  clear hW1 q0 q1 q2 q3 f0 f1 f2 f3 hb0 hb1
  refine (uvarint_any _ (n - 2) (c - 2) rest w1 (HS2.out _ HW1.out) hB (by omega)).mono ?_
  rintro E w1' ⟨rfl, rfl⟩
  rw [HU.out]
  have hfin : ∀ (B : Option Addr) (d : Nat), (n - (2 + sn) ≤ d) → Sl w B (n - (2 + sn)) (nums .u8 (rest.drop sn)) → (∀ b oo, B = some ⟨b, oo, none⟩ → b ≠ g) →
      ∃ B' d', rest.length - (sn : Int).toNat ≤ d' ∧ Wrote w g t [.int .u8 b0, .int .u8 b1, .int .u64 x, .slice B' (rest.length - (sn : Int).toNat) d', v4] ((w1.setCell ⟨g, 2, none⟩ (.int .u64 x)).setCell ⟨g, 3, none⟩ (.slice B (n - (2 + sn)) d)) ∧ Sl ((w1.setCell ⟨g, 2, none⟩ (.int .u64 x)).setCell ⟨g, 3, none⟩ (.slice B (n - (2 + sn)) d)) B' (rest.length - (sn : Int).toNat) (nums .u8 (rest.drop (sn : Int).toNat)) := by
    intro B d hd hB hb
    have e : rest.length - (sn : Int).toNat = n - (2 + sn) := by have := HLn.out; omega
    have hw : Wrote w g t [.int .u8 b0, .int .u8 b1, .int .u64 x, .slice B (n - (2 + sn)) d, v4] ((w1.setCell ⟨g, 2, none⟩ (.int .u64 x)).setCell ⟨g, 3, none⟩ (.slice B (n - (2 + sn)) d)) :=
      HW1.out.trans ((Wrote.sets HW1.out.1 2 (.int .u64 x)).trans (Wrote.sets (HW1.out.1.set_ 2 (.int .u64 x)) 3 (.slice B (n - (2 + sn)) d)))
    rw [e]
    exact ⟨B, d, hd, hw, sl_wrote hw hb hB⟩
  have HFin := Lib.hid hfin
  have hdr := HS.out.drop (m := 2 + sn) (c := c) (by omega) hc
  rw [show (nums .u8 (b0 :: b1 :: rest)).drop (2 + sn) = nums .u8 (rest.drop sn) by simp [nums, Nat.add_comm 2 sn]] at hdr
  have HD := Lib.hid hdr
  clear hfin hdr
  by_cases hcc : c = 2 + sn
  · go_wp2
    go_end0
    refine ⟨rfl, ?_⟩
    have hd := HD.out
    rw [if_pos hcc] at hd
    exact HFin.out _ _ (by omega) hd (by intro b oo hb; injection hb with hb; injection hb with hb _; omega)
  · go_wp2
    go_end0
    refine ⟨rfl, ?_⟩
    have hd := HD.out
    rw [if_neg hcc] at hd
    simp only [Option.map_some, add_none] at hd
    exact HFin.out _ _ (by omega) hd (by intro b oo hb; injection hb with hb; injection hb with hb _; omega)
set_option maxRecDepth 100000 in
theorem decodeValue_any (A : Option Addr) (n c : Nat) (b0 b1 : Int) (rest : List Int) (x s : Int) (w : World) (h : Sl w A n (nums .u8 (b0 :: b1 :: rest))) (hn : n ≤ 1000000) (hB : Byt rest) (hu : uvarL rest 0 0 = (x, s)) (h0 : 0 < s) (hsz : s ≤ rest.length) :
    Calls Try.prog 74 #[.slice A n c] w fun E w' => ∃ v, E = .returned (.agg #[.int .u8 b0, .int .u8 b1, .int .u64 x, v]) ∧ w'.ownsRow w.heap.size 5 1 v (rest.drop s.toNat).length (nums .u8 (rest.drop s.toNat)) ∧ Below w.heap.size w w' := by
  have hlen : rest.length + 2 = n := by have := h.1; rw [nums_length] at this; simpa using this
  have H := Lib.hid h
  have HLn := Lib.hid hlen
  clear h hlen
  go_enter Try.func74, Try.ntmps74
  go_wp2_with fail
  have hbR : Blk ((w.alloc (.cells #[.int .u8 0, .int .u8 0, .int .u64 0, .slice none 0 0] 69)).alloc (.cells #[.int .u8 0, .int .u8 0, .int .u64 0, .slice none 0 0, .int .u64 0] 120)) w.heap.size 69 [.int .u8 0, .int .u8 0, .int .u64 0, .slice none 0 0] := (Blk.new w 69 [.int .u8 0, .int .u8 0, .int .u64 0, .slice none 0 0]).alloc _
  have hbX : Blk ((w.alloc (.cells #[.int .u8 0, .int .u8 0, .int .u64 0, .slice none 0 0] 69)).alloc (.cells #[.int .u8 0, .int .u8 0, .int .u64 0, .slice none 0 0, .int .u64 0] 120)) (w.heap.size + 1) 120 [.int .u8 0, .int .u8 0, .int .u64 0, .slice none 0 0, .int .u64 0] := by
    have := Blk.new (w.alloc (.cells #[.int .u8 0, .int .u8 0, .int .u64 0, .slice none 0 0] 69)) 120 [.int .u8 0, .int .u8 0, .int .u64 0, .slice none 0 0, .int .u64 0]
    rwa [World.size_alloc] at this
  have HBa : Hid (Below w.heap.size w ((w.alloc (.cells #[.int .u8 0, .int .u8 0, .int .u64 0, .slice none 0 0] 69)).alloc (.cells #[.int .u8 0, .int .u8 0, .int .u64 0, .slice none 0 0, .int .u64 0] 120))) := bl_alloc (bl_alloc (Below.refl _ _) _) _
  have HZ : Hid (((w.alloc (.cells #[.int .u8 0, .int .u8 0, .int .u64 0, .slice none 0 0] 69)).alloc (.cells #[.int .u8 0, .int .u8 0, .int .u64 0, .slice none 0 0, .int .u64 0] 120)).heap.size = w.heap.size + 2) := by show _ = _; rw [World.size_alloc, World.size_alloc]
  have HS1 := Lib.hid ((H.out.alloc (.cells #[.int .u8 0, .int .u8 0, .int .u64 0, .slice none 0 0] 69)).alloc (.cells #[.int .u8 0, .int .u8 0, .int .u64 0, .slice none 0 0, .int .u64 0] 120))
  generalize (w.alloc (.cells #[.int .u8 0, .int .u8 0, .int .u64 0, .slice none 0 0] 69)).alloc (.cells #[.int .u8 0, .int .u8 0, .int .u64 0, .slice none 0 0, .int .u64 0] 120) = w1 at *
  have HR := Lib.hid hbR
  have HX := Lib.hid hbX
  clear hbR hbX
  generalize hr : w.heap.size = gr at *
  have HGR := Lib.hid hr
  clear hr
  refine (own_any A n c (b0 :: b1 :: rest) w1 HS1.out (by omega)).mono ?_
  rintro E w2 ⟨v1, rfl, ho1, hb1⟩
  have hl2 : (nums .u8 (b0 :: b1 :: rest)).length = n := by rw [nums_length]; simp; exact HLn.out
  rw [hl2] at ho1
  obtain ⟨A1, c1, rfl, hc1, hs1⟩ := own_sl ho1
  obtain ⟨g2, o, rfl⟩ := hs1.addr (by have := HLn.out; omega)
  have hlt : w1.heap.size ≤ g2 := (ho1.lt g2 rfl).1
  have hne : g2 ≠ gr + 1 := by have := HZ.out; omega
  have hne2 : gr ≠ gr + 1 := by omega
  have hX2 : Blk w2 (gr + 1) 120 _ := HX.out.below hb1 HX.out.lt
  have hR2 : Blk w2 gr 69 _ := HR.out.below hb1 HR.out.lt
  have HR2 := Lib.hid hR2
  have HB2 : Hid (Below gr w w2) := by have := bl_trans (HGR.out ▸ HBa.out) hb1; exact HGR.out ▸ this
  have HX2 := Lib.hid hX2
  have HS2 := Lib.hid hs1
  clear hX2 hR2 ho1 hb1 hs1 hlt HX HR HS1 HBa hl2
  go_wp2_with fail
  refine (valDecode_any (gr + 1) 120 g2 n c1 b0 b1 rest _ _ _ _ _ o x s w2 HX2.out HS2.out hne hc1 hn hB hu h0 hsz).mono ?_
  rintro E w3 ⟨rfl, B, d, hd, hw3, hs3⟩
  have q0 : w3.cell? ⟨gr + 1, 0, none⟩ = some (.int .u8 b0) := by rw [hw3.1.cell]; rfl
  have q1 : w3.cell? ⟨gr + 1, 1, none⟩ = some (.int .u8 b1) := by rw [hw3.1.cell]; rfl
  have q2 : w3.cell? ⟨gr + 1, 2, none⟩ = some (.int .u64 x) := by rw [hw3.1.cell]; rfl
  have q3 : w3.cell? ⟨gr + 1, 3, none⟩ = some (.slice B (rest.length - s.toNat) d) := by rw [hw3.1.cell]; rfl
  have q4 : w3.cell? ⟨gr + 1, 4, none⟩ = some (.int .u64 0) := by rw [hw3.1.cell]; rfl
  have HR3 : Hid (Blk w3 gr 69 [.int .u8 0, .int .u8 0, .int .u64 0, .slice none 0 0]) := hw3.far_blk HR2.out hne2
  have HB3 : Hid (Below gr w w3) := below_wrote HB2.out (by omega) (HGR.out ▸ HB2.out.size) hw3
  have HS3 := Lib.hid hs3
  clear hw3 hs3 HR2 HX2 HS2 HB2
  go_wp2_with fail
  refine (valueOf_any b0 b1 x 0 B (rest.length - s.toNat) d (rest.drop s.toNat) w3 HS3.out hd (by have := HLn.out; omega)).mono ?_
  rintro E w4 ⟨v4, rfl, ho4, hb4⟩
  obtain ⟨A4, c4, rfl, hc4, hs4⟩ := own_sl ho4
  clear hs4
  have hR4 := HR3.out.below hb4 HR3.out.lt
  have p0 : w4.cell? ⟨gr, 0, none⟩ = some (.int .u8 0) := by rw [hR4.cell]; rfl
  have p1 : w4.cell? ⟨gr, 1, none⟩ = some (.int .u8 0) := by rw [hR4.cell]; rfl
  have p2 : w4.cell? ⟨gr, 2, none⟩ = some (.int .u64 0) := by rw [hR4.cell]; rfl
  have p3 : w4.cell? ⟨gr, 3, none⟩ = some (.slice none 0 0) := by rw [hR4.cell]; rfl
  have f0 := hR4.frozen 0
  have f1 := hR4.frozen 1
  have f2 := hR4.frozen 2
  have f3 := hR4.frozen 3
  have hR4lt := hR4.lt
  have HO4 := Lib.hid ho4
  have HB4 : Hid (Below gr w w4) := HB3.out.trans (hb4.mono (HGR.out ▸ HB3.out.size))
  have HR3lt := Lib.hid HR3.out.lt
  clear hR4 ho4 hb4 q0 q1 q2 q3 q4
  go_wp2
  have hb : Below gr w ((((w4.setCell ⟨gr, 0, none⟩ (.int .u8 b0)).setCell ⟨gr, 1, none⟩ (.int .u8 b1)).setCell ⟨gr, 2, none⟩ (.int .u64 x)).setCell ⟨gr, 3, none⟩ (.slice A4 (rest.length - s.toNat) c4)) :=
    (((HB4.out.setCell (Nat.le_refl _) _).setCell (Nat.le_refl _) _).setCell (Nat.le_refl _) _).setCell (Nat.le_refl _) _
  have ho : World.ownsRow ((((w4.setCell ⟨gr, 0, none⟩ (.int .u8 b0)).setCell ⟨gr, 1, none⟩ (.int .u8 b1)).setCell ⟨gr, 2, none⟩ (.int .u64 x)).setCell ⟨gr, 3, none⟩ (.slice A4 (rest.length - s.toNat) c4)) gr 5 1 (.slice A4 (rest.length - s.toNat) c4) (rest.drop s.toNat).length (nums .u8 (rest.drop s.toNat)) := by
    rw [List.length_drop]
    exact own_weaken' (own_set (own_set (own_set (own_set HO4.out HR3lt.out _) HR3lt.out _) HR3lt.out _) HR3lt.out _) (Nat.le_of_lt HR3lt.out)
  refine bodyPost_ret (v := .agg #[.int .u8 b0, .int .u8 b1, .int .u64 x, .slice A4 (rest.length - s.toNat) c4]) (by simp [results, Try.results74, go_sem, p0, p1, p2, p3, f0, f1, f2, f3]) rfl ⟨_, rfl, HGR.out.symm ▸ ho, HGR.out.symm ▸ hb⟩
end Go.Proofs.Ytadhdimleabljaa
