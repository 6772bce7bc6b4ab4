/- Values in bytes: the thin package's contracts. -/
import Derived.Test.YtanmgkpgfmkobaaGE
import Derived.Test.YtanmgkpgfmkobaaGB
import Derived.Test.YtanmgkpgfmkobaaQV
namespace Go.Proofs.Ytanmgkpgfmkobaa
open Go.RowKit
open Go.Proofs.YtanmgkpgfmkobaaQ.Ext (sl_of_C C_of_sl own_of_R R_of_own)
open Go.Proofs.YtanmgkpgfmkobaaW.PrintWords (Kd)
set_option linter.unusedVariables false
set_option linter.unusedSimpArgs false
theorem own_set {w : World} {base e s n : Nat} {v : Value} {xs : List Value} (h : w.ownsRow base e s v n xs) {p : Addr} (hp : p.block < base) (u : Value) : (w.setCell p u).ownsRow base e s v n xs :=
  Go.Proofs.YtanmgkpgfmkobaaW.PrintWords.own_move h (fun k hk => Below.heap_setCell w p u k (by have := (h.lt k hk).1; omega))
/-- A value of the package: its data lie in new memory. -/
theorem structOf_any (m u e : Int) (A : Option Addr) (n c : Nat) (l : List Int) (w : World) (h : Sl w A n (nums .u8 l)) (hc : n ≤ c) (hn : n ≤ 1000000) :
    Calls Try.prog 68 #[.agg #[.int .u8 m, .int .u8 u, .int .u64 e, .slice A n c]] w fun E w' => ∃ v, E = .returned (.agg #[.int .u8 m, .int .u8 u, .int .u64 e, v, .int .u64 0]) ∧ w'.ownsRow w.heap.size 5 1 v n (nums .u8 l) ∧ Below w.heap.size w w' := by
  have hl : l.length = n := by have := h.1; rwa [nums_length] at this
  subst hl
  have := Go.Proofs.YtanmgkpgfmkobaaQ.QV.impl_structOf.calls m u e A c l m u e l 0 w (C_of_sl h (by omega)) hc (by
    unfold Go.Proofs.YtanmgkpgfmkobaaQ.QV.impl_structOf.f Go.Proofs.YtanmgkpgfmkobaaQ.Ext.impl_own.f
    rw [if_pos (by omega)]
    rfl)
  exact this.mono fun E w' ⟨v, he, hr, hb⟩ => ⟨v, he, own_of_R hr, hb⟩
theorem valueOf_any (m u e ver : Int) (A : Option Addr) (n c : Nat) (l : List Int) (w : World) (h : Sl w A n (nums .u8 l)) (hc : n ≤ c) (hn : n ≤ 1000000) :
    Calls Try.prog 37 #[.agg #[.int .u8 m, .int .u8 u, .int .u64 e, .slice A n c, .int .u64 ver]] w fun E w' => ∃ v, E = .returned (.agg #[.int .u8 m, .int .u8 u, .int .u64 e, v]) ∧ w'.ownsRow w.heap.size 5 1 v n (nums .u8 l) ∧ Below w.heap.size w w' := by
  have hl : l.length = n := by have := h.1; rwa [nums_length] at this
  subst hl
  have := Go.Proofs.YtanmgkpgfmkobaaQ.QV.impl_valueOf.calls m u e A c l ver m u e l w (C_of_sl h (by omega)) hc (by
    unfold Go.Proofs.YtanmgkpgfmkobaaQ.QV.impl_valueOf.f Go.Proofs.YtanmgkpgfmkobaaQ.Ext.impl_own.f
    rw [if_pos (by omega)]
    rfl)
  exact this.mono fun E w' ⟨v, he, hr, hb⟩ => ⟨v, he, own_of_R hr, hb⟩
set_option maxRecDepth 100000 in
theorem valDecode_any (g t g2 n c : Nat) (b0 b1 : Int) (rest : List Int) (v0 v1 v2 v3 v4 : Value) (o : Nat) (x s : Int) (w : World) (h : Blk w g t [v0, v1, v2, v3, v4]) (hs : Sl w (some ⟨g2, o, none⟩) n (nums .u8 (b0 :: b1 :: rest))) (hne : g2 ≠ g)
    (hc : n ≤ c) (hn : n ≤ 1000000) (hB : Byt rest) (hu : uvarL rest 0 0 = (x, s)) (h0 : 0 < s) (hsz : s ≤ rest.length) :
    Calls Try.prog 106 #[.pointer (some ⟨g, 0, none⟩), .slice (some ⟨g2, o, none⟩) n c] w fun E w' =>
      E = .returned (.tuple #[]) ∧ ∃ B d, rest.length - s.toNat ≤ d ∧ Wrote w g t [.int .u8 b0, .int .u8 b1, .int .u64 x, .slice B (rest.length - s.toNat) d, v4] w' ∧ Sl w' B (rest.length - s.toNat) (nums .u8 (rest.drop s.toNat)) := by
  have hlen : rest.length + 2 = n := by have := hs.1; rw [nums_length] at this; simpa using this
  have hb0 : w.cell? ⟨g2, o + 0, none⟩ = some (.int .u8 b0) := by
    obtain ⟨g', o', e1, hcell⟩ := hs.2 (by omega)
    injection e1 with e1; injection e1 with e1 e2; subst e1 e2
    exact hcell 0 _ rfl
  have hb1 : w.cell? ⟨g2, o + 1, none⟩ = some (.int .u8 b1) := by
    obtain ⟨g', o', e1, hcell⟩ := hs.2 (by omega)
    injection e1 with e1; injection e1 with e1 e2; subst e1 e2
    exact hcell 1 _ rfl
  rw [Nat.add_zero] at hb0
  have q0 : w.cell? ⟨g, 0, none⟩ = some v0 := by rw [h.cell]; rfl
  have q1 : w.cell? ⟨g, 1, none⟩ = some v1 := by rw [h.cell]; rfl
  have q2 : w.cell? ⟨g, 2, none⟩ = some v2 := by rw [h.cell]; rfl
  have q3 : w.cell? ⟨g, 3, none⟩ = some v3 := by rw [h.cell]; rfl
  have f0 := h.frozen 0
  have f1 := h.frozen 1
  have f2 := h.frozen 2
  have f3 := h.frozen 3
  have hne' : g ≠ g2 := fun e => hne e.symm
  have HH := Lib.hid h
  have HS := Lib.hid hs
  have HU := Lib.hid hu
  obtain ⟨sn, rfl⟩ := Int.eq_ofNat_of_zero_le (show 0 ≤ s by omega)
  have hsn : 1 ≤ sn ∧ sn ≤ rest.length := by omega
  obtain ⟨hsn1, hsn2⟩ := hsn
  have HLn := Lib.hid hlen
  have s1 : IntKind.i64.wrap (2 + (sn : Int)) = 2 + (sn : Int) := IntWalk.i64_in _ (by omega)
  have s2 : (2 + (sn : Int)).toNat = 2 + sn := by omega
  have s3 : (0 : Int) ≤ 2 + (sn : Int) := by omega
  have s4 : 2 + (sn : Int) ≤ (n : Int) := by omega
  have n2 : 3 ≤ n := by omega
  have c2 : ¬ c = 2 := by omega
  have hs2 : ∀ w', Wrote w g t [.int .u8 b0, .int .u8 b1, v2, v3, v4] w' → Sl w' (some ⟨g2, o + 2, none⟩) (n - 2) (nums .u8 rest) := by
    intro w' hw
    have := (sl_wrote hw (by intro b oo hb; injection hb with hb; injection hb with hb _; omega) hs).drop (m := 2) (c := c) (by omega) hc
    rw [if_neg c2] at this
    simpa [Addr.add, nums] using this
  have HS2 := Lib.hid hs2
  clear h hs hu hlen h0 hsz hsn2 hs2
  go_enter Try.func106, Try.ntmps106
  go_wp2_with fail
  have hW1 : Wrote w g t [.int .u8 b0, .int .u8 b1, v2, v3, v4] ((w.setCell ⟨g, 0, none⟩ (.int .u8 b0)).setCell ⟨g, 1, none⟩ (.int .u8 b1)) := (Wrote.sets HH.out 0 (.int .u8 b0)).trans (Wrote.sets (HH.out.set_ 0 (.int .u8 b0)) 1 (.int .u8 b1))
  have HW1 := Lib.hid hW1
  generalize (w.setCell ⟨g, 0, none⟩ (.int .u8 b0)).setCell ⟨g, 1, none⟩ (.int .u8 b1) = w1 at *
  have r2 : w1.cell? ⟨g, 2, none⟩ = some v2 := by rw [hW1.1.cell]; rfl
  have r3 : w1.cell? ⟨g, 3, none⟩ = some v3 := by rw [hW1.1.cell]; rfl
  have g2' := hW1.1.frozen 2
  have g3' := hW1.1.frozen 3
  clear hW1 q0 q1 q2 q3 f0 f1 f2 f3 hb0 hb1
  refine (uvarint_any _ (n - 2) (c - 2) rest w1 (HS2.out _ HW1.out) hB (by omega)).mono ?_
  rintro E w1' ⟨rfl, rfl⟩
  rw [HU.out]
  have hfin : ∀ (B : Option Addr) (d : Nat), (n - (2 + sn) ≤ d) → Sl w B (n - (2 + sn)) (nums .u8 (rest.drop sn)) → (∀ b oo, B = some ⟨b, oo, none⟩ → b ≠ g) →
      ∃ B' d', rest.length - (sn : Int).toNat ≤ d' ∧ Wrote w g t [.int .u8 b0, .int .u8 b1, .int .u64 x, .slice B' (rest.length - (sn : Int).toNat) d', v4] ((w1.setCell ⟨g, 2, none⟩ (.int .u64 x)).setCell ⟨g, 3, none⟩ (.slice B (n - (2 + sn)) d)) ∧ Sl ((w1.setCell ⟨g, 2, none⟩ (.int .u64 x)).setCell ⟨g, 3, none⟩ (.slice B (n - (2 + sn)) d)) B' (rest.length - (sn : Int).toNat) (nums .u8 (rest.drop (sn : Int).toNat)) := by
    intro B d hd hB hb
    have e : rest.length - (sn : Int).toNat = n - (2 + sn) := by have := HLn.out; omega
    have hw : Wrote w g t [.int .u8 b0, .int .u8 b1, .int .u64 x, .slice B (n - (2 + sn)) d, v4] ((w1.setCell ⟨g, 2, none⟩ (.int .u64 x)).setCell ⟨g, 3, none⟩ (.slice B (n - (2 + sn)) d)) :=
      HW1.out.trans ((Wrote.sets HW1.out.1 2 (.int .u64 x)).trans (Wrote.sets (HW1.out.1.set_ 2 (.int .u64 x)) 3 (.slice B (n - (2 + sn)) d)))
    rw [e]
    exact ⟨B, d, hd, hw, sl_wrote hw hb hB⟩
  have HFin := Lib.hid hfin
  have hdr := HS.out.drop (m := 2 + sn) (c := c) (by omega) hc
  rw [show (nums .u8 (b0 :: b1 :: rest)).drop (2 + sn) = nums .u8 (rest.drop sn) by simp [nums, Nat.add_comm 2 sn]] at hdr
  have HD := Lib.hid hdr
  clear hfin hdr
  by_cases hcc : c = 2 + sn
  · go_wp2
    go_end0
    refine ⟨rfl, ?_⟩
    have hd := HD.out
    rw [if_pos hcc] at hd
    exact HFin.out _ _ (by omega) hd (by intro b oo hb; injection hb with hb; injection hb with hb _; omega)
  · go_wp2
    go_end0
    refine ⟨rfl, ?_⟩
    have hd := HD.out
    rw [if_neg hcc] at hd
    simp only [Option.map_some, add_none] at hd
    exact HFin.out _ _ (by omega) hd (by intro b oo hb; injection hb with hb; injection hb with hb _; omega)
end Go.Proofs.Ytanmgkpgfmkobaa
