/- A record read from bytes: the package's contracts. -/
import Derived.Test.YtbbncbjdpopkiaaDoorB7
import Derived.Test.YtbbncbjdpopkiaaDoorH4
namespace Go.Proofs.YtbbncbjdpopkiaaDoor
open Go.RowKit
open Go.Proofs.YtbbncbjdpopkiaaDoorQ.Ext (sl_of_C C_of_sl own_of_R R_of_own)
set_option linter.unusedVariables false
set_option linter.unusedSimpArgs false
set_option maxRecDepth 100000 in
theorem decodeEntry_any (glf g2 o n c : Nat) (e m u of_ : Int) (l1 l2 rest : List Int) (w : World) (hs : Sl w (some ⟨g2, o, none⟩) n (nums .u8 (headB l1.length l2.length e m u ++ (l1 ++ (l2 ++ rest))))) (hc : n ≤ c) (hn : n ≤ 1000000)
    (hb : Byt (headB l1.length l2.length e m u ++ (l1 ++ (l2 ++ rest)))) (h1 : l1.length ≤ 100000) (h2 : l2.length ≤ 100000) (hrest : 0 < rest.length) (he0 : 0 ≤ e) (he : Hid (e ≤ 18446744073709551615)) :
    Calls Tryd.prog 59 #[.pointer (some ⟨glf, 0, none⟩), .slice (some ⟨g2, o, none⟩) n c, .int .u32 of_] w fun E w' => ∃ ge o1 c1 o2 c2, E = .returned (.tuple #[.pointer (some ⟨ge, 0, none⟩), .nilIface]) ∧ w.heap.size ≤ ge ∧
      Blk w' ge 105 [.slice (some ⟨g2, o1, none⟩) l1.length c1, .slice (some ⟨g2, o2, none⟩) l2.length c2, .int .u64 e, .int .u64 0, .int .u32 of_, .int .u8 u, .int .u8 m, .int .i64 0, .int .i64 0] ∧ l1.length ≤ c1 ∧ l2.length ≤ c2 ∧ Sl w' (some ⟨g2, o1, none⟩) l1.length (nums .u8 l1) ∧ Sl w' (some ⟨g2, o2, none⟩) l2.length (nums .u8 l2) ∧ g2 < w.heap.size ∧ Below w.heap.size w w' := by
  have hlen : (headB l1.length l2.length e m u ++ (l1 ++ (l2 ++ rest))).length = n := by have := hs.1; rwa [nums_length] at this
  have hL := headB_len (l1.length : Int) (l2.length : Int) e m u (by omega) (by omega)
  have hpos : 0 < n := by rw [List.length_append] at hlen; omega
  have HS := Lib.hid hs
  have HL := Lib.hid (And.intro hlen hL)
  clear hs hlen hL
  go_enter Tryd.func59, Tryd.ntmps59
  go_wp2_with fail
  have hh : Blk (w.alloc (.cells #[.int .u32 0, .int .u32 0, .int .u64 0, .int .u8 0, .int .u8 0] 117)) w.heap.size 117 [.int .u32 0, .int .u32 0, .int .u64 0, .int .u8 0, .int .u8 0] := Blk.new _ _ _
  have HH := Lib.hid hh
  have hgl : g2 < w.heap.size := by
    obtain ⟨g', o', ex, hcx⟩ := HS.out.2 hpos
    injection ex with ex; injection ex with ex _; subst ex
    obtain ⟨v, hv⟩ : ∃ v, (nums .u8 (headB l1.length l2.length e m u ++ (l1 ++ (l2 ++ rest))))[0]? = some v := ⟨_, List.getElem?_eq_getElem (by rw [HS.out.1]; exact hpos)⟩
    have := hcx 0 v hv
    exact World.block_lt_of_cell? w _ this
  have hne : g2 ≠ w.heap.size := by omega
  have HL1 : Hid (Below w.heap.size w (w.alloc (.cells #[.int .u32 0, .int .u32 0, .int .u64 0, .int .u8 0, .int .u8 0] 117))) := (Below.refl _ _).alloc (Nat.le_refl _) _
  clear hh
  generalize w.alloc (.cells #[.int .u32 0, .int .u32 0, .int .u64 0, .int .u8 0, .int .u8 0] 117) = w1 at *
  refine (headDecode_any w.heap.size 117 g2 o n c l1.length l2.length e m u (l1 ++ (l2 ++ rest)) _ _ _ _ _ w1 HH.out (HS.out.below HL1.out) hne hc hn (fun x hx => hb x (List.mem_append_right _ hx)) (by omega) (by omega) (by omega) (by omega) he0 he).mono ?_
  rintro E w2 ⟨rfl, hw2⟩
  have HW2 := Lib.hid hw2
  have HL2 : Hid (Below w.heap.size w w2) := below_wrote HL1.out (Nat.le_refl _) HL1.out.size hw2
  have r0 : w2.cell? ⟨w.heap.size, 0, none⟩ = some (.int .u32 l1.length) := by rw [hw2.1.cell]; rfl
  have r1 : w2.cell? ⟨w.heap.size, 1, none⟩ = some (.int .u32 l2.length) := by rw [hw2.1.cell]; rfl
  have r2 : w2.cell? ⟨w.heap.size, 2, none⟩ = some (.int .u64 e) := by rw [hw2.1.cell]; rfl
  have r3 : w2.cell? ⟨w.heap.size, 3, none⟩ = some (.int .u8 m) := by rw [hw2.1.cell]; rfl
  have r4 : w2.cell? ⟨w.heap.size, 4, none⟩ = some (.int .u8 u) := by rw [hw2.1.cell]; rfl
  clear hw2 HH HL1
  obtain ⟨N, hN⟩ : ∃ N, N = (headB l1.length l2.length e m u).length := ⟨_, rfl⟩
  rw [← hN]
  have HN := Lib.hid hN
  clear hN
  have hnN : n = N + l1.length + l2.length + rest.length := by have h3 := HL.out.1; have h4 := HN.out; rw [List.length_append, List.length_append, List.length_append] at h3; omega
  have hN22 : N ≤ 22 := by have h3 := HL.out.2; have h4 := HN.out; omega
  have i1 : (N : Int) ≤ (n : Int) := by omega
  have c1 : ¬ c = N := by omega
  have c2 : ¬ c - N = l1.length := by omega
  have i2 : (l1.length : Int) ≤ ((c - N : Nat) : Int) := by omega
  have i3 : (l1.length : Int) + (l2.length : Int) ≤ ((c - N : Nat) : Int) := by omega
  have i4 : IntKind.u32.wrap ((l1.length : Int) + (l2.length : Int)) = (l1.length : Int) + (l2.length : Int) := by unfold IntKind.wrap; simp [IntKind.signed, IntKind.bits]; omega
  have i5 : ((l1.length : Int) + (l2.length : Int)).toNat = l1.length + l2.length := by omega
  have i6 : (l1.length : Int) ≤ (l1.length : Int) + (l2.length : Int) := by omega
  have i7 : (0 : Int) ≤ (l1.length : Int) + (l2.length : Int) := by omega
  have HNN := Lib.hid (And.intro hnN hN22)
  clear hnN hN22
  go_wp2_with fail
  go_still_tail 21, (by kernel_rfl)
  change wpList _ _ _ _ _ w2.drew
  go_wp2_with fail
  go_ret2
  have hbl : Below w.heap.size w ((w2.alloc (.cells #[.slice (some ⟨g2, o + N, none⟩) l1.length (c - N), .slice (some ⟨g2, o + N + l1.length, none⟩) l2.length (c - N - l1.length), .int .u64 e, .int .u64 0, .int .u32 of_, .int .u8 u, .int .u8 m, .int .i64 0, .int .i64 0] 105)).drew) := bl_drew (bl_alloc HL2.out _)
  have hd : Sl w (some ⟨g2, o + N, none⟩) (n - N) (nums .u8 (l1 ++ (l2 ++ rest))) := by
    have := HS.out.drop' (m := N) (by omega)
    rw [nums_append, List.drop_left' (by rw [nums_length]; exact HN.out.symm)] at this
    exact this
  have s1 : Sl w (some ⟨g2, o + N, none⟩) l1.length (nums .u8 l1) := by
    have := hd.take (m := l1.length) (by have := HNN.out.1; omega)
    rw [nums_append, List.take_left' (by rw [nums_length])] at this
    exact this
  have s2 : Sl w (some ⟨g2, o + N + l1.length, none⟩) l2.length (nums .u8 l2) := by
    have := (hd.drop' (m := l1.length) (by have := HNN.out.1; omega)).take (m := l2.length) (by have := HNN.out.1; omega)
    rw [nums_append, List.drop_left' (by rw [nums_length]), nums_append, List.take_left' (by rw [nums_length])] at this
    exact this
  exact ⟨w2.heap.size, _, _, _, _, rfl, HL2.out.size, (Blk.new w2 105 [.slice (some ⟨g2, o + N, none⟩) l1.length (c - N), .slice (some ⟨g2, o + N + l1.length, none⟩) l2.length (c - N - l1.length), .int .u64 e, .int .u64 0, .int .u32 of_, .int .u8 u, .int .u8 m, .int .i64 0, .int .i64 0]).drew, by have := HNN.out.1; omega, by have := HNN.out.1; omega, s1.below hbl, s2.below hbl, hgl, hbl⟩
end Go.Proofs.YtbbncbjdpopkiaaDoor
