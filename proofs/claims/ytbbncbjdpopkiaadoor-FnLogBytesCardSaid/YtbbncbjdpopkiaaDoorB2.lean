/- A value put behind other bytes: the package's and the thin package's contracts. -/
import Derived.Test.YtbbncbjdpopkiaaDoorB1
import Derived.Test.YtbbncbjdpopkiaaDoorE4
namespace Go.Proofs.YtbbncbjdpopkiaaDoor
open Go.RowKit
set_option linter.unusedVariables false
set_option linter.unusedSimpArgs false
theorem arr10 : Tryd.prog.arrayLen 96 = 10 := by kernel_rfl
set_option maxRecDepth 100000 in
theorem encodeTo_any (gx b B n c : Nat) (A : Option Addr) (m u e ver : Int) (l bs : List Int) (w : World) (hx : Blk w gx 62 [.int .u8 m, .int .u8 u, .int .u64 e, .slice A n c, .int .u64 ver])
    (hs : Sl w A n (nums .u8 l)) (hb : Buf B b bs w) (hgx : gx < B) (hgA : ∀ g o, A = some ⟨g, o, none⟩ → g < B) (hB : B ≤ w.heap.size) (hn : n ≤ 1000000) (hbs : bs.length ≤ 1000000) (he0 : 0 ≤ e) (he : Hid (e ≤ 18446744073709551615)) :
    Calls Tryd.prog 36 #[.pointer (some ⟨gx, 0, none⟩), .pointer (some ⟨b, 0, none⟩)] w fun E w' => E = .returned (.tuple #[]) ∧ Buf B b (bs ++ valB m u e l) w' ∧ Below B w w' := by
  have hv := vint_len 9 e
  have HX := Lib.hid hx
  have HS := Lib.hid hs
  have HV := Lib.hid hv
  have q0 : w.cell? ⟨gx, 0, none⟩ = some (.int .u8 m) := by rw [hx.cell]; rfl
  have q1 : ∀ w', Below B w w' → w'.cell? ⟨gx, 1, none⟩ = some (.int .u8 u) := fun w' hb => by rw [hb.cell hgx, hx.cell]; rfl
  have q2 : ∀ w', Below B w w' → w'.cell? ⟨gx, 2, none⟩ = some (.int .u64 e) := fun w' hb => by rw [hb.cell hgx, hx.cell]; rfl
  have q3 : ∀ w', Below B w w' → w'.cell? ⟨gx, 3, none⟩ = some (.slice A n c) := fun w' hb => by rw [hb.cell hgx, hx.cell]; rfl
  have HQ1 := Lib.hid q1
  have HQ2 := Lib.hid q2
  have HQ3 := Lib.hid q3
  clear hx hs hv q1 q2 q3
  go_enter Tryd.func36, Tryd.ntmps36
  go_wp2_with fail
  refine (bufByte_any B b bs m w hb hB (by omega)).mono ?_
  rintro E w1 ⟨rfl, hb1, hbl1, -⟩
  have q := HQ1.out _ hbl1
  have HB1 := Lib.hid hb1
  have HL1 := Lib.hid hbl1
  clear hb hb1 hbl1 q0
  go_wp2_with fail
  refine (bufByte_any B b (bs ++ [m]) u w1 HB1.out (Nat.le_trans hB HL1.out.size) (by simp; omega)).mono ?_
  rintro E w2 ⟨rfl, hb2, hbl2, -⟩
  have HL2 : Hid (Below B w w2) := HL1.out.trans hbl2
  have HB2 : Hid (Buf B b (bs ++ [m, u]) w2) := by rw [List.append_assoc] at hb2; exact hb2
  clear hb2 hbl2 q HB1 HL1
  have hbk : Blk (w2.alloc (.cells #[.int .u8 0, .int .u8 0, .int .u8 0, .int .u8 0, .int .u8 0, .int .u8 0, .int .u8 0, .int .u8 0, .int .u8 0, .int .u8 0] 96)) w2.heap.size 96 (List.replicate 10 (Value.int .u8 0)) := Blk.new _ _ _
  have HBK := Lib.hid hbk
  have q := HQ2.out (w2.alloc (.cells #[.int .u8 0, .int .u8 0, .int .u8 0, .int .u8 0, .int .u8 0, .int .u8 0, .int .u8 0, .int .u8 0, .int .u8 0, .int .u8 0] 96)) (HL2.out.alloc (Nat.le_trans hB HL2.out.size) _)
  clear hbk
  go_wp2_with fail
  have HAl : Hid (Below w2.heap.size w2 (w2.alloc (.cells #[.int .u8 0, .int .u8 0, .int .u8 0, .int .u8 0, .int .u8 0, .int .u8 0, .int .u8 0, .int .u8 0, .int .u8 0, .int .u8 0] 96))) := (Below.refl _ _).alloc (Nat.le_refl _) _
  have HAz : Hid (w2.heap.size ≤ (w2.alloc (.cells #[.int .u8 0, .int .u8 0, .int .u8 0, .int .u8 0, .int .u8 0, .int .u8 0, .int .u8 0, .int .u8 0, .int .u8 0, .int .u8 0] 96)).heap.size) := HAl.out.size
  generalize w2.alloc (.cells #[.int .u8 0, .int .u8 0, .int .u8 0, .int .u8 0, .int .u8 0, .int .u8 0, .int .u8 0, .int .u8 0, .int .u8 0, .int .u8 0] 96) = w2a at *
  go_still_tail 5, (by kernel_rfl)
  change wpList _ _ _ _ _ w2a.drew
  go_wp2_with fail
  refine (putUvarint_any w2.heap.size 0 10 10 96 e _ w2a.drew HBK.out (by have := HV.out; omega) (by simp) he0 he).mono ?_
  rintro E w3 ⟨rfl, hw3⟩
  have HW3 := Lib.hid hw3
  have HLa : Hid (Below w2.heap.size w2 w3) := below_wrote (bl_drew HAl.out) (Nat.le_refl _) HAz.out hw3
  have HB3 : Hid (Buf B b (bs ++ [m, u]) w3) := HB2.out.old HLa.out
  have HL3 : Hid (Below B w w3) := HL2.out.trans (HLa.out.mono (Nat.le_trans hB HL2.out.size))
  have hs3 : Sl w3 (some ⟨w2.heap.size, 0, none⟩) (vint 9 e).length (nums .u8 (vint 9 e)) := by
    have hvv := HV.out
    have := HW3.out.1.sl (off := 0) (n := (vint 9 e).length) (by rw [splice_len _ _ _ (by rw [nums_length]; simp; omega)]; simp; omega)
    rw [List.drop_zero, splice, List.take_zero, List.nil_append, List.take_append_of_le_length (by rw [nums_length]; omega), List.take_of_length_le (by rw [nums_length]; omega)] at this
    exact this
  have HS3 := Lib.hid hs3
  have hgb : w2.heap.size ≠ b := by have := HB2.out.lt; omega
  have ha2 : ((vint 9 e).length : Int) ≤ ((Tryd.prog.arrayLen 96 : Nat) : Int) := by rw [arr10]; have := HV.out; omega
  have ha3 : ((vint 9 e).length : Int) ≤ 10 := by have := HV.out; omega
  clear hw3 hs3 HBK q HW3 HLa HB2
  go_wp2_with fail
  refine (bufWrite_any B b (bs ++ [m, u]) (vint 9 e) w2.heap.size 0 _ _ w3 HB3.out (Nat.le_trans hB HL3.out.size) HS3.out hgb (by simp; omega) (by omega)).mono ?_
  rintro E w4 ⟨rfl, hb4, hbl4, -⟩
  have HB4 := Lib.hid hb4
  have HL4 : Hid (Below B w w4) := HL3.out.trans hbl4
  have q := HQ3.out _ HL4.out
  have hs4 : Sl w4 A n (nums .u8 l) := ⟨HS.out.1, fun h0 => by
    obtain ⟨g, o, e, hc⟩ := HS.out.2 h0
    exact ⟨g, o, e, fun j v hv => by rw [HL4.out.cell (hgA g o e)]; exact hc j v hv⟩⟩
  have hAne : ∀ g o, A = some ⟨g, o, none⟩ → g ≠ b := fun g o e => by have := hgA g o e; have := HB4.out.le; omega
  have HS4 := Lib.hid hs4
  clear hb4 hbl4 hs4 HB3 HL3 HS3 HS
  go_wp2_with fail
  refine (bufWrite_all B b (bs ++ [m, u] ++ vint 9 e) l A n c w4 HB4.out (Nat.le_trans hB HL4.out.size) HS4.out (fun _ => hAne) (by simp; omega) (by omega)).mono ?_
  rintro E w5 ⟨rfl, hb5, hbl5, -⟩
  have HB5 := Lib.hid hb5
  have HL5 : Hid (Below B w w5) := HL4.out.trans hbl5
  clear hb5 hbl5 q
  go_wp2
  go_end0
  refine ⟨rfl, ?_, HL5.out⟩
  have := HB5.out
  rw [List.append_assoc, List.append_assoc] at this
  exact this
theorem newBuffer_any (A : Option Addr) (n c : Nat) (w : World) :
    Calls Tryd.prog 35 #[.slice A n c] w fun E w' => E = .returned (.pointer (some ⟨w.heap.size, 0, none⟩)) ∧ w' = w.alloc (.cells #[.slice A n c, .int .i64 0, .int .i8 0] 94) := by
  go_enter Tryd.func35, Tryd.ntmps35
  go_wp2
  go_ret
  exact ⟨rfl, rfl⟩
theorem slice_nil {w : World} {base e n d : Nat} {A : Option Addr} {xs : List Value} (h : w.ownsRow base e 1 (.slice A n d) n xs) : A = none ∨ ∃ g o, A = some ⟨g, o, none⟩ := by
  rcases h.2 with ⟨h1, _⟩ | ⟨g, cap, cur, h1, _⟩
  · injection h1 with h1; exact .inl h1
  · injection h1 with h1; exact .inr ⟨g, 0, h1⟩
set_option maxRecDepth 100000 in
theorem appendValue_any (m u e : Int) (A D : Option Addr) (n c k d : Nat) (l bs : List Int) (w : World) (h : Sl w A n (nums .u8 l)) (hc : n ≤ c) (hn : n ≤ 1000000) (h2 : Sl w D k (nums .u8 bs)) (hk : k ≤ 1000000) (he0 : 0 ≤ e) (he : Hid (e ≤ 18446744073709551615)) :
    Calls Tryd.prog 17 #[.slice D k d, .agg #[.int .u8 m, .int .u8 u, .int .u64 e, .slice A n c]] w (Made w 5 (nums .u8 (bs ++ valB m u e l))) := by
  have hlen : l.length = n := by have := h.1; rwa [nums_length] at this
  have hlk : bs.length = k := by have := h2.1; rwa [nums_length] at this
  have hL := valB_len m u e l
  have hv := vint_len 9 e
  have H := Lib.hid h
  have H2 := Lib.hid h2
  have HL := Lib.hid (And.intro (And.intro hlen hlk) (And.intro hL hv))
  clear h h2 hlen hL hv hlk
  go_enter Tryd.func17, Tryd.ntmps17
  go_wp2_with fail
  refine (structOf_any m u e A n c l _ (H.out.alloc _) hc hn).mono ?_
  rintro E w1 ⟨v1, rfl, ho1, hb1⟩
  obtain ⟨A1, c1, rfl, hc1, hs1⟩ := own_sl ho1
  have hbl : Below w.heap.size w w1 := by rw [World.size_alloc] at hb1; exact (bl_alloc (Below.refl _ _) _).trans (hb1.mono (by omega))
  have HO1 := Lib.hid ho1
  have HB1 := Lib.hid hbl
  have HS1 := Lib.hid hs1
  clear ho1 hb1 hs1 hbl
  go_wp2_with fail
  have hbx : Blk (w1.alloc (.cells #[.int .u8 m, .int .u8 u, .int .u64 e, .slice A1 n c1, .int .u64 0] 62)) w1.heap.size 62 [.int .u8 m, .int .u8 u, .int .u64 e, .slice A1 n c1, .int .u64 0] := Blk.new _ _ _
  have HBX := Lib.hid hbx
  have hAx : ∀ b o, A1 = some ⟨b, o, none⟩ → b < w1.heap.size := by
    intro b o hb
    subst hb
    exact (HO1.out.lt b rfl).2
  have HS2 := Lib.hid (HS1.out.alloc (.cells #[.int .u8 m, .int .u8 u, .int .u64 e, .slice A1 n c1, .int .u64 0] 62))
  have HB2 : Hid (Below w.heap.size w (w1.alloc (.cells #[.int .u8 m, .int .u8 u, .int .u64 e, .slice A1 n c1, .int .u64 0] 62))) := bl_alloc HB1.out _
  have HZ : Hid ((w1.alloc (.cells #[.int .u8 m, .int .u8 u, .int .u64 e, .slice A1 n c1, .int .u64 0] 62)).heap.size = w1.heap.size + 1) := by show _ = _; rw [World.size_alloc]
  have HA := Lib.hid (And.intro hAx (slice_nil HO1.out))
  clear hbx hAx HO1 HB1 HS1
  generalize w1.alloc (.cells #[.int .u8 m, .int .u8 u, .int .u64 e, .slice A1 n c1, .int .u64 0] 62) = w2 at *
  generalize hgx : w1.heap.size = gx at *
  clear hgx
  refine (own_ptr D k d bs w2 (H2.out.below HB2.out) (by omega)).mono ?_
  rintro E w3 ⟨g3, d3, rfl, hd3, ho3, hb3⟩
  have HO3 := Lib.hid ho3
  have HB3 := Lib.hid hb3
  clear ho3 hb3
  go_wp2_with fail
  refine (newBuffer_any _ _ _ w3).mono ?_
  rintro E w4 ⟨rfl, rfl⟩
  have hbuf : Buf w2.heap.size w3.heap.size bs (w3.alloc (.cells #[.slice (some ⟨g3, 0, none⟩) k d3, .int .i64 0, .int .i8 0] 94)) :=
    buf_start HB3.out.size (heap_alloc_new w3 _) (by have := HO3.out.alloc (.cells #[.slice (some ⟨g3, 0, none⟩) k d3, .int .i64 0, .int .i8 0] 94); rw [HL.out.1.2]; exact this) (by have := (HO3.out.lt g3 rfl).2; omega)
  have HBF := Lib.hid hbuf
  have HB4 : Hid (Below w2.heap.size w2 (w3.alloc (.cells #[.slice (some ⟨g3, 0, none⟩) k d3, .int .i64 0, .int .i8 0] 94))) := bl_alloc HB3.out _
  clear hbuf HO3 HB3
  generalize w3.alloc (.cells #[.slice (some ⟨g3, 0, none⟩) k d3, .int .i64 0, .int .i8 0] 94) = w4 at *
  generalize hgb : w3.heap.size = gb at *
  clear hgb
  go_wp2_with fail
  refine (encodeTo_any gx gb w2.heap.size n c1 A1 m u e 0 l bs w4 (HBX.out.below HB4.out HBX.out.lt) (HS2.out.below HB4.out) HBF.out HBX.out.lt (fun g o e => by have := HA.out.1 g o e; have := HZ.out; omega) HB4.out.size hn (by have := HL.out.1.2; omega) he0 he).mono ?_
  rintro E w5 ⟨rfl, hbf, hb5⟩
  have HBF5 := Lib.hid hbf
  have HB5 : Hid (Below w2.heap.size w2 w5) := HB4.out.trans hb5
  clear hbf hb5 HBX HS2 HBF
  go_wp2_with fail
  refine (bufBytes_any w2.heap.size gb _ w5 HBF5.out).mono ?_
  rintro E w6 ⟨v6, rfl, ho6, j, rfl⟩
  obtain ⟨A6, c6, rfl, hc6, hs6⟩ := own_sl ho6
  rw [List.length_append] at hs6
  have HS6 := Lib.hid hs6
  clear ho6 hs6
  go_wp2_with fail
  refine (own_any A6 _ c6 (bs ++ valB m u e l) (w5.drewN j) HS6.out (by have := HL.out; simp; omega)).mono ?_
  intro E w7 h7
  obtain ⟨A7, c7, rfl, hc7, hs7, hb7, ho7⟩ := h7.sv
  clear h7
  have HB7 : Hid (Below w.heap.size w (w5.drewN j)) := bl_drewN (bl_trans HB2.out HB5.out) j
  go_wp2
  go_ret
  have := Made.mk' HB7.out hb7.out ho7.out
  rw [List.length_append] at this
  exact this
end Go.Proofs.YtbbncbjdpopkiaaDoor
