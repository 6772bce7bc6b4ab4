/- A record in bytes: the package's contracts. -/
import Derived.Test.YtbbncbjdpopkiaaDoorB2
import Derived.Test.YtbbncbjdpopkiaaDoorB5
import Derived.Test.YtbbncbjdpopkiaaDoorX2
import Derived.Deep.RegionHeld3
namespace Go.Proofs.YtbbncbjdpopkiaaDoor
open Go.RowKit
set_option linter.unusedVariables false
set_option linter.unusedSimpArgs false
theorem kept_blk {b g t : Nat} {cs : List Value} {w w' : World} (h : Blk w g t cs) (k : Lib.OthersKept 5 (some b) w w') (hg : g ≠ b) (ht : t ≠ 5) : Blk w' g t cs :=
  k g _ h (by simpa using hg) (fun c fz e => by injection e with _ e _; exact ht e)
theorem sl_wrote2 {w w' : World} {g t n : Nat} {cs : List Value} {A : Option Addr} {xs : List Value} (h : Wrote w g t cs w') (hne : 0 < n → ∀ b o, A = some ⟨b, o, none⟩ → b ≠ g) (hs : Sl w A n xs) : Sl w' A n xs :=
  ⟨hs.1, fun hn => by
    obtain ⟨b, o, e, hc⟩ := hs.2 hn
    exact ⟨b, o, e, fun j u hu => cell_wrote h (hne hn b o e) (hc j u hu)⟩⟩
/-- What a write to both leaves: all but the buffer, the checksum and rows of bytes. -/
def Fr (b g : Nat) (w w' : World) : Prop := ∀ k o, w.heap[k]? = some o → k ≠ b → k ≠ g → (∀ c fz, o ≠ .cells c 5 fz) → w'.heap[k]? = some o
theorem Fr.blk {b g x t : Nat} {cs : List Value} {w w' : World} (h : Fr b g w w') (k : Blk w x t cs) (h1 : x ≠ b) (h2 : x ≠ g) (ht : t ≠ 5) : Blk w' x t cs :=
  h x _ k h1 h2 (fun c fz e => by injection e with _ e _; exact ht e)
theorem Fr.trans {b g : Nat} {w w1 w2 : World} (h : Fr b g w w1) (k : Fr b g w1 w2) : Fr b g w w2 := fun x o h1 h2 h3 h4 => k x o (h x o h1 h2 h3 h4) h2 h3 h4
/-- Both writers: the buffer and the checksum. -/
def Both (B b g : Nat) (l : List Int) (w : World) : Prop := Buf B b l w ∧ Blk w g 132 [.int .u32 (crcL l)] ∧ B ≤ g
set_option maxRecDepth 100000 in
theorem bothWrite_any (B b g n c : Nat) (A : Option Addr) (l m : List Int) (w : World) (h : Both B b g l w) (hgb : g ≠ b) (hB : B ≤ w.heap.size) (hs : Sl w A n (nums .u8 m)) (hA : 0 < n → ∀ x o, A = some ⟨x, o, none⟩ → x ≠ b ∧ x ≠ g)
    (hm : Byt m) (hl : Byt l) (hn : l.length ≤ 1000000) (hn2 : n ≤ 1000000) :
    Calls Tryd.prog 66 #[.agg #[.pointer (some ⟨b, 0, none⟩), .pointer (some ⟨g, 0, none⟩)], .slice A n c] w fun E w' => E = .returned (.tuple #[.int .i64 n, .nilIface]) ∧ Both B b g (l ++ m) w' ∧ Below B w w' ∧ Fr b g w w' := by
  obtain ⟨h1, h2, h3⟩ := h
  have H1 := Lib.hid h1
  have H2 := Lib.hid h2
  have HS := Lib.hid hs
  have HA := Lib.hid hA
  clear h1 h2 hs hA
  go_enter Tryd.func66, Tryd.ntmps66
  go_wp2_with fail
  have hbox : Blk (w.alloc (.cells #[.pointer (some ⟨b, 0, none⟩), .pointer (some ⟨g, 0, none⟩)] 121)) w.heap.size 121 [.pointer (some ⟨b, 0, none⟩), .pointer (some ⟨g, 0, none⟩)] := Blk.new _ _ _
  have HX := Lib.hid hbox
  have HB1 : Hid (Below w.heap.size w (w.alloc (.cells #[.pointer (some ⟨b, 0, none⟩), .pointer (some ⟨g, 0, none⟩)] 121))) := (Below.refl _ _).alloc (Nat.le_refl _) _
  clear hbox
  generalize w.alloc (.cells #[.pointer (some ⟨b, 0, none⟩), .pointer (some ⟨g, 0, none⟩)] 121) = w1 at *
  have hk1 : Blk w1 g 132 [.int .u32 (crcL l)] := H2.out.below HB1.out H2.out.lt
  refine (crcWrite_any g n c A m (crcL l) w1 hk1 (HS.out.below HB1.out) hm (fun h0 x o e => (HA.out h0 x o e).2) (crcL_in l (in8L_of hl)) hn2).mono ?_
  rintro E w2 ⟨rfl, hw2⟩
  have hlt := H2.out.lt
  have hltb := H1.out.lt
  have HG : Hid (w.heap.size ≠ g) := by show _ ≠ _; omega
  have HX2 : Hid (Blk w2 w.heap.size 121 [.pointer (some ⟨b, 0, none⟩), .pointer (some ⟨g, 0, none⟩)]) := hw2.far_blk HX.out HG.out
  have q0 : w2.cell? ⟨w.heap.size, 0, none⟩ = some (.pointer (some ⟨b, 0, none⟩)) := by rw [HX2.out.cell]; rfl
  have HK2 := Lib.hid hw2.1
  have hb2 : Buf B b l w2 := by
    have hb1 := H1.out.old HB1.out
    obtain ⟨p1, v, lr, p2, p3, p4⟩ := hb1
    have hgr : w1.grownBy w2 (some g) := hw2.2
    refine ⟨p1, v, lr, ?_, ?_, p4⟩
    · rw [hgr.block b (by have := HB1.out.size; omega) (by simpa using hgb.symm)]; exact p2
    · refine Go.Proofs.YtbbncbjdpopkiaaDoorW.PrintWords.own_move p3 (fun k hk => hgr.block k (p3.lt k hk).2 ?_)
      intro e
      injection e with e
      subst e
      rcases p3.2 with ⟨rfl, _⟩ | ⟨g', cap, cur, rfl, hg', hh, _⟩
      · simp [Value.ownBlock] at hk
      · simp only [Value.ownBlock, Option.some.injEq] at hk
        subst hk
        have := hk1
        unfold Blk at this
        rw [this] at hh
        injection hh with hh
        injection hh with _ h5 _
        exact absurd h5 (by decide)
  have HB2 := Lib.hid hb2
  have HS2 : Hid (Sl w2 A n (nums .u8 m)) := sl_wrote2 hw2 (fun h0 x o e => (HA.out h0 x o e).2) (HS.out.below HB1.out)
  have HL2 : Hid (Below B w w2) := (HB1.out.mono hB).grown hw2.2 (Nat.le_trans hB HB1.out.size) (fun k e => by injection e with e; omega)
  have HF2 : Hid (Fr b g w w2) := fun k o h1 _ h3 _ => by
    have hk := (Array.getElem?_eq_some_iff.1 h1).1
    rw [hw2.2.block k (by have := HB1.out.size; omega) (by simpa using h3), HB1.out.block k hk, h1]
  clear hw2 hk1 HX hb2
  go_wp2_with fail
  refine (bufWrite_all B b l m A n c w2 HB2.out (Nat.le_trans hB HL2.out.size) HS2.out (fun h0 x o e => (HA.out h0 x o e).1) (by omega) (by omega)).mono ?_
  rintro E w3 ⟨rfl, hb3, hl3, hk3⟩
  have HB3 := Lib.hid hb3
  have HL3 : Hid (Below B w w3) := HL2.out.trans hl3
  have HK3 : Hid (Blk w3 g 132 [.int .u32 (crcL (l ++ m))]) := by
    have := kept_blk HK2.out hk3 hgb (by decide)
    show Blk _ _ _ _
    unfold crcL at this ⊢
    rw [List.foldl_append]
    exact this
  have HF3 : Hid (Fr b g w w3) := HF2.out.trans fun k o h1 h2 _ h4 => hk3 k o h1 (by simpa using h2) h4
  clear hb3 hl3 hk3
  go_wp2
  go_ret2
  exact ⟨rfl, ⟨HB3.out, HK3.out, h3⟩, HL3.out, HF3.out⟩
theorem sl_low {w w' : World} {A : Option Addr} {B n : Nat} {xs : List Value} (h : Sl w A n xs) (hA : 0 < n → ∀ x o, A = some ⟨x, o, none⟩ → x < B) (hb : Below B w w') : Sl w' A n xs :=
  ⟨h.1, fun h0 => by
    obtain ⟨g, o, e, hc⟩ := h.2 h0
    exact ⟨g, o, e, fun j v hv => by rw [hb.cell (hA h0 g o e)]; exact hc j v hv⟩⟩
theorem bel_drew {B : Nat} {w w' : World} (h : Below B w.drew w') : Below B w w' := ⟨h.os, h.tape, h.output, h.size, h.block⟩
theorem byt_app {l m : List Int} (h : Byt l) (k : Byt m) : Byt (l ++ m) := h.append k
theorem headB_byt (k d e m u : Int) (hk0 : 0 ≤ k) (hk : k ≤ 4294967295) (hd0 : 0 ≤ d) (hd : d ≤ 4294967295) (he0 : 0 ≤ e) (he : Hid (e ≤ 18446744073709551615)) (hm : In8 m) (hu : In8 u) : Byt (headB k d e m u) := by
  have h1 : Byt [m, u] := fun x hx => by
    simp at hx
    rcases hx with rfl | rfl
    · exact hm
    · exact hu
  unfold headB
  first
  | exact h1.append ((vint_byt' k hk0 (u32_64 hk)).append ((vint_byt' d hd0 (u32_64 hd)).append (vint_byt' e he0 he)))
  | exact ((h1.append (vint_byt' k hk0 (u32_64 hk))).append (vint_byt' d hd0 (u32_64 hd))).append (vint_byt' e he0 he)
/-- A record in bytes. -/
def recP (m u e : Int) (k d : List Int) : List Int := headB k.length d.length e m u ++ (k ++ d)
def recB (m u e : Int) (k d : List Int) : List Int := recP m u e k d ++ be32 (crcOut (recP m u e k d))
theorem arr22' : Tryd.prog.arrayLen 122 = 22 := by kernel_rfl
theorem arr4' : Tryd.prog.arrayLen 124 = 4 := by kernel_rfl
set_option maxHeartbeats 8000000 in
set_option maxRecDepth 100000 in
theorem encodeEntry_any (B b ge glf n1 c1 n2 c2 : Nat) (A1 A2 : Option Addr) (m u e of_ : Int) (l1 l2 : List Int) (v3 v4 v7 v8 : Value) (w : World)
    (he : Blk w ge 105 [.slice A1 n1 c1, .slice A2 n2 c2, .int .u64 e, v3, v4, .int .u8 u, .int .u8 m, v7, v8]) (hb : Buf B b [] w) (hgb : ge ≠ b) (hB : B ≤ w.heap.size)
    (hs1 : Sl w A1 n1 (nums .u8 l1)) (hs2 : Sl w A2 n2 (nums .u8 l2)) (hA1 : 0 < n1 → ∀ x o, A1 = some ⟨x, o, none⟩ → x < B) (hA2 : 0 < n2 → ∀ x o, A2 = some ⟨x, o, none⟩ → x < B)
    (hn1 : n1 ≤ 100000) (hn2 : n2 ≤ 100000) (hb1 : Byt l1) (hb2 : Byt l2) (he0 : 0 ≤ e) (he1 : Hid (e ≤ 18446744073709551615)) (hm : In8 m) (hu : In8 u) :
    Calls Tryd.prog 54 #[.pointer (some ⟨glf, 0, none⟩), .pointer (some ⟨b, 0, none⟩), .pointer (some ⟨ge, 0, none⟩), .int .u32 of_] w fun E w' => (∃ N, E = .returned (.tuple #[.int .i64 N, .nilIface])) ∧ Buf B b (recB m u e l1 l2) w' ∧ Below B w w' := by
  have HE := Lib.hid he
  have HB := Lib.hid hb
  have HS1 := Lib.hid hs1
  have HS2 := Lib.hid hs2
  have q0 : w.cell? ⟨ge, 0, none⟩ = some (.slice A1 n1 c1) := by rw [he.cell]; rfl
  have q1 : w.cell? ⟨ge, 1, none⟩ = some (.slice A2 n2 c2) := by rw [he.cell]; rfl
  have q2 : w.cell? ⟨ge, 2, none⟩ = some (.int .u64 e) := by rw [he.cell]; rfl
  have q5 : w.cell? ⟨ge, 5, none⟩ = some (.int .u8 u) := by rw [he.cell]; rfl
  have q6 : w.cell? ⟨ge, 6, none⟩ = some (.int .u8 m) := by rw [he.cell]; rfl
  clear he hb hs1 hs2
  go_enter Tryd.func54, Tryd.ntmps54
  have wl1 : IntKind.u32.wrap (n1 : Int) = (n1 : Int) := by show _ = _; unfold IntKind.wrap; simp [IntKind.signed, IntKind.bits]; omega
  have wl2 : IntKind.u32.wrap (n2 : Int) = (n2 : Int) := by show _ = _; unfold IntKind.wrap; simp [IntKind.signed, IntKind.bits]; omega
  go_wp2_with fail
  have HBw : Hid (Below w.heap.size w w) := Below.refl _ _
  go_region_held3 (fun w' => w'.cell? ⟨ge, 0, none⟩ = some (.slice A1 n1 c1) ∧ w'.cell? ⟨ge, 1, none⟩ = some (.slice A2 n2 c2) ∧ w'.cell? ⟨ge, 2, none⟩ = some (.int .u64 e) ∧ w'.cell? ⟨ge, 5, none⟩ = some (.int .u8 u) ∧ w'.cell? ⟨ge, 6, none⟩ = some (.int .u8 m) ∧ Hid (Below w.heap.size w w')) (first | exact ⟨q0, q1, q2, q5, q6, HBw⟩ | ((try go_split_ands); (repeat' with_reducible apply And.intro); all_goals first | exact cell_keep (by assumption) (by assumption) | exact bl_keep (by assumption) (by assumption) | exact cell_drew (by assumption) | exact bl_keepD (by assumption) | exact cell_alloc _ (by assumption) | exact bl_keepA _ (by assumption) | exact bl_keepN _ (by assumption)) | exact ⟨cell_drew (cell_alloc _ q0), cell_drew (cell_alloc _ q1), cell_drew (cell_alloc _ q2), cell_drew (cell_alloc _ q5), cell_drew (cell_alloc _ q6), bl_drew (bl_alloc (Below.refl _ _) _)⟩) (fail)
  have hh : Blk (w.alloc (.cells #[.int .u32 (n1 : Int), .int .u32 (n2 : Int), .int .u64 e, .int .u8 m, .int .u8 u] 117)).drew w.heap.size 117 [.int .u32 (n1 : Int), .int .u32 (n2 : Int), .int .u64 e, .int .u8 m, .int .u8 u] := (Blk.new w 117 _).drew
  have HH := Lib.hid hh
  have HL1 : Hid (Below w.heap.size w (w.alloc (.cells #[.int .u32 (n1 : Int), .int .u32 (n2 : Int), .int .u64 e, .int .u8 m, .int .u8 u] 117)).drew) := bl_drew (bl_alloc (Below.refl _ _) _)
  clear hh q0 q1 q2 q5 q6 HBw
  generalize (w.alloc (.cells #[.int .u32 (n1 : Int), .int .u32 (n2 : Int), .int .u64 e, .int .u8 m, .int .u8 u] 117)).drew = w1 at *
  go_wp2_with fail
  refine (newCRC_any w1).mono ?_
  rintro E w2 ⟨rfl, rfl⟩
  have hc2 : Blk (w1.alloc (.cells #[.int .u32 4294967295] 132)) w1.heap.size 132 [.int .u32 4294967295] := Blk.new _ _ _
  have HC2 := Lib.hid hc2
  have HL2 : Hid (Below w.heap.size w (w1.alloc (.cells #[.int .u32 4294967295] 132))) := bl_alloc HL1.out _
  have HH2 : Hid (Blk (w1.alloc (.cells #[.int .u32 4294967295] 132)) w.heap.size 117 [.int .u32 (n1 : Int), .int .u32 (n2 : Int), .int .u64 e, .int .u8 m, .int .u8 u]) := HH.out.alloc _
  have HG : Hid (w.heap.size < w1.heap.size ∧ w1.heap.size < (w1.alloc (.cells #[.int .u32 4294967295] 132)).heap.size) := ⟨HH.out.lt, by rw [World.size_alloc]; omega⟩
  clear hc2
  generalize w1.alloc (.cells #[.int .u32 4294967295] 132) = w2 at *
  generalize hg : w1.heap.size = g at *
  clear hg HH HL1
  go_wp2_with fail
  have hw3 : Blk (w2.alloc (.cells #[.pointer (some ⟨b, 0, none⟩), .pointer (some ⟨g, 0, none⟩)] 121)) w2.heap.size 121 [.pointer (some ⟨b, 0, none⟩), .pointer (some ⟨g, 0, none⟩)] := Blk.new _ _ _
  have hz : (w2.alloc (.cells #[.pointer (some ⟨b, 0, none⟩), .pointer (some ⟨g, 0, none⟩)] 121)).heap.size = w2.heap.size + 1 := by rw [World.size_alloc]
  have hw4 : Blk ((w2.alloc (.cells #[.pointer (some ⟨b, 0, none⟩), .pointer (some ⟨g, 0, none⟩)] 121)).alloc (.cells #[.int .u8 0, .int .u8 0, .int .u8 0, .int .u8 0, .int .u8 0, .int .u8 0, .int .u8 0, .int .u8 0, .int .u8 0, .int .u8 0, .int .u8 0, .int .u8 0, .int .u8 0, .int .u8 0, .int .u8 0, .int .u8 0, .int .u8 0, .int .u8 0, .int .u8 0, .int .u8 0, .int .u8 0, .int .u8 0] 122)) (w2.heap.size + 1) 122 (List.replicate 22 (.int .u8 0)) := by
    have := Blk.new (w2.alloc (.cells #[.pointer (some ⟨b, 0, none⟩), .pointer (some ⟨g, 0, none⟩)] 121)) 122 (List.replicate 22 (.int .u8 0))
    rwa [hz] at this
  have HW4 := Lib.hid hw4
  have HP4 := Lib.hid (hw3.alloc (.cells #[.int .u8 0, .int .u8 0, .int .u8 0, .int .u8 0, .int .u8 0, .int .u8 0, .int .u8 0, .int .u8 0, .int .u8 0, .int .u8 0, .int .u8 0, .int .u8 0, .int .u8 0, .int .u8 0, .int .u8 0, .int .u8 0, .int .u8 0, .int .u8 0, .int .u8 0, .int .u8 0, .int .u8 0, .int .u8 0] 122))
  have HH4 := Lib.hid ((HH2.out.alloc (.cells #[.pointer (some ⟨b, 0, none⟩), .pointer (some ⟨g, 0, none⟩)] 121)).alloc (.cells #[.int .u8 0, .int .u8 0, .int .u8 0, .int .u8 0, .int .u8 0, .int .u8 0, .int .u8 0, .int .u8 0, .int .u8 0, .int .u8 0, .int .u8 0, .int .u8 0, .int .u8 0, .int .u8 0, .int .u8 0, .int .u8 0, .int .u8 0, .int .u8 0, .int .u8 0, .int .u8 0, .int .u8 0, .int .u8 0] 122))
  have HC4 := Lib.hid ((HC2.out.alloc (.cells #[.pointer (some ⟨b, 0, none⟩), .pointer (some ⟨g, 0, none⟩)] 121)).alloc (.cells #[.int .u8 0, .int .u8 0, .int .u8 0, .int .u8 0, .int .u8 0, .int .u8 0, .int .u8 0, .int .u8 0, .int .u8 0, .int .u8 0, .int .u8 0, .int .u8 0, .int .u8 0, .int .u8 0, .int .u8 0, .int .u8 0, .int .u8 0, .int .u8 0, .int .u8 0, .int .u8 0, .int .u8 0, .int .u8 0] 122))
  have HL4 : Hid (Below w.heap.size w ((w2.alloc (.cells #[.pointer (some ⟨b, 0, none⟩), .pointer (some ⟨g, 0, none⟩)] 121)).alloc (.cells #[.int .u8 0, .int .u8 0, .int .u8 0, .int .u8 0, .int .u8 0, .int .u8 0, .int .u8 0, .int .u8 0, .int .u8 0, .int .u8 0, .int .u8 0, .int .u8 0, .int .u8 0, .int .u8 0, .int .u8 0, .int .u8 0, .int .u8 0, .int .u8 0, .int .u8 0, .int .u8 0, .int .u8 0, .int .u8 0] 122))) := bl_alloc (bl_alloc HL2.out _) _
  clear hw3 hw4 hz HC2 HH2 HL2
  generalize (w2.alloc (.cells #[.pointer (some ⟨b, 0, none⟩), .pointer (some ⟨g, 0, none⟩)] 121)).alloc (.cells #[.int .u8 0, .int .u8 0, .int .u8 0, .int .u8 0, .int .u8 0, .int .u8 0, .int .u8 0, .int .u8 0, .int .u8 0, .int .u8 0, .int .u8 0, .int .u8 0, .int .u8 0, .int .u8 0, .int .u8 0, .int .u8 0, .int .u8 0, .int .u8 0, .int .u8 0, .int .u8 0, .int .u8 0, .int .u8 0] 122) = w4 at *
  generalize hg2 : w2.heap.size = g2 at *
  clear hg2
  have r0 : w4.cell? ⟨w.heap.size, 0, none⟩ = some (.int .u32 (n1 : Int)) := by rw [HH4.out.cell]; rfl
  have r1 : w4.cell? ⟨w.heap.size, 1, none⟩ = some (.int .u32 (n2 : Int)) := by rw [HH4.out.cell]; rfl
  have r2 : w4.cell? ⟨w.heap.size, 2, none⟩ = some (.int .u64 e) := by rw [HH4.out.cell]; rfl
  have r3 : w4.cell? ⟨w.heap.size, 3, none⟩ = some (.int .u8 m) := by rw [HH4.out.cell]; rfl
  have r4 : w4.cell? ⟨w.heap.size, 4, none⟩ = some (.int .u8 u) := by rw [HH4.out.cell]; rfl
  go_still_tail 2, (by kernel_rfl)
  change wpList _ _ _ _ _ w4.drew
  go_wp2_with fail
  refine (headEncode_any (g2 + 1) 22 122 22 n1 n2 e m u _ w4.drew HW4.out (by omega) (by omega) (by simp) (by omega) (by omega) (by omega) (by omega) he0 he1).mono ?_
  rintro E w5 ⟨rfl, hw5⟩
  have hL := headB_len (n1 : Int) (n2 : Int) e m u (by omega) (by omega)
  have HW5 := Lib.hid hw5
  clear hw5 r0 r1 r2 r3 r4
  have hbl := HB.out.lt
  have hel := HE.out.lt
  have HL5 : Hid (Below w.heap.size w w5) := below_wrote (bl_drew HL4.out) (by have := HG.out; omega) HL4.out.size HW5.out
  have HB5 : Hid (Both B b g [] w5) := ⟨HB.out.old HL5.out, HW5.out.far_blk HC4.out (by have := HG.out; omega), by have := HG.out; omega⟩
  have HP5 : Hid (Blk w5 g2 121 [.pointer (some ⟨b, 0, none⟩), .pointer (some ⟨g, 0, none⟩)]) := HW5.out.far_blk HP4.out (by omega)
  have HE5 := Lib.hid (HE.out.below HL5.out hel)
  have HH5 : Hid (Sl w5 (some ⟨g2 + 1, 0, none⟩) (headB n1 n2 e m u).length (nums .u8 (headB n1 n2 e m u))) := by
    have := HW5.out.1.sl (off := 0) (n := (headB n1 n2 e m u).length) (by rw [splice_len _ _ _ (by rw [nums_length]; simp; omega)]; simp; omega)
    rw [List.drop_zero, splice, List.take_zero, List.nil_append, List.take_append_of_le_length (by rw [nums_length]; omega), List.take_of_length_le (by rw [nums_length]; omega)] at this
    exact this
  have hgs : g ≠ b ∧ g2 ≠ b ∧ g2 ≠ g ∧ g2 + 1 ≠ b ∧ g2 + 1 ≠ g ∧ ge ≠ g := by have := HG.out; omega
  obtain ⟨hgs1, hgs2, hgs3, hgs4, hgs5, hgs6⟩ := hgs
  have HLB5 : Hid (Below B w w5) := HL5.out.mono hB
  have ha2 : ((headB n1 n2 e m u).length : Int) ≤ ((Tryd.prog.arrayLen 122 : Nat) : Int) := by rw [arr22']; omega
  have ha3 : ((headB n1 n2 e m u).length : Int) ≤ 22 := by omega
  have hByh : Byt (headB n1 n2 e m u) := headB_byt _ _ _ _ _ (by omega) (by omega) (by omega) (by omega) he0 he1 hm hu
  have p0 : w5.cell? ⟨g2, 0, none⟩ = some (.pointer (some ⟨b, 0, none⟩)) := by rw [HP5.out.cell]; rfl
  have p1 : w5.cell? ⟨g2, 1, none⟩ = some (.pointer (some ⟨g, 0, none⟩)) := by rw [HP5.out.cell]; rfl
  clear HW5 HP4 HC4 HH4 HW4 HL4 HB HE
  go_wp2_with fail
  go_still_tail 3, (by kernel_rfl)
  change wpList _ _ _ _ _ w5.drew
  go_wp2_with fail
  refine (bothWrite_any B b g _ _ _ [] (headB n1 n2 e m u) w5.drew HB5.out hgs1 (Nat.le_trans hB HL5.out.size) HH5.out (fun _ x o ex => by injection ex with ex; injection ex with ex _; subst ex; exact ⟨hgs4, hgs5⟩) hByh (fun x hx => by cases hx) (by simp) (by omega)).mono ?_
  rintro E w6 ⟨rfl, hb6, hl6, hf6⟩
  have HB6 := Lib.hid hb6
  have HLB6 : Hid (Below B w w6) := HLB5.out.trans (bel_drew hl6)
  have HP6 := Lib.hid (hf6.blk HP5.out hgs2 hgs3 (by decide))
  have HE6 := Lib.hid (hf6.blk HE5.out hgb hgs6 (by decide))
  have HZ6 : Hid (w.heap.size ≤ w6.heap.size) := Nat.le_trans HL5.out.size hl6.size
  clear hb6 hl6 hf6 HB5 HP5 HE5 HH5 p0 p1
  have p0 : w6.cell? ⟨g2, 0, none⟩ = some (.pointer (some ⟨b, 0, none⟩)) := by rw [HP6.out.cell]; rfl
  have p1 : w6.cell? ⟨g2, 1, none⟩ = some (.pointer (some ⟨g, 0, none⟩)) := by rw [HP6.out.cell]; rfl
  have e0 : w6.cell? ⟨ge, 0, none⟩ = some (.slice A1 n1 c1) := by rw [HE6.out.cell]; rfl
  have hlen1 : l1.length = n1 := by have := HS1.out.1; rwa [nums_length] at this
  have hlen2 : l2.length = n2 := by have := HS2.out.1; rwa [nums_length] at this
  have HS16 := Lib.hid (sl_low HS1.out hA1 HLB6.out)
  have hbB := HB6.out.1.le
  have hgB := HB6.out.2.2
  go_wp2_with fail
  go_still_tail 5, (by kernel_rfl)
  change wpList _ _ _ _ _ w6.drew
  go_wp2_with fail
  refine (bothWrite_any B b g n1 c1 A1 _ l1 w6.drew HB6.out hgs1 (Nat.le_trans hB HZ6.out) HS16.out (fun h0 x o ex => by have := hA1 h0 x o ex; omega) hb1 (by simpa using hByh) (by simp; omega) (by omega)).mono ?_
  rintro E w7 ⟨rfl, hb7, hl7, hf7⟩
  have HB7 := Lib.hid hb7
  have HLB7 : Hid (Below B w w7) := HLB6.out.trans (bel_drew hl7)
  have HP7 := Lib.hid (hf7.blk HP6.out hgs2 hgs3 (by decide))
  have HE7 := Lib.hid (hf7.blk HE6.out hgb hgs6 (by decide))
  have HZ7 : Hid (w.heap.size ≤ w7.heap.size) := Nat.le_trans HZ6.out hl7.size
  clear hb7 hl7 hf7 HB6 HP6 HE6 HS16 p0 p1 e0
  have p0 : w7.cell? ⟨g2, 0, none⟩ = some (.pointer (some ⟨b, 0, none⟩)) := by rw [HP7.out.cell]; rfl
  have p1 : w7.cell? ⟨g2, 1, none⟩ = some (.pointer (some ⟨g, 0, none⟩)) := by rw [HP7.out.cell]; rfl
  have e1 : w7.cell? ⟨ge, 1, none⟩ = some (.slice A2 n2 c2) := by rw [HE7.out.cell]; rfl
  have HS27 := Lib.hid (sl_low HS2.out hA2 HLB7.out)
  go_wp2_with fail
  go_still_tail 5, (by kernel_rfl)
  change wpList _ _ _ _ _ w7.drew
  go_wp2_with fail
  refine (bothWrite_any B b g n2 c2 A2 _ l2 w7.drew HB7.out hgs1 (Nat.le_trans hB HZ7.out) HS27.out (fun h0 x o ex => by have := hA2 h0 x o ex; omega) hb2 (by have := hByh.append hb1; simpa using this) (by simp; omega) (by omega)).mono ?_
  rintro E w8 ⟨rfl, hb8, hl8, hf8⟩
  have HB8 : Hid (Both B b g (recP m u e l1 l2) w8) := by
    show Both _ _ _ _ _
    unfold recP
    rw [hlen1, hlen2, ← List.append_assoc]
    exact hb8
  have HLB8 : Hid (Below B w w8) := HLB7.out.trans (bel_drew hl8)
  have HE8 := Lib.hid (hf8.blk HE7.out hgb hgs6 (by decide))
  have HZ8 : Hid (w.heap.size ≤ w8.heap.size) := Nat.le_trans HZ7.out hl8.size
  clear hb8 hl8 hf8 HB7 HP7 HE7 HS27 p0 p1 e1 HZ6 HZ7 HLB6 HLB7
  have hpl : (recP m u e l1 l2).length ≤ 200022 := by
    unfold recP
    rw [hlen1, hlen2]
    simp
    omega
  have hcin := crcOut_in (recP m u e l1 l2) (by unfold recP; rw [hlen1, hlen2]; exact hByh.append (hb1.append hb2))
  go_wp2_with fail
  have hk9 : Blk (w8.alloc (.cells #[.int .u8 0, .int .u8 0, .int .u8 0, .int .u8 0] 124)) w8.heap.size 124 (List.replicate 4 (.int .u8 0)) := Blk.new w8 124 (List.replicate 4 (.int .u8 0))
  have HK9 := Lib.hid hk9
  have HB9 := Lib.hid (HB8.out.1.alloc (.cells #[.int .u8 0, .int .u8 0, .int .u8 0, .int .u8 0] 124))
  have HE9 := Lib.hid (HE8.out.alloc (.cells #[.int .u8 0, .int .u8 0, .int .u8 0, .int .u8 0] 124))
  have HLB9 : Hid (Below B w (w8.alloc (.cells #[.int .u8 0, .int .u8 0, .int .u8 0, .int .u8 0] 124))) := HLB8.out.alloc (Nat.le_trans hB HZ8.out) _
  have HL9 : Hid (Below w8.heap.size w8 (w8.alloc (.cells #[.int .u8 0, .int .u8 0, .int .u8 0, .int .u8 0] 124))) := (Below.refl _ _).alloc (Nat.le_refl _) _
  have HZ9 : Hid (w8.heap.size < (w8.alloc (.cells #[.int .u8 0, .int .u8 0, .int .u8 0, .int .u8 0] 124)).heap.size) := by show _ < _; rw [World.size_alloc]; omega
  have s0 : (w8.alloc (.cells #[.int .u8 0, .int .u8 0, .int .u8 0, .int .u8 0] 124)).cell? ⟨g, 0, none⟩ = some (.int .u32 (crcL (recP m u e l1 l2))) := by rw [(HB8.out.2.1.alloc _).cell]; rfl
  generalize w8.alloc (.cells #[.int .u8 0, .int .u8 0, .int .u8 0, .int .u8 0] 124) = w9 at *
  clear hk9
  refine Go.Proofs.YtbbncbjdpopkiaaDoorW.PrintLast.start_ (n := 5) (S := fun _ => True) (ds := []) #[false, false, false, false, false] (by kernel_rfl) rfl rfl (trivial) (fun hHeld => ?_)
  refine Go.Proofs.YtbbncbjdpopkiaaDoorW.PrintLast.pure_ (i := 0) (N := some 64) (v := ?_) (a' := ?_) #[true, false, false, false, false] rfl rfl (by kernel_rfl) (fun _ _ _ h => h) (Or.inl ⟨by rfl, ?_⟩) ?_ ?_
  rotate_left
  · intro w'
    go_simp
    with_reducible rfl
  rotate_left
  · simp only [Act.put, List.setIfInBounds_toArray, List.set_cons_zero, List.set_cons_succ, Go.Proofs.YtbbncbjdpopkiaaDoorW.PrintLast.i64_w, Go.Proofs.YtbbncbjdpopkiaaDoorW.PrintLast.i32_w]
    rfl
  refine Go.Proofs.YtbbncbjdpopkiaaDoorW.PrintLast.pure_ (i := 1) (N := some 65) (v := ?_) (a' := ?_) #[true, true, false, false, false] rfl rfl (by kernel_rfl) (fun _ _ _ h => h) (Or.inl ⟨by rfl, ?_⟩) ?_ ?_
  rotate_left
  · intro w'
    go_simp
    with_reducible rfl
  rotate_left
  · simp only [Act.put, List.setIfInBounds_toArray, List.set_cons_zero, List.set_cons_succ, Go.Proofs.YtbbncbjdpopkiaaDoorW.PrintLast.i64_w, Go.Proofs.YtbbncbjdpopkiaaDoorW.PrintLast.i32_w]
    rfl
  refine Go.Proofs.YtbbncbjdpopkiaaDoorW.PrintLast.one_ (i := 2) (N := some 66) #[true, true, true, false, false] rfl rfl (by kernel_rfl) (by decide) (fun K hK => ?_)
  refine Go.Proofs.YtbbncbjdpopkiaaDoorW.PrintLast.goes_ Tryd.func68 (by kernel_rfl) rfl #[.pointer (some ⟨g, 0, none⟩)] (by rfl) rfl rfl (by (try simp only [List.map_toArray, List.map_cons, List.map_nil]); first | done | rfl) ?_
  refine (sum32_any g (crcL (recP m u e l1 l2)) w9.drew s0).mono ?_
  rintro E w9' ⟨rfl, rfl⟩
  refine ⟨_, rfl, ?_⟩
  refine hK.out _ _ (trivial) (fun hHeld => ?_)
  clear hK K
  refine Go.Proofs.YtbbncbjdpopkiaaDoorW.PrintLast.norm_ (a' := ?_) ?_ ?_
  rotate_left
  · show Act.put _ (some 66) _ = _
    simp only [Act.put, List.setIfInBounds_toArray, List.set_cons_zero, List.set_cons_succ, Go.Proofs.YtbbncbjdpopkiaaDoorW.PrintLast.i64_w, Go.Proofs.YtbbncbjdpopkiaaDoorW.PrintLast.i32_w]
    rfl
  refine Go.Proofs.YtbbncbjdpopkiaaDoorW.PrintLast.one_ (i := 3) (N := some 67) #[true, true, true, true, false] rfl rfl (by kernel_rfl) (by decide) (fun K hK => ?_)
  refine Go.Proofs.YtbbncbjdpopkiaaDoorW.PrintLast.goes_ Tryd.func67 (by kernel_rfl) rfl #[.int .u32 (crcOut (recP m u e l1 l2))] (by rfl) rfl rfl (by (try simp only [List.map_toArray, List.map_cons, List.map_nil]); first | done | rfl) ?_
  refine (u32Bytes1_any (crcOut (recP m u e l1 l2)) w9.drew hcin.1 hcin.2).mono ?_
  rintro E w10 ⟨A10, c10, rfl, hc10, hs10, hl10⟩
  refine ⟨_, rfl, ?_⟩
  refine hK.out _ _ (trivial) (fun hHeld => ?_)
  clear hK K
  refine Go.Proofs.YtbbncbjdpopkiaaDoorW.PrintLast.norm_ (a' := ?_) ?_ ?_
  rotate_left
  · show Act.put _ (some 67) _ = _
    simp only [Act.put, List.setIfInBounds_toArray, List.set_cons_zero, List.set_cons_succ, Go.Proofs.YtbbncbjdpopkiaaDoorW.PrintLast.i64_w, Go.Proofs.YtbbncbjdpopkiaaDoorW.PrintLast.i32_w]
    rfl
  refine Go.Proofs.YtbbncbjdpopkiaaDoorW.PrintLast.one_ (i := 4) (N := some 68) #[true, true, true, true, true] rfl rfl (by kernel_rfl) (by decide) (fun K hK => ?_)
  have hl10' : Below w8.heap.size w9 w10 := bel_drew (hl10.out.mono (Nat.le_of_lt HZ9.out))
  have hk10 : Blk w10 w8.heap.size 124 (List.replicate 4 (.int .u8 0)) := HK9.out.below (bel_drew hl10.out) HZ9.out
  refine step_copy_splice rfl (.tmp 64) (.tmp 67) 22 22 rfl 5 Tryd.underlying22 sizeU8 (some ⟨w8.heap.size, 0, none⟩) A10 4 4 4 c10 rfl rfl w8.heap.size 0 (List.replicate 4 (.int .u8 0)) 124 hk10 (nums .u8 (be32 (crcOut (recP m u e l1 l2)))) (by simp [nums, be32, be16]) ?cp (by simp [nums, be32, be16]) (nums_one _ _) w8.heap.size w9 hl10' (Nat.le_refl _) ?_
  case cp =>
    intro _
    obtain ⟨gx, ox, ex, hcx⟩ := hs10.out.2 (by simp [be32, be16])
    exact ⟨rfl, _, ex, fun j v hv => by rw [add_none]; exact hcx j v hv⟩
  intro w11 hg11 hl11
  refine hK.out _ _ (trivial) (fun hHeld => ?_)
  clear hK K
  refine Go.Proofs.YtbbncbjdpopkiaaDoorW.PrintLast.norm_ (a' := ?_) ?_ ?_
  rotate_left
  · show Act.put _ (some 68) _ = _
    simp only [Act.put, List.setIfInBounds_toArray, List.set_cons_zero, List.set_cons_succ, Go.Proofs.YtbbncbjdpopkiaaDoorW.PrintLast.i64_w, Go.Proofs.YtbbncbjdpopkiaaDoorW.PrintLast.i32_w]
    rfl
  refine Go.Proofs.YtbbncbjdpopkiaaDoorW.PrintLast.done_ (by kernel_rfl) ?_
  have HB11 : Hid (Buf B b (recP m u e l1 l2) w11) := HB8.out.1.old (HL9.out.trans hl11)
  have HE11 : Hid (Blk w11 ge 105 [.slice A1 n1 c1, .slice A2 n2 c2, .int .u64 e, v3, v4, .int .u8 u, .int .u8 m, v7, v8]) := HE8.out.below (HL9.out.trans hl11) HE8.out.lt
  have HLB11 : Hid (Below B w w11) := HLB9.out.trans (hl11.mono (Nat.le_trans hB HZ8.out))
  have hk11 : Blk w11 w8.heap.size 124 (nums .u8 (be32 (crcOut (recP m u e l1 l2)))) := by
    have := hg11.out
    rw [splice_zero _ _ (by simp [nums, be32, be16])] at this
    exact this
  have HS11 : Hid (Sl w11 (some ⟨w8.heap.size, 0, none⟩) 4 (nums .u8 (be32 (crcOut (recP m u e l1 l2))))) := by
    have := hk11.sl (off := 0) (n := 4) (by simp [nums, be32, be16])
    rw [List.drop_zero, List.take_of_length_le (by simp [nums, be32, be16])] at this
    exact this
  have HW11 : Hid (w9.heap.size ≤ w11.heap.size) := hl11.size
  have hneb : w8.heap.size ≠ b := by have := HB8.out.1.lt; omega
  clear hk10 hl10' hg11 hl11 hk11 hs10 hl10 HK9 HB9 HE9 s0 HLB9
  go_wp2_with fail
  refine (bufWrite_any B b (recP m u e l1 l2) (be32 (crcOut (recP m u e l1 l2))) w8.heap.size 0 4 4 w11 HB11.out (Nat.le_trans hB (Nat.le_trans HZ8.out (Nat.le_of_lt (Nat.lt_of_lt_of_le HZ9.out HW11.out)))) HS11.out hneb (by omega) (by omega)).mono ?_
  rintro E w12 ⟨rfl, hb12, hl12, hk12⟩
  have HB12 : Hid (Buf B b (recB m u e l1 l2) w12) := hb12
  have HL12 : Hid (Below B w w12) := HLB11.out.trans hl12
  have he12 := kept_blk HE11.out hk12 hgb (by decide)
  have e0 : w12.cell? ⟨ge, 0, none⟩ = some (.slice A1 n1 c1) := by rw [he12.cell]; rfl
  have e1 : w12.cell? ⟨ge, 1, none⟩ = some (.slice A2 n2 c2) := by rw [he12.cell]; rfl
  clear hb12 hl12 hk12 he12 HB11 HE11 HS11
  go_wp2
  go_still_tail 16, (by kernel_rfl)
  change wpList _ _ _ _ _ w12.drew
  go_wp2
  go_ret2
  refine ⟨⟨_, rfl⟩, HB12.out, ?_⟩
  have := HL12.out
  exact ⟨this.os, this.tape, this.output, this.size, this.block⟩
end Go.Proofs.YtbbncbjdpopkiaaDoor
