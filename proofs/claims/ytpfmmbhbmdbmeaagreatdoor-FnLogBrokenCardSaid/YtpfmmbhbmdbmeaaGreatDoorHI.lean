/- A record, read. -/
import Derived.Test.YtpfmmbhbmdbmeaaGreatDoorHG
import Derived.BigQuiet
namespace Go.Proofs.YtpfmmbhbmdbmeaaGreatDoor
open Go.RowKit
set_option linter.unusedVariables false
set_option linter.unusedSimpArgs false
attribute [local go_sem] eqErr
/-- What a read leaves. -/
theorem EnS.read {w wr w2 : World} {gt gb gc gh gs n c at' at3 D t : Nat} {A : Option Addr} {l F F2 : List Int} {hv sv cs : List Value} (s : EnS w wr gt gb gc gh gs n c at' A l F hv sv) (hb : Blk wr D t cs) (h4 : t ≠ 99) (h5 : t ≠ 115) (hD : w.heap.size ≤ D) (hf : Frm [D, gt, gb, gc] wr w2) (hr : HrS w2 gt gb gc n c at3 A l F2) : EnS w w2 gt gb gc gh gs n c at3 A l F2 hv sv :=
  ⟨hr, s.hd.frm hf (by simp only [List.mem_cons, List.not_mem_nil, or_false, not_or]; exact ⟨fun e => blk_neZ hb s.hd h4 e.symm, blk_neZ s.hd s.r.t (by decide), blk_neZ s.hd s.r.b (by decide), blk_neZ s.hd s.r.k (by decide)⟩), s.sr.frm hf (by simp only [List.mem_cons, List.not_mem_nil, or_false, not_or]; exact ⟨fun e => blk_neZ hb s.sr h5 e.symm, blk_neZ s.sr s.r.t (by decide), blk_neZ s.sr s.r.b (by decide), blk_neZ s.sr s.r.k (by decide)⟩), s.f.trans hf (fun i hi => by
    simp only [List.mem_cons, List.not_mem_nil, or_false] at hi ⊢
    rcases hi with rfl | rfl | rfl | rfl
    · exact .inr hD
    · exact .inr s.nw.1
    · exact .inl (.inl rfl)
    · exact .inr s.nw.2.1), s.nw, s.la⟩
theorem EnS.fail {w wr w2 : World} {gt gb gc gh gs n c at' D : Nat} {A : Option Addr} {l F : List Int} {hv sv : List Value} (s : EnS w wr gt gb gc gh gs n c at' A l F hv sv) (hD : w.heap.size ≤ D) (hf : Frm [D, gt, gb, gc] wr w2) : Frm [gb, gs] w w2 := s.f.trans hf (fun i hi => by
    simp only [List.mem_cons, List.not_mem_nil, or_false] at hi ⊢
    rcases hi with rfl | rfl | rfl | rfl
    · exact .inr hD
    · exact .inr s.nw.1
    · exact .inl (.inl rfl)
    · exact .inr s.nw.2.1)
def GoodE (b : Bool) (Y F : List Int) (k d : Nat) : Prop := b = true ∧ k + d + 4 ≤ Y.length ∧ un32L ((Y.drop (k + d)).take 4) = crcOut (F ++ Y.take (k + d))
structure EntOk (gb gs n c at' k d : Nat) (A : Option Addr) (l F Y : List Int) (m u e off : Int) (lf : Value) (w w' : World) (ge : Nat) : Prop where
  blk : ∃ D Av cv, Blk w' ge 91 [.slice (some ⟨D, 0, none⟩) k (k + d), .slice Av d cv, .int .u64 e, .int .u64 0, .int .u32 off, .int .u8 u, .int .u8 m, .int .i64 F.length, .int .i64 0] ∧ Sl w' (some ⟨D, 0, none⟩) k (nums .u8 (Y.take k)) ∧ Sl w' Av d (nums .u8 ((Y.drop k).take d)) ∧ d ≤ cv ∧ w.heap.size ≤ D ∧ (∃ cs, Blk w' D 5 cs) ∧ (∀ g o, Av = some ⟨g, o, none⟩ → 0 < d → g = D)
  new : w.heap.size ≤ ge
  rd : BrS w' gb n c (at' + F.length + (k + d) + 4) A l
  sr : ∃ Ak nk ck Av nv cv, Blk w' gs 115 [.slice Ak nk ck, .slice Av nv cv, .int .u32 off, lf]
  f : Frm [gb, gs] w w'
def EntP (gb gs n c at' k d : Nat) (A : Option Addr) (l F Y : List Int) (m u e off : Int) (lf : Value) (ae au at2 : Addr) (b : Bool) (w : World) (E : Ending) (w' : World) : Prop :=
  (GoodE b Y F k d ∧ ∃ ge, E = .returned (.tuple #[.pointer (some ⟨ge, 0, none⟩), .nilIface]) ∧ EntOk gb gs n c at' k d A l F Y m u e off lf w w' ge) ∨
  (¬ GoodE b Y F k d ∧ (∃ y, E = .returned (.tuple #[.pointer none, .iface 169 (.pointer (some y))]) ∧ (y = ae ∨ y = au ∨ y = at2)) ∧ Frm [gb, gs] w w')
theorem arr4e : Tryz.prog.arrayLen 107 = 4 := by kernel_rfl
theorem four_in (l : List Int) (h : Byt l) (h4 : 4 ≤ l.length) : ∃ a0 a1 a2 a3, l.take 4 = [a0, a1, a2, a3] ∧ In8 a0 ∧ In8 a1 ∧ In8 a2 ∧ In8 a3 := by
  match l, h4 with
  | a :: b :: c :: d :: r, _ => exact ⟨a, b, c, d, rfl, h a (by simp), h b (by simp), h c (by simp), h d (by simp)⟩
theorem entOk_of {gt gc gb gh gs n c at' ge D k d nk3 ck3 nv5 cv5 VC : Nat} {A VA Ak3 Av5 : Option Addr} {l F Y F2 : List Int} {m u e off : Int} {lf : Value} {w w' : World} {hv : List Value}
    (s : EnS w w' gt gb gc gh gs n c (at' + F.length + (k + d) + 4) A l F2 hv [.slice Ak3 nk3 ck3, .slice Av5 nv5 cv5, .int .u32 off, lf])
    (he : Blk w' ge 91 [.slice (some ⟨D, 0, none⟩) k (k + d), .slice VA d VC, .int .u64 e, .int .u64 0, .int .u32 off, .int .u8 u, .int .u8 m, .int .i64 F.length, .int .i64 0])
    (hd : Blk w' D 5 (nums .u8 (Y.take (k + d)))) (hv1 : d ≤ VC) (hv2 : 0 < d → VA = some ⟨D, k, none⟩) (hg : w.heap.size ≤ ge) (hD : w.heap.size ≤ D) (hy : k + d ≤ Y.length) :
    EntOk gb gs n c at' k d A l F Y m u e off lf w w' ge := by
  have hl : (Y.take (k + d)).length = k + d := by rw [List.length_take]; omega
  have h0 := hd.sl (off := 0) (n := k) (by rw [nums_length]; omega)
  have e0 : ((nums IntKind.u8 (Y.take (k + d))).drop 0).take k = nums .u8 (Y.take k) := by
    rw [List.drop_zero, nums, nums, ← List.map_take, List.take_take, Nat.min_eq_left (by omega)]
  rw [e0] at h0
  refine ⟨⟨D, VA, VC, he, h0, ?_, hv1, hD, ⟨_, hd⟩, fun g o e1 h1 => ?_⟩, hg, ⟨s.r.b, s.r.sl, s.r.byt, s.r.cap, s.r.le, s.r.big, fun g o e1 h1 => (s.r.apart g o e1 h1).2.1⟩, ⟨_, _, _, _, _, _, s.sr⟩, s.f⟩
  · rcases Nat.eq_zero_or_pos d with rfl | h1
    · exact Sl.nil _ _
    · rw [hv2 h1]
      have h2 := hd.sl (off := k) (n := d) (by rw [nums_length]; omega)
      have e1 : ((nums IntKind.u8 (Y.take (k + d))).drop k).take d = nums .u8 ((Y.drop k).take d) := by
        rw [nums, nums, ← List.map_drop, ← List.map_take, List.drop_take, List.take_take]
        congr 2
        omega
      rw [e1] at h2
      exact h2
  · rw [hv2 h1] at e1
    injection e1 with e1
    injection e1 with e1 _ _
    omega
set_option maxRecDepth 100000 in
set_option maxHeartbeats 8000000 in
theorem entry_any (gb gs n c at' k d nk ck nv cv : Nat) (A Ak Av : Option Addr) (l : List Int) (m u e off : Int) (lf : Value) (ae au at2 : Addr) (b : Bool) (w0 w : World) (r : BrS w gb n c at' A l) (hs : Blk w gs 115 [.slice Ak nk ck, .slice Av nv cv, .int .u32 off, lf])
    (hp : Pre (l.drop at') (headB k d e m u) b) (hk : k ≤ 60) (hd : d ≤ 1000) (hk1 : 1 ≤ k) (he : 0 ≤ e ∧ e ≤ 18446744073709551615) (hZ : ErrZ w0 ae au at2) (hB : Below w0.heap.size w0 w) (hgb : w0.heap.size ≤ gb) (hgs : w0.heap.size ≤ gs) (hla : ∀ g o, A = some ⟨g, o, none⟩ → 0 < n → g ≠ gs) (hl : n ≤ 900000) :
    Calls Tryz.prog 48 #[.pointer (some ⟨gs, 0, none⟩), .pointer (some ⟨gb, 0, none⟩)] w (EntP gb gs n c at' k d A l (headB k d e m u) (l.drop (at' + (headB k d e m u).length)) m u e off lf ae au at2 b w) := by
  have R := Lib.hid r
  have HS := Lib.hid hs
  have HZ := Lib.hid hZ
  have HB := Lib.hid hB
  have HP := Lib.hid hp
  have HLA := Lib.hid hla
  have hln : l.length = n := by have := r.sl.1; rwa [nums_length] at this
  have HHL := Lib.hid (headB_len k d e m u (by omega) (by omega))
  clear r hs hZ hB hp hla
  go_enter Tryz.func48, Tryz.ntmps48
  go_wp2_with fail
  refine (newHash_any gb w).mono ?_
  rintro E wh ⟨rfl, hwh⟩
  subst hwh
  have H1 : Hid (Blk (((w.alloc (.cells #[.int .u32 4294967295] 127)).alloc (.cells #[.pointer (some ⟨gb, 0, none⟩), .pointer (some ⟨w.heap.size, 0, none⟩), .int .i64 0] 146)).alloc (.cells #[.int .u32 0, .int .u32 0, .int .u64 0, .int .u8 0, .int .u8 0] 99)) w.heap.size 127 [.int .u32 4294967295]) := ((Blk.new w 127 [.int .u32 4294967295]).alloc _).alloc _
  have H2 : Hid (Blk (((w.alloc (.cells #[.int .u32 4294967295] 127)).alloc (.cells #[.pointer (some ⟨gb, 0, none⟩), .pointer (some ⟨w.heap.size, 0, none⟩), .int .i64 0] 146)).alloc (.cells #[.int .u32 0, .int .u32 0, .int .u64 0, .int .u8 0, .int .u8 0] 99)) (w.heap.size + 1) 146 [.pointer (some ⟨gb, 0, none⟩), .pointer (some ⟨w.heap.size, 0, none⟩), .int .i64 0]) := by
    have h := Blk.new (w.alloc (.cells #[.int .u32 4294967295] 127)) 146 [.pointer (some ⟨gb, 0, none⟩), .pointer (some ⟨w.heap.size, 0, none⟩), .int .i64 0]
    rw [World.size_alloc] at h
    exact h.alloc _
  have H3 : Hid (Blk (((w.alloc (.cells #[.int .u32 4294967295] 127)).alloc (.cells #[.pointer (some ⟨gb, 0, none⟩), .pointer (some ⟨w.heap.size, 0, none⟩), .int .i64 0] 146)).alloc (.cells #[.int .u32 0, .int .u32 0, .int .u64 0, .int .u8 0, .int .u8 0] 99)) (w.heap.size + 1 + 1) 99 [.int .u32 0, .int .u32 0, .int .u64 0, .int .u8 0, .int .u8 0]) := by
    have h := Blk.new ((w.alloc (.cells #[.int .u32 4294967295] 127)).alloc (.cells #[.pointer (some ⟨gb, 0, none⟩), .pointer (some ⟨w.heap.size, 0, none⟩), .int .i64 0] 146)) 99 [.int .u32 0, .int .u32 0, .int .u64 0, .int .u8 0, .int .u8 0]
    rw [World.size_alloc, World.size_alloc] at h
    exact h
  have HW1 : Hid (Below w.heap.size w (((w.alloc (.cells #[.int .u32 4294967295] 127)).alloc (.cells #[.pointer (some ⟨gb, 0, none⟩), .pointer (some ⟨w.heap.size, 0, none⟩), .int .i64 0] 146)).alloc (.cells #[.int .u32 0, .int .u32 0, .int .u64 0, .int .u8 0, .int .u8 0] 99))) := (((Below.refl _ _).alloc (Nat.le_refl _) _).alloc (by rw [World.size_alloc]; omega) _).alloc (by rw [World.size_alloc, World.size_alloc]; omega) _
  have HLT : Hid (gb < w.heap.size ∧ gs < w.heap.size ∧ w0.heap.size ≤ w.heap.size) := ⟨R.out.b.lt, HS.out.lt, HB.out.size⟩
  have HA : Hid (∀ g o, A = some ⟨g, o, none⟩ → 0 < n → g < w.heap.size) := fun g o e2 h0 => R.out.sl.lt e2 h0
  have R1 := Lib.hid (R.out.below HW1.out)
  have HB1 : Hid (Below w0.heap.size w0 (((w.alloc (.cells #[.int .u32 4294967295] 127)).alloc (.cells #[.pointer (some ⟨gb, 0, none⟩), .pointer (some ⟨w.heap.size, 0, none⟩), .int .i64 0] 146)).alloc (.cells #[.int .u32 0, .int .u32 0, .int .u64 0, .int .u8 0, .int .u8 0] 99))) := HB.out.trans (HW1.out.mono HB.out.size)
  have HEN : Hid (EnS w (((w.alloc (.cells #[.int .u32 4294967295] 127)).alloc (.cells #[.pointer (some ⟨gb, 0, none⟩), .pointer (some ⟨w.heap.size, 0, none⟩), .int .i64 0] 146)).alloc (.cells #[.int .u32 0, .int .u32 0, .int .u64 0, .int .u8 0, .int .u8 0] 99)) (w.heap.size + 1) gb w.heap.size (w.heap.size + 1 + 1) gs n c at' A l [] [.int .u32 0, .int .u32 0, .int .u64 0, .int .u8 0, .int .u8 0] [.slice Ak nk ck, .slice Av nv cv, .int .u32 off, lf]) :=
    ⟨⟨H2.out, R1.out.b, H1.out, R1.out.sl, R1.out.byt, R1.out.cap, R1.out.le, R1.out.big, (fun x hx => by cases hx), (by simp), (by have := HLT.out.1; omega), (by omega), (by have := HLT.out.1; omega), fun g o e2 h0 => ⟨(by have := HA.out g o e2 h0; omega), R1.out.apart g o e2 h0, (by have := HA.out g o e2 h0; omega)⟩⟩, H3.out, HS.out.frm (Frm.of_below HW1.out) (by simp), (Frm.of_below HW1.out).mono (fun i hi => by cases hi), ⟨by omega, by omega, by omega⟩, fun g o e2 h0 => ⟨HA.out g o e2 h0, HLA.out g o e2 h0⟩⟩
  clear H1 H2 H3 HW1 R R1 HS
  go_wp2_with fail
  generalize (((w.alloc (.cells #[.int .u32 4294967295] 127)).alloc (.cells #[.pointer (some ⟨gb, 0, none⟩), .pointer (some ⟨w.heap.size, 0, none⟩), .int .i64 0] 146)).alloc (.cells #[.int .u32 0, .int .u32 0, .int .u64 0, .int .u8 0, .int .u8 0] 99)) = w1 at *
  generalize hsz : w.heap.size = s at *
  have HSZ := Lib.hid hsz
  clear hsz
  have HZ1 := Lib.hid (HZ.out.below HB1.out)
  have H11 : Hid (11 ≤ w0.heap.size) := HZ.out.big
  refine (decodeFrom_any (s + 1) gb s (s + 1 + 1) n c at' A l k d e m u ae au b w1 HEN.out.r HEN.out.hd HP.out ⟨by omega, by omega⟩ ⟨by omega, by omega⟩ he HZ1.out.eof HZ1.out.une ⟨by have := H11.out; have := HLT.out; omega, by have := H11.out; omega, by have := H11.out; have := HLT.out; omega, by have := H11.out; have := HLT.out; omega⟩ ⟨by omega, by have := HLT.out; omega, by omega⟩ (fun g o e2 h0 => by have := HA.out g o e2 h0; omega)).mono ?_
  intro E w2 hE
  rcases hE with ⟨hbt, rfl, hD2⟩ | ⟨hbf, ⟨y, rfl, hy⟩, hf2⟩
  case inr =>
    have HFF : Hid (Frm [gb, gs] w w2) := HEN.out.f.trans hf2 (fun i hi => by
      simp only [List.mem_cons, List.not_mem_nil, or_false] at hi ⊢
      have := HSZ.out
      rcases hi with hi | hi | hi | hi
      · exact .inr (by omega)
      · exact .inl (.inl hi)
      · exact .inr (by omega)
      · exact .inr (by omega))
    clear hf2
    go_wp2
    go_ret2
    exact .inr ⟨fun h => by rw [hbf] at h; exact absurd h.1 (by decide), ⟨y, rfl, hy.imp id .inl⟩, HFF.out⟩
  have HN2 : Hid (EnS w w2 (s + 1) gb s (s + 1 + 1) gs n c (at' + (headB k d e m u).length) A l (headB k d e m u) [.int .u32 k, .int .u32 d, .int .u64 e, .int .u8 m, .int .u8 u] [.slice Ak nk ck, .slice Av nv cv, .int .u32 off, lf]) :=
    ⟨hD2.r, hD2.hd, HEN.out.sr.frm hD2.f (by
      simp only [List.mem_cons, List.not_mem_nil, or_false, not_or]
      have h1 := HLT.out
      have h2 := blk_neZ HEN.out.sr HEN.out.r.b (by decide)
      exact ⟨by omega, h2, by omega, by omega⟩), HEN.out.f.trans hD2.f (fun i hi => by
      simp only [List.mem_cons, List.not_mem_nil, or_false] at hi ⊢
      have := HSZ.out
      rcases hi with hi | hi | hi | hi
      · exact .inr (by omega)
      · exact .inl (.inl hi)
      · exact .inr (by omega)
      · exact .inr (by omega)), HEN.out.nw, HEN.out.la⟩
  have HB2 : Hid (Below w0.heap.size w0 w2) := HB1.out.trans (hD2.f.below HB1.out.size (fun i hi => by
    simp only [List.mem_cons, List.not_mem_nil, or_false] at hi
    have := HLT.out
    omega))
  clear hD2 HEN HB1 HZ1 HP
  generalize hF : headB k d e m u = F at *
  have HFE := Lib.hid hF
  clear hF
  generalize s + 1 + 1 = gh at *
  generalize s + 1 = gt at *
  have q0 := HN2.out.hd.at_ (i := 0) rfl
  have q1 := HN2.out.hd.at_ (i := 1) rfl
  have s0 := HN2.out.sr.at_ (i := 0) rfl
  have f0 := HN2.out.sr.frozen 0
  have hk6 : ¬ (k : Int) > 65536 := by omega
  have s1 := HN2.out.sr.at_ (i := 1) rfl
  have hk0 : (0 : Int) ≤ (k : Int) := by omega
  have hd0 : (0 : Int) ≤ (d : Int) := by omega
  rcases Nat.lt_or_ge ck k with hck | hck
  case' inl =>
    have hci : (ck : Int) < (k : Int) := by omega
    have hmk1 : (Instr.makeSlice 27 (.int .i64 (2 * (k : Int))) (.int .i64 (2 * (k : Int)))).run Tryz.prog w2 = .ok (.slice (some ⟨w2.heap.size, 0, none⟩) (2 * k) (2 * k)) (w2.alloc (.cells (Array.replicate (2 * k) (Value.int .u8 0)) 5)) := by
      have h := make_i64 (2 * k) w2 (by omega)
      rw [show ((2 * k : Nat) : Int) = 2 * (k : Int) by omega] at h
      exact h
    have HNa := Lib.hid (HN2.out.below ((Below.refl _ _).alloc (Nat.le_refl _) (.cells (Array.replicate (2 * k) (Value.int .u8 0)) 5)))
    have s0a := HNa.out.sr.at_ (i := 0) rfl
    have f0a := HNa.out.sr.frozen 0
    have HN3x := Lib.hid (HNa.out.put 0 (.slice (some ⟨w2.heap.size, 0, none⟩) (2 * k) (2 * k)))
    have HB3 : Hid (Below w0.heap.size w0 ((w2.alloc (.cells (Array.replicate (2 * k) (Value.int .u8 0)) 5)).setCell ⟨gs, 0, none⟩ (.slice (some ⟨w2.heap.size, 0, none⟩) (2 * k) (2 * k)))) := (HB2.out.alloc HB2.out.size _).setCell hgs _
    clear HN2 HNa HB2
    go_upto_region 11 with fail
    clear q0 q1 s0 f0 s1 s0a f0a hmk1
    generalize (w2.alloc (.cells (Array.replicate (2 * k) (Value.int .u8 0)) 5)).setCell ⟨gs, 0, none⟩ (.slice (some ⟨w2.heap.size, 0, none⟩) (2 * k) (2 * k)) = w3 at *
    obtain ⟨Ak3, nk3, ck3, HN3⟩ : ∃ a b x, Hid (EnS w w3 gt gb s gh gs n c (at' + F.length) A l F [.int .u32 k, .int .u32 d, .int .u64 e, .int .u8 m, .int .u8 u] [.slice a b x, .slice Av nv cv, .int .u32 off, lf]) := ⟨_, _, _, HN3x.out⟩
    clear HN3x
  case' inr =>
    have hci : ¬ (ck : Int) < (k : Int) := by omega
    go_upto_region 11 with fail
    clear q0 q1 s0 f0 s1
    have HB3 := HB2
    have HN3x := HN2
    clear HB2 HN2
    generalize w2 = w3 at *
    obtain ⟨Ak3, nk3, ck3, HN3⟩ : ∃ a b x, Hid (EnS w w3 gt gb s gh gs n c (at' + F.length) A l F [.int .u32 k, .int .u32 d, .int .u64 e, .int .u8 m, .int .u8 u] [.slice a b x, .slice Av nv cv, .int .u32 off, lf]) := ⟨_, _, _, HN3x.out⟩
    clear HN3x
  all_goals (
    have q1 := HN3.out.hd.at_ (i := 1) rfl
    have s1 := HN3.out.sr.at_ (i := 1) rfl
    have f1 := HN3.out.sr.frozen 1
    rcases Nat.lt_or_ge cv d with hcv | hcv
    case' inl =>
      have hdi : (cv : Int) < (d : Int) := by omega
      have hmk1 : (Instr.makeSlice 27 (.int .i64 (2 * (d : Int))) (.int .i64 (2 * (d : Int)))).run Tryz.prog w3 = .ok (.slice (some ⟨w3.heap.size, 0, none⟩) (2 * d) (2 * d)) (w3.alloc (.cells (Array.replicate (2 * d) (Value.int .u8 0)) 5)) := by
        have h := make_i64 (2 * d) w3 (by omega)
        rw [show ((2 * d : Nat) : Int) = 2 * (d : Int) by omega] at h
        exact h
      have HNa := Lib.hid (HN3.out.below ((Below.refl _ _).alloc (Nat.le_refl _) (.cells (Array.replicate (2 * d) (Value.int .u8 0)) 5)))
      have s1a := HNa.out.sr.at_ (i := 1) rfl
      have f1a := HNa.out.sr.frozen 1
      have HN5x := Lib.hid (HNa.out.put 1 (.slice (some ⟨w3.heap.size, 0, none⟩) (2 * d) (2 * d)))
      have HB5 : Hid (Below w0.heap.size w0 ((w3.alloc (.cells (Array.replicate (2 * d) (Value.int .u8 0)) 5)).setCell ⟨gs, 1, none⟩ (.slice (some ⟨w3.heap.size, 0, none⟩) (2 * d) (2 * d)))) := (HB3.out.alloc HB3.out.size _).setCell hgs _
      clear HN3 HNa HB3
      go_upto_region 14 with fail
      clear q1 s1 f1 s1a f1a hmk1
      generalize (w3.alloc (.cells (Array.replicate (2 * d) (Value.int .u8 0)) 5)).setCell ⟨gs, 1, none⟩ (.slice (some ⟨w3.heap.size, 0, none⟩) (2 * d) (2 * d)) = w5 at *
      obtain ⟨Av5, nv5, cv5, HN5⟩ : ∃ a b x, Hid (EnS w w5 gt gb s gh gs n c (at' + F.length) A l F [.int .u32 k, .int .u32 d, .int .u64 e, .int .u8 m, .int .u8 u] [.slice Ak3 nk3 ck3, .slice a b x, .int .u32 off, lf]) := ⟨_, _, _, HN5x.out⟩
      clear HN5x
    case' inr =>
      have hdi : ¬ (cv : Int) < (d : Int) := by omega
      go_upto_region 14 with fail
      clear q1 s1 f1
      have HB5 := HB3
      have HN5x := HN3
      clear HB3 HN3
      generalize w3 = w5 at *
      obtain ⟨Av5, nv5, cv5, HN5⟩ : ∃ a b x, Hid (EnS w w5 gt gb s gh gs n c (at' + F.length) A l F [.int .u32 k, .int .u32 d, .int .u64 e, .int .u8 m, .int .u8 u] [.slice Ak3 nk3 ck3, .slice a b x, .int .u32 off, lf]) := ⟨_, _, _, HN5x.out⟩
      clear HN5x)
  all_goals (
    have HNb := Lib.hid (HN5.out.below ((Below.refl _ _).alloc (Nat.le_refl _) (.cells #[.slice none 0 0, .slice none 0 0, .int .u64 0, .int .u64 0, .int .u32 0, .int .u8 0, .int .u8 0, .int .i64 0, .int .i64 0] 91)))
    have HEb : Hid (Blk (w5.alloc (.cells #[.slice none 0 0, .slice none 0 0, .int .u64 0, .int .u64 0, .int .u32 0, .int .u8 0, .int .u8 0, .int .i64 0, .int .i64 0] 91)) w5.heap.size 91 [.slice none 0 0, .slice none 0 0, .int .u64 0, .int .u64 0, .int .u32 0, .int .u8 0, .int .u8 0, .int .i64 0, .int .i64 0]) := Blk.new w5 _ _
    have HBb : Hid (Below w0.heap.size w0 (w5.alloc (.cells #[.slice none 0 0, .slice none 0 0, .int .u64 0, .int .u64 0, .int .u32 0, .int .u8 0, .int .u8 0, .int .i64 0, .int .i64 0] 91))) := HB5.out.alloc HB5.out.size _
    have HGE : Hid (s ≤ w5.heap.size) := by have := HN5.out.f.size; have := HSZ.out; show _ ≤ _; omega
    have s2 := HNb.out.sr.at_ (i := 2) rfl
    have b4 := HEb.out.at_ (i := 4) rfl
    have b7 := HEb.out.at_ (i := 7) rfl
    have y4 := HEb.out.frozen 4
    have y7 := HEb.out.frozen 7
    go_upto_region 17 with fail
    clear s2 b4 b7 y4 y7
    have HN6 : Hid (EnS w (w5.alloc (.cells #[.slice none 0 0, .slice none 0 0, .int .u64 0, .int .u64 0, .int .u32 off, .int .u8 0, .int .u8 0, .int .i64 F.length, .int .i64 0] 91)) gt gb s gh gs n c (at' + F.length) A l F [.int .u32 k, .int .u32 d, .int .u64 e, .int .u8 m, .int .u8 u] [.slice Ak3 nk3 ck3, .slice Av5 nv5 cv5, .int .u32 off, lf]) := HN5.out.below ((Below.refl _ _).alloc (Nat.le_refl _) _)
    have HE6 : Hid (Blk (w5.alloc (.cells #[.slice none 0 0, .slice none 0 0, .int .u64 0, .int .u64 0, .int .u32 off, .int .u8 0, .int .u8 0, .int .i64 F.length, .int .i64 0] 91)) w5.heap.size 91 [.slice none 0 0, .slice none 0 0, .int .u64 0, .int .u64 0, .int .u32 off, .int .u8 0, .int .u8 0, .int .i64 F.length, .int .i64 0]) := Blk.new w5 _ _
    have HB6 : Hid (Below w0.heap.size w0 (w5.alloc (.cells #[.slice none 0 0, .slice none 0 0, .int .u64 0, .int .u64 0, .int .u32 off, .int .u8 0, .int .u8 0, .int .i64 F.length, .int .i64 0] 91))) := HB5.out.alloc HB5.out.size _
    clear HN5 HB5 HNb HEb HBb
    generalize w5.alloc (.cells #[.slice none 0 0, .slice none 0 0, .int .u64 0, .int .u64 0, .int .u32 off, .int .u8 0, .int .u8 0, .int .i64 F.length, .int .i64 0] 91) = w6 at *
    generalize w5.heap.size = ge at *
    have q0 := HN6.out.hd.at_ (i := 0) rfl
    have q1 := HN6.out.hd.at_ (i := 1) rfl
    have hmk2 : (Instr.makeSlice 27 (.int .u32 ((k : Int) + (d : Int))) (.int .u32 ((k : Int) + (d : Int)))).run Tryz.prog w6 = .ok (.slice (some ⟨w6.heap.size, 0, none⟩) (k + d) (k + d)) (w6.alloc (.cells (Array.replicate (k + d) (Value.int .u8 0)) 5)) := by
      have h := make_u32 (k + d) w6 (by omega)
      rw [Int.natCast_add] at h
      exact h
    have HN7 := Lib.hid (HN6.out.below ((Below.refl _ _).alloc (Nat.le_refl _) (.cells (Array.replicate (k + d) (Value.int .u8 0)) 5)))
    have HE7 := Lib.hid (HE6.out.alloc (.cells (Array.replicate (k + d) (Value.int .u8 0)) 5))
    have HD7 : Hid (Blk (w6.alloc (.cells (Array.replicate (k + d) (Value.int .u8 0)) 5)) w6.heap.size 5 (List.replicate (k + d) (Value.int .u8 0))) := by
      have h := Blk.new w6 5 (List.replicate (k + d) (Value.int .u8 0))
      rw [List.toArray_replicate] at h
      exact h
    have HB7 := Lib.hid (HB6.out.alloc HB6.out.size (.cells (Array.replicate (k + d) (Value.int .u8 0)) 5))
    have HDs : Hid (s ≤ w6.heap.size) := by have := HN6.out.f.size; have := HSZ.out; show _ ≤ _; omega
    have hge6 := HE6.out.lt
    have hgne : Hid (w6.heap.size ≠ ge) := fun e => by omega
    clear HN6 HE6 HB6 hge6
    go_wp2_with fail
    clear q0 q1 hmk2
    generalize w6.alloc (.cells (Array.replicate (k + d) (Value.int .u8 0)) 5) = w7 at *
    generalize w6.heap.size = D at *
    have HNE : Hid (D ≠ gt ∧ D ≠ gb ∧ D ≠ s) := ⟨blk_neZ HD7.out HN7.out.r.t (by decide), blk_neZ HD7.out HN7.out.r.b (by decide), blk_neZ HD7.out HN7.out.r.k (by decide)⟩
    have HAD : Hid (∀ g o, A = some ⟨g, o, none⟩ → 0 < n → g ≠ D) := fun g o e2 h0 => by have := HA.out g o e2 h0; have := HDs.out; omega
    have HYL : Hid ((l.drop (at' + F.length)).length = n - (at' + F.length)) := by show _ = _; rw [List.length_drop, hln]
    have HZ7 := Lib.hid (HZ.out.below HB7.out)
    have HGN : Hid (∀ i ∈ [D, gt, gb, s], 8 ≤ i) := fun i hi => by
      have h1 := H11.out
      have h2 := HLT.out
      have h3 := HDs.out
      have h4 := HN7.out.nw
      have h5 := HSZ.out
      simp only [List.mem_cons, List.not_mem_nil, or_false] at hi
      omega
    have HFL : Hid (F.length ≤ 22) := HHL.out.2
    rcases Nat.lt_or_ge (l.drop (at' + F.length)).length (k + d) with hy1 | hy1
    case' inl =>
      refine (fullH_fail gt gb s D 5 (k + d) n c (at' + F.length) A _ l F w7 HN7.out.r HD7.out (by simp) HNE.out HAD.out (by omega) (by omega) (by have := HFL.out; omega) (by rw [← HYL.out]; exact hy1) ae au HZ7.out.eof HZ7.out.une HGN.out).mono ?_
      rintro E w8 ⟨kz, y, rfl, hor, hf8⟩
      have HFF : Hid (Frm [gb, gs] w w8) := HN7.out.fail (by have := HSZ.out; have := HDs.out; omega) hf8
      have HB8 : Hid (Below w0.heap.size w0 w8) := HB7.out.trans (hf8.below HB7.out.size (fun i hi => by
        simp only [List.mem_cons, List.not_mem_nil, or_false] at hi
        have h2 := HLT.out
        have h3 := HDs.out
        have h4 := HN7.out.nw
        have h5 := HSZ.out
        omega))
      have HZ8 := Lib.hid (HZ.out.below HB8.out)
      have v0 := HZ8.out.eof
      have v2 := HZ8.out.tru
      have hbad : ¬ GoodE b (l.drop (at' + F.length)) F k d := fun h => by have := h.2.1; omega
      have HBAD := Lib.hid hbad
      clear hf8 hbad
      rcases hor with rfl | rfl
      · go_wp2
        go_ret2
        exact .inr ⟨HBAD.out, ⟨at2, rfl, .inr (.inr rfl)⟩, HFF.out⟩
      · have eqo := eqErrZ HZ8.out.n1 HZ8.out.bu HZ8.out.be
        go_wp2
        go_ret2
        exact .inr ⟨HBAD.out, ⟨_, rfl, .inr (.inl rfl)⟩, HFF.out⟩
    refine (fullH_ok gt gb s D 5 (k + d) n c (at' + F.length) A _ l F w7 HN7.out.r HD7.out (by simp) HNE.out HAD.out (by omega) (by omega) (by have := HFL.out; omega) (by rw [← HYL.out]; exact hy1)).mono ?_
    rintro E w8 ⟨rfl, hr8, hd8, hf8⟩
    have HN8 := Lib.hid (HN7.out.read HD7.out (by decide) (by decide) (by have := HSZ.out; have := HDs.out; omega) hf8 hr8)
    have HE8 := Lib.hid (HE7.out.frm hf8 (by simp only [List.mem_cons, List.not_mem_nil, or_false, not_or]; exact ⟨fun e => hgne.out e.symm, blk_neZ HE7.out HN7.out.r.t (by decide), blk_neZ HE7.out HN7.out.r.b (by decide), blk_neZ HE7.out HN7.out.r.k (by decide)⟩))
    have HB8 : Hid (Below w0.heap.size w0 w8) := HB7.out.trans (hf8.below HB7.out.size (fun i hi => by
      simp only [List.mem_cons, List.not_mem_nil, or_false] at hi
      have h2 := HLT.out
      have h3 := HDs.out
      have h4 := HN7.out.nw
      have h5 := HSZ.out
      omega))
    have HD8 := Lib.hid hd8
    clear hr8 hd8 hf8 HN7 HE7 HD7 HB7 HZ7 HNE HAD
    have q0 := HN8.out.hd.at_ (i := 0) rfl
    have e0 := HE8.out.at_ (i := 0) rfl
    have e1 := HE8.out.at_ (i := 1) rfl
    have z0 := HE8.out.frozen 0
    have z1 := HE8.out.frozen 1
    have hkd1 : (k : Int) ≤ (k : Int) + (d : Int) := by omega
    have hkd2 : k ≤ k + d := by omega
    go_upto_region 24 with fail
    have hfg : Frm [ge] w8 (w8.setCell ⟨ge, 0, none⟩ (.slice (some ⟨D, 0, none⟩) k (k + d))) := Frm.set w8 ⟨ge, 0, none⟩ _
    have hges : w.heap.size ≤ ge := by have := HSZ.out; have := HGE.out; omega
    have HN9 := Lib.hid (HN8.out.own HE8.out hfg (by decide) (by decide) (by decide) (by decide) (by decide) hges)
    have HE9 := Lib.hid (HE8.out.set_ 0 (.slice (some ⟨D, 0, none⟩) k (k + d)))
    have HB9 := Lib.hid (HB8.out.setCell (by have := HLT.out; have := HGE.out; show w0.heap.size ≤ ge; omega) (.slice (some ⟨D, 0, none⟩) k (k + d)) (p := ⟨ge, 0, none⟩))
    have HD9 := Lib.hid (HD8.out.frm hfg (by rw [List.mem_singleton]; exact hgne.out))
    clear q0 e0 e1 z0 z1 hfg HN8 HE8 HB8 HD8
    generalize w8.setCell ⟨ge, 0, none⟩ (.slice (some ⟨D, 0, none⟩) k (k + d)) = w9 at *
    have q0 := HN9.out.hd.at_ (i := 0) rfl
    have e1 := HE9.out.at_ (i := 1) rfl
    have z1 := HE9.out.frozen 1
    have hfz : ∀ v, Frm [ge] w9 (w9.setCell ⟨ge, 1, none⟩ v) := fun v => Frm.set w9 ⟨ge, 1, none⟩ v
    clear hcv hdi
    rcases Nat.eq_zero_or_pos d with hd00 | hd00
    case' inl =>
      have HNA := Lib.hid (HN9.out.own HE9.out (hfz (.slice (some ⟨D, 0, none⟩) 0 0)) (by decide) (by decide) (by decide) (by decide) (by decide) hges)
      have HEA := Lib.hid (HE9.out.set_ 1 (.slice (some ⟨D, 0, none⟩) 0 0))
      have HBA := Lib.hid (HB9.out.setCell (by have := HLT.out; have := HGE.out; show w0.heap.size ≤ ge; omega) (.slice (some ⟨D, 0, none⟩) 0 0) (p := ⟨ge, 1, none⟩))
      have HDA := Lib.hid (HD9.out.frm (hfz (.slice (some ⟨D, 0, none⟩) 0 0)) (by rw [List.mem_singleton]; exact hgne.out))
      have hkk : k + d = k := by omega
      have hkkI : (k : Int) + (d : Int) = (k : Int) := by omega
      have HD0 := Lib.hid hd00
      clear hd00
      go_upto_region 25 with fail
      clear q0 e1 z1 hfz HN9 HE9 HB9 HD9 hkk hkkI
      generalize w9.setCell ⟨ge, 1, none⟩ (.slice (some ⟨D, 0, none⟩) 0 0) = wA at *
      have HVS : Hid (∃ VA VC, Blk wA ge 91 [.slice (some ⟨D, 0, none⟩) k (k + d), .slice VA d VC, .int .u64 0, .int .u64 0, .int .u32 off, .int .u8 0, .int .u8 0, .int .i64 F.length, .int .i64 0] ∧ d ≤ VC ∧ (0 < d → VA = some ⟨D, k, none⟩)) := ⟨some ⟨D, 0, none⟩, 0, by have h := HEA.out; have h0 := HD0.out; subst h0; exact h, by have := HD0.out; omega, fun h => by have := HD0.out; omega⟩
    case' inr =>
      have HNA := Lib.hid (HN9.out.own HE9.out (hfz (.slice (some ⟨D, k, none⟩) d d)) (by decide) (by decide) (by decide) (by decide) (by decide) hges)
      have HEA := Lib.hid (HE9.out.set_ 1 (.slice (some ⟨D, k, none⟩) d d))
      have HBA := Lib.hid (HB9.out.setCell (by have := HLT.out; have := HGE.out; show w0.heap.size ≤ ge; omega) (.slice (some ⟨D, k, none⟩) d d) (p := ⟨ge, 1, none⟩))
      have HDA := Lib.hid (HD9.out.frm (hfz (.slice (some ⟨D, k, none⟩) d d)) (by rw [List.mem_singleton]; exact hgne.out))
      have hkk : ¬ k + d = k := by omega
      have hkk2 : ¬ (k : Int) + (d : Int) = (k : Int) := by omega
      have hkk3 : ¬ d = 0 := by omega
      go_upto_region 25 with fail
      clear q0 e1 z1 hfz HN9 HE9 HB9 HD9 hkk hkk2 hkk3
      generalize w9.setCell ⟨ge, 1, none⟩ (.slice (some ⟨D, k, none⟩) d d) = wA at *
      have HVS : Hid (∃ VA VC, Blk wA ge 91 [.slice (some ⟨D, 0, none⟩) k (k + d), .slice VA d VC, .int .u64 0, .int .u64 0, .int .u32 off, .int .u8 0, .int .u8 0, .int .i64 F.length, .int .i64 0] ∧ d ≤ VC ∧ (0 < d → VA = some ⟨D, k, none⟩)) := ⟨some ⟨D, k, none⟩, d, HEA.out, Nat.le_refl _, fun _ => rfl⟩
    all_goals (
      obtain ⟨VA, VC, hEA1, hVC1, hVA1⟩ := HVS.out
      have HEA2 := Lib.hid hEA1
      have HVA := Lib.hid (And.intro hVC1 hVA1)
      clear HVS HEA hEA1 hVC1 hVA1
      have h44 : (4 : Int) ≤ ((Tryz.prog.arrayLen 107 : Nat) : Int) := by rw [arr4e]; decide
      have HNC := Lib.hid (HNA.out.below ((Below.refl _ _).alloc (Nat.le_refl _) (.cells #[.int .u8 0, .int .u8 0, .int .u8 0, .int .u8 0] 107)))
      have HEC := Lib.hid (HEA2.out.alloc (.cells #[.int .u8 0, .int .u8 0, .int .u8 0, .int .u8 0] 107))
      have HDC := Lib.hid (HDA.out.alloc (.cells #[.int .u8 0, .int .u8 0, .int .u8 0, .int .u8 0] 107))
      have HBC := Lib.hid (HBA.out.alloc HBA.out.size (.cells #[.int .u8 0, .int .u8 0, .int .u8 0, .int .u8 0] 107))
      have HCC : Hid (Blk (wA.alloc (.cells #[.int .u8 0, .int .u8 0, .int .u8 0, .int .u8 0] 107)) wA.heap.size 107 [.int .u8 0, .int .u8 0, .int .u8 0, .int .u8 0]) := Blk.new wA _ _
      have HDCs : Hid (s ≤ wA.heap.size) := by have := HNA.out.f.size; have := HSZ.out; show _ ≤ _; omega
      have HgC : Hid (ge < wA.heap.size) := HEA2.out.lt
      have HDl : Hid (D < wA.heap.size) := HDA.out.lt
      clear HNA HEA2 HDA HBA
      go_wp2_with fail
      skip
      clear h44
      generalize wA.alloc (.cells #[.int .u8 0, .int .u8 0, .int .u8 0, .int .u8 0] 107) = wC at *
      generalize wA.heap.size = C at *
      have HNEC : Hid (C ≠ gt ∧ C ≠ gb ∧ C ≠ s) := ⟨blk_neZ HCC.out HNC.out.r.t (by decide), blk_neZ HCC.out HNC.out.r.b (by decide), blk_neZ HCC.out HNC.out.r.k (by decide)⟩
      have HACC : Hid (∀ g o, A = some ⟨g, o, none⟩ → 0 < n → g ≠ C) := fun g o e2 h0 => by have := HA.out g o e2 h0; have := HDCs.out; omega
      have HZC := Lib.hid (HZ.out.below HBC.out)
      have HGC : Hid (∀ i ∈ [C, gb], 8 ≤ i) := fun i hi => by
        have h1 := H11.out
        have h2 := HLT.out
        have h3 := HDCs.out
        simp only [List.mem_cons, List.not_mem_nil, or_false] at hi
        omega
      have HBR : Hid (BrS wC gb n c (at' + F.length + (k + d)) A l) := ⟨HNC.out.r.b, HNC.out.r.sl, HNC.out.r.byt, HNC.out.r.cap, HNC.out.r.le, HNC.out.r.big, fun g o e2 h0 => (HNC.out.r.apart g o e2 h0).2.1⟩
      rcases Nat.lt_or_ge (n - (at' + F.length + (k + d))) 4 with hy2 | hy2
      case' inl =>
        refine (fullB_fail gb C 107 4 n c (at' + F.length + (k + d)) A _ l wC HBR.out HCC.out rfl HNEC.out.2.1 HACC.out (by omega) (by omega) hy2 ae au HZC.out.eof HZC.out.une HGC.out).mono ?_
        rintro E wE ⟨kz, y, rfl, hor, hfE⟩
        have HFF : Hid (Frm [gb, gs] w wE) := HNC.out.f.trans hfE (fun i hi => by
          simp only [List.mem_cons, List.not_mem_nil, or_false] at hi ⊢
          have := HSZ.out
          have := HDCs.out
          rcases hi with hi | hi
          · exact .inr (by omega)
          · exact .inl (.inl hi))
        have HBE : Hid (Below w0.heap.size w0 wE) := HBC.out.trans (hfE.below HBC.out.size (fun i hi => by
          simp only [List.mem_cons, List.not_mem_nil, or_false] at hi
          have h2 := HLT.out
          have h3 := HDCs.out
          omega))
        have HZE := Lib.hid (HZ.out.below HBE.out)
        have v0 := HZE.out.eof
        have v2 := HZE.out.tru
        have hbad : ¬ GoodE b (l.drop (at' + F.length)) F k d := fun h => by have := h.2.1; have := HYL.out; omega
        have HBAD := Lib.hid hbad
        clear hfE hbad
        rcases hor with rfl | rfl
        · go_wp2
          go_ret2
          exact .inr ⟨HBAD.out, ⟨at2, rfl, .inr (.inr rfl)⟩, HFF.out⟩
        · have eqo := eqErrZ HZE.out.n1 HZE.out.bu HZE.out.be
          go_wp2
          go_ret2
          exact .inr ⟨HBAD.out, ⟨_, rfl, .inr (.inl rfl)⟩, HFF.out⟩
      refine (fullB_ok gb C 107 4 n c (at' + F.length + (k + d)) A _ l wC HBR.out HCC.out rfl HNEC.out.2.1 HACC.out (by omega) (by omega) hy2).mono ?_
      rintro E wE ⟨rfl, hrE, hcE, hfE⟩
      have hfE4 : Frm [C, gt, gb, s] wC wE := hfE.mono (fun i hi => by
        simp only [List.mem_cons, List.not_mem_nil, or_false] at hi ⊢
        rcases hi with hi | hi
        · exact .inl (.inl hi)
        · exact .inl (.inr (.inr (.inl hi))))
      have HNE0 : Hid (EnS w wE gt gb s gh gs n c (at' + F.length + (k + d) + 4) A l (F ++ (l.drop (at' + F.length)).take (k + d)) [.int .u32 k, .int .u32 d, .int .u64 e, .int .u8 m, .int .u8 u] [.slice Ak3 nk3 ck3, .slice Av5 nv5 cv5, .int .u32 off, lf]) :=
        HNC.out.read HCC.out (by decide) (by decide) (by have := HSZ.out; have := HDCs.out; omega) hfE4
          ⟨HNC.out.r.t.frm hfE (by simp only [List.mem_cons, List.not_mem_nil, or_false, not_or]; exact ⟨fun e2 => HNEC.out.1 e2.symm, HNC.out.r.ntb⟩), hrE.b, HNC.out.r.k.frm hfE (by simp only [List.mem_cons, List.not_mem_nil, or_false, not_or]; exact ⟨fun e2 => HNEC.out.2.2 e2.symm, fun e2 => HNC.out.r.nbc e2.symm⟩), hrE.sl, hrE.byt, hrE.cap, hrE.le, hrE.big, HNC.out.r.hb, HNC.out.r.hl, HNC.out.r.ntb, HNC.out.r.ntc, HNC.out.r.nbc, HNC.out.r.apart⟩
      have HEE := Lib.hid (HEC.out.frm hfE (by simp only [List.mem_cons, List.not_mem_nil, or_false, not_or]; exact ⟨by have := HgC.out; omega, blk_neZ HEC.out HNC.out.r.b (by decide)⟩))
      have HDE := Lib.hid (HDC.out.frm hfE (by simp only [List.mem_cons, List.not_mem_nil, or_false, not_or]; exact ⟨by have := HDl.out; omega, blk_neZ HDC.out HNC.out.r.b (by decide)⟩))
      have HBE : Hid (Below w0.heap.size w0 wE) := HBC.out.trans (hfE.below HBC.out.size (fun i hi => by
        simp only [List.mem_cons, List.not_mem_nil, or_false] at hi
        have h2 := HLT.out
        have h3 := HDCs.out
        omega))
      obtain ⟨a0, a1, a2, a3, hl4, i0, i1, i2, i3⟩ := four_in (l.drop (at' + F.length + (k + d))) (fun x hx => hrE.byt x (List.mem_of_mem_drop hx)) (by rw [List.length_drop, hln]; omega)
      rw [hl4] at hcE
      have HCE := Lib.hid hcE
      have HL4 : Hid ((((l.drop (at' + F.length)).drop (k + d)).take 4) = [a0, a1, a2, a3]) := by show _ = _; rw [List.drop_drop]; exact hl4
      clear hrE hcE hfE hfE4 hl4 HNC HEC HDC HBC HCC HZC HBR
      go_wp2_with fail
      refine (bytesToU32_any (some ⟨C, 0, none⟩) 4 4 a0 a1 a2 a3 [] wE (by have h := HCE.out.sl (off := 0) (n := 4) (by rw [nums_length]; show 0 + 4 ≤ 4; omega); exact h) (by omega) i0 i1 i2 i3).mono ?_
      rintro E wF ⟨rfl, hfF⟩
      have HNF := Lib.hid (HNE0.out.below (hfF.below (Nat.le_refl _) (fun i hi => by cases hi)))
      have HEF := Lib.hid (HEE.out.frm hfF (by simp))
      have HDF := Lib.hid (HDE.out.frm hfF (by simp))
      have HBF : Hid (Below w0.heap.size w0 wF) := HBE.out.trans (hfF.below HBE.out.size (fun i hi => by cases hi))
      clear hfF HNE0 HEE HDE HBE HCE
      have IN4 : Hid (0 ≤ un32 a0 a1 a2 a3 ∧ un32 a0 a1 a2 a3 ≤ 4294967295) := in32 i0 i1 i2 i3
      go_wp2_with fail
      refine (hashSum_any gt gb s n c (at' + F.length + (k + d) + 4) A l _ wF HNF.out.r).mono ?_
      rintro E wG ⟨rfl, rfl⟩
      have HU : Hid (un32L [a0, a1, a2, a3] = un32 a0 a1 a2 a3) := rfl
      have HZF := Lib.hid (HZ.out.below HBF.out)
      have v2 := HZF.out.tru
      generalize hu3 : un32 a0 a1 a2 a3 = U3 at *
      generalize hcr3 : crcOut (F ++ (l.drop (at' + F.length)).take (k + d)) = C3 at *
      have HU3 := Lib.hid hu3
      have HC3 := Lib.hid hcr3
      clear hu3 hcr3
      rcases Decidable.em (U3 = C3) with hcr | hcr
      case' inr =>
        have HBAD : Hid (¬ GoodE b (l.drop (at' + F.length)) F k d) := fun h => hcr (by
          have h3 := h.2.2
          rw [HL4.out, HU.out, HC3.out] at h3
          exact h3)
        have HFF := Lib.hid HNF.out.f
        go_wp2
        go_quiet (fail)
        go_wp2
        go_ret2
        exact .inr ⟨HBAD.out, ⟨at2, rfl, .inr (.inr rfl)⟩, HFF.out.drewN _⟩
      have HGOOD : Hid (GoodE b (l.drop (at' + F.length)) F k d) := ⟨hbt, by have := HYL.out; omega, by rw [HL4.out, HU.out, HC3.out]; exact hcr⟩
      subst hcr
      have q3 := HNF.out.hd.at_ (i := 3) rfl
      have e6 := HEF.out.at_ (i := 6) rfl
      have z6 := HEF.out.frozen 6
      go_upto_region 35 with fail
      have hf6 : Frm [ge] wG (wG.setCell ⟨ge, 6, none⟩ (.int .u8 m)) := Frm.set wG ⟨ge, 6, none⟩ _
      have HNG := Lib.hid (HNF.out.own HEF.out hf6 (by decide) (by decide) (by decide) (by decide) (by decide) hges)
      have HEG := Lib.hid (HEF.out.set_ 6 (.int .u8 m))
      have HDG := Lib.hid (HDF.out.frm hf6 (by rw [List.mem_singleton]; exact hgne.out))
      clear q3 e6 z6 hf6 v2 HZF HNF HEF HDF HBF
      generalize wG.setCell ⟨ge, 6, none⟩ (.int .u8 m) = wH at *
      have q4 := HNG.out.hd.at_ (i := 4) rfl
      have e5 := HEG.out.at_ (i := 5) rfl
      have z5 := HEG.out.frozen 5
      go_upto_region 36 with fail
      have hf5 : Frm [ge] wH (wH.setCell ⟨ge, 5, none⟩ (.int .u8 u)) := Frm.set wH ⟨ge, 5, none⟩ _
      have HNH := Lib.hid (HNG.out.own HEG.out hf5 (by decide) (by decide) (by decide) (by decide) (by decide) hges)
      have HEH := Lib.hid (HEG.out.set_ 5 (.int .u8 u))
      have HDH := Lib.hid (HDG.out.frm hf5 (by rw [List.mem_singleton]; exact hgne.out))
      clear q4 e5 z5 hf5 HNG HEG HDG
      generalize wH.setCell ⟨ge, 5, none⟩ (.int .u8 u) = wI at *
      have q2 := HNH.out.hd.at_ (i := 2) rfl
      have e2' := HEH.out.at_ (i := 2) rfl
      have z2 := HEH.out.frozen 2
      go_wp2
      have hf2' : Frm [ge] wI (wI.setCell ⟨ge, 2, none⟩ (.int .u64 e)) := Frm.set wI ⟨ge, 2, none⟩ _
      have HNI := Lib.hid (HNH.out.own HEH.out hf2' (by decide) (by decide) (by decide) (by decide) (by decide) hges)
      have HEI := Lib.hid (HEH.out.set_ 2 (.int .u64 e))
      have HDI := Lib.hid (HDH.out.frm hf2' (by rw [List.mem_singleton]; exact hgne.out))
      clear q2 e2' z2 hf2'
      go_ret2
      exact .inl ⟨HGOOD.out, ge, rfl, entOk_of HNI.out HEI.out HDI.out HVA.out.1 HVA.out.2 hges (by have := HSZ.out; have := HDs.out; omega) (by have := HYL.out; have h := HGOOD.out.2.1; omega)⟩
    ))
end Go.Proofs.YtpfmmbhbmdbmeaaGreatDoor
