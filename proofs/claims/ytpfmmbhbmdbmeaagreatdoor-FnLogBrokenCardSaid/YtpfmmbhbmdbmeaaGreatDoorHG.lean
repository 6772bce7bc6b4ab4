/- A record, read: what stays. -/
import Derived.Test.YtpfmmbhbmdbmeaaGreatDoorHD
import Derived.Test.YtpfmmbhbmdbmeaaGreatDoorHE
import Derived.Test.YtpfmmbhbmdbmeaaGreatDoorHF
import Derived.Test.YtpfmmbhbmdbmeaaGreatDoorGA
namespace Go.Proofs.YtpfmmbhbmdbmeaaGreatDoor
open Go.RowKit
set_option linter.unusedVariables false
set_option linter.unusedSimpArgs false
attribute [local go_sem] eqErr
/-- The errors that the package keeps. -/
structure ErrZ (w : World) (ae au at2 : Addr) : Prop where
  eof : w.cell? ⟨0, 0, none⟩ = some (.iface 169 (.pointer (some ae)))
  une : w.cell? ⟨1, 0, none⟩ = some (.iface 169 (.pointer (some au)))
  tru : w.cell? ⟨2, 0, none⟩ = some (.iface 169 (.pointer (some at2)))
  n1 : au ≠ ae
  n2 : at2 ≠ ae
  n3 : at2 ≠ au
  be : ∃ c t, w.heap[ae.block]? = some (.cells c t (0, 0))
  bu : ∃ c t, w.heap[au.block]? = some (.cells c t (0, 0))
  bt : ∃ c t, w.heap[at2.block]? = some (.cells c t (0, 0))
  big : 11 ≤ w.heap.size
theorem cell_belZ {w w' : World} {p : Addr} {v : Value} (h : w.cell? p = some v) (hb : Below w.heap.size w w') : w'.cell? p = some v := by
  rw [hb.cell (World.block_lt_of_cell? w _ h)]; exact h
theorem ErrZ.below {w w' : World} {ae au at2 : Addr} (h : ErrZ w ae au at2) (hb : Below w.heap.size w w') : ErrZ w' ae au at2 := by
  have key : ∀ a c t, w.heap[Addr.block a]? = some (.cells c t (0, 0)) → w'.heap[Addr.block a]? = some (.cells c t (0, 0)) := fun a c t e => by
    rw [hb.block _ (by rcases Nat.lt_or_ge a.block w.heap.size with h' | h'; exact h'; simp [Array.getElem?_eq_none h'] at e)]
    exact e
  obtain ⟨c1, t1, h1⟩ := h.be
  obtain ⟨c2, t2, h2⟩ := h.bu
  obtain ⟨c3, t3, h3⟩ := h.bt
  exact ⟨cell_belZ h.eof hb, cell_belZ h.une hb, cell_belZ h.tru hb, h.n1, h.n2, h.n3, ⟨c1, t1, key _ _ _ h1⟩, ⟨c2, t2, key _ _ _ h2⟩, ⟨c3, t3, key _ _ _ h3⟩, Nat.le_trans h.big hb.size⟩
set_option maxRecDepth 100000 in
theorem eqErrZ {w : World} {x y : Addr} (hne : x ≠ y) (hx : ∃ c t, w.heap[x.block]? = some (.cells c t (0, 0))) (hy : ∃ c t, w.heap[y.block]? = some (.cells c t (0, 0))) : (binOp .eql 82 (.iface 169 (.pointer (some x))) (.iface 169 (.pointer (some y)))).run Tryz.prog w = .ok (.bool false) w := by
  obtain ⟨i, hi, hc⟩ := Option.map_eq_some_iff.1 errInfo.1
  obtain ⟨j, hj, hz⟩ := Option.map_eq_some_iff.1 errInfo.2
  obtain ⟨c1, t1, h1⟩ := hx
  obtain ⟨c2, t2, h2⟩ := hy
  exact run_eql_iface_ptr_other w Tryz.underlying82 errU hi hc hj (by rw [hz]; decide) hne h1 h2
theorem make_i64 (s : Nat) (W : World) (h : s ≤ 1000000) : (Instr.makeSlice 27 (.int .i64 (s : Int)) (.int .i64 (s : Int))).run Tryz.prog W = .ok (.slice (some ⟨W.heap.size, 0, none⟩) s s) (W.alloc (.cells (Array.replicate s (Value.int .u8 0)) 5)) := by
  obtain ⟨i0, hi0, hz0, hz1, hz2⟩ := info_parts infoU8
  have := run_make (P := Tryz.prog) W 27 5 i0 (.int .u8 0) Tryz.underlying27 hi0 hz0 .i64 .i64 (s : Int) (s : Int) (by omega) (by omega) (by rw [hz2]; omega) (by omega)
  rw [hz1, Nat.mul_one, Int.toNat_natCast] at this
  rw [this]
  have e : (Value.int .u8 0).cells = #[Value.int .u8 0] := rfl
  rw [e, made_listH, List.toArray_replicate]
theorem make_u32 (s : Nat) (W : World) (h : s ≤ 1000000) : (Instr.makeSlice 27 (.int .u32 (s : Int)) (.int .u32 (s : Int))).run Tryz.prog W = .ok (.slice (some ⟨W.heap.size, 0, none⟩) s s) (W.alloc (.cells (Array.replicate s (Value.int .u8 0)) 5)) := by
  obtain ⟨i0, hi0, hz0, hz1, hz2⟩ := info_parts infoU8
  have := run_make (P := Tryz.prog) W 27 5 i0 (.int .u8 0) Tryz.underlying27 hi0 hz0 .u32 .u32 (s : Int) (s : Int) (by omega) (by omega) (by rw [hz2]; omega) (by omega)
  rw [hz1, Nat.mul_one, Int.toNat_natCast] at this
  rw [this]
  have e : (Value.int .u8 0).cells = #[Value.int .u8 0] := rfl
  rw [e, made_listH, List.toArray_replicate]
set_option maxRecDepth 100000 in
theorem newHash_any (gb : Nat) (w : World) : Calls Tryz.prog 59 #[.pointer (some ⟨gb, 0, none⟩)] w (fun E w' => E = .returned (.pointer (some ⟨w.heap.size + 1, 0, none⟩)) ∧ w' = (w.alloc (.cells #[.int .u32 4294967295] 127)).alloc (.cells #[.pointer (some ⟨gb, 0, none⟩), .pointer (some ⟨w.heap.size, 0, none⟩), .int .i64 0] 146)) := by
  go_enter Tryz.func59, Tryz.ntmps59
  go_wp2_with fail
  refine (newCRC_any w).mono ?_
  rintro E w1 ⟨rfl, rfl⟩
  go_wp2
  go_ret
  exact ⟨by simp, rfl⟩
theorem blk_neZ {w : World} {a b t u : Nat} {cs ds : List Value} (h : Blk w a t cs) (k : Blk w b u ds) (hne : t ≠ u) : a ≠ b := fun e => by
  subst e
  have h1 : some _ = some _ := h.symm.trans k
  injection h1 with h1
  injection h1 with _ h2 _
  exact hne h2
/-- A record being read: the readers, the head, and what the reading keeps. -/
structure EnS (w wr : World) (gt gb gc gh gs n c at' : Nat) (A : Option Addr) (l F : List Int) (hv sv : List Value) : Prop where
  r : HrS wr gt gb gc n c at' A l F
  hd : Blk wr gh 99 hv
  sr : Blk wr gs 115 sv
  f : Frm [gb, gs] w wr
  nw : w.heap.size ≤ gt ∧ w.heap.size ≤ gc ∧ w.heap.size ≤ gh
  la : ∀ g o, A = some ⟨g, o, none⟩ → 0 < n → g < w.heap.size ∧ g ≠ gs
theorem EnS.below {w wr w2 : World} {gt gb gc gh gs n c at' : Nat} {A : Option Addr} {l F : List Int} {hv sv : List Value} (s : EnS w wr gt gb gc gh gs n c at' A l F hv sv) (hb : Below wr.heap.size wr w2) : EnS w w2 gt gb gc gh gs n c at' A l F hv sv :=
  ⟨s.r.below hb, s.hd.frm (Frm.of_below hb) (by simp), s.sr.frm (Frm.of_below hb) (by simp), s.f.andBelow hb, s.nw, s.la⟩
theorem EnS.put {w wr : World} {gt gb gc gh gs n c at' : Nat} {A : Option Addr} {l F : List Int} {hv sv : List Value} (s : EnS w wr gt gb gc gh gs n c at' A l F hv sv) (i : Nat) (v : Value) : EnS w (wr.setCell ⟨gs, i, none⟩ v) gt gb gc gh gs n c at' A l F hv (sv.set i v) := by
  have hf : Frm [gs] wr (wr.setCell ⟨gs, i, none⟩ v) := Frm.set wr ⟨gs, i, none⟩ _
  have one : ∀ {x : Nat}, x ∈ [gs] → x = gs := fun hx => List.mem_singleton.1 hx
  exact ⟨s.r.frm hf (fun hx => blk_neZ s.r.t s.sr (by decide) (one hx)) (fun hx => blk_neZ s.r.b s.sr (by decide) (one hx)) (fun hx => blk_neZ s.r.k s.sr (by decide) (one hx)) (fun g o e h0 hx => (s.la g o e h0).2 (one hx)), s.hd.frm hf (fun hx => blk_neZ s.hd s.sr (by decide) (one hx)), s.sr.set_ i v, s.f.andSet _ _ (.inl (by simp)), s.nw, s.la⟩
/-- A block that is the reading's own, set. -/
theorem EnS.own {w wr w2 : World} {gt gb gc gh gs n c at' D t : Nat} {A : Option Addr} {l F : List Int} {hv sv cs : List Value} (s : EnS w wr gt gb gc gh gs n c at' A l F hv sv) (hb : Blk wr D t cs) (hf : Frm [D] wr w2) (h1 : t ≠ 146) (h2 : t ≠ 134) (h3 : t ≠ 127) (h4 : t ≠ 99) (h5 : t ≠ 115) (hD : w.heap.size ≤ D) : EnS w w2 gt gb gc gh gs n c at' A l F hv sv := by
  have one : ∀ {x : Nat}, x ∈ [D] → x = D := fun hx => List.mem_singleton.1 hx
  exact ⟨s.r.frm hf (fun hx => blk_neZ hb s.r.t h1 (one hx).symm) (fun hx => blk_neZ hb s.r.b h2 (one hx).symm) (fun hx => blk_neZ hb s.r.k h3 (one hx).symm) (fun g o e h0 hx => by have := (s.la g o e h0).1; have := one hx; omega), s.hd.frm hf (fun hx => blk_neZ hb s.hd h4 (one hx).symm), s.sr.frm hf (fun hx => blk_neZ hb s.sr h5 (one hx).symm), s.f.trans hf (fun i hi => .inr ((one hi) ▸ hD)), s.nw, s.la⟩
def un32L : List Int → Int
  | [a, b, c, d] => un32 a b c d
  | _ => -1
set_option maxRecDepth 100000 in
theorem bytesToU32_any (A : Option Addr) (n c : Nat) (a0 a1 a2 a3 : Int) (r : List Int) (w : World) (h : Sl w A n (nums .u8 (a0 :: a1 :: a2 :: a3 :: r))) (hc : n ≤ c) (h0 : In8 a0) (h1 : In8 a1) (h2 : In8 a2) (h3 : In8 a3) :
    Calls Tryz.prog 62 #[.slice A n c] w fun e w' => e = .returned (.int .u32 (un32 a0 a1 a2 a3)) ∧ Frm [] w w' := by
  go_enter Tryz.func62, Tryz.ntmps62
  go_wp2_with fail
  refine (be32_any A n c a0 a1 a2 a3 r w h hc h0 h1 h2 h3).mono ?_
  rintro E w1 ⟨rfl, hd⟩
  have HD : Hid (Frm [] w w1) := Frm.of_below hd.below
  clear hd
  go_wp2
  go_ret
  exact ⟨rfl, HD.out⟩
set_option maxRecDepth 100000 in
theorem hashSum_any (gt gb gc n c at' : Nat) (A : Option Addr) (l h : List Int) (w : World) (r : HrS w gt gb gc n c at' A l h) : Calls Tryz.prog 63 #[.pointer (some ⟨gt, 0, none⟩)] w (fun E w' => E = .returned (.int .u32 (crcOut h)) ∧ w' = w) := by
  have t1 := r.t.at_ (i := 1) rfl
  have k0 := r.k.at_ (i := 0) rfl
  go_enter Tryz.func63, Tryz.ntmps63
  go_wp2_with fail
  refine (sum32_any gc (crcL h) w k0).mono ?_
  rintro E w1 ⟨rfl, rfl⟩
  go_wp2
  go_ret
  exact ⟨rfl, rfl⟩
end Go.Proofs.YtpfmmbhbmdbmeaaGreatDoor
