/- io.ReadFull over a reader of bytes that counts. -/
import Derived.Test.YtpfmmbhbmdbmeaaDoorZB
import Derived.Test.YtpfmmbhbmdbmeaaDoorPB
import Derived.Test.YtpfmmbhbmdbmeaaDoorF5
import Derived.LaidEql
namespace Go.Proofs.YtpfmmbhbmdbmeaaDoor
open Go.Proofs.YtpfmmbhbmdbmeaaDoorW.PrintLast
open Go.RowKit
set_option linter.unusedVariables false
set_option linter.unusedSimpArgs false
set_option maxRecDepth 100000 in
theorem errU : Tryd.prog.underlying 106 = some (.pointer 108) := by kernel_rfl
set_option maxRecDepth 100000 in
theorem errInfo : (Tryd.prog.info? 106).map (·.comparable) = some true ∧ (Tryd.prog.info? 108).map (·.size) = some 1 := ⟨by kernel_rfl, by kernel_rfl⟩
set_option maxRecDepth 100000 in
/-- An error is equal to itself. -/
theorem eqErr (a : Addr) (w : World) : (binOp .eql 56 (.iface 106 (.pointer (some a))) (.iface 106 (.pointer (some a)))).run Tryd.prog w = .ok (.bool true) w := by
  obtain ⟨i, hi, hc⟩ := info_some errInfo.1
  obtain ⟨j, hj, _⟩ := info_some errInfo.2
  exact run_eql_iface_ptr_same w a Tryd.underlying56 errU hi hc hj
attribute [local go_sem] eqErr
/-- A reader in memory: what it reads and where it is. -/
structure RdS (w : World) (g7 gb n c at' : Nat) (A : Option Addr) (l : List Int) : Prop where
  rd : Blk w g7 91 [.pointer (some ⟨gb, 0, none⟩), .int .i64 at']
  br : Blk w gb 89 [.slice A n c, .int .i64 at']
  sl : Sl w A n (nums .u8 l)
  cap : n ≤ c
  le : at' ≤ n
  ne : g7 ≠ gb
  big : n ≤ 1000000
  apart : ∀ g o, A = some ⟨g, o, none⟩ → 0 < n → g ≠ g7 ∧ g ≠ gb
theorem RdS.frm {w w' : World} {g7 gb n c at' : Nat} {A : Option Addr} {l : List Int} {L : List Nat} (h : RdS w g7 gb n c at' A l) (hf : Frm L w w') (h7 : g7 ∉ L) (hb : gb ∉ L) (hA : ∀ g o, A = some ⟨g, o, none⟩ → 0 < n → g ∉ L) : RdS w' g7 gb n c at' A l :=
  ⟨h.rd.frm hf h7, h.br.frm hf hb, h.sl.frm0 hf (fun b o e hn _ => hA b o e hn), h.cap, h.le, h.ne, h.big, h.apart⟩
theorem RdS.below {w w' : World} {g7 gb n c at' : Nat} {A : Option Addr} {l : List Int} (h : RdS w g7 gb n c at' A l) (hb : Below w.heap.size w w') : RdS w' g7 gb n c at' A l := h.frm (Frm.of_below hb) (by simp) (by simp) (fun _ _ _ _ hx => by cases hx)
theorem sl_two {w w2 : World} {A : Option Addr} {n D gb g7 : Nat} {xs : List Value} (h : Sl w A n xs) (hf : Frm [D, gb, g7] w w2) (hA : ∀ g o, A = some ⟨g, o, none⟩ → 0 < n → g ≠ g7 ∧ g ≠ gb) (hD : ∀ g o, A = some ⟨g, o, none⟩ → 0 < n → g ≠ D) : Sl w2 A n xs :=
  h.frm0 hf (fun b o e hn _ hx => by
    have h1 := hA b o e hn
    have h2 := hD b o e hn
    simp only [List.mem_cons, List.not_mem_nil, or_false] at hx
    rcases hx with hx | hx | hx
    · exact h2 hx
    · exact h1.2 hx
    · exact h1.1 hx)
def FullOk (g7 gb D t m n c at' : Nat) (A : Option Addr) (l : List Int) (w : World) (E : Ending) (w' : World) : Prop := E = .returned (.tuple #[.int .i64 m, .nilIface]) ∧ RdS w' g7 gb n c (at' + m) A l ∧ Blk w' D t (nums .u8 ((l.drop at').take m)) ∧ Frm [D, gb, g7] w w'
set_option maxRecDepth 100000 in
theorem readLeast_ok (g7 gb D t m n c at' : Nat) (A : Option Addr) (cs : List Value) (l : List Int) (w : World) (h : RdS w g7 gb n c at' A l) (hd : Blk w D t cs) (hcs : cs.length = m) (hD : D ≠ g7 ∧ D ≠ gb) (hAD : ∀ g o, A = some ⟨g, o, none⟩ → 0 < n → g ≠ D) (hm : m ≤ 1000000) (hr : m ≤ n - at') :
    Calls Tryd.prog 48 #[.iface 95 (.pointer (some ⟨g7, 0, none⟩)), .slice (some ⟨D, 0, none⟩) m m, .int .i64 m] w (FullOk g7 gb D t m n c at' A l w) := by
  have H := Lib.hid h
  have HD := Lib.hid hd
  have HAD := Lib.hid hAD
  have hn := h.big
  have hle := h.le
  clear h hd hAD
  by_cases h0 : m = 0
  · subst h0
    have hd0 : Hid (cs = nums .u8 ((l.drop at').take 0)) := List.eq_nil_of_length_eq_zero hcs
    go_enter Tryd.func48, Tryd.ntmps48
    go_wp2_with fail
    go_loopg [6, 7] 1 (fun f v6 v7 wr => v6 = .int .i64 0 ∧ v7 = .nilIface ∧ wr = w)
    case atStart => exact ⟨rfl, rfl, rfl⟩
    case round =>
      obtain ⟨rfl, rfl, rfl⟩ := hrel
      go_wp2
      go_ret2
      exact ⟨rfl, H.out, by rw [← hd0.out]; exact HD.out, Frm.refl _ _⟩
  · have hm0 : ¬ (m : Int) = 0 := by omega
    have hm1 : (0 : Int) < (m : Int) := by omega
    have hm2 : (0 : Int) ≤ (m : Int) := by omega
    have hat : at' < n := by omega
    have hmin : Nat.min (n - at') m = m := Nat.min_eq_right hr
    have hsp : Hid (splice cs 0 ((nums .u8 (l.drop at')).take m) = nums .u8 ((l.drop at').take m)) := by
      show _ = _
      rw [nums_take, splice_zero _ _ (by rw [List.length_take, nums_length, List.length_drop]; have := H.out.sl.1; rw [nums_length] at this; omega)]
    go_enter Tryd.func48, Tryd.ntmps48
    go_wp2_with fail
    go_loopg [6, 7] 1 (fun f v6 v7 wr => (f = 1 ∧ v6 = .int .i64 0 ∧ v7 = .nilIface ∧ wr = w) ∨ (v6 = .int .i64 m ∧ v7 = .nilIface ∧ Hid (RdS wr g7 gb n c (at' + m) A l ∧ Blk wr D t (nums .u8 ((l.drop at').take m)) ∧ Frm [D, gb, g7] w wr)))
    case atStart => exact .inl ⟨rfl, rfl, rfl, rfl⟩
    case round =>
      rcases hrel with ⟨rfl, rfl, rfl, rfl⟩ | ⟨rfl, rfl, hres⟩
      · go_wp2_with fail
        refine start_ (n := 13) (S := fun _ => True) (ds := []) #[ff,ff,ff,ff,ff,ff,ff,ff,ff,ff,ff,ff,ff] (by kernel_rfl) rfl rfl (trivial) (fun hHeld => ?_)
        refine pure_ (i := 0) (N := some 22) (v := ?_) (a' := ?_) #[tt,ff,ff,ff,ff,ff,ff,ff,ff,ff,ff,ff,ff] rfl rfl (by kernel_rfl) (fun _ _ _ h => h) (Or.inl ⟨by rfl, ?_⟩) ?_ ?_; rotate_left; (intro w'; go_simp; with_reducible rfl); rotate_left; (simp only [Act.put, List.setIfInBounds_toArray, List.set_cons_zero, List.set_cons_succ, i64_w, i32_w]; rfl)
        refine pure_ (i := 1) (N := some 23) (v := ?_) (a' := ?_) #[tt,tt,ff,ff,ff,ff,ff,ff,ff,ff,ff,ff,ff] rfl rfl (by kernel_rfl) (fun _ _ _ h => h) (Or.inl ⟨by rfl, ?_⟩) ?_ ?_; rotate_left; (intro w'; go_simp; with_reducible rfl); rotate_left; (simp only [Act.put, List.setIfInBounds_toArray, List.set_cons_zero, List.set_cons_succ, i64_w, i32_w]; rfl)
        refine pure_ (i := 2) (N := some 24) (v := ?_) (a' := ?_) #[tt,tt,tt,ff,ff,ff,ff,ff,ff,ff,ff,ff,ff] rfl rfl (by kernel_rfl) (fun _ _ _ h => h) (Or.inl ⟨by rfl, ?_⟩) ?_ ?_; rotate_left; (intro w'; go_simp; with_reducible rfl); rotate_left; (simp only [Act.put, List.setIfInBounds_toArray, List.set_cons_zero, List.set_cons_succ, i64_w, i32_w]; rfl)
        refine pure_ (i := 3) (N := some 25) (v := ?_) (a' := ?_) #[tt,tt,tt,tt,ff,ff,ff,ff,ff,ff,ff,ff,ff] rfl rfl (by kernel_rfl) (fun _ _ _ h => h) (Or.inl ⟨by rfl, ?_⟩) ?_ ?_; rotate_left; (intro w'; go_simp; with_reducible rfl); rotate_left; (simp only [Act.put, List.setIfInBounds_toArray, List.set_cons_zero, List.set_cons_succ, i64_w, i32_w]; rfl)
        refine pure_ (i := 4) (N := some 26) (v := .func (.method "Read") #[.iface 95 (.pointer (some ⟨g7, 0, none⟩))] #[]) (a' := ?_) #[tt,tt,tt,tt,tt,ff,ff,ff,ff,ff,ff,ff,ff] rfl rfl (by kernel_rfl) (fun _ _ _ h => h) (Or.inl ⟨by rfl, (by intro w_; kernel_rfl)⟩) ?_ ?_; rotate_left; (simp only [Act.put, List.setIfInBounds_toArray, List.set_cons_zero, List.set_cons_succ, i64_w, i32_w]; rfl)
        refine pure_ (i := 5) (N := some 27) (v := .func (.method "Read") #[.iface 95 (.pointer (some ⟨g7, 0, none⟩))] #[]) (a' := ?_) #[tt,tt,tt,tt,tt,tt,ff,ff,ff,ff,ff,ff,ff] rfl rfl (by kernel_rfl) (fun _ _ _ h => h) (Or.inl ⟨by rfl, (by intro w_; kernel_rfl)⟩) ?_ ?_; rotate_left; (simp only [Act.put, List.setIfInBounds_toArray, List.set_cons_zero, List.set_cons_succ, i64_w, i32_w]; rfl)
        refine pure_ (i := 6) (N := some 28) (v := ?_) (a' := ?_) #[tt,tt,tt,tt,tt,tt,tt,ff,ff,ff,ff,ff,ff] rfl rfl (by kernel_rfl) (fun _ _ _ h => h) (Or.inl ⟨by rfl, ?_⟩) ?_ ?_; rotate_left; (intro w'; go_simp; with_reducible rfl); rotate_left; (simp only [Act.put, List.setIfInBounds_toArray, List.set_cons_zero, List.set_cons_succ, i64_w, i32_w]; rfl)
        refine one_ (i := 7) (N := some 29) #[tt,tt,tt,tt,tt,tt,tt,tt,ff,ff,ff,ff,ff] rfl rfl (by kernel_rfl) (by decide) (fun K hK => ?_); refine call_ 71 #[.pointer (some ⟨g7, 0, none⟩), .slice (some ⟨D, 0, none⟩) m m] (by rfl) rfl (by kernel_rfl) ?_
        refine (countRead_some g7 gb D 0 t m m n c at' A (some ⟨D, 0, none⟩) cs l wr.drew (H.out.rd.frm (Frm.refl [] _).drew (by simp)) (H.out.br.frm (Frm.refl [] _).drew (by simp)) (H.out.sl.frm0 (Frm.refl [] _).drew (fun _ _ _ _ _ hx => by cases hx)) H.out.cap hat hn (HD.out.frm (Frm.refl [] _).drew (by simp)) (fun _ => rfl) (by omega) hm (fun e => hD.2 e.symm) (fun e => hD.1 e.symm) H.out.ne).mono ?_
        rintro E w2 ⟨rfl, hd2, hb2, hr2, hf2⟩
        rw [hsp.out] at hd2
        rw [hmin] at hb2 hr2 ⊢
        have hfw : Frm [D, gb, g7] wr w2 := ((Frm.refl [D, gb, g7] wr).drew).trans hf2 (fun i hi => .inl hi)
        have hq : RdS w2 g7 gb n c (at' + m) A l ∧ Blk w2 D t (nums .u8 ((l.drop at').take m)) ∧ Frm [D, gb, g7] wr w2 := ⟨⟨hr2, hb2, sl_two H.out.sl hfw H.out.apart HAD.out, H.out.cap, by omega, H.out.ne, H.out.big, H.out.apart⟩, hd2, hfw⟩
        clear hd2 hb2 hr2 hf2 hfw
        refine ⟨_, rfl, ?_⟩
        refine hK.out _ _ (trivial) (fun hHeld => ?_); clear hK K; refine norm_ (a' := ?_) ?_ ?_; rotate_left; (show Act.put _ (some 29) _ = _; simp only [Act.put, List.setIfInBounds_toArray, List.set_cons_zero, List.set_cons_succ, i64_w, i32_w]; rfl)
        refine pure_ (i := 8) (N := some 21) (v := ?_) (a' := ?_) #[tt,tt,tt,tt,tt,tt,tt,tt,tt,ff,ff,ff,ff] rfl rfl (by kernel_rfl) (fun _ _ _ h => h) (Or.inl ⟨by rfl, ?_⟩) ?_ ?_; rotate_left; (intro w'; go_simp; with_reducible rfl); rotate_left; (simp only [Act.put, List.setIfInBounds_toArray, List.set_cons_zero, List.set_cons_succ, i64_w, i32_w]; rfl)
        refine pure_ (i := 9) (N := some 30) (v := ?_) (a' := ?_) #[tt,tt,tt,tt,tt,tt,tt,tt,tt,tt,ff,ff,ff] rfl rfl (by kernel_rfl) (fun _ _ _ h => h) (Or.inl ⟨by rfl, ?_⟩) ?_ ?_; rotate_left; (intro w'; go_simp; with_reducible rfl); rotate_left; (simp only [Act.put, List.setIfInBounds_toArray, List.set_cons_zero, List.set_cons_succ, i64_w, i32_w]; rfl)
        refine pure_ (i := 10) (N := some 31) (v := ?_) (a' := ?_) #[tt,tt,tt,tt,tt,tt,tt,tt,tt,tt,tt,ff,ff] rfl rfl (by kernel_rfl) (fun _ _ _ h => h) (Or.inl ⟨by rfl, ?_⟩) ?_ ?_; rotate_left; (intro w'; go_simp; with_reducible rfl); rotate_left; (simp only [Act.put, List.setIfInBounds_toArray, List.set_cons_zero, List.set_cons_succ, i64_w, i32_w]; rfl)
        refine pure_ (i := 11) (N := some 8) (v := ?_) (a' := ?_) #[tt,tt,tt,tt,tt,tt,tt,tt,tt,tt,tt,tt,ff] rfl rfl (by kernel_rfl) (fun _ _ _ h => h) (Or.inl ⟨by rfl, ?_⟩) ?_ ?_; rotate_left; (intro w'; go_simp; with_reducible rfl); rotate_left; (simp only [Act.put, List.setIfInBounds_toArray, List.set_cons_zero, List.set_cons_succ, i64_w, i32_w]; rfl)
        refine pure_ (i := 12) (N := some 7) (v := ?_) (a' := ?_) #[tt,tt,tt,tt,tt,tt,tt,tt,tt,tt,tt,tt,tt] rfl rfl (by kernel_rfl) (fun _ _ _ h => h) (Or.inl ⟨by rfl, ?_⟩) ?_ ?_; rotate_left; (intro w'; go_simp; with_reducible rfl); rotate_left; (simp only [Act.put, List.setIfInBounds_toArray, List.set_cons_zero, List.set_cons_succ, i64_w, i32_w]; rfl)
        refine done_ (by kernel_rfl) ?_
        have HX := Lib.hid hq
        clear hq
        go_wp2
        go_roundg 0
        case measure => omega
        case rel => exact .inr ⟨rfl, rfl, HX.out⟩
      · have hmm : ¬ (m : Int) < (m : Int) := by omega
        have hmg : (m : Int) ≤ (m : Int) := by omega
        go_wp2
        go_ret2
        exact ⟨rfl, hres.out.1, hres.out.2.1, hres.out.2.2⟩
def FullEnd (g7 gb D t n c at' : Nat) (A : Option Addr) (cs : List Value) (l : List Int) (V : Value) (w : World) (E : Ending) (w' : World) : Prop := E = .returned (.tuple #[.int .i64 0, V]) ∧ RdS w' g7 gb n c at' A l ∧ Blk w' D t cs ∧ Frm [g7] w w'
set_option maxRecDepth 100000 in
theorem readLeast_end (g7 gb D t m n c at' : Nat) (A : Option Addr) (cs : List Value) (l : List Int) (w : World) (h : RdS w g7 gb n c at' A l) (hd : Blk w D t cs) (hcs : cs.length = m) (hD : D ≠ g7 ∧ D ≠ gb) (hAD : ∀ g o, A = some ⟨g, o, none⟩ → 0 < n → g ≠ D) (hm : m ≤ 1000000) (hr : at' = n) (h0 : 0 < m) (te : TypeId) (pe : Value) (hV : w.cell? ⟨1, 0, none⟩ = some (.iface te pe)) :
    Calls Tryd.prog 48 #[.iface 95 (.pointer (some ⟨g7, 0, none⟩)), .slice (some ⟨D, 0, none⟩) m m, .int .i64 m] w (FullEnd g7 gb D t n c at' A cs l (.iface te pe) w) := by
  have H := Lib.hid h
  have HD := Lib.hid hd
  have HAD := Lib.hid hAD
  have HV := Lib.hid hV
  have hn := h.big
  have hle := h.le
  clear h hd hAD hV
  have hm0 : ¬ (m : Int) = 0 := by omega
  have hm1 : (0 : Int) < (m : Int) := by omega
  have hm2 : (0 : Int) ≤ (m : Int) := by omega
  have hm3 : ¬ (m : Int) ≤ 0 := by omega
  go_enter Tryd.func48, Tryd.ntmps48
  go_wp2_with fail
  go_loopg [6, 7] 1 (fun f v6 v7 wr => (f = 1 ∧ v6 = .int .i64 0 ∧ v7 = .nilIface ∧ wr = w) ∨ (v6 = .int .i64 0 ∧ v7 = .iface te pe ∧ Hid (RdS wr g7 gb n c at' A l ∧ Blk wr D t cs ∧ Frm [g7] w wr)))
  case atStart => exact .inl ⟨rfl, rfl, rfl, rfl⟩
  case round =>
    rcases hrel with ⟨rfl, rfl, rfl, rfl⟩ | ⟨rfl, rfl, hres⟩
    · go_wp2_with fail
      refine start_ (n := 13) (S := fun _ => True) (ds := []) #[ff,ff,ff,ff,ff,ff,ff,ff,ff,ff,ff,ff,ff] (by kernel_rfl) rfl rfl (trivial) (fun hHeld => ?_)
      refine pure_ (i := 0) (N := some 22) (v := ?_) (a' := ?_) #[tt,ff,ff,ff,ff,ff,ff,ff,ff,ff,ff,ff,ff] rfl rfl (by kernel_rfl) (fun _ _ _ h => h) (Or.inl ⟨by rfl, ?_⟩) ?_ ?_; rotate_left; (intro w'; go_simp; with_reducible rfl); rotate_left; (simp only [Act.put, List.setIfInBounds_toArray, List.set_cons_zero, List.set_cons_succ, i64_w, i32_w]; rfl)
      refine pure_ (i := 1) (N := some 23) (v := ?_) (a' := ?_) #[tt,tt,ff,ff,ff,ff,ff,ff,ff,ff,ff,ff,ff] rfl rfl (by kernel_rfl) (fun _ _ _ h => h) (Or.inl ⟨by rfl, ?_⟩) ?_ ?_; rotate_left; (intro w'; go_simp; with_reducible rfl); rotate_left; (simp only [Act.put, List.setIfInBounds_toArray, List.set_cons_zero, List.set_cons_succ, i64_w, i32_w]; rfl)
      refine pure_ (i := 2) (N := some 24) (v := ?_) (a' := ?_) #[tt,tt,tt,ff,ff,ff,ff,ff,ff,ff,ff,ff,ff] rfl rfl (by kernel_rfl) (fun _ _ _ h => h) (Or.inl ⟨by rfl, ?_⟩) ?_ ?_; rotate_left; (intro w'; go_simp; with_reducible rfl); rotate_left; (simp only [Act.put, List.setIfInBounds_toArray, List.set_cons_zero, List.set_cons_succ, i64_w, i32_w]; rfl)
      refine pure_ (i := 3) (N := some 25) (v := ?_) (a' := ?_) #[tt,tt,tt,tt,ff,ff,ff,ff,ff,ff,ff,ff,ff] rfl rfl (by kernel_rfl) (fun _ _ _ h => h) (Or.inl ⟨by rfl, ?_⟩) ?_ ?_; rotate_left; (intro w'; go_simp; with_reducible rfl); rotate_left; (simp only [Act.put, List.setIfInBounds_toArray, List.set_cons_zero, List.set_cons_succ, i64_w, i32_w]; rfl)
      refine pure_ (i := 4) (N := some 26) (v := .func (.method "Read") #[.iface 95 (.pointer (some ⟨g7, 0, none⟩))] #[]) (a' := ?_) #[tt,tt,tt,tt,tt,ff,ff,ff,ff,ff,ff,ff,ff] rfl rfl (by kernel_rfl) (fun _ _ _ h => h) (Or.inl ⟨by rfl, (by intro w_; kernel_rfl)⟩) ?_ ?_; rotate_left; (simp only [Act.put, List.setIfInBounds_toArray, List.set_cons_zero, List.set_cons_succ, i64_w, i32_w]; rfl)
      refine pure_ (i := 5) (N := some 27) (v := .func (.method "Read") #[.iface 95 (.pointer (some ⟨g7, 0, none⟩))] #[]) (a' := ?_) #[tt,tt,tt,tt,tt,tt,ff,ff,ff,ff,ff,ff,ff] rfl rfl (by kernel_rfl) (fun _ _ _ h => h) (Or.inl ⟨by rfl, (by intro w_; kernel_rfl)⟩) ?_ ?_; rotate_left; (simp only [Act.put, List.setIfInBounds_toArray, List.set_cons_zero, List.set_cons_succ, i64_w, i32_w]; rfl)
      refine pure_ (i := 6) (N := some 28) (v := ?_) (a' := ?_) #[tt,tt,tt,tt,tt,tt,tt,ff,ff,ff,ff,ff,ff] rfl rfl (by kernel_rfl) (fun _ _ _ h => h) (Or.inl ⟨by rfl, ?_⟩) ?_ ?_; rotate_left; (intro w'; go_simp; with_reducible rfl); rotate_left; (simp only [Act.put, List.setIfInBounds_toArray, List.set_cons_zero, List.set_cons_succ, i64_w, i32_w]; rfl)
      refine one_ (i := 7) (N := some 29) #[tt,tt,tt,tt,tt,tt,tt,tt,ff,ff,ff,ff,ff] rfl rfl (by kernel_rfl) (by decide) (fun K hK => ?_); refine call_ 71 #[.pointer (some ⟨g7, 0, none⟩), .slice (some ⟨D, 0, none⟩) m m] (by rfl) rfl (by kernel_rfl) ?_
      refine (countRead_end g7 gb n c at' m m A (some ⟨D, 0, none⟩) (.iface te pe) wr.drew (H.out.rd.frm (Frm.refl [] _).drew (by simp)) (H.out.br.frm (Frm.refl [] _).drew (by simp)) (by omega) (by omega) HV.out).mono ?_
      rintro E w2 ⟨rfl, hf2, hr2⟩
      have hfw : Frm [g7] wr w2 := ((Frm.refl [g7] wr).drew).trans hf2 (fun i hi => .inl hi)
      have hq : RdS w2 g7 gb n c at' A l ∧ Blk w2 D t cs ∧ Frm [g7] wr w2 := ⟨⟨hr2, H.out.br.frm hfw (by rw [List.mem_singleton]; exact fun e => H.out.ne e.symm), H.out.sl.frm0 hfw (fun b o e hn _ hx => by rw [List.mem_singleton] at hx; exact (H.out.apart b o e hn).1 hx), H.out.cap, H.out.le, H.out.ne, H.out.big, H.out.apart⟩, HD.out.frm hfw (by rw [List.mem_singleton]; exact hD.1), hfw⟩
      clear hf2 hr2 hfw
      refine ⟨_, rfl, ?_⟩
      refine hK.out _ _ (trivial) (fun hHeld => ?_); clear hK K; refine norm_ (a' := ?_) ?_ ?_; rotate_left; (show Act.put _ (some 29) _ = _; simp only [Act.put, List.setIfInBounds_toArray, List.set_cons_zero, List.set_cons_succ, i64_w, i32_w]; rfl)
      refine pure_ (i := 8) (N := some 21) (v := ?_) (a' := ?_) #[tt,tt,tt,tt,tt,tt,tt,tt,tt,ff,ff,ff,ff] rfl rfl (by kernel_rfl) (fun _ _ _ h => h) (Or.inl ⟨by rfl, ?_⟩) ?_ ?_; rotate_left; (intro w'; go_simp; with_reducible rfl); rotate_left; (simp only [Act.put, List.setIfInBounds_toArray, List.set_cons_zero, List.set_cons_succ, i64_w, i32_w]; rfl)
      refine pure_ (i := 9) (N := some 30) (v := ?_) (a' := ?_) #[tt,tt,tt,tt,tt,tt,tt,tt,tt,tt,ff,ff,ff] rfl rfl (by kernel_rfl) (fun _ _ _ h => h) (Or.inl ⟨by rfl, ?_⟩) ?_ ?_; rotate_left; (intro w'; go_simp; with_reducible rfl); rotate_left; (simp only [Act.put, List.setIfInBounds_toArray, List.set_cons_zero, List.set_cons_succ, i64_w, i32_w]; rfl)
      refine pure_ (i := 10) (N := some 31) (v := ?_) (a' := ?_) #[tt,tt,tt,tt,tt,tt,tt,tt,tt,tt,tt,ff,ff] rfl rfl (by kernel_rfl) (fun _ _ _ h => h) (Or.inl ⟨by rfl, ?_⟩) ?_ ?_; rotate_left; (intro w'; go_simp; with_reducible rfl); rotate_left; (simp only [Act.put, List.setIfInBounds_toArray, List.set_cons_zero, List.set_cons_succ, i64_w, i32_w]; rfl)
      refine pure_ (i := 11) (N := some 8) (v := ?_) (a' := ?_) #[tt,tt,tt,tt,tt,tt,tt,tt,tt,tt,tt,tt,ff] rfl rfl (by kernel_rfl) (fun _ _ _ h => h) (Or.inl ⟨by rfl, ?_⟩) ?_ ?_; rotate_left; (intro w'; go_simp; with_reducible rfl); rotate_left; (simp only [Act.put, List.setIfInBounds_toArray, List.set_cons_zero, List.set_cons_succ, i64_w, i32_w]; rfl)
      refine pure_ (i := 12) (N := some 7) (v := ?_) (a' := ?_) #[tt,tt,tt,tt,tt,tt,tt,tt,tt,tt,tt,tt,tt] rfl rfl (by kernel_rfl) (fun _ _ _ h => h) (Or.inl ⟨by rfl, ?_⟩) ?_ ?_; rotate_left; (intro w'; go_simp; with_reducible rfl); rotate_left; (simp only [Act.put, List.setIfInBounds_toArray, List.set_cons_zero, List.set_cons_succ, i64_w, i32_w]; rfl)
      refine done_ (by kernel_rfl) ?_
      have HX := Lib.hid hq
      clear hq
      go_wp2
      go_roundg 0
      case measure => omega
      case rel => exact .inr ⟨rfl, rfl, HX.out⟩
    · go_wp2
      go_ret2
      exact ⟨rfl, hres.out.1, hres.out.2.1, hres.out.2.2⟩
def FullShort (g7 gb D t n c k : Nat) (A : Option Addr) (cs : List Value) (l : List Int) (V : Value) (w : World) (E : Ending) (w' : World) : Prop := E = .returned (.tuple #[.int .i64 k, V]) ∧ RdS w' g7 gb n c n A l ∧ (∃ ds, ds.length = cs.length ∧ Blk w' D t ds) ∧ Frm [D, gb, g7] w w'
set_option maxRecDepth 100000 in
theorem readLeast_short (g7 gb D t m n c at' : Nat) (A : Option Addr) (cs : List Value) (l : List Int) (w : World) (h : RdS w g7 gb n c at' A l) (hd : Blk w D t cs) (hcs : cs.length = m) (hD : D ≠ g7 ∧ D ≠ gb) (hAD : ∀ g o, A = some ⟨g, o, none⟩ → 0 < n → g ≠ D) (hm : m ≤ 1000000) (k : Nat) (hk : n - at' = k) (h0 : 0 < k) (hkm : k < m) (ae : Addr) (V2 : Value) (hV : w.cell? ⟨1, 0, none⟩ = some (.iface 106 (.pointer (some ae)))) (hV2 : w.cell? ⟨2, 0, none⟩ = some V2) (hG : 5 ≤ D ∧ 5 ≤ gb ∧ 5 ≤ g7) :
    Calls Tryd.prog 48 #[.iface 95 (.pointer (some ⟨g7, 0, none⟩)), .slice (some ⟨D, 0, none⟩) m m, .int .i64 m] w (FullShort g7 gb D t n c k A cs l V2 w) := by
  have H := Lib.hid h
  have HD := Lib.hid hd
  have HAD := Lib.hid hAD
  have HV := Lib.hid hV
  have HV2 := Lib.hid hV2
  have HGL : Hid (∀ x ∈ [D, gb, g7], 5 ≤ x) := fun x hx => by
    simp only [List.mem_cons, List.not_mem_nil, or_false] at hx
    rcases hx with rfl | rfl | rfl
    · exact hG.1
    · exact hG.2.1
    · exact hG.2.2
  have hn := h.big
  have hle := h.le
  clear h hd hAD hV hV2
  have hm0 : ¬ (m : Int) = 0 := by omega
  have hm1 : (0 : Int) < (m : Int) := by omega
  have hm2 : (0 : Int) ≤ (m : Int) := by omega
  have hk1 : (0 : Int) < (k : Int) := by omega
  have hk2 : (k : Int) < (m : Int) := by omega
  have hk3 : (k : Int) ≤ (m : Int) := by omega
  have hk4 : (0 : Int) ≤ (k : Int) := by omega
  have hk5 : ¬ (m : Int) ≤ (k : Int) := by omega
  have hk6 : ¬ (m : Int) = (k : Int) := by omega
  have hk7 : ¬ m = k := by omega
  have hat : at' < n := by omega
  have hmin : Nat.min (n - at') m = k := by rw [hk]; exact Nat.min_eq_left (Nat.le_of_lt hkm)
  have hank : at' + k = n := by omega
  go_enter Tryd.func48, Tryd.ntmps48
  go_wp2_with fail
  go_loopg [6, 7] 2 (fun f v6 v7 wr => (f = 2 ∧ v6 = .int .i64 0 ∧ v7 = .nilIface ∧ wr = w) ∨ (f = 1 ∧ v6 = .int .i64 k ∧ v7 = .nilIface ∧ Hid (RdS wr g7 gb n c n A l ∧ (∃ ds, ds.length = cs.length ∧ Blk wr D t ds) ∧ Frm [D, gb, g7] w wr)) ∨ (v6 = .int .i64 k ∧ v7 = .iface 106 (.pointer (some ae)) ∧ Hid (RdS wr g7 gb n c n A l ∧ (∃ ds, ds.length = cs.length ∧ Blk wr D t ds) ∧ Frm [D, gb, g7] w wr)))
  case atStart => exact .inl ⟨rfl, rfl, rfl, rfl⟩
  case round =>
    rcases hrel with ⟨rfl, rfl, rfl, rfl⟩ | ⟨rfl, rfl, rfl, hres⟩ | ⟨rfl, rfl, hres⟩
    · go_wp2_with fail
      refine start_ (n := 13) (S := fun _ => True) (ds := []) #[ff,ff,ff,ff,ff,ff,ff,ff,ff,ff,ff,ff,ff] (by kernel_rfl) rfl rfl (trivial) (fun hHeld => ?_)
      refine pure_ (i := 0) (N := some 22) (v := ?_) (a' := ?_) #[tt,ff,ff,ff,ff,ff,ff,ff,ff,ff,ff,ff,ff] rfl rfl (by kernel_rfl) (fun _ _ _ h => h) (Or.inl ⟨by rfl, ?_⟩) ?_ ?_; rotate_left; (intro w'; go_simp; with_reducible rfl); rotate_left; (simp only [Act.put, List.setIfInBounds_toArray, List.set_cons_zero, List.set_cons_succ, i64_w, i32_w]; rfl)
      refine pure_ (i := 1) (N := some 23) (v := ?_) (a' := ?_) #[tt,tt,ff,ff,ff,ff,ff,ff,ff,ff,ff,ff,ff] rfl rfl (by kernel_rfl) (fun _ _ _ h => h) (Or.inl ⟨by rfl, ?_⟩) ?_ ?_; rotate_left; (intro w'; go_simp; with_reducible rfl); rotate_left; (simp only [Act.put, List.setIfInBounds_toArray, List.set_cons_zero, List.set_cons_succ, i64_w, i32_w]; rfl)
      refine pure_ (i := 2) (N := some 24) (v := ?_) (a' := ?_) #[tt,tt,tt,ff,ff,ff,ff,ff,ff,ff,ff,ff,ff] rfl rfl (by kernel_rfl) (fun _ _ _ h => h) (Or.inl ⟨by rfl, ?_⟩) ?_ ?_; rotate_left; (intro w'; go_simp; with_reducible rfl); rotate_left; (simp only [Act.put, List.setIfInBounds_toArray, List.set_cons_zero, List.set_cons_succ, i64_w, i32_w]; rfl)
      refine pure_ (i := 3) (N := some 25) (v := ?_) (a' := ?_) #[tt,tt,tt,tt,ff,ff,ff,ff,ff,ff,ff,ff,ff] rfl rfl (by kernel_rfl) (fun _ _ _ h => h) (Or.inl ⟨by rfl, ?_⟩) ?_ ?_; rotate_left; (intro w'; go_simp; with_reducible rfl); rotate_left; (simp only [Act.put, List.setIfInBounds_toArray, List.set_cons_zero, List.set_cons_succ, i64_w, i32_w]; rfl)
      refine pure_ (i := 4) (N := some 26) (v := .func (.method "Read") #[.iface 95 (.pointer (some ⟨g7, 0, none⟩))] #[]) (a' := ?_) #[tt,tt,tt,tt,tt,ff,ff,ff,ff,ff,ff,ff,ff] rfl rfl (by kernel_rfl) (fun _ _ _ h => h) (Or.inl ⟨by rfl, (by intro w_; kernel_rfl)⟩) ?_ ?_; rotate_left; (simp only [Act.put, List.setIfInBounds_toArray, List.set_cons_zero, List.set_cons_succ, i64_w, i32_w]; rfl)
      refine pure_ (i := 5) (N := some 27) (v := .func (.method "Read") #[.iface 95 (.pointer (some ⟨g7, 0, none⟩))] #[]) (a' := ?_) #[tt,tt,tt,tt,tt,tt,ff,ff,ff,ff,ff,ff,ff] rfl rfl (by kernel_rfl) (fun _ _ _ h => h) (Or.inl ⟨by rfl, (by intro w_; kernel_rfl)⟩) ?_ ?_; rotate_left; (simp only [Act.put, List.setIfInBounds_toArray, List.set_cons_zero, List.set_cons_succ, i64_w, i32_w]; rfl)
      refine pure_ (i := 6) (N := some 28) (v := ?_) (a' := ?_) #[tt,tt,tt,tt,tt,tt,tt,ff,ff,ff,ff,ff,ff] rfl rfl (by kernel_rfl) (fun _ _ _ h => h) (Or.inl ⟨by rfl, ?_⟩) ?_ ?_; rotate_left; (intro w'; go_simp; with_reducible rfl); rotate_left; (simp only [Act.put, List.setIfInBounds_toArray, List.set_cons_zero, List.set_cons_succ, i64_w, i32_w]; rfl)
      refine one_ (i := 7) (N := some 29) #[tt,tt,tt,tt,tt,tt,tt,tt,ff,ff,ff,ff,ff] rfl rfl (by kernel_rfl) (by decide) (fun K hK => ?_); refine call_ 71 #[.pointer (some ⟨g7, 0, none⟩), .slice (some ⟨D, 0, none⟩) m m] (by rfl) rfl (by kernel_rfl) ?_
      refine (countRead_some g7 gb D 0 t m m n c at' A (some ⟨D, 0, none⟩) cs l wr.drew (H.out.rd.frm (Frm.refl [] _).drew (by simp)) (H.out.br.frm (Frm.refl [] _).drew (by simp)) (H.out.sl.frm0 (Frm.refl [] _).drew (fun _ _ _ _ _ hx => by cases hx)) H.out.cap hat hn (HD.out.frm (Frm.refl [] _).drew (by simp)) (fun _ => rfl) (by omega) hm (fun e => hD.2 e.symm) (fun e => hD.1 e.symm) H.out.ne).mono ?_
      rintro E w2 ⟨rfl, hd2, hb2, hr2, hf2⟩
      rw [hmin] at hb2 hr2 ⊢
      rw [hank] at hb2 hr2
      have hfw : Frm [D, gb, g7] wr w2 := ((Frm.refl [D, gb, g7] wr).drew).trans hf2 (fun i hi => .inl hi)
      have hlen : (splice cs 0 ((nums .u8 (l.drop at')).take m)).length = cs.length := splice_len _ _ _ (by rw [List.length_take, nums_length, List.length_drop]; have := H.out.sl.1; rw [nums_length] at this; omega)
      have hq : RdS w2 g7 gb n c n A l ∧ (∃ ds, ds.length = cs.length ∧ Blk w2 D t ds) ∧ Frm [D, gb, g7] wr w2 := ⟨⟨hr2, hb2, sl_two H.out.sl hfw H.out.apart HAD.out, H.out.cap, Nat.le_refl _, H.out.ne, H.out.big, H.out.apart⟩, ⟨_, hlen, hd2⟩, hfw⟩
      clear hd2 hb2 hr2 hf2 hfw hlen
      refine ⟨_, rfl, ?_⟩
      refine hK.out _ _ (trivial) (fun hHeld => ?_); clear hK K; refine norm_ (a' := ?_) ?_ ?_; rotate_left; (show Act.put _ (some 29) _ = _; simp only [Act.put, List.setIfInBounds_toArray, List.set_cons_zero, List.set_cons_succ, i64_w, i32_w]; rfl)
      refine pure_ (i := 8) (N := some 21) (v := ?_) (a' := ?_) #[tt,tt,tt,tt,tt,tt,tt,tt,tt,ff,ff,ff,ff] rfl rfl (by kernel_rfl) (fun _ _ _ h => h) (Or.inl ⟨by rfl, ?_⟩) ?_ ?_; rotate_left; (intro w'; go_simp; with_reducible rfl); rotate_left; (simp only [Act.put, List.setIfInBounds_toArray, List.set_cons_zero, List.set_cons_succ, i64_w, i32_w]; rfl)
      refine pure_ (i := 9) (N := some 30) (v := ?_) (a' := ?_) #[tt,tt,tt,tt,tt,tt,tt,tt,tt,tt,ff,ff,ff] rfl rfl (by kernel_rfl) (fun _ _ _ h => h) (Or.inl ⟨by rfl, ?_⟩) ?_ ?_; rotate_left; (intro w'; go_simp; with_reducible rfl); rotate_left; (simp only [Act.put, List.setIfInBounds_toArray, List.set_cons_zero, List.set_cons_succ, i64_w, i32_w]; rfl)
      refine pure_ (i := 10) (N := some 31) (v := ?_) (a' := ?_) #[tt,tt,tt,tt,tt,tt,tt,tt,tt,tt,tt,ff,ff] rfl rfl (by kernel_rfl) (fun _ _ _ h => h) (Or.inl ⟨by rfl, ?_⟩) ?_ ?_; rotate_left; (intro w'; go_simp; with_reducible rfl); rotate_left; (simp only [Act.put, List.setIfInBounds_toArray, List.set_cons_zero, List.set_cons_succ, i64_w, i32_w]; rfl)
      refine pure_ (i := 11) (N := some 8) (v := ?_) (a' := ?_) #[tt,tt,tt,tt,tt,tt,tt,tt,tt,tt,tt,tt,ff] rfl rfl (by kernel_rfl) (fun _ _ _ h => h) (Or.inl ⟨by rfl, ?_⟩) ?_ ?_; rotate_left; (intro w'; go_simp; with_reducible rfl); rotate_left; (simp only [Act.put, List.setIfInBounds_toArray, List.set_cons_zero, List.set_cons_succ, i64_w, i32_w]; rfl)
      refine pure_ (i := 12) (N := some 7) (v := ?_) (a' := ?_) #[tt,tt,tt,tt,tt,tt,tt,tt,tt,tt,tt,tt,tt] rfl rfl (by kernel_rfl) (fun _ _ _ h => h) (Or.inl ⟨by rfl, ?_⟩) ?_ ?_; rotate_left; (intro w'; go_simp; with_reducible rfl); rotate_left; (simp only [Act.put, List.setIfInBounds_toArray, List.set_cons_zero, List.set_cons_succ, i64_w, i32_w]; rfl)
      refine done_ (by kernel_rfl) ?_
      have HX := Lib.hid hq
      clear hq
      go_wp2
      go_roundg 1
      case measure => omega
      case rel => exact .inr (.inl ⟨rfl, rfl, rfl, HX.out⟩)
    · have HWV : Hid (wr.cell? ⟨1, 0, none⟩ = some (.iface 106 (.pointer (some ae)))) := cell_frm HV.out hres.out.2.2 (fun hx => absurd (HGL.out _ hx) (by decide))
      go_wp2_with fail
      refine start_ (n := 13) (S := fun _ => True) (ds := []) #[ff,ff,ff,ff,ff,ff,ff,ff,ff,ff,ff,ff,ff] (by kernel_rfl) rfl rfl (trivial) (fun hHeld => ?_)
      refine pure_ (i := 0) (N := some 22) (v := ?_) (a' := ?_) #[tt,ff,ff,ff,ff,ff,ff,ff,ff,ff,ff,ff,ff] rfl rfl (by kernel_rfl) (fun _ _ _ h => h) (Or.inl ⟨by rfl, ?_⟩) ?_ ?_; rotate_left; (intro w'; go_simp; with_reducible rfl); rotate_left; (simp only [Act.put, List.setIfInBounds_toArray, List.set_cons_zero, List.set_cons_succ, i64_w, i32_w]; rfl)
      refine pure_ (i := 1) (N := some 23) (v := ?_) (a' := ?_) #[tt,tt,ff,ff,ff,ff,ff,ff,ff,ff,ff,ff,ff] rfl rfl (by kernel_rfl) (fun _ _ _ h => h) (Or.inl ⟨by rfl, ?_⟩) ?_ ?_; rotate_left; (intro w'; go_simp; with_reducible rfl); rotate_left; (simp only [Act.put, List.setIfInBounds_toArray, List.set_cons_zero, List.set_cons_succ, i64_w, i32_w]; rfl)
      refine pure_ (i := 2) (N := some 24) (v := ?_) (a' := ?_) #[tt,tt,tt,ff,ff,ff,ff,ff,ff,ff,ff,ff,ff] rfl rfl (by kernel_rfl) (fun _ _ _ h => h) (Or.inl ⟨by rfl, ?_⟩) ?_ ?_; rotate_left; (intro w'; go_simp; with_reducible rfl); rotate_left; (simp only [Act.put, List.setIfInBounds_toArray, List.set_cons_zero, List.set_cons_succ, i64_w, i32_w]; rfl)
      refine pure_ (i := 3) (N := some 25) (v := ?_) (a' := ?_) #[tt,tt,tt,tt,ff,ff,ff,ff,ff,ff,ff,ff,ff] rfl rfl (by kernel_rfl) (fun _ _ _ h => h) (Or.inl ⟨by rfl, ?_⟩) ?_ ?_; rotate_left; (intro w'; go_simp; with_reducible rfl); rotate_left; (simp only [Act.put, List.setIfInBounds_toArray, List.set_cons_zero, List.set_cons_succ, i64_w, i32_w]; rfl)
      refine pure_ (i := 4) (N := some 26) (v := .func (.method "Read") #[.iface 95 (.pointer (some ⟨g7, 0, none⟩))] #[]) (a' := ?_) #[tt,tt,tt,tt,tt,ff,ff,ff,ff,ff,ff,ff,ff] rfl rfl (by kernel_rfl) (fun _ _ _ h => h) (Or.inl ⟨by rfl, (by intro w_; kernel_rfl)⟩) ?_ ?_; rotate_left; (simp only [Act.put, List.setIfInBounds_toArray, List.set_cons_zero, List.set_cons_succ, i64_w, i32_w]; rfl)
      refine pure_ (i := 5) (N := some 27) (v := .func (.method "Read") #[.iface 95 (.pointer (some ⟨g7, 0, none⟩))] #[]) (a' := ?_) #[tt,tt,tt,tt,tt,tt,ff,ff,ff,ff,ff,ff,ff] rfl rfl (by kernel_rfl) (fun _ _ _ h => h) (Or.inl ⟨by rfl, (by intro w_; kernel_rfl)⟩) ?_ ?_; rotate_left; (simp only [Act.put, List.setIfInBounds_toArray, List.set_cons_zero, List.set_cons_succ, i64_w, i32_w]; rfl)
      refine pure_ (i := 6) (N := some 28) (v := ?_) (a' := ?_) #[tt,tt,tt,tt,tt,tt,tt,ff,ff,ff,ff,ff,ff] rfl rfl (by kernel_rfl) (fun _ _ _ h => h) (Or.inl ⟨by rfl, ?_⟩) ?_ ?_; rotate_left; (intro w'; go_simp; with_reducible rfl); rotate_left; (simp only [Act.put, List.setIfInBounds_toArray, List.set_cons_zero, List.set_cons_succ, i64_w, i32_w]; rfl)
      refine one_ (i := 7) (N := some 29) #[tt,tt,tt,tt,tt,tt,tt,tt,ff,ff,ff,ff,ff] rfl rfl (by kernel_rfl) (by decide) (fun K hK => ?_); refine call_ 71 #[.pointer (some ⟨g7, 0, none⟩), .slice (some ⟨D, k, none⟩) (m - k) (m - k)] (by rfl) rfl (by kernel_rfl) ?_
      refine (countRead_end g7 gb n c n (m - k) (m - k) A (some ⟨D, k, none⟩) (.iface 106 (.pointer (some ae))) wr.drew (hres.out.1.rd.frm (Frm.refl [] _).drew (by simp)) (hres.out.1.br.frm (Frm.refl [] _).drew (by simp)) (Nat.le_refl _) hn HWV.out).mono ?_
      rintro E w2 ⟨rfl, hf2, hr2⟩
      have hfw : Frm [g7] wr w2 := ((Frm.refl [g7] wr).drew).trans hf2 (fun i hi => .inl hi)
      have hq : RdS w2 g7 gb n c n A l ∧ (∃ ds, ds.length = cs.length ∧ Blk w2 D t ds) ∧ Frm [D, gb, g7] w w2 := ⟨⟨hr2, hres.out.1.br.frm hfw (by rw [List.mem_singleton]; exact fun e => H.out.ne e.symm), hres.out.1.sl.frm0 hfw (fun b o e hn _ hx => by rw [List.mem_singleton] at hx; exact (H.out.apart b o e hn).1 hx), H.out.cap, Nat.le_refl _, H.out.ne, H.out.big, H.out.apart⟩, (by obtain ⟨ds, h1, h2⟩ := hres.out.2.1; exact ⟨ds, h1, h2.frm hfw (by rw [List.mem_singleton]; exact hD.1)⟩), hres.out.2.2.trans hfw (fun i hi => .inl (by rw [List.mem_singleton] at hi; subst hi; simp))⟩
      clear hf2 hr2 hfw
      refine ⟨_, rfl, ?_⟩
      refine hK.out _ _ (trivial) (fun hHeld => ?_); clear hK K; refine norm_ (a' := ?_) ?_ ?_; rotate_left; (show Act.put _ (some 29) _ = _; simp only [Act.put, List.setIfInBounds_toArray, List.set_cons_zero, List.set_cons_succ, i64_w, i32_w]; rfl)
      refine pure_ (i := 8) (N := some 21) (v := ?_) (a' := ?_) #[tt,tt,tt,tt,tt,tt,tt,tt,tt,ff,ff,ff,ff] rfl rfl (by kernel_rfl) (fun _ _ _ h => h) (Or.inl ⟨by rfl, ?_⟩) ?_ ?_; rotate_left; (intro w'; go_simp; with_reducible rfl); rotate_left; (simp only [Act.put, List.setIfInBounds_toArray, List.set_cons_zero, List.set_cons_succ, i64_w, i32_w]; rfl)
      refine pure_ (i := 9) (N := some 30) (v := ?_) (a' := ?_) #[tt,tt,tt,tt,tt,tt,tt,tt,tt,tt,ff,ff,ff] rfl rfl (by kernel_rfl) (fun _ _ _ h => h) (Or.inl ⟨by rfl, ?_⟩) ?_ ?_; rotate_left; (intro w'; go_simp; with_reducible rfl); rotate_left; (simp only [Act.put, List.setIfInBounds_toArray, List.set_cons_zero, List.set_cons_succ, i64_w, i32_w]; rfl)
      refine pure_ (i := 10) (N := some 31) (v := ?_) (a' := ?_) #[tt,tt,tt,tt,tt,tt,tt,tt,tt,tt,tt,ff,ff] rfl rfl (by kernel_rfl) (fun _ _ _ h => h) (Or.inl ⟨by rfl, ?_⟩) ?_ ?_; rotate_left; (intro w'; go_simp; with_reducible rfl); rotate_left; (simp only [Act.put, List.setIfInBounds_toArray, List.set_cons_zero, List.set_cons_succ, i64_w, i32_w]; rfl)
      refine pure_ (i := 11) (N := some 8) (v := ?_) (a' := ?_) #[tt,tt,tt,tt,tt,tt,tt,tt,tt,tt,tt,tt,ff] rfl rfl (by kernel_rfl) (fun _ _ _ h => h) (Or.inl ⟨by rfl, ?_⟩) ?_ ?_; rotate_left; (intro w'; go_simp; with_reducible rfl); rotate_left; (simp only [Act.put, List.setIfInBounds_toArray, List.set_cons_zero, List.set_cons_succ, i64_w, i32_w]; rfl)
      refine pure_ (i := 12) (N := some 7) (v := ?_) (a' := ?_) #[tt,tt,tt,tt,tt,tt,tt,tt,tt,tt,tt,tt,tt] rfl rfl (by kernel_rfl) (fun _ _ _ h => h) (Or.inl ⟨by rfl, ?_⟩) ?_ ?_; rotate_left; (intro w'; go_simp; with_reducible rfl); rotate_left; (simp only [Act.put, List.setIfInBounds_toArray, List.set_cons_zero, List.set_cons_succ, i64_w, i32_w]; rfl)
      refine done_ (by kernel_rfl) ?_
      have HX := Lib.hid hq
      clear hq
      go_wp2
      go_roundg 0
      case measure => omega
      case rel => exact .inr (.inr ⟨rfl, rfl, HX.out⟩)
    · have v1 : wr.cell? ⟨1, 0, none⟩ = some (.iface 106 (.pointer (some ae))) := cell_frm HV.out hres.out.2.2 (fun hx => absurd (HGL.out _ hx) (by decide))
      have v2 : wr.cell? ⟨2, 0, none⟩ = some V2 := cell_frm HV2.out hres.out.2.2 (fun hx => absurd (HGL.out _ hx) (by decide))
      go_wp2
      go_ret2
      exact ⟨rfl, hres.out.1, hres.out.2.1, hres.out.2.2⟩
set_option maxRecDepth 100000 in
theorem readFull_ok (g7 gb D t m n c at' : Nat) (A : Option Addr) (cs : List Value) (l : List Int) (w : World) (h : RdS w g7 gb n c at' A l) (hd : Blk w D t cs) (hcs : cs.length = m) (hD : D ≠ g7 ∧ D ≠ gb) (hAD : ∀ g o, A = some ⟨g, o, none⟩ → 0 < n → g ≠ D) (hm : m ≤ 1000000) (hr : m ≤ n - at') :
    Calls Tryd.prog 38 #[.iface 95 (.pointer (some ⟨g7, 0, none⟩)), .slice (some ⟨D, 0, none⟩) m m] w (FullOk g7 gb D t m n c at' A l w) := by
  go_enter Tryd.func38, Tryd.ntmps38
  go_wp2_with fail
  refine (readLeast_ok g7 gb D t m n c at' A cs l w h hd hcs hD hAD hm hr).mono ?_
  rintro E w2 ⟨rfl, hq1, hq2, hq3⟩
  have HQ := Lib.hid (And.intro hq1 (And.intro hq2 hq3))
  clear hq1 hq2 hq3
  go_wp2
  go_ret2
  exact ⟨rfl, HQ.out.1, HQ.out.2.1, HQ.out.2.2⟩
set_option maxRecDepth 100000 in
theorem readFull_end (g7 gb D t m n c at' : Nat) (A : Option Addr) (cs : List Value) (l : List Int) (w : World) (h : RdS w g7 gb n c at' A l) (hd : Blk w D t cs) (hcs : cs.length = m) (hD : D ≠ g7 ∧ D ≠ gb) (hAD : ∀ g o, A = some ⟨g, o, none⟩ → 0 < n → g ≠ D) (hm : m ≤ 1000000) (hr : at' = n) (h0 : 0 < m) (te : TypeId) (pe : Value) (hV : w.cell? ⟨1, 0, none⟩ = some (.iface te pe)) :
    Calls Tryd.prog 38 #[.iface 95 (.pointer (some ⟨g7, 0, none⟩)), .slice (some ⟨D, 0, none⟩) m m] w (FullEnd g7 gb D t n c at' A cs l (.iface te pe) w) := by
  go_enter Tryd.func38, Tryd.ntmps38
  go_wp2_with fail
  refine (readLeast_end g7 gb D t m n c at' A cs l w h hd hcs hD hAD hm hr h0 te pe hV).mono ?_
  rintro E w2 ⟨rfl, hq1, hq2, hq3⟩
  have HQ := Lib.hid (And.intro hq1 (And.intro hq2 hq3))
  clear hq1 hq2 hq3
  go_wp2
  go_ret2
  exact ⟨rfl, HQ.out.1, HQ.out.2.1, HQ.out.2.2⟩
set_option maxRecDepth 100000 in
theorem readFull_short (g7 gb D t m n c at' : Nat) (A : Option Addr) (cs : List Value) (l : List Int) (w : World) (h : RdS w g7 gb n c at' A l) (hd : Blk w D t cs) (hcs : cs.length = m) (hD : D ≠ g7 ∧ D ≠ gb) (hAD : ∀ g o, A = some ⟨g, o, none⟩ → 0 < n → g ≠ D) (hm : m ≤ 1000000) (k : Nat) (hk : n - at' = k) (h0 : 0 < k) (hkm : k < m) (ae : Addr) (V2 : Value) (hV : w.cell? ⟨1, 0, none⟩ = some (.iface 106 (.pointer (some ae)))) (hV2 : w.cell? ⟨2, 0, none⟩ = some V2) (hG : 5 ≤ D ∧ 5 ≤ gb ∧ 5 ≤ g7) :
    Calls Tryd.prog 38 #[.iface 95 (.pointer (some ⟨g7, 0, none⟩)), .slice (some ⟨D, 0, none⟩) m m] w (FullShort g7 gb D t n c k A cs l V2 w) := by
  go_enter Tryd.func38, Tryd.ntmps38
  go_wp2_with fail
  refine (readLeast_short g7 gb D t m n c at' A cs l w h hd hcs hD hAD hm k hk h0 hkm ae V2 hV hV2 hG).mono ?_
  rintro E w2 ⟨rfl, hq1, hq2, hq3⟩
  have HQ := Lib.hid (And.intro hq1 (And.intro hq2 hq3))
  clear hq1 hq2 hq3
  go_wp2
  go_ret2
  exact ⟨rfl, HQ.out.1, HQ.out.2.1, HQ.out.2.2⟩
end Go.Proofs.YtpfmmbhbmdbmeaaDoor
