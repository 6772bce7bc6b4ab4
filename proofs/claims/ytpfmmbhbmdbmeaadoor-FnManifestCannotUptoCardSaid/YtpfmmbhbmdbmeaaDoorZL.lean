/- Manifests read: the thin package's word. -/
import Derived.Test.YtpfmmbhbmdbmeaaDoorZH
namespace Go.Proofs.YtpfmmbhbmdbmeaaDoor
open Go.RowKit
set_option linter.unusedVariables false
set_option linter.unusedSimpArgs false
theorem zero4 (w : World) : Blk (w.alloc (.cells #[.slice none 0 0, .map none, .int .i64 0, .int .i64 0] 54)) w.heap.size 54 [.slice none 0 0, .map none, .int .i64 0, .int .i64 0] := Blk.new w _ _
set_option maxRecDepth 100000 in
set_option maxHeartbeats 4000000 in
theorem repM_ok (mark : Int) (A : Option Addr) (n c off : Nat) (M : MF) (w : World) (h : ∀ w0 : World, Below w.heap.size w w0 → w.heap.size ≤ w0.heap.size → Calls Tryd.prog 30 #[.slice A n c, .int .u16 mark] w0 (RepOk M off w0)) :
    Calls Tryd.prog 21 #[.slice A n c, .int .u16 mark] w (RepOk M off w) := by
  have HB0 : Hid (Below w.heap.size w (w.alloc (.cells #[.slice none 0 0, .map none, .int .i64 0, .int .i64 0] 54))) := (Below.refl _ _).alloc (Nat.le_refl _) _
  have HM0 := Lib.hid (zero4 w)
  have H := Lib.hid h
  clear h
  go_enter Tryd.func21, Tryd.ntmps21
  go_wp2_with fail
  generalize w.alloc (.cells #[.slice none 0 0, .map none, .int .i64 0, .int .i64 0] 54) = w0 at *
  generalize hs : w.heap.size = s at *
  have HS := Lib.hid hs
  clear hs
  refine (H.out w0 HB0.out (by have := HB0.out.size; have := HS.out; omega)).mono ?_
  rintro E w1 ⟨⟨LA, k, lc, bt, nn, rfl, hT, hn⟩, hb⟩
  have HM1 := Lib.hid (HM0.out.frm (Frm.of_below hb) (by simp))
  have HB1 : Hid (Below s w w1) := HB0.out.trans (hb.mono (by have := HB0.out.size; have := HS.out; omega))
  have HT := Lib.hid hT
  have HN := Lib.hid hn
  clear hb hT hn HM0 HB0
  have q0 := HM1.out.at_ (i := 0) rfl
  have q1 := HM1.out.at_ (i := 1) rfl
  have q2 := HM1.out.at_ (i := 2) rfl
  have q3 := HM1.out.at_ (i := 3) rfl
  have z0 := HM1.out.frozen 0
  have z1 := HM1.out.frozen 1
  have z2 := HM1.out.frozen 2
  have z3 := HM1.out.frozen 3
  have HT4 : Hid (MapAt Tryd.prog ((((w1.setCell ⟨s, 0, none⟩ (.slice LA k lc)).setCell ⟨s, 1, none⟩ (.map (some bt))).setCell ⟨s, 2, none⟩ (.int .i64 M.come)).setCell ⟨s, 3, none⟩ (.int .i64 M.gone)) 42 .u64 bt nn (tabF M.l)) := HT.out.frm (frm4m w1 s _ _ _ _) (by rw [List.mem_singleton]; exact fun e => HT.out.ne_blk HM1.out e)
  have HR : Hid (Below s w ((((w1.setCell ⟨s, 0, none⟩ (.slice LA k lc)).setCell ⟨s, 1, none⟩ (.map (some bt))).setCell ⟨s, 2, none⟩ (.int .i64 M.come)).setCell ⟨s, 3, none⟩ (.int .i64 M.gone))) := (((HB1.out.setCell (Nat.le_refl _) _).setCell (Nat.le_refl _) _).setCell (Nat.le_refl _) _).setCell (Nat.le_refl _) _
  clear HM1 HB1 HT
  go_wp2
  refine bodyPost_ret (v := .tuple #[.agg #[.slice LA k lc, .map (some bt), .int .i64 M.come, .int .i64 M.gone], .int .i64 off, .nilIface]) (by simp [results, Tryd.results21, go_sem, q0, q1, q2, q3, z0, z1, z2, z3]) rfl ?_
  exact ⟨⟨LA, k, lc, bt, nn, rfl, HT4.out, HN.out⟩, by rw [HS.out]; exact HR.out⟩
set_option maxRecDepth 100000 in
set_option maxHeartbeats 4000000 in
theorem repM_no (mark : Int) (A : Option Addr) (n c : Nat) (w : World) (h : ∀ w0 : World, Below w.heap.size w w0 → w.heap.size ≤ w0.heap.size → Calls Tryd.prog 30 #[.slice A n c, .int .u16 mark] w0 (RepNo w0)) :
    Calls Tryd.prog 21 #[.slice A n c, .int .u16 mark] w (RepNo w) := by
  have HB0 : Hid (Below w.heap.size w (w.alloc (.cells #[.slice none 0 0, .map none, .int .i64 0, .int .i64 0] 54))) := (Below.refl _ _).alloc (Nat.le_refl _) _
  have HM0 := Lib.hid (zero4 w)
  have H := Lib.hid h
  clear h
  go_enter Tryd.func21, Tryd.ntmps21
  go_wp2_with fail
  generalize w.alloc (.cells #[.slice none 0 0, .map none, .int .i64 0, .int .i64 0] 54) = w0 at *
  generalize hs : w.heap.size = s at *
  have HS := Lib.hid hs
  clear hs
  refine (H.out w0 HB0.out (by have := HB0.out.size; have := HS.out; omega)).mono ?_
  rintro E w1 ⟨⟨te, pe, rfl⟩, hb⟩
  have HM1 := Lib.hid (HM0.out.frm (Frm.of_below hb) (by simp))
  have HB1 : Hid (Below s w w1) := HB0.out.trans (hb.mono (by have := HB0.out.size; have := HS.out; omega))
  clear hb HM0 HB0
  have q0 := HM1.out.at_ (i := 0) rfl
  have q1 := HM1.out.at_ (i := 1) rfl
  have q2 := HM1.out.at_ (i := 2) rfl
  have q3 := HM1.out.at_ (i := 3) rfl
  have z0 := HM1.out.frozen 0
  have z1 := HM1.out.frozen 1
  have z2 := HM1.out.frozen 2
  have z3 := HM1.out.frozen 3
  have HR : Hid (Below s w ((((w1.setCell ⟨s, 0, none⟩ (.slice none 0 0)).setCell ⟨s, 1, none⟩ (.map none)).setCell ⟨s, 2, none⟩ (.int .i64 0)).setCell ⟨s, 3, none⟩ (.int .i64 0))) := (((HB1.out.setCell (Nat.le_refl _) _).setCell (Nat.le_refl _) _).setCell (Nat.le_refl _) _).setCell (Nat.le_refl _) _
  clear HM1 HB1
  go_wp2
  refine bodyPost_ret (v := .tuple #[.agg #[.slice none 0 0, .map none, .int .i64 0, .int .i64 0], .int .i64 0, .iface te pe]) (by simp [results, Tryd.results21, go_sem, q0, q1, q2, q3, z0, z1, z2, z3]) rfl ?_
  exact ⟨⟨_, _, rfl⟩, by rw [HS.out]; exact HR.out⟩
/-- ReadManifest without an error. -/
structure RdOk (M : MF) (off : Nat) (w : World) (E : Ending) (w' : World) : Prop where
  ex : ∃ A c, E = .returned (.tuple #[.agg #[.slice A M.l.length c, .int .i64 M.come, .int .i64 M.gone], .int .i64 off, .bool true]) ∧ Slc w' A M.l.length M.l
  bel : Below w.heap.size w w'
def RdNo (w : World) (E : Ending) (w' : World) : Prop := E = .returned (.tuple #[.agg #[.slice none 0 0, .int .i64 0, .int .i64 0], .int .i64 0, .bool false]) ∧ Below w.heap.size w w'
structure ManOk (M : MF) : Prop where
  srt : SortedC M.l
  ch : ∀ c ∈ M.l, ChOk c
  gn : ∀ c ∈ M.l, c.gone = false
theorem manOk_of {M : MF} {ls : List (List Chg)} (ha : allM ⟨[], 0, 0⟩ ls.flatten = some M) (hk : ∀ x ∈ ls.flatten, ChOk x) : ManOk M := by
  have hmm := allM_mem ls.flatten ha
  exact ⟨allM_sorted (m := ⟨[], 0, 0⟩) List.Pairwise.nil ha, fun x hx => (hmm.1 x hx).elim (fun h => by cases h) (fun h => hk x h.1), fun x hx => (hmm.1 x hx).elim (fun h => by cases h) (fun h => h.2)⟩
set_option maxRecDepth 100000 in
set_option maxHeartbeats 4000000 in
theorem readM_ok (mark : Int) (A : Option Addr) (n c off : Nat) (l : List Int) (M : MF) (w : World) (hs : Sl w A n (nums .u8 l)) (hn : n ≤ 1000000) (hM : ManOk M) (ho : off ≤ 1000000)
    (h : ∀ (A1 : Option Addr) (c1 : Nat) (w0 : World), Below w.heap.size w w0 → Sl w0 A1 n (nums .u8 l) → n ≤ c1 → Calls Tryd.prog 21 #[.slice A1 n c1, .int .u16 mark] w0 (RepOk M off w0)) :
    Calls Tryd.prog 12 #[.slice A n c, .int .u16 mark] w (RdOk M off w) := by
  have hln : l.length = n := by have h := hs.1; rwa [nums_length] at h
  have HB0 : Hid (Below w.heap.size w (w.alloc (.cells #[.slice none 0 0, .int .i64 0, .int .i64 0] 27))) := (Below.refl _ _).alloc (Nat.le_refl _) _
  have HM0 : Hid (Blk (w.alloc (.cells #[.slice none 0 0, .int .i64 0, .int .i64 0] 27)) w.heap.size 27 [.slice none 0 0, .int .i64 0, .int .i64 0]) := Blk.new w _ _
  have HS0 := Lib.hid (hs.alloc (.cells #[.slice none 0 0, .int .i64 0, .int .i64 0] 27))
  have H := Lib.hid h
  have HMO := Lib.hid hM
  clear h hs hM
  subst hln
  go_enter Tryd.func12, Tryd.ntmps12
  go_wp2_with fail
  generalize w.alloc (.cells #[.slice none 0 0, .int .i64 0, .int .i64 0] 27) = w0 at *
  generalize hs : w.heap.size = s at *
  have HS := Lib.hid hs
  clear hs
  have HZ0 : Hid (s ≤ w0.heap.size) := by have h1 := HB0.out.size; have h2 := HS.out; show _ ≤ _; omega
  refine (own_any A _ c l w0 HS0.out (by omega)).mono ?_
  intro E w1 hE
  obtain ⟨A1, c1, rfl, hc1, hs1, hb1, ho1⟩ := hE.sv
  have HM1 := Lib.hid (HM0.out.frm (Frm.of_below hb1.out) (by simp))
  have HB1 : Hid (Below s w w1) := HB0.out.trans (hb1.out.mono HZ0.out)
  have HZ1 : Hid (s ≤ w1.heap.size) := Nat.le_trans HZ0.out hb1.out.size
  have HS1 := hs1
  clear hE hs1 hb1 ho1 HM0 HB0 HS0 HZ0
  go_wp2_with fail
  refine (H.out A1 c1 w1 HB1.out HS1.out hc1).mono ?_
  rintro E w2 ⟨⟨LA, k, lc, bt, nn, rfl, hT, hn2⟩, hb⟩
  have HM2 := Lib.hid (HM1.out.frm (Frm.of_below hb) (by simp))
  have HB2 : Hid (Below s w w2) := HB1.out.trans (hb.mono HZ1.out)
  have HZ2 : Hid (s ≤ w2.heap.size) := Nat.le_trans HZ1.out hb.size
  have HT := Lib.hid hT
  have HN := Lib.hid hn2
  clear hb hT hn2 HM1 HB1 HZ1 HS1
  have HX3 : Hid (Blk (w2.alloc (.cells #[.slice LA k lc, .map (some bt), .int .i64 M.come, .int .i64 M.gone] 54)) w2.heap.size 54 [.slice LA k lc, .map (some bt), .int .i64 M.come, .int .i64 M.gone]) := Blk.new w2 _ _
  have HM3 := Lib.hid (HM2.out.alloc (.cells #[.slice LA k lc, .map (some bt), .int .i64 M.come, .int .i64 M.gone] 54))
  have HT3 := Lib.hid (HT.out.alloc (.cells #[.slice LA k lc, .map (some bt), .int .i64 M.come, .int .i64 M.gone] 54))
  have HB3 := Lib.hid (HB2.out.alloc HZ2.out (.cells #[.slice LA k lc, .map (some bt), .int .i64 M.come, .int .i64 M.gone] 54))
  have HZ3 : Hid (s ≤ (w2.alloc (.cells #[.slice LA k lc, .map (some bt), .int .i64 M.come, .int .i64 M.gone] 54)).heap.size) := by have := HZ2.out; show _ ≤ _; rw [World.size_alloc]; omega
  clear HM2 HB2 HZ2 HT
  have p0 := HX3.out.at_ (i := 0) rfl
  have p1 := HX3.out.at_ (i := 1) rfl
  have p2 := HX3.out.at_ (i := 2) rfl
  have p3 := HX3.out.at_ (i := 3) rfl
  go_wp2_with fail
  clear p0 p1 p2 p3
  generalize w2.alloc (.cells #[.slice LA k lc, .map (some bt), .int .i64 M.come, .int .i64 M.gone] 54) = w3 at *
  generalize w2.heap.size = g7 at *
  refine (manifestOf_any bt nn k lc LA M.come M.gone M.l w3 HT3.out HMO.out.srt (fun x hx => ⟨(HMO.out.ch x hx).l0, by have := (HMO.out.ch x hx).l6; omega⟩) HMO.out.gn (fun x hx => (HMO.out.ch x hx).id) HN.out).mono ?_
  rintro E w4 ⟨⟨Ax, cx, rfl, hsx⟩, hbx⟩
  have HM4 := Lib.hid (HM3.out.frm (Frm.of_below hbx) (by simp))
  have HB4 : Hid (Below s w w4) := HB3.out.trans (hbx.mono HZ3.out)
  have HSX := Lib.hid hsx
  clear hsx hbx HM3 HB3 HT3 HX3
  have q0 := HM4.out.at_ (i := 0) rfl
  have q1 := HM4.out.at_ (i := 1) rfl
  have q2 := HM4.out.at_ (i := 2) rfl
  have z0 := HM4.out.frozen 0
  have z1 := HM4.out.frozen 1
  have z2 := HM4.out.frozen 2
  have hfs : Frm [s] w4 (((w4.setCell ⟨s, 0, none⟩ (.slice Ax M.l.length cx)).setCell ⟨s, 1, none⟩ (.int .i64 M.come)).setCell ⟨s, 2, none⟩ (.int .i64 M.gone)) := (((Frm.refl [s] w4).andSet _ _ (.inl (by simp))).andSet _ _ (.inl (by simp))).andSet _ _ (.inl (by simp))
  have HSY := Lib.hid (slc_frm HSX.out hfs HM4.out (by decide))
  have HBY : Hid (Below s w (((w4.setCell ⟨s, 0, none⟩ (.slice Ax M.l.length cx)).setCell ⟨s, 1, none⟩ (.int .i64 M.come)).setCell ⟨s, 2, none⟩ (.int .i64 M.gone))) := ((HB4.out.setCell (Nat.le_refl _) _).setCell (Nat.le_refl _) _).setCell (Nat.le_refl _) _
  clear hfs HM4 HB4 HSX
  go_wp2
  refine bodyPost_ret (v := .tuple #[.agg #[.slice Ax M.l.length cx, .int .i64 M.come, .int .i64 M.gone], .int .i64 off, .bool true]) (by simp [results, Tryd.results12, go_sem, q0, q1, q2, z0, z1, z2]) rfl ?_
  exact ⟨⟨Ax, cx, rfl, HSY.out⟩, by rw [HS.out]; exact HBY.out⟩
set_option maxRecDepth 100000 in
set_option maxHeartbeats 4000000 in
theorem readM_no (mark : Int) (A : Option Addr) (n c : Nat) (l : List Int) (w : World) (hs : Sl w A n (nums .u8 l)) (hn : n ≤ 1000000)
    (h : ∀ (A1 : Option Addr) (c1 : Nat) (w0 : World), Below w.heap.size w w0 → Sl w0 A1 n (nums .u8 l) → n ≤ c1 → Calls Tryd.prog 21 #[.slice A1 n c1, .int .u16 mark] w0 (RepNo w0)) :
    Calls Tryd.prog 12 #[.slice A n c, .int .u16 mark] w (RdNo w) := by
  have hln : l.length = n := by have h := hs.1; rwa [nums_length] at h
  have HB0 : Hid (Below w.heap.size w (w.alloc (.cells #[.slice none 0 0, .int .i64 0, .int .i64 0] 27))) := (Below.refl _ _).alloc (Nat.le_refl _) _
  have HM0 : Hid (Blk (w.alloc (.cells #[.slice none 0 0, .int .i64 0, .int .i64 0] 27)) w.heap.size 27 [.slice none 0 0, .int .i64 0, .int .i64 0]) := Blk.new w _ _
  have HS0 := Lib.hid (hs.alloc (.cells #[.slice none 0 0, .int .i64 0, .int .i64 0] 27))
  have H := Lib.hid h
  clear h hs
  subst hln
  go_enter Tryd.func12, Tryd.ntmps12
  go_wp2_with fail
  generalize w.alloc (.cells #[.slice none 0 0, .int .i64 0, .int .i64 0] 27) = w0 at *
  generalize hs : w.heap.size = s at *
  have HS := Lib.hid hs
  clear hs
  have HZ0 : Hid (s ≤ w0.heap.size) := by have h1 := HB0.out.size; have h2 := HS.out; show _ ≤ _; omega
  refine (own_any A _ c l w0 HS0.out (by omega)).mono ?_
  intro E w1 hE
  obtain ⟨A1, c1, rfl, hc1, hs1, hb1, ho1⟩ := hE.sv
  have HM1 := Lib.hid (HM0.out.frm (Frm.of_below hb1.out) (by simp))
  have HB1 : Hid (Below s w w1) := HB0.out.trans (hb1.out.mono HZ0.out)
  have HZ1 : Hid (s ≤ w1.heap.size) := Nat.le_trans HZ0.out hb1.out.size
  have HS1 := hs1
  clear hE hs1 hb1 ho1 HM0 HB0 HS0 HZ0
  go_wp2_with fail
  refine (H.out A1 c1 w1 HB1.out HS1.out hc1).mono ?_
  rintro E w2 ⟨⟨te, pe, rfl⟩, hb⟩
  have HM2 := Lib.hid (HM1.out.frm (Frm.of_below hb) (by simp))
  have HB2 : Hid (Below s w w2) := HB1.out.trans (hb.mono HZ1.out)
  have HZ2 : Hid (s ≤ w2.heap.size) := Nat.le_trans HZ1.out hb.size
  clear hb HM1 HB1 HZ1 HS1
  have HM3 := Lib.hid (HM2.out.alloc (.cells #[.slice none 0 0, .map none, .int .i64 0, .int .i64 0] 54))
  have HB3 := Lib.hid (HB2.out.alloc HZ2.out (.cells #[.slice none 0 0, .map none, .int .i64 0, .int .i64 0] 54))
  clear HM2 HB2 HZ2
  have q0 := HM3.out.at_ (i := 0) rfl
  have q1 := HM3.out.at_ (i := 1) rfl
  have q2 := HM3.out.at_ (i := 2) rfl
  have z0 := HM3.out.frozen 0
  have z1 := HM3.out.frozen 1
  have z2 := HM3.out.frozen 2
  have HBY : Hid (Below s w ((((w2.alloc (.cells #[.slice none 0 0, .map none, .int .i64 0, .int .i64 0] 54)).setCell ⟨s, 0, none⟩ (.slice none 0 0)).setCell ⟨s, 1, none⟩ (.int .i64 0)).setCell ⟨s, 2, none⟩ (.int .i64 0))) := ((HB3.out.setCell (Nat.le_refl _) _).setCell (Nat.le_refl _) _).setCell (Nat.le_refl _) _
  clear HM3 HB3
  go_wp2
  refine bodyPost_ret (v := .tuple #[.agg #[.slice none 0 0, .int .i64 0, .int .i64 0], .int .i64 0, .bool false]) (by simp [results, Tryd.results12, go_sem, q0, q1, q2, z0, z1, z2]) rfl ?_
  exact ⟨rfl, by rw [HS.out]; exact HBY.out⟩
end Go.Proofs.YtpfmmbhbmdbmeaaDoor
