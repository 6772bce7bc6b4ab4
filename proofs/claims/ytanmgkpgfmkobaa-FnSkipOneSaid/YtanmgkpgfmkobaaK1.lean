/- The iterator of one direction over a skip list. -/
import Derived.Test.YtanmgkpgfmkobaaGJ
namespace Go.Proofs.Ytanmgkpgfmkobaa
open Go.RowKit
set_option linter.unusedVariables false
set_option linter.unusedSimpArgs false
structure UniS (w : World) (gu g gi : Nat) (s : SkA) (v : Value) (back : Bool) : Prop where
  it : ItS w g gi s v
  un : Blk w gu 156 [.pointer (some ⟨gi, 0, none⟩), .bool back]
  ne : gu ≠ gi ∧ gu ≠ g
theorem UniS.frm {w w' : World} {gu g gi B : Nat} {s : SkA} {v : Value} {back : Bool} {l : List Nat} (h : UniS w gu g gi s v back) (ok : SkOk g B s) (hf : Frm l w w') (hl : ∀ b ∈ l, b ∉ blksOf g s ∧ ∀ o, s.ra ≠ some ⟨b, o, none⟩) (hg : gi ∉ l) (hu : gu ∉ l) : UniS w' gu g gi s v back :=
  ⟨h.it.frm ok hf hl hg, h.un.frm hf hu, h.ne⟩
theorem UniS.bel {w w' : World} {gu g gi B : Nat} {s : SkA} {v : Value} {back : Bool} (h : UniS w gu g gi s v back) (ok : SkOk g B s) (hb : Below w.heap.size w w') : UniS w' gu g gi s v back := h.frm ok (Frm.of_below hb) (fun b hb => by cases hb) (by simp) (by simp)
theorem UniS.alloc {w : World} {gu g gi B : Nat} {s : SkA} {v : Value} {back : Bool} (h : UniS w gu g gi s v back) (ok : SkOk g B s) (o : Obj) : UniS (w.alloc o) gu g gi s v back := h.frm ok (Frm.alloc _ _) (fun b hb => by cases hb) (by simp) (by simp)
theorem UniS.drewN {w : World} {gu g gi : Nat} {s : SkA} {v : Value} {back : Bool} (h : UniS w gu g gi s v back) (n : Nat) : UniS (w.drewN n) gu g gi s v back := ⟨h.it.drewN n, h.un.drewN n, h.ne⟩
def UMov (gu g gi : Nat) (s : SkA) (a : Int) (back : Bool) (w : World) (E : Ending) (w' : World) : Prop := E = .returned (.tuple #[]) ∧ UniS w' gu g gi s (itV s a) back ∧ Frm [gi] w w'
theorem UMov.of {gu g gi : Nat} {s : SkA} {a : Int} {v u : Value} {back : Bool} {w w' : World} (h : UniS w gu g gi s v back) (hm : ItS w' g gi s u ∧ Frm [gi] w w') (hu : u = itV s a) : UniS w' gu g gi s (itV s a) back ∧ Frm [gi] w w' :=
  ⟨⟨hu ▸ hm.1, h.un.frm hm.2 (by rw [List.mem_singleton]; exact h.ne.1), h.ne⟩, hm.2⟩
theorem newUni_skl (g B : Nat) (s : SkA) (back : Bool) (w : World) (h : SkSt w g s) (ok : SkOk g B s) (hr : s.ref = 1) :
    Calls Try.prog 64 #[.pointer (some ⟨g, 0, none⟩), .bool back] w fun E w' => ∃ gu, E = .returned (.pointer (some ⟨gu, 0, none⟩)) ∧ UniS w' gu g w.heap.size (s.at_ref 2) (.pointer none) back ∧ Frm [g] w w' := by
  have H := Lib.hid h
  have OK := Lib.hid ok
  have HR := Lib.hid hr
  have HGL : Hid (g < w.heap.size) := h.list.lt
  clear h ok hr
  go_enter Try.func64, Try.ntmps64
  go_wp2_with fail
  refine (newIterator_skl g B s w H.out OK.out HR.out).mono ?_
  rintro E w1 ⟨rfl, hi, hf⟩
  have HI := Lib.hid (And.intro hi hf)
  have HGU : Hid (w.heap.size < w1.heap.size) := hi.it.lt
  clear hi hf
  generalize hgi : w.heap.size = gi at *
  have HGI := Lib.hid hgi
  clear hgi
  go_wp2
  go_ret
  rw [HGI.out]
  refine ⟨_, rfl, ⟨HI.out.1.frm (OK.out.reref 2) (Frm.alloc _ _) (fun b hb => by cases hb) (by simp), Blk.new w1 _ _, by have := HGU.out; omega, by have := HGU.out; have := HGL.out; omega⟩, HI.out.2.andAlloc _⟩
set_option maxRecDepth 100000 in
theorem uRewind (gu g gi B : Nat) (s : SkA) (back : Bool) (w : World) {v : Value} (h : UniS w gu g gi s v back) (ok : SkOk g B s) (hf : Full s) :
    Calls Try.prog 182 #[.pointer (some ⟨gu, 0, none⟩)] w (UMov gu g gi s (bif back then (s.ns.length : Int) - 1 else ((0 : Nat) : Int)) back w) := by
  have H := Lib.hid h
  have OK := Lib.hid ok
  have HF := Lib.hid hf
  have u0 := h.un.at_ (i := 0) rfl
  have u1 := h.un.at_ (i := 1) rfl
  clear h ok hf
  cases back with
  | false =>
    go_enter Try.func182, Try.ntmps182
    go_wp2_with fail
    refine (seekFirst_skl g gi B s v w H.out.it OK.out HF.out).mono ?_
    rintro E w1 ⟨rfl, hm⟩
    have HM := Lib.hid (UMov.of H.out hm (itV_nat s 0).symm)
    clear hm
    go_wp2
    go_end0
    exact ⟨rfl, HM.out⟩
  | true =>
    go_enter Try.func182, Try.ntmps182
    go_wp2_with fail
    refine (seekLast_it g gi B s v w H.out.it OK.out HF.out).mono ?_
    rintro E w1 ⟨rfl, hm⟩
    have HM := Lib.hid (UMov.of H.out hm (itV_bef _ (Nat.le_refl _)))
    clear hm
    go_wp2
    go_end0
    exact ⟨rfl, HM.out⟩
set_option maxRecDepth 100000 in
theorem uNext (gu g gi B : Nat) (s : SkA) (back : Bool) (j : Nat) (d : Nd) (w : World) (h : UniS w gu g gi s (.pointer (some ⟨d.blk, 0, none⟩)) back) (ok : SkOk g B s) (hf : Full s) (hj : s.ns[j]? = some d) :
    Calls Try.prog 181 #[.pointer (some ⟨gu, 0, none⟩)] w (UMov gu g gi s (bif back then (j : Int) - 1 else ((j + 1 : Nat) : Int)) back w) := by
  have H := Lib.hid h
  have OK := Lib.hid ok
  have HF := Lib.hid hf
  have u0 := h.un.at_ (i := 0) rfl
  have u1 := h.un.at_ (i := 1) rfl
  have HJ := Lib.hid hj
  have HJL : Hid (j ≤ s.ns.length) := Nat.le_of_lt (List.getElem?_eq_some_iff.1 hj).1
  clear h ok hf hj
  cases back with
  | false =>
    go_enter Try.func181, Try.ntmps181
    go_wp2_with fail
    refine (next_it g gi B s j d w H.out.it OK.out HF.out HJ.out).mono ?_
    rintro E w1 ⟨rfl, hm⟩
    have HM := Lib.hid (UMov.of H.out hm (itV_nat s (j + 1)).symm)
    clear hm
    go_wp2
    go_end0
    exact ⟨rfl, HM.out⟩
  | true =>
    go_enter Try.func181, Try.ntmps181
    go_wp2_with fail
    refine (prev_it g gi B s j d w H.out.it OK.out HF.out HJ.out).mono ?_
    rintro E w1 ⟨rfl, hm⟩
    have HM := Lib.hid (UMov.of H.out hm (itV_bef _ HJL.out))
    clear hm
    go_wp2
    go_end0
    exact ⟨rfl, HM.out⟩
set_option maxRecDepth 100000 in
theorem uSeek (gu g gi B : Nat) (s : SkA) (back : Bool) (K : Option Addr) (nk ck : Nat) (k : List Int) (x : Int) (w : World) {v : Value} (h : UniS w gu g gi s v back) (ok : SkOk g B s) (hf : Full s) (hk : Sl w K nk (nums .u8 (keyB k x))) (hck : nk ≤ ck) (hkb : Byt (keyB k x)) (hnk : nk ≤ 1000) :
    Calls Try.prog 183 #[.pointer (some ⟨gu, 0, none⟩), .slice K nk ck] w (UMov gu g gi s (bif back then backE (s.ns.map Nd.e) k x else ((posE (s.ns.map Nd.e) k x : Nat) : Int)) back w) := by
  have H := Lib.hid h
  have OK := Lib.hid ok
  have HF := Lib.hid hf
  have u0 := h.un.at_ (i := 0) rfl
  have u1 := h.un.at_ (i := 1) rfl
  have HK := Lib.hid hk
  have HKB := Lib.hid hkb
  clear h ok hf hk hkb
  cases back with
  | false =>
    go_enter Try.func183, Try.ntmps183
    go_wp2_with fail
    refine (seek_it g gi B s v K nk ck k x w H.out.it OK.out HF.out HK.out hck HKB.out hnk).mono ?_
    rintro E w1 ⟨rfl, hm⟩
    have HM := Lib.hid (UMov.of H.out hm (itV_seek s k x))
    clear hm
    go_wp2
    go_end0
    exact ⟨rfl, HM.out⟩
  | true =>
    go_enter Try.func183, Try.ntmps183
    go_wp2_with fail
    refine (seekBack_it g gi B s v K nk ck k x w H.out.it OK.out HF.out HK.out hck HKB.out hnk).mono ?_
    rintro E w1 ⟨rfl, hm⟩
    have HM := Lib.hid (UMov.of H.out hm (itV_back s k x))
    clear hm
    go_wp2
    go_end0
    exact ⟨rfl, HM.out⟩
theorem uValid (gu g gi : Nat) (s : SkA) (back : Bool) (A : Option Addr) (b : Bool) (w : World) (h : UniS w gu g gi s (.pointer A) back) (hA : (A = none ∧ b = false) ∨ ((∃ c, A = some ⟨c, 0, none⟩) ∧ b = true)) :
    Calls Try.prog 184 #[.pointer (some ⟨gu, 0, none⟩)] w fun E w' => E = .returned (.bool b) ∧ w = w' := by
  have H := Lib.hid h
  have u0 := h.un.at_ (i := 0) rfl
  clear h
  go_enter Try.func184, Try.ntmps184
  go_wp2_with fail
  refine (valid_skl g gi s A b w (H.out.it.it.at_ rfl) hA).mono ?_
  rintro E w1 ⟨rfl, rfl⟩
  clear hA
  go_wp2
  go_ret
  exact ⟨rfl, rfl⟩
theorem uKey (gu g gi B : Nat) (s : SkA) (back : Bool) (j : Nat) (d : Nd) (w : World) (h : UniS w gu g gi s (.pointer (some ⟨d.blk, 0, none⟩)) back) (ok : SkOk g B s) (hj : s.ns[j]? = some d) :
    Calls Try.prog 180 #[.pointer (some ⟨gu, 0, none⟩)] w fun E w' => E = .returned (.slice (some ⟨s.gb, d.ko, none⟩) d.key.length (1048576 - d.ko)) ∧ Drew w w' := by
  have H := Lib.hid h
  have OK := Lib.hid ok
  have HJ := Lib.hid hj
  have u0 := h.un.at_ (i := 0) rfl
  clear h ok hj
  go_enter Try.func180, Try.ntmps180
  go_wp2_with fail
  refine (key_it g gi B s j d w H.out.it OK.out HJ.out).mono ?_
  rintro E w1 ⟨rfl, nx, rfl⟩
  go_wp2
  go_ret
  exact ⟨rfl, nx, rfl⟩
theorem uClose (gu g gi : Nat) (s : SkA) (back : Bool) (v : Value) (w : World) (h : UniS w gu g gi s v back) (hr : s.ref = 2) :
    Calls Try.prog 179 #[.pointer (some ⟨gu, 0, none⟩)] w fun E w' => E = .returned .nilIface ∧ Frm [g] w w' := by
  have H := Lib.hid h
  have HR := Lib.hid hr
  have u0 := h.un.at_ (i := 0) rfl
  clear h hr
  go_enter Try.func179, Try.ntmps179
  go_wp2_with fail
  refine (close_it g gi s v w H.out.it HR.out).mono ?_
  rintro E w1 ⟨rfl, hf⟩
  have HF := Lib.hid hf
  clear hf
  go_wp2
  go_ret
  exact ⟨rfl, HF.out⟩
set_option maxRecDepth 100000 in
theorem uValue (gu g gi B : Nat) (s : SkA) (back : Bool) (j : Nat) (d : Nd) (w : World) (h : UniS w gu g gi s (.pointer (some ⟨d.blk, 0, none⟩)) back) (ok : SkOk g B s) (hj : s.ns[j]? = some d) :
    Calls Try.prog 185 #[.pointer (some ⟨gu, 0, none⟩)] w fun E w' => ∃ A c, E = .returned (.agg #[.int .u8 d.e.m, .int .u8 d.e.u, .int .u64 d.e.x, .slice A d.e.d.length c, .int .u64 0]) ∧ d.e.d.length ≤ c ∧ Sl w' A d.e.d.length (nums .u8 d.e.d) ∧ Below w.heap.size w w' := by
  have HGB : Hid (s.gb < w.heap.size) := h.it.st.arn.buf.lt
  have HW := Lib.hid (h.alloc ok (.cells #[.int .u8 0, .int .u8 0, .int .u64 0, .slice none 0 0, .int .u64 0] 72))
  have HR : Hid (Blk (w.alloc (.cells #[.int .u8 0, .int .u8 0, .int .u64 0, .slice none 0 0, .int .u64 0] 72)) w.heap.size 72 [.int .u8 0, .int .u8 0, .int .u64 0, .slice none 0 0, .int .u64 0]) := Blk.new w _ _
  have HB : Hid (Below w.heap.size w (w.alloc (.cells #[.int .u8 0, .int .u8 0, .int .u64 0, .slice none 0 0, .int .u64 0] 72))) := (Below.refl w.heap.size w).alloc (Nat.le_refl _) _
  have OK := Lib.hid ok
  have HJ := Lib.hid hj
  have u0 := HW.out.un.at_ (i := 0) rfl
  clear h ok hj
  go_enter Try.func185, Try.ntmps185
  go_wp2_with fail
  generalize w.alloc (.cells #[.int .u8 0, .int .u8 0, .int .u64 0, .slice none 0 0, .int .u64 0] 72) = w0 at *
  refine (value_it g gi B s j d w0 HW.out.it OK.out HJ.out).mono ?_
  rintro E w3 ⟨A, c, rfl, hc, hs, hb, hA⟩
  have HA2 : Hid (∀ b oo, A = some ⟨b, oo, none⟩ → b ≠ w.heap.size) := fun b oo e => by
    have := hA b oo e
    have := HGB.out
    omega
  have hr3 := HR.out.frm (Frm.of_below hb) (by simp)
  have HB3 : Hid (Below w.heap.size w w3) := HB.out.trans (hb.mono (Nat.le_of_lt HR.out.lt))
  have HS := Lib.hid hs
  have r0 := hr3.at_ (i := 0) rfl
  have r1 := hr3.at_ (i := 1) rfl
  have r2 := hr3.at_ (i := 2) rfl
  have r3 := hr3.at_ (i := 3) rfl
  have r4 := hr3.at_ (i := 4) rfl
  have z0 := hr3.frozen 0
  have z1 := hr3.frozen 1
  have z2 := hr3.frozen 2
  have z3 := hr3.frozen 3
  have z4 := hr3.frozen 4
  clear hr3 hs hb u0 hA
  go_wp2
  refine bodyPost_ret (v := .agg #[.int .u8 d.e.m, .int .u8 d.e.u, .int .u64 d.e.x, .slice A d.e.d.length c, .int .u64 0]) (by simp [results, Try.results185, go_sem, r0, r1, r2, r3, r4, z0, z1, z2, z3, z4]) rfl ?_
  refine ⟨A, c, rfl, hc, ?_, put5 HB3.out _ _ _ _ _⟩
  refine HS.out.frm (l := [w.heap.size]) (((((Frm.refl _ w3).andSet _ _ (.inl (by simp))).andSet _ _ (.inl (by simp))).andSet _ _ (.inl (by simp))).andSet _ _ (.inl (by simp))|>.andSet _ _ (.inl (by simp))) (fun b o e => by have := HA2.out b o e; simpa using this)
end Go.Proofs.Ytanmgkpgfmkobaa
