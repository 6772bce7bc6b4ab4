/- Lists of entries as lists of a table's; a side gets its iterator. -/
import Derived.Test.YtegaigpolhdicaaGreatAD
namespace Go.Proofs.YtegaigpolhdicaaGreat
open Go.RowKit
set_option linter.unusedVariables false
set_option linter.unusedSimpArgs false
theorem tcells_one (q : ER) : ∀ u ∈ q.tcells, u.oneCell' = true := fun u hu => by
  simp only [ER.tcells, List.mem_cons, List.not_mem_nil, or_false] at hu
  rcases hu with rfl | rfl | rfl | rfl | rfl | rfl <;> rfl
theorem flatT_snoc (l : List ER) (q : ER) : flatT (l ++ [q]) = flatT l ++ q.tcells := by
  rw [flatT_append, flatT_cons]
  show _ ++ (q.tcells ++ []) = _
  rw [List.append_nil]
theorem one_slT (w : World) (q : ER) : Sl (w.alloc (.cells q.tcells.toArray 68)) (some ⟨w.heap.size, 0, none⟩) (1 * 6) q.tcells :=
  (Blk.new w 68 q.tcells).sl (off := 0) (n := 6) (by show 0 + 6 ≤ 6; omega)
theorem SlB.row {B n base m k s t : Nat} {w w' : World} {A : Option Addr} {v : Value} {xs : List Value} (h : SlB B w A n) (hO : w.ownsRow base t s v m xs) (ht : 5 ≠ t) (hg : w.grownBy w' v.ownBlock) : SlB B w' A n := fun b o e hn => by
  obtain ⟨h1, cs, h2⟩ := h b o e hn
  exact ⟨h1, cs, h2.frm (frm_row hg) (fun hm => row_not hO (Option.mem_toList.1 hm) h2 ht)⟩
theorem Sl.row {B n base m s t : Nat} {w w' : World} {A : Option Addr} {v : Value} {xs us : List Value} (hs : Sl w A n us) (h : SlB B w A n) (hO : w.ownsRow base t s v m xs) (ht : 5 ≠ t) (hg : w.grownBy w' v.ownBlock) : Sl w' A n us :=
  hs.frm0 (frm_row hg) (fun b o e hn _ hm => by
    obtain ⟨h1, cs, h2⟩ := h b o e hn
    exact row_not hO (Option.mem_toList.1 hm) h2 ht)
theorem TeB.row {B base m s t : Nat} {w w' : World} {q : ER} {v : Value} {xs : List Value} (h : TeB B w q) (hO : w.ownsRow base t s v m xs) (ht : 5 ≠ t) (hg : w.grownBy w' v.ownBlock) : TeB B w' q :=
  ⟨⟨h.in_.key.row h.key hO ht hg, h.in_.dat.row h.dat hO ht hg, h.in_.hk, h.in_.hd⟩, h.key.row (k := 0) hO ht hg, h.dat.row (k := 0) hO ht hg⟩
/-- A list of a table's entries that has been made behind B. -/
structure TsB (B : Nat) (w : World) (A : Option Addr) (es : List ER) : Prop where
  ters : Ters w A es
  each : ∀ q ∈ es, TeB B w q
  row : ∀ b o, A = some ⟨b, o, none⟩ → 0 < es.length → B ≤ b ∧ ∃ cs, Blk w b 68 cs
theorem TsB.below {B : Nat} {w w' : World} {A : Option Addr} {es : List ER} (h : TsB B w A es) (hb : Below w.heap.size w w') : TsB B w' A es :=
  ⟨⟨h.ters.sl.below hb, fun q hq => (h.ters.each q hq).below hb⟩, fun q hq => (h.each q hq).below hb, fun b o e hn => ⟨(h.row b o e hn).1, by
    obtain ⟨cs, h2⟩ := (h.row b o e hn).2
    exact ⟨cs, h2.below hb h2.lt⟩⟩⟩
def GivenP (n : Nat) (l : List ER) (w : World) (E : Ending) (w' : World) : Prop := ∃ A c es, E = .returned (.slice A n c) ∧ TsB w.heap.size w' A es ∧ es.map ER.e = l.map ER.e ∧ n ≤ c ∧ Below w.heap.size w w'
set_option maxRecDepth 100000 in
set_option maxHeartbeats 4000000 in
theorem given_any (A : Option Addr) (n c : Nat) (l : List ER) (w : World) (hA : Ers w A l) (hl : l.length = n) (hn : n ≤ 100) (ok : ∀ r ∈ l, EntOk r.e) :
    Calls Tryz.prog 18 #[.slice A n c] w (GivenP n l w) := by
  have HA := Lib.hid hA
  have HL := Lib.hid hl
  have HOK := Lib.hid ok
  clear hA hl ok
  go_enter Tryz.func18, Tryz.ntmps18
  go_wp2
  go_loopg [3, 9] n (fun f v3 v9 wr => ∃ (i c3 : Nat) (A3 : Option Addr) (qs : List ER), v3 = .slice A3 i c3 ∧ v9 = .int .i64 i ∧ i ≤ n ∧ Hid (i + f = n) ∧ Hid (wr.ownsRow w.heap.size 68 6 (.slice A3 i c3) i (flatT qs)) ∧ Hid (qs.length = i)
    ∧ Hid (qs.map ER.e = (l.take i).map ER.e) ∧ Hid (∀ q ∈ qs, TeB w.heap.size wr q) ∧ Hid (Below w.heap.size w wr))
  case atStart =>
    refine ⟨0, 0, _, [], rfl, rfl, Nat.zero_le _, by simp [Hid], World.ownsRow_made w #[] 0 (Nat.le_refl _) (by simp [maxLen]) rfl, rfl, rfl, fun p hp => (by cases hp), (Below.refl _ _).alloc (Nat.le_refl _) _⟩
  case round =>
    obtain ⟨i, c3, A3, qs, rfl, rfl, hin, hf, hO, hql, hmap, hqs, hbw⟩ := hrel
    by_cases hlt : i < n
    · obtain ⟨r, hr⟩ : ∃ r, l[i]? = some r := ⟨_, List.getElem?_eq_getElem (by have := HL.out; omega)⟩
      have hEr := HA.out.below hbw.out
      have HRI := Lib.hid (hEr.each r (List.mem_of_getElem? hr))
      have HRK := Lib.hid (HOK.out r (List.mem_of_getElem? hr))
      obtain ⟨ga, oa, hAe⟩ : ∃ g o, A = some ⟨g, o, none⟩ := by
        obtain ⟨g, o, e, _⟩ := hEr.sl.2 (by have := HL.out; omega)
        exact ⟨g, o, e⟩
      subst hAe
      have ca : ∀ j v, r.cells[j]? = some v → wr.cell? ⟨ga, oa + i * 6 + j, none⟩ = some v := fun j v hj => hEr.at_ hr hj
      have b0 := ca 0 _ rfl
      have b1 := ca 1 _ rfl
      have b2 := ca 2 _ rfl
      have b3 := ca 3 _ rfl
      have b4 := ca 4 _ rfl
      have b5 := ca 5 _ rfl
      rw [Nat.add_zero] at b0
      have HTK := Lib.hid (take_snoc l i r hr)
      have HX : Hid (Blk (wr.alloc (boxE r)) wr.heap.size 44 r.cells) := Blk.new wr _ _
      have HB9 : Hid (Below w.heap.size w (wr.alloc (boxE r))) := hbw.out.alloc hbw.out.size _
      have HR9 := Lib.hid (HRI.out.alloc (boxE r))
      have HO9 := Lib.hid (hO.out.alloc (boxE r))
      have HQ9 : Hid (∀ q ∈ qs, TeB w.heap.size (wr.alloc (boxE r)) q) := fun q hq => (hqs.out q hq).below ((Below.refl wr.heap.size wr).alloc (Nat.le_refl _) _)
      clear hEr ca hr hO hqs hbw HRI
      obtain ⟨gkO, rfl⟩ : ∃ x, gk = x + 1 := ⟨gk - 1, by have := hf.out; omega⟩
      go_wp2_with fail
      rw [show (Obj.cells #[.slice r.Ak r.nk r.ck, .int .u64 r.e.v, .int .u8 r.e.m, .int .u8 r.e.u, .int .u64 r.e.x, .slice r.Ad r.nd r.cd] 44) = boxE r from rfl]
      generalize wr.alloc (boxE r) = w9 at *
      obtain ⟨g10, hg10⟩ : ∃ x, x = wr.heap.size := ⟨_, rfl⟩
      rw [← hg10] at HX ⊢
      clear hg10 b0 b1 b2 b3 b4 b5
      have y0 := HX.out.at_ (i := 0) rfl
      have y1 := HX.out.at_ (i := 1) rfl
      have y2 := HX.out.at_ (i := 2) rfl
      have y3 := HX.out.at_ (i := 3) rfl
      have y4 := HX.out.at_ (i := 4) rfl
      have y5 := HX.out.at_ (i := 5) rfl
      go_wp2_with fail
      refine (givenEntry_any r w9 HR9.out HRK.out).mono ?_
      rintro E wy ⟨⟨Ak2, nk2, ck2, Ad2, nd2, cd2, e2⟩, hE, hqe, hte, hby⟩
      replace hE : E = .returned (.agg #[.slice Ak2 nk2 ck2, .int .u8 e2.m, .int .u8 e2.u, .int .u64 e2.x, .slice Ad2 nd2 cd2, .int .u64 0]) := hE
      subst hE
      have HQE := Lib.hid hqe
      have HTE := Lib.hid (hte.mono HB9.out.size)
      have HOy := Lib.hid (own_frm HO9.out (Frm.of_below hby) (fun i hi => by cases hi))
      have HQy : Hid (∀ q ∈ qs, TeB w.heap.size wy q) := fun q hq => (HQ9.out q hq).below hby
      have HBy : Hid (Below w.heap.size w wy) := HB9.out.trans (hby.mono HB9.out.size)
      clear hqe hte hby y0 y1 y2 y3 y4 y5 HX HO9 HQ9 HB9 HR9
      go_wp2_with (at_builtin; refine wpList_append_sz rfl (.tmp 13) (.tmp 16) 53 rfl w.heap.size 68 6 72 _ Tryz.underlying53 infoTE rfl (by omega) (by omega) (by omega) (.slice A3 i c3) i (flatT qs) rfl (HOy.out.alloc _) _ 1 1 (ER.tcells ⟨Ak2, nk2, ck2, Ad2, nd2, cd2, e2⟩) rfl (one_slT wy ⟨Ak2, nk2, ck2, Ad2, nd2, cd2, e2⟩) (tcells_one _) (by omega) ?cx ?_; (case cx => rw [World.size_alloc]; have := HBy.out.size; omega); intro v80 w3 ho3 hg3 hat3; obtain ⟨A4, c4, hv3, hc4, hs3, hA3⟩ := own_szS ho3; subst hv3; have HO3 := Lib.hid ho3; have HG3 := Lib.hid hg3; clear ho3 hg3 hat3 hs3 hA3)
      have HOYA := Lib.hid (HOy.out.alloc (.cells (ER.tcells ⟨Ak2, nk2, ck2, Ad2, nd2, cd2, e2⟩).toArray 68))
      go_roundg gkO
      case measure => omega
      case rel =>
        have hal : Below wy.heap.size wy (wy.alloc (.cells (ER.tcells ⟨Ak2, nk2, ck2, Ad2, nd2, cd2, e2⟩).toArray 68)) := (Below.refl _ _).alloc (Nat.le_refl _) _
        refine ⟨i + 1, c4, A4, qs ++ [⟨Ak2, nk2, ck2, Ad2, nd2, cd2, e2⟩], rfl, by go_num, by omega, by have := hf.out; show _ = _; omega, ?_, by show _ = _; rw [List.length_append, hql.out]; rfl, ?_, ?_, ?_⟩
        · show World.ownsRow _ _ _ _ _ _ _
          rw [flatT_snoc]
          exact HO3.out
        · show _ = _
          rw [HTK.out, List.map_append, List.map_append, hmap.out]
          exact congrArg _ (congrArg (fun x => [x]) HQE.out)
        · intro q hq
          rcases List.mem_append.1 hq with h | h
          · exact ((HQy.out q h).below hal).row HOYA.out (by decide) HG3.out
          · rw [List.mem_singleton] at h
            subst h
            exact (HTE.out.below hal).row HOYA.out (by decide) HG3.out
        · exact (HBy.out.trans (hal.mono HBy.out.size)).grown HG3.out (by rw [World.size_alloc]; have := HBy.out.size; omega) (fun k' e => (HOYA.out.lt k' e).1)
    · have hie : i = n := by omega
      have HIE := Lib.hid hie
      clear hie
      have hge : ¬ ((i : Int) < (n : Int)) := by omega
      obtain ⟨A9, c9, hv9, hc9, hs9, hA9⟩ := own_szS hO.out
      injection hv9 with hv1 hv2 hv3
      subst hv1
      subst hv3
      have HS9 := Lib.hid (And.intro hs9 hA9)
      clear hs9 hA9 hO hv2
      go_wp2
      go_ret
      have hi := HIE.out
      subst hi
      refine ⟨A3, c3, qs, rfl, ⟨⟨by rw [hql.out]; exact HS9.out.1, fun q hq => (hqs.out q hq).in_⟩, hqs.out, fun b o e hn => HS9.out.2 b o e (by rw [hql.out] at hn; exact hn)⟩, ?_, hc9, hbw.out⟩
      rw [hmap.out, List.take_of_length_le (by rw [HL.out]; exact Nat.le_refl _)]
/-! A side gets its iterator. -/
theorem as_lm (v : Value) (w : World) : (Instr.typeAssert (.iface 52 v) 59 77 true).run Tryz.prog w = .ok (.tuple #[.pointer none, .bool false]) w := by kernel_rfl
theorem as_lc (v : Value) (w : World) : (Instr.typeAssert (.iface 52 v) 59 78 true).run Tryz.prog w = .ok (.tuple #[.pointer none, .bool false]) w := by kernel_rfl
theorem as_mm (v : Value) (w : World) : (Instr.typeAssert (.iface 77 v) 59 77 true).run Tryz.prog w = .ok (.tuple #[v, .bool true]) w := by kernel_rfl
theorem as_mc (v : Value) (w : World) : (Instr.typeAssert (.iface 77 v) 59 78 true).run Tryz.prog w = .ok (.tuple #[.pointer none, .bool false]) w := by kernel_rfl
set_option maxRecDepth 100000 in
set_option maxHeartbeats 2000000 in
theorem setIterator_any (g o : Nat) (T : Tr) (cs : List Value) (w : World) (hb : Blk w g 83 cs) (v2 v3 v4 : Value) (e2 : cs[o + 2]? = some v2) (e3 : cs[o + 3]? = some v3) (e4 : cs[o + 4]? = some v4) :
    Calls Tryz.prog 29 #[.pointer (some ⟨g, o, none⟩), T.ifc] w fun E w' => E = .returned (.tuple #[]) ∧ Blk w' g 83 (((cs.set (o + 2) T.ifc).set (o + 3) T.mp).set (o + 4) (.pointer none)) ∧ FrS (· = g) w w' := by
  have H := Lib.hid hb
  have u2 := hb.at_ e2
  have u3 := hb.at_ e3
  have u4 := hb.at_ e4
  have z2 := hb.frozen (o + 2)
  have z3 := hb.frozen (o + 3)
  have z4 := hb.frozen (o + 4)
  clear hb e2 e3 e4
  have q1 := as_lm
  have q2 := as_lc
  have q3 := as_mm
  have q4 := as_mc
  cases T with
  | leaf g2 A c es =>
    have hq : ∀ a b c', Hid (FrS (· = g) w (((w.setCell ⟨g, o + 2, none⟩ a).setCell ⟨g, o + 3, none⟩ b).setCell ⟨g, o + 4, none⟩ c')) := fun a b c' => (((FrS.refl (· = g) w).andSet ⟨g, o + 2, none⟩ a rfl).andSet ⟨g, o + 3, none⟩ b rfl).andSet ⟨g, o + 4, none⟩ c' rfl
    have v3' : ∀ a, (w.setCell ⟨g, o + 2, none⟩ a).cell? ⟨g, o + 3, none⟩ = some v3 := fun a => (World.cell?_setCell_other _ _ _ _ (fun e => by injection e with _ e; omega)).trans u3
    have v4' : ∀ a b, ((w.setCell ⟨g, o + 2, none⟩ a).setCell ⟨g, o + 3, none⟩ b).cell? ⟨g, o + 4, none⟩ = some v4 := fun a b => (World.cell?_setCell_other _ _ _ _ (fun e => by injection e with _ e; omega)).trans ((World.cell?_setCell_other _ _ _ _ (fun e => by injection e with _ e; omega)).trans u4)
    rw [show (Tr.leaf g2 A c es).ifc = .iface 52 (.pointer (some ⟨g2, 0, none⟩)) from rfl, show (Tr.leaf g2 A c es).mp = .pointer none from rfl]
    have w3 := v3' (.iface 52 (.pointer (some ⟨g2, 0, none⟩)))
    have w4 := v4' (.iface 52 (.pointer (some ⟨g2, 0, none⟩))) (.pointer none)
    clear u3 u4 v3' v4'
    go_enter Tryz.func29, Tryz.ntmps29
    go_wp2
    go_returns
    exact ⟨rfl, ((H.out.set_ (o + 2) _).set_ (o + 3) _).set_ (o + 4) _, (hq _ _ _).out⟩
  | node g2 L R =>
    have hq : ∀ a b c', Hid (FrS (· = g) w (((w.setCell ⟨g, o + 2, none⟩ a).setCell ⟨g, o + 3, none⟩ b).setCell ⟨g, o + 4, none⟩ c')) := fun a b c' => (((FrS.refl (· = g) w).andSet ⟨g, o + 2, none⟩ a rfl).andSet ⟨g, o + 3, none⟩ b rfl).andSet ⟨g, o + 4, none⟩ c' rfl
    have v3' : ∀ a, (w.setCell ⟨g, o + 2, none⟩ a).cell? ⟨g, o + 3, none⟩ = some v3 := fun a => (World.cell?_setCell_other _ _ _ _ (fun e => by injection e with _ e; omega)).trans u3
    have v4' : ∀ a b, ((w.setCell ⟨g, o + 2, none⟩ a).setCell ⟨g, o + 3, none⟩ b).cell? ⟨g, o + 4, none⟩ = some v4 := fun a b => (World.cell?_setCell_other _ _ _ _ (fun e => by injection e with _ e; omega)).trans ((World.cell?_setCell_other _ _ _ _ (fun e => by injection e with _ e; omega)).trans u4)
    rw [show (Tr.node g2 L R).ifc = .iface 77 (.pointer (some ⟨g2, 0, none⟩)) from rfl, show (Tr.node g2 L R).mp = .pointer (some ⟨g2, 0, none⟩) from rfl]
    have w3 := v3' (.iface 77 (.pointer (some ⟨g2, 0, none⟩)))
    have w4 := v4' (.iface 77 (.pointer (some ⟨g2, 0, none⟩))) (.pointer (some ⟨g2, 0, none⟩))
    clear u3 u4 v3' v4'
    go_enter Tryz.func29, Tryz.ntmps29
    go_wp2
    go_returns
    exact ⟨rfl, ((H.out.set_ (o + 2) _).set_ (o + 3) _).set_ (o + 4) _, (hq _ _ _).out⟩
end Go.Proofs.YtegaigpolhdicaaGreat
