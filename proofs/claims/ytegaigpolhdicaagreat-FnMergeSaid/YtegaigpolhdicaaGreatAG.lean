/- impl.RunMerge. -/
import Derived.Test.YtegaigpolhdicaaGreatAF
namespace Go.Proofs.YtegaigpolhdicaaGreat
open Go.RowKit
set_option linter.unusedVariables false
set_option linter.unusedSimpArgs false
/-- A list of entries as it lies in a list of lists. -/
structure LsR where
  A : Option Addr
  c : Nat
  es : List ER
def LsR.v (q : LsR) : Value := .slice q.A q.es.length q.c
structure Lss (w : World) (A : Option Addr) (ls : List LsR) : Prop where
  sl : Sl w A ls.length (ls.map LsR.v)
  each : ∀ q ∈ ls, Ers w q.A q.es ∧ q.es.length ≤ q.c
theorem Lss.below {w w' : World} {A : Option Addr} {ls : List LsR} (h : Lss w A ls) (hb : Below w.heap.size w w') : Lss w' A ls := ⟨h.sl.below hb, fun q hq => ⟨(h.each q hq).1.below hb, (h.each q hq).2⟩⟩
def entsOf (ls : List LsR) : List (List Ent) := ls.map fun q => q.es.map ER.e
/-- An iterator over a list that has been made. -/
structure LfR where
  g : Nat
  A : Option Addr
  c : Nat
  es : List ER
def LfR.t (q : LfR) : Tr := .leaf q.g q.A q.c q.es
def ifcs (qs : List LfR) : List Value := qs.map fun q => q.t.ifc
structure LeafB (B : Nat) (rev : Bool) (w : World) (q : LfR) : Prop where
  new : B ≤ q.g
  blk : Blk w q.g 56 [.slice q.A q.es.length q.c, .bool rev, .int .i64 0]
  ts : TsB B w q.A q.es
  hc : q.es.length ≤ q.c
  hn : q.es.length ≤ 80
theorem TsB.mono {B C : Nat} {w : World} {A : Option Addr} {es : List ER} (h : TsB C w A es) (hB : B ≤ C) : TsB B w A es := ⟨h.ters, fun q hq => (h.each q hq).mono hB, fun b o e hn => ⟨Nat.le_trans hB (h.row b o e hn).1, (h.row b o e hn).2⟩⟩
theorem LeafB.below {B : Nat} {rev : Bool} {w w' : World} {q : LfR} (h : LeafB B rev w q) (hb : Below w.heap.size w w') : LeafB B rev w' q := ⟨h.new, h.blk.below hb h.blk.lt, h.ts.below hb, h.hc, h.hn⟩
theorem TsB.row_ {B base m s t : Nat} {w w' : World} {A : Option Addr} {es : List ER} {v : Value} {xs : List Value} (h : TsB B w A es) (hO : w.ownsRow base t s v m xs) (ht : 5 ≠ t) (ht2 : 68 ≠ t) (hg : w.grownBy w' v.ownBlock) : TsB B w' A es :=
  ⟨⟨h.ters.sl.frm0 (frm_row hg) (fun b o e hn hlt hm => by
    obtain ⟨_, cs, h2⟩ := h.row b o e (by omega)
    exact row_not hO (Option.mem_toList.1 hm) h2 ht2), fun q hq => ((h.each q hq).row hO ht hg).in_⟩, fun q hq => (h.each q hq).row hO ht hg, fun b o e hn => ⟨(h.row b o e hn).1, by
    obtain ⟨_, cs, h2⟩ := h.row b o e hn
    exact ⟨cs, h2.frm (frm_row hg) (fun hm => row_not hO (Option.mem_toList.1 hm) h2 ht2)⟩⟩⟩
theorem LeafB.row {B base m s t : Nat} {rev : Bool} {w w' : World} {q : LfR} {v : Value} {xs : List Value} (h : LeafB B rev w q) (hO : w.ownsRow base t s v m xs) (ht : 5 ≠ t) (ht2 : 68 ≠ t) (ht3 : 56 ≠ t) (hg : w.grownBy w' v.ownBlock) : LeafB B rev w' q :=
  ⟨h.new, h.blk.frm (frm_row hg) (fun hm => row_not hO (Option.mem_toList.1 hm) h.blk ht3), h.ts.row_ hO ht ht2 hg, h.hc, h.hn⟩
theorem infoIt : (Tryz.prog.info? 59).map (fun i => (i.zero, i.size, i.bytes)) = some (some .nilIface, 1, 16) := by kernel_rfl
def lfO (A : Option Addr) (n c : Nat) (rev : Bool) : Obj := .cells #[.slice A n c, .bool rev, .int .i64 0] 56
theorem one_slJ (w : World) (o : Obj) (v : Value) : Sl ((w.alloc o).alloc (.cells #[v] 59)) (some ⟨w.heap.size + 1, 0, none⟩) (1 * 1) [v] := by
  have := sl_one (w.alloc o) v 59
  rwa [World.size_alloc] at this
/-! The iterators as a forest. -/
def UM (B : Nat) (w1 : World) (i : Nat) : Prop := (B ≤ i ∧ ∃ cs, Blk w1 i 56 cs) ∨ w1.heap.size ≤ i
theorem UM.new (B : Nat) (w1 : World) : NewU (UM B w1) w1 := fun i hi => .inr hi
theorem SlB.um {B n : Nat} {w : World} {A : Option Addr} {xs : List Value} (hs : Sl w A n xs) (h : SlB B w A n) : Fix (UM B w) w (fun W => Sl W A n xs) := hs.fix (fun b o e hn hlt hu => by
  obtain ⟨_, cs, h2⟩ := h b o e hn
  rcases hu with ⟨_, cs', h3⟩ | h3
  · exact absurd (blk_two h2 h3) (by decide)
  · omega)
theorem TsB.um {B : Nat} {w : World} {A : Option Addr} {es : List ER} (h : TsB B w A es) : Fix (UM B w) w (fun W => Ters W A es) := fun W hW =>
  ⟨(h.ters.sl.fix (U := UM B w) (fun b o e hn hlt hu => by
    obtain ⟨_, cs, h2⟩ := h.row b o e (by omega)
    rcases hu with ⟨_, cs', h3⟩ | h3
    · exact absurd (blk_two h2 h3) (by decide)
    · omega)) W hW, fun q hq => ⟨(SlB.um (h.each q hq).in_.key (h.each q hq).key) W hW, (SlB.um (h.each q hq).in_.dat (h.each q hq).dat) W hW, (h.each q hq).in_.hk, (h.each q hq).in_.hd⟩⟩
def foOf (ls : List LfR) : Fo := ls.map fun q => (q.t, (· = q.g))
theorem for_leaves {B : Nat} {rev : Bool} {w : World} {ls : List LfR} (h : ∀ q ∈ ls, LeafB B rev w q) (hp : ls.Pairwise fun p q => p.g ≠ q.g) (hs : ∀ q ∈ ls, SortedE (q.es.map ER.e) ∧ ∀ r ∈ q.es, EntOk r.e) : For (UM B w) rev w (foOf ls) := by
  refine ⟨fun p hp => ?_, ?_⟩
  · obtain ⟨q, hq, rfl⟩ := List.mem_map.1 hp
    have hl := h q hq
    have hso := hs q hq
    refine ⟨⟨rfl, hl.ts.um, 0, by decide, by omega, hl.blk, fun r hr => by cases hr⟩, ⟨⟨?_, ?_⟩, hl.hn, hl.hc⟩, ?_⟩
    · show SortD rev (bif rev then (q.es.map ER.e).reverse else q.es.map ER.e)
      cases rev with
      | false => exact hso.1
      | true => exact sortD_back (rev := false) hso.1
    · intro e he
      have : e ∈ q.es.map ER.e := by
        have he' : e ∈ (bif rev then (q.es.map ER.e).reverse else q.es.map ER.e) := he
        cases rev with
        | false => exact he'
        | true => exact List.mem_reverse.1 he'
      obtain ⟨r, hr, rfl⟩ := List.mem_map.1 this
      exact hso.2 r hr
    · rintro i rfl
      exact ⟨.inl ⟨hl.new, _, hl.blk⟩, hl.blk.lt⟩
  · unfold foOf
    rw [List.pairwise_map]
    exact hp.imp fun {p q} hpq i h1 h2 => hpq (h1.symm.trans h2)
theorem fo_lists (ls : List LfR) : Fo.lists (foOf ls) = ls.map fun q => q.es.map ER.e := by
  unfold Fo.lists foOf
  induction ls with
  | nil => rfl
  | cons q ls ih =>
    rw [List.map_cons, List.flatMap_cons, ih, List.map_cons]
    rfl
def RunMP (l : List Ent) (ats : List Int) (w : World) (E : Ending) (w' : World) : Prop := ∃ A c ps, E = .returned (.slice A ps.length c) ∧ Prs w' A ps ∧ ps.map PR.pl = ats.map (plE l) ∧ ps.length ≤ c ∧ Below w.heap.size w w'
theorem all_merged {rev : Bool} {T : Tr} {LL : List (List Ent)} (hG : T.Good rev) (hl : T.lists = LL) (hs : ∀ l ∈ LL, SortD false l) : T.all rev = allE rev (mergedE LL) := by
  have h1 := hG.merged
  rw [hl] at h1
  have h2 := mergedE_is hs
  cases rev with
  | false => exact h1.one h2
  | true => exact h1.one h2.back
/-- The run of what NewMergeIterator hands on. -/
theorem run_tr {rev : Bool} {w w1 w2 : World} {T : Tr} {S : Nat → Prop} {LL : List (List Ent)} (ns cs : Nat) (AS : Option Addr) (ss : List SR) (atz : List Int)
    (h1 : T.Ok (UM w.heap.size w1) rev w2 S none) (h2 : T.Good rev) (h3 : T.lists = LL) (h4 : ∀ i, S i → UM w.heap.size w1 i ∧ i < w2.heap.size ∧ w.heap.size ≤ i) (h5 : FrS noB w1 w2) (hb : Below w.heap.size w w1) (hLL : ∀ l ∈ LL, SortD false l)
    (hS : Srs w AS ss) (hsl : ss.length = ns) (hns : ns ≤ 1000000) (hsk : ∀ s ∈ ss, StOk s ∧ s.s.k.length ≤ 300) (hw : walkE (mergedE LL) (-1) (ss.map fun s => uniE rev s.s) = some atz) :
    Calls Tryz.prog 19 #[T.ifc, .slice AS ns cs] w2 (RunMP (mergedE LL) atz w) := by
  have hall := all_merged h2 h3 hLL
  have hsz1 := hb.size
  have hsz2 := h5.size
  have hst : TrSt (UM w.heap.size w1) rev T w2 S none := ⟨h1, fun i hi => ⟨(h4 i hi).1, (h4 i hi).2.1⟩, (UM.new _ _).on h5⟩
  have hlow : ∀ i, UM w.heap.size w1 i → w.heap.size ≤ i := fun i hi => hi.elim (fun x => x.1) (fun x => by omega)
  have hfix : Fix (UM w.heap.size w1) w2 (fun W => Srs W AS ss) := fun W hW => hS.below ((hb.trans (h5.below hsz1 (fun i x => x.elim))).trans (hW.below (Nat.le_trans hsz1 hsz2) hlow))
  have hso : SortedE (mergedE LL) := (mergedE_is hLL).sort
  have C := trIter (U := UM w.heap.size w1) T h2
  have hfin : ∀ E w', RunX (mergedE LL) atz S w2 E w' → RunMP (mergedE LL) atz w E w' := by
    rintro E w' ⟨A, c, ps, a1, a2, a3, a4, a5⟩
    exact ⟨A, c, ps, a1, a2, a3, a4, (hb.trans (h5.below hsz1 (fun i x => x.elim))).trans (a5.below (Nat.le_trans hsz1 hsz2) (fun i hi => (h4 i hi).2.2))⟩
  cases T with
  | leaf g A c es => exact (run_L g ns cs AS (mergedE LL) ss atz w2 none C hst hall hso hfix hsl hns hsk hw).mono hfin
  | node g L R => exact (run_M g ns cs AS (mergedE LL) ss atz w2 none C hst hall hso hfix hsl hns hsk hw).mono hfin
set_option maxRecDepth 100000 in
set_option maxHeartbeats 4000000 in
theorem runMerge_any (A AS : Option Addr) (n c ns cs : Nat) (rev : Bool) (ls : List LsR) (ss : List SR) (atz : List Int) (w : World) (hA : Lss w A ls) (hl : ls.length = n) (h0 : 0 < n) (hn : n ≤ 100) (hne : ∀ q ∈ ls, q.es.length ≤ 80) (hok : ∀ q ∈ ls, SortedE (q.es.map ER.e) ∧ ∀ r ∈ q.es, EntOk r.e)
    (hS : Srs w AS ss) (hsl : ss.length = ns) (hns : ns ≤ 1000000) (hsk : ∀ s ∈ ss, StOk s ∧ s.s.k.length ≤ 300) (hw : walkE (mergedE (entsOf ls)) (-1) (ss.map fun s => uniE rev s.s) = some atz) :
    Calls Tryz.prog 11 #[.slice A n c, .bool rev, .slice AS ns cs] w (RunMP (mergedE (entsOf ls)) atz w) := by
  have HA := Lib.hid hA
  have HL := Lib.hid hl
  have HNE := Lib.hid hne
  have HOK := Lib.hid hok
  have HST : Hid (Srs w AS ss ∧ ss.length = ns ∧ (∀ s ∈ ss, StOk s ∧ s.s.k.length ≤ 300) ∧ walkE (mergedE (entsOf ls)) (-1) (ss.map fun s => uniE rev s.s) = some atz) := ⟨hS, hsl, hsk, hw⟩
  clear hA hl hne hok hS hsl hsk hw
  go_enter Tryz.func11, Tryz.ntmps11
  go_wp2
  go_loopg [7, 13] n (fun f v7 v13 wr => ∃ (i c7 : Nat) (A7 : Option Addr) (qs : List LfR), v7 = .slice A7 i c7 ∧ v13 = .int .i64 i ∧ i ≤ n ∧ Hid (i + f = n) ∧ Hid (wr.ownsRow w.heap.size 59 1 (.slice A7 i c7) i (ifcs qs)) ∧ Hid (qs.length = i)
    ∧ Hid ((qs.map fun q => q.es.map ER.e) = entsOf (ls.take i)) ∧ Hid (∀ q ∈ qs, LeafB w.heap.size rev wr q) ∧ Hid (qs.Pairwise fun p q => p.g ≠ q.g) ∧ Hid (Below w.heap.size w wr) ∧ Hid (∀ q ∈ qs, ∀ r ∈ q.es, EntOk r.e))
  case atStart =>
    refine ⟨0, 0, _, [], rfl, rfl, Nat.zero_le _, by simp [Hid], World.ownsRow_made w #[] 0 (Nat.le_refl _) (by simp [maxLen]) rfl, rfl, rfl, fun p hp => (by cases hp), List.Pairwise.nil, (Below.refl _ _).alloc (Nat.le_refl _) _, fun p hp => (by cases hp)⟩
  case round =>
    obtain ⟨i, c7, A7, qs, rfl, rfl, hin, hf, hO, hql, hmap, hqs, hpw, hbw, hqo⟩ := hrel
    by_cases hlt : i < n
    · obtain ⟨r, hr⟩ : ∃ r, ls[i]? = some r := ⟨_, List.getElem?_eq_getElem (by have := HL.out; omega)⟩
      have hEr := HA.out.below hbw.out
      have hrm := List.mem_of_getElem? hr
      obtain ⟨Ar, cr, er⟩ := r
      have HRI : Hid (Ers wr Ar er ∧ er.length ≤ cr) := hEr.each _ hrm
      have HRK : Hid ((∀ q ∈ er, EntOk q.e) ∧ er.length ≤ 80) := ⟨(HOK.out _ hrm).2, HNE.out _ hrm⟩
      obtain ⟨ga, oa, hAe, hcl⟩ := hEr.sl.2 (by have := HL.out; omega)
      subst hAe
      have b0 : wr.cell? ⟨ga, oa + i, none⟩ = some (.slice Ar er.length cr) := hcl i _ (by rw [List.getElem?_map, hr]; rfl)
      have HTK := Lib.hid (take_snoc ls i _ hr)
      have hel : er.length ≤ 100 := by have := HRK.out.2; omega
      clear hEr hcl hr hrm
      obtain ⟨gkO, rfl⟩ : ∃ x, gk = x + 1 := ⟨gk - 1, by have := hf.out; omega⟩
      go_wp2_with fail
      refine (given_any Ar er.length cr er wr HRI.out.1 rfl hel HRK.out.1).mono ?_
      rintro E wx ⟨A5, c5, es, rfl, ht5, hm5, hc5, hb5⟩
      have hes : es.length = er.length := by have := congrArg List.length hm5; rwa [List.length_map, List.length_map] at this
      have HES := Lib.hid hes
      have HM5 := Lib.hid hm5
      have HO5 := Lib.hid (own_frm hO.out (Frm.of_below hb5) (fun i hi => by cases hi))
      have HBX : Hid (Below w.heap.size w wx) := hbw.out.trans (hb5.mono hbw.out.size)
      have HQ5 : Hid (∀ q ∈ qs, LeafB w.heap.size rev wx q) := fun q hq => (hqs.out q hq).below hb5
      have hal : Below wx.heap.size wx (wx.alloc (lfO A5 er.length c5 rev)) := (Below.refl _ _).alloc (Nat.le_refl _) _
      have HLF : Hid (LeafB w.heap.size rev (wx.alloc (lfO A5 er.length c5 rev)) ⟨wx.heap.size, A5, c5, es⟩) := ⟨HBX.out.size, by
        show Blk _ _ _ [.slice A5 es.length c5, _, _]
        rw [hes]
        exact Blk.new wx _ _, (ht5.mono hbw.out.size).below hal, by show es.length ≤ c5; omega, by show es.length ≤ 80; have := HRK.out.2; omega⟩
      have HQ6 : Hid (∀ q ∈ qs, LeafB w.heap.size rev (wx.alloc (lfO A5 er.length c5 rev)) q ∧ q.g ≠ wx.heap.size) := fun q hq => ⟨(HQ5.out q hq).below hal, by have := (HQ5.out q hq).blk.lt; omega⟩
      have HO6 := Lib.hid (HO5.out.alloc (lfO A5 er.length c5 rev))
      have HB6 : Hid (Below w.heap.size w (wx.alloc (lfO A5 er.length c5 rev))) := HBX.out.alloc HBX.out.size _
      have HE6 : Hid (∀ r ∈ es, EntOk r.e) := fun r hr => by
        have : r.e ∈ es.map ER.e := List.mem_map_of_mem hr
        rw [HM5.out] at this
        obtain ⟨r', hr', e'⟩ := List.mem_map.1 this
        rw [← e']
        exact HRK.out.1 r' hr'
      clear ht5 hm5 hb5 hes hal b0 hO hqs hbw HRI HRK HO5 HBX HQ5
      go_wp2_with (at_builtin; refine wpList_append_sz rfl (.tmp 17) (.tmp 24) 51 rfl w.heap.size 59 1 16 _ Tryz.underlying51 infoIt rfl (by omega) (by omega) (by omega) (.slice A7 i c7) i (ifcs qs) rfl (HO6.out.alloc _) _ 1 1 [(LfR.t ⟨wx.heap.size, A5, c5, es⟩).ifc] rfl (one_slJ wx (lfO A5 er.length c5 rev) _) (fun u hu => by rw [List.mem_singleton] at hu; subst hu; rfl) (by omega) ?cx ?_; (case cx => exact Nat.le_trans HB6.out.size (Nat.le_trans (Nat.le_succ _) (Nat.le_of_eq (World.size_alloc _ _).symm))); intro v80 w3 ho3 hg3 hat3; obtain ⟨A4, c4, hv3, hc4, hs3, hA3⟩ := own_szS ho3; subst hv3; have HO3 := Lib.hid ho3; have HG3 := Lib.hid hg3; clear ho3 hg3 hat3 hs3 hA3)
      have HOYA := Lib.hid (HO6.out.alloc (.cells #[(LfR.t ⟨wx.heap.size, A5, c5, es⟩).ifc] 59))
      go_roundg gkO
      case measure => omega
      case rel =>
        have hal : Below (wx.alloc (lfO A5 er.length c5 rev)).heap.size (wx.alloc (lfO A5 er.length c5 rev)) ((wx.alloc (lfO A5 er.length c5 rev)).alloc (.cells #[(LfR.t ⟨wx.heap.size, A5, c5, es⟩).ifc] 59)) := (Below.refl _ _).alloc (Nat.le_refl _) _
        refine ⟨i + 1, c4, A4, qs ++ [⟨wx.heap.size, A5, c5, es⟩], rfl, by go_num, by omega, by have := hf.out; show _ = _; omega, ?_, by show _ = _; rw [List.length_append, hql.out]; rfl, ?_, ?_, ?_, ?_, ?_⟩
        · show World.ownsRow _ _ _ _ _ _ _
          unfold ifcs
          rw [List.map_append]
          exact HO3.out
        · show _ = _
          rw [HTK.out, List.map_append, hmap.out]
          unfold entsOf
          rw [List.map_append]
          exact congrArg _ (congrArg (fun x => [x]) HM5.out)
        · intro q hq
          rcases List.mem_append.1 hq with h | h
          · exact ((HQ6.out q h).1.below hal).row HOYA.out (by decide) (by decide) (by decide) HG3.out
          · rw [List.mem_singleton] at h
            subst h
            exact (HLF.out.below hal).row HOYA.out (by decide) (by decide) (by decide) HG3.out
        · refine List.pairwise_append.2 ⟨hpw.out, List.pairwise_singleton _ _, fun a ha b hb => ?_⟩
          rw [List.mem_singleton] at hb
          subst hb
          exact (HQ6.out a ha).2
        · exact (HB6.out.trans (hal.mono HB6.out.size)).grown HG3.out (by rw [World.size_alloc]; have := HB6.out.size; omega) (fun k' e => (HOYA.out.lt k' e).1)
        · intro q hq
          rcases List.mem_append.1 hq with h | h
          · exact hqo.out q h
          · rw [List.mem_singleton] at h
            subst h
            exact HE6.out
    · have hie : i = n := by omega
      have HIE := Lib.hid hie
      clear hie
      have hge : ¬ ((i : Int) < (n : Int)) := by omega
      obtain ⟨A9, c9, hv9, hc9, hs9, hA9⟩ := own_szS hO.out
      injection hv9 with hv1 hv2 hv3
      subst hv1
      subst hv3
      have hents : (qs.map fun q => q.es.map ER.e) = entsOf ls := by rw [hmap.out, List.take_of_length_le (by rw [HL.out, HIE.out]; exact Nat.le_refl _)]
      have HEN := Lib.hid hents
      have hsorts : ∀ q ∈ qs, SortedE (q.es.map ER.e) ∧ ∀ r ∈ q.es, EntOk r.e := fun q hq => ⟨by
        have h1 : q.es.map ER.e ∈ entsOf ls := by rw [← hents]; exact List.mem_map_of_mem (f := fun q : LfR => q.es.map ER.e) hq
        obtain ⟨r, hr, he⟩ := List.mem_map.1 h1
        rw [← he]
        exact (HOK.out r hr).1, hqo.out q hq⟩
      have HFO := Lib.hid (for_leaves hqs.out hpw.out hsorts)
      have hfl : (foOf qs).length = i := by unfold foOf; rw [List.length_map]; exact hql.out
      have HSL : Hid (Sl wr A7 i ((foOf qs).map fun p => p.1.ifc)) := by
        rw [Nat.mul_one] at hs9
        unfold ifcs at hs9
        unfold foOf
        rw [List.map_map]
        exact hs9
      have HBW := Lib.hid hbw.out
      have HNEWM := Lib.hid (newMerge (UM w.heap.size wr) rev i (foOf qs) A7 i c7 wr (Nat.le_of_eq hfl) hfl (by have := HIE.out; omega) hc9 (by have := HIE.out; omega) HSL.out HFO.out (UM.new _ _))
      clear hs9 hA9 hO hqs hpw hmap hents hsorts hfl hbw
      go_wp2_with fail
      refine HNEWM.out.mono ?_
      rintro E w2 ⟨T, S, rfl, d1, d2, d3, d4, d5⟩
      have HTR : Hid (Calls Tryz.prog 19 #[T.ifc, .slice AS ns cs] w2 (RunMP (mergedE (entsOf ls)) atz w)) := by
        refine run_tr ns cs AS ss atz d1 d2 (d3.trans ((fo_lists qs).trans HEN.out)) (fun j hj => ?_) d5 HBW.out (fun l hl => ?_) HST.out.1 HST.out.2.1 hns HST.out.2.2.1 HST.out.2.2.2
        · rcases d4 j hj with ⟨p, hp, h⟩ | h
          · have h1 := (HFO.out.each p hp).2.2 j h
            exact ⟨h1.1, by have := d5.size; omega, h1.1.elim (fun x => x.1) (fun x => by have := HBW.out.size; omega)⟩
          · exact ⟨.inr h.1, h.2, by have := HBW.out.size; omega⟩
        · obtain ⟨r, hr, rfl⟩ := List.mem_map.1 hl
          exact (HOK.out r hr).1
      clear d1 d2 d3 d4 d5 HNEWM
      go_wp2_with fail
      refine HTR.out.mono ?_
      rintro E w3 ⟨A8, c8, ps, rfl, e1, e2, e3, e4⟩
      have HQ : Hid (RunMP (mergedE (entsOf ls)) atz w (.returned (.slice A8 ps.length c8)) w3) := ⟨A8, c8, ps, rfl, e1, e2, e3, e4⟩
      clear e1 e2 e3 e4 HTR
      go_wp2
      go_returns
      exact HQ.out
end Go.Proofs.YtegaigpolhdicaaGreat
