/- NewMergeIterator. -/
import Derived.Test.YtegaigpolhdicaaGreatAE
import Derived.Test.YtegaigpolhdicaaGreatPM
import Derived.StillTailTactics
namespace Go.Proofs.YtegaigpolhdicaaGreat
open Go.Proofs.YtegaigpolhdicaaGreatW.PrintLast
open Go.RowKit
set_option linter.unusedVariables false
set_option linter.unusedSimpArgs false
def Tr.lists : Tr → List (List Ent)
  | .leaf _ _ _ es => [es.map ER.e]
  | .node _ L R => L.lists ++ R.lists
theorem Tr.Good.merged {rev : Bool} : ∀ {T : Tr}, T.Good rev → IsMerged rev T.lists (T.all rev)
  | .leaf _ _ _ es, h => IsMerged.single h.1.sort (fun e => by
    show e ∈ (bif rev then (es.map ER.e).reverse else es.map ER.e) ↔ _
    cases rev with
    | true => exact List.mem_reverse
    | false => exact Iff.rfl)
  | .node _ L R, h => h.1.merged.app h.2.merged
abbrev Fo := List (Tr × (Nat → Prop))
def inF (ts : Fo) (i : Nat) : Prop := ∃ p ∈ ts, p.2 i
structure For (U : Nat → Prop) (rev : Bool) (w : World) (ts : Fo) : Prop where
  each : ∀ p ∈ ts, p.1.Ok U rev w p.2 none ∧ p.1.Good rev ∧ Bnd U p.2 w
  apart : ts.Pairwise fun p q => ∀ i, p.2 i → ¬ q.2 i
section
variable {U : Nat → Prop} {rev : Bool} {w w' : World} {ts : Fo}
theorem For.frS (h : For U rev w ts) (hf : FrS noB w w') : For U rev w' ts := ⟨fun p hp => ⟨(h.each p hp).1.frS hf noB_in noB_out, (h.each p hp).2.1, fun i hi => ⟨((h.each p hp).2.2 i hi).1, Nat.lt_of_lt_of_le ((h.each p hp).2.2 i hi).2 hf.size⟩⟩, h.apart⟩
theorem For.take (h : For U rev w ts) (n : Nat) : For U rev w (ts.take n) := ⟨fun p hp => h.each p (List.mem_of_mem_take hp), h.apart.sublist (List.take_sublist _ _)⟩
theorem For.drop (h : For U rev w ts) (n : Nat) : For U rev w (ts.drop n) := ⟨fun p hp => h.each p (List.mem_of_mem_drop hp), h.apart.sublist (List.drop_sublist _ _)⟩
end
def Fo.lists (ts : Fo) : List (List Ent) := ts.flatMap fun p => p.1.lists
def NewP (U : Nat → Prop) (rev : Bool) (w : World) (ts : Fo) (E : Ending) (w' : World) : Prop :=
  ∃ T S, E = .returned (Tr.ifc T) ∧ T.Ok U rev w' S none ∧ T.Good rev ∧ T.lists = Fo.lists ts ∧ (∀ i, S i → gro (inF ts) w w' i) ∧ FrS noB w w'
def zNode (rev : Bool) : List Value := [.bool false, .slice none 0 0, .nilIface, .pointer none, .pointer none, .bool false, .slice none 0 0, .nilIface, .pointer none, .pointer none, .pointer none, .slice none 0 0, .bool rev]
theorem nodC_new {U : Nat → Prop} {rev : Bool} {w w' : World} {g : Nat} {p q : Tr × (Nat → Prop)} (hF : For U rev w [p, q]) (hg : w.heap.size = g) (hb : Blk w' g 83 (ncells p.1 q.1 false (.slice none 0 0) false (.slice none 0 0) g true (.slice none 0 0) rev)) (hf : FrS (· = g) w w') :
    NewP U rev w [p, q] (.returned (.iface 77 (.pointer (some ⟨g, 0, none⟩)))) w' := by
  have hN : FrS noB w w' := hf.mono (fun i hi => .inr (by omega))
  have hF2 := hF.frS hN
  obtain ⟨p1, p2, p3⟩ := hF.each p (List.mem_cons_self ..)
  obtain ⟨q1, q2, q3⟩ := hF.each q (List.mem_cons_of_mem _ (List.mem_cons_self ..))
  have hap : ∀ i, p.2 i → ¬ q.2 i := (List.pairwise_cons.1 hF.apart).1 q (List.mem_cons_self ..)
  have hnil : KeyOf U w' (.slice none 0 0) [] := ⟨none, 0, 0, rfl, Nat.le_refl _, Nat.zero_le _, fun W _ => ⟨rfl, fun h => absurd h (by omega)⟩⟩
  refine ⟨.node g p.1 q.1, fun i => p.2 i ∨ q.2 i ∨ i = g, rfl, ⟨p.2, q.2, none, none, false, .slice none 0 0, false, .slice none 0 0, true, .slice none 0 0, (hF2.each p (List.mem_cons_self ..)).1, (hF2.each q (List.mem_cons_of_mem _ (List.mem_cons_self ..))).1, ⟨hb, .inr (.inr rfl), fun i hi => ⟨.inl hi, by have := (p3 i hi).2; omega, hap i hi⟩, fun i hi => ⟨.inr (.inl hi), by have := (q3 i hi).2; omega⟩, ⟨_, hnil⟩, ⟨_, hnil⟩, ⟨0, [], ⟨rfl, .inl ⟨rfl, rfl⟩⟩, Nat.zero_le _⟩, fun b hb => by cases hb⟩, fun r h => by cases h⟩, ⟨p2, q2⟩, ?_, ?_, hN⟩
  · show p.1.lists ++ q.1.lists = List.flatMap _ [p, q]
    simp
  · rintro i (hi | hi | rfl)
    · exact .inl ⟨p, List.mem_cons_self .., hi⟩
    · exact .inl ⟨q, List.mem_cons_of_mem _ (List.mem_cons_self ..), hi⟩
    · exact .inr ⟨by omega, hb.lt⟩
def zNodeO (rev : Bool) : Obj := .cells (zNode rev).toArray 83
set_option maxRecDepth 100000 in
set_option maxHeartbeats 4000000 in
theorem newM2 (U : Nat → Prop) (rev : Bool) (p q : Tr × (Nat → Prop)) (A : Option Addr) (c : Nat) (w : World) (hc : 2 ≤ c) (hs : Sl w A 2 [p.1.ifc, q.1.ifc]) (hF : For U rev w [p, q]) :
    Calls Tryz.prog 20 #[.slice A 2 c, .bool rev] w (NewP U rev w [p, q]) := by
  obtain ⟨ga, oa, rfl, hcell⟩ := hs.2 (by omega)
  have i0 := hcell 0 _ rfl
  have i1 := hcell 1 _ rfl
  rw [Nat.add_zero] at i0
  have HF := Lib.hid hF
  have HG : Hid (ga < w.heap.size) := World.block_lt_of_cell? w _ i0
  have HB : Hid (Blk (w.alloc (zNodeO rev)) w.heap.size 83 (zNode rev)) := Blk.new w _ _
  have HFr : Hid (FrS (· = w.heap.size) w (w.alloc (zNodeO rev))) := (FrS.refl _ w).andAlloc _
  have j0 := cell_alloc (zNodeO rev) i0
  have j1 := Lib.hid (cell_alloc (zNodeO rev) i1)
  clear hs hF hcell i0 i1
  go_enter Tryz.func20, Tryz.ntmps20
  go_wp2_with fail
  rw [show (Obj.cells #[.bool false, .slice none 0 0, .nilIface, .pointer none, .pointer none, .bool false, .slice none 0 0, .nilIface, .pointer none, .pointer none, .pointer none, .slice none 0 0, .bool rev] 83) = zNodeO rev from rfl]
  generalize w.alloc (zNodeO rev) = w0 at *
  obtain ⟨g, hg⟩ : ∃ g, w.heap.size = g := ⟨_, rfl⟩
  have HGE := Lib.hid hg
  rw [hg] at HB HFr HG ⊢
  clear hg
  have k0 : w0.drew.cell? ⟨ga, oa, none⟩ = some p.1.ifc := j0
  clear j0
  go_still_tail 6, (by kernel_rfl)
  change wpList _ _ _ _ _ w0.drew
  have HB0 : Hid (Blk w0.drew g 83 (zNode rev)) := HB.out
  have HF0 : Hid (FrS (· = g) w w0.drew) := HFr.out.drewN 1
  have k1 : Hid (w0.drew.cell? ⟨ga, oa + 1, none⟩ = some q.1.ifc) := j1.out
  clear HB HFr k0 j1
  generalize w0.drew = w1 at *
  go_wp2_with fail
  refine (setIterator_any g 0 p.1 (zNode rev) w1 HB0.out _ _ _ rfl rfl rfl).mono ?_
  rintro E w2 ⟨rfl, hb2, hf2⟩
  have HB2 := Lib.hid hb2
  have HF2 : Hid (FrS (· = g) w w2) := HF0.out.trans hf2 (fun i hi => .inl hi)
  have k2 : w2.drew.cell? ⟨ga, oa + 1, none⟩ = some q.1.ifc := cell_frS (S := (· = g)) (w' := w2) k1.out hf2 (by show ¬ ga = g; have := HG.out; omega)
  clear hb2 hf2 HB0 HF0 k1
  go_wp2_with fail
  go_still_tail 6, (by kernel_rfl)
  change wpList _ _ _ _ _ w2.drew
  have HB3 : Hid (Blk w2.drew g 83 _) := HB2.out
  have HF3 : Hid (FrS (· = g) w w2.drew) := HF2.out.drewN 1
  clear HB2 HF2 k2
  generalize w2.drew = w3 at *
  go_wp2_with fail
  refine (setIterator_any g 5 q.1 _ w3 HB3.out _ _ _ rfl rfl rfl).mono ?_
  rintro E w4 ⟨rfl, hb4, hf4⟩
  have HB4 : Hid (Blk w4 g 83 [.bool false, .slice none 0 0, p.1.ifc, p.1.mp, .pointer none, .bool false, .slice none 0 0, q.1.ifc, q.1.mp, .pointer none, .pointer none, .slice none 0 0, .bool rev]) := hb4
  have HF4 : Hid (FrS (· = g) w w4) := HF3.out.trans hf4 (fun i hi => .inl hi)
  have u10 := HB4.out.at_ (i := 10) rfl
  have z10 := HB4.out.frozen 10
  clear hb4 hf4 HB3 HF3
  go_wp2
  go_returns
  exact nodC_new HF.out HGE.out (HB4.out.set_ 10 _) (HF4.out.andSet _ _ rfl)
theorem NewP.mono {U : Nat → Prop} {rev : Bool} {w w1 w' : World} {ts : Fo} {E : Ending} (h : NewP U rev w1 ts E w') (hf : FrS noB w w1) : NewP U rev w ts E w' := by
  obtain ⟨T, S, h1, h2, h3, h4, h5, h6⟩ := h
  exact ⟨T, S, h1, h2, h3, h4, fun i hi => (h5 i hi).elim .inl (fun x => .inr ⟨Nat.le_trans hf.size x.1, x.2⟩), hf.trans h6 (fun i x => x.elim)⟩
/-- What both halves have become. -/
theorem for_two {U : Nat → Prop} {rev : Bool} {w w1 w2 w3 : World} {xs ys : Fo} {T1 T2 : Tr} {S1 S2 : Nat → Prop} (hF : For U rev w (xs ++ ys)) (hN : NewU U w)
    (a1 : T1.Ok U rev w1 S1 none) (a2 : T1.Good rev) (a4 : ∀ i, S1 i → gro (inF xs) w w1 i) (a5 : FrS noB w w1)
    (b1 : T2.Ok U rev w2 S2 none) (b2 : T2.Good rev) (b4 : ∀ i, S2 i → gro (inF ys) w1 w2 i) (b5 : FrS noB w1 w2) (hf : FrS noB w2 w3) : For U rev w3 [(T1, S1), (T2, S2)] ∧ ∀ i, inF [(T1, S1), (T2, S2)] i → gro (inF (xs ++ ys)) w w3 i := by
  have hlt : ∀ p ∈ xs ++ ys, ∀ i, p.2 i → U i ∧ i < w.heap.size := fun p hp => (hF.each p hp).2.2
  have s1 := a5.size
  have s2 := b5.size
  have s3 := hf.size
  have c1 : ∀ i, S1 i → gro (inF (xs ++ ys)) w w3 i := fun i hi => by
    rcases a4 i hi with ⟨p, hp, h⟩ | h
    · exact .inl ⟨p, List.mem_append_left _ hp, h⟩
    · exact .inr ⟨h.1, by omega⟩
  have c2 : ∀ i, S2 i → gro (inF (xs ++ ys)) w w3 i := fun i hi => by
    rcases b4 i hi with ⟨p, hp, h⟩ | h
    · exact .inl ⟨p, List.mem_append_right _ hp, h⟩
    · exact .inr ⟨by omega, by omega⟩
  have hbd : ∀ i, gro (inF (xs ++ ys)) w w3 i → U i ∧ i < w3.heap.size := fun i hi => by
    rcases hi with ⟨p, hp, h⟩ | h
    · exact ⟨(hlt p hp i h).1, by have := (hlt p hp i h).2; omega⟩
    · exact ⟨hN i h.1, h.2⟩
  refine ⟨⟨fun p hp => ?_, ?_⟩, ?_⟩
  · rcases List.mem_cons.1 hp with rfl | hp
    · exact ⟨(a1.frS b5 noB_in noB_out).frS hf noB_in noB_out, a2, fun i hi => hbd i (c1 i hi)⟩
    · rw [List.mem_singleton] at hp
      subst hp
      exact ⟨b1.frS hf noB_in noB_out, b2, fun i hi => hbd i (c2 i hi)⟩
  · refine List.pairwise_cons.2 ⟨fun q hq i h1 h2 => ?_, List.pairwise_singleton _ _⟩
    rw [List.mem_singleton] at hq
    subst hq
    rcases a4 i h1 with ⟨p, hp, h⟩ | h
    · rcases b4 i h2 with ⟨q, hq, k⟩ | k
      · exact (List.pairwise_append.1 hF.apart).2.2 p hp q hq i h k
      · have := (hlt p (List.mem_append_left _ hp) i h).2
        omega
    · rcases b4 i h2 with ⟨q, hq, k⟩ | k
      · have := (hlt q (List.mem_append_right _ hq) i k).2
        omega
      · omega
  · rintro i ⟨p, hp, hi⟩
    rcases List.mem_cons.1 hp with rfl | hp
    · exact c1 i hi
    · rw [List.mem_singleton] at hp
      subst hp
      exact c2 i hi
def mkO (a b : Value) : Obj := .cells #[a, b] 59
theorem ifc_form (T : Tr) : ∃ t v, T.ifc = .iface t v := by cases T <;> exact ⟨_, _, rfl⟩
set_option maxRecDepth 100000 in
set_option maxHeartbeats 8000000 in
theorem newMerge (U : Nat → Prop) (rev : Bool) : ∀ (N : Nat) (ts : Fo) (A : Option Addr) (n c : Nat) (w : World), ts.length ≤ N → ts.length = n → 0 < n → n ≤ c → n ≤ 1000000 → Sl w A n (ts.map fun p => p.1.ifc) → For U rev w ts → NewU U w →
    Calls Tryz.prog 20 #[.slice A n c, .bool rev] w (NewP U rev w ts)
  | 0, ts, A, n, c, w, hN, hl, h0, _, _, _, _, _ => by omega
  | N + 1, [], A, n, c, w, hN, hl, h0, _, _, _, _, _ => by simp at hl; omega
  | N + 1, [p], A, n, c, w, hN, hl, h0, hc, hc2, hs, hF, hNU => by
    have hn1 : n = 1 := by rw [← hl]; rfl
    subst hn1
    obtain ⟨ga, oa, rfl, hcell⟩ := hs.2 (by omega)
    have i0 := hcell 0 _ rfl
    rw [Nat.add_zero] at i0
    obtain ⟨p1, p2, p3⟩ := hF.each p (List.mem_cons_self ..)
    have HP : Hid (NewP U rev w [p] (.returned p.1.ifc) w) := ⟨p.1, p.2, rfl, p1, p2, by show _ = List.flatMap _ [p]; simp, fun i hi => .inl ⟨p, List.mem_cons_self .., hi⟩, FrS.refl _ _⟩
    clear hN hs hF hNU hcell p1 p2 p3 hl
    go_enter Tryz.func20, Tryz.ntmps20
    go_wp2
    go_returns
    exact HP.out
  | N + 1, [p, q], A, n, c, w, hN, hl, h0, hc, hc2, hs, hF, hNU => by
    have hn1 : n = 2 := by rw [← hl]; rfl
    subst hn1
    exact newM2 U rev p q A c w hc hs hF
  | N + 1, p :: q :: r :: rest, A, n, c, w, hN, hl, h0, hc, hc2, hs, hF, hNU => by
    obtain ⟨ts, hts⟩ : ∃ ts, ts = p :: q :: r :: rest := ⟨_, rfl⟩
    rw [← hts] at hN hl hs hF ⊢
    have hn3 : 3 ≤ n := by rw [← hl, hts]; simp
    clear hts
    obtain ⟨m, hm⟩ : ∃ m, m = n / 2 := ⟨_, rfl⟩
    have hm1 : 1 ≤ m := by omega
    have hm2 : m + 1 < n := by omega
    obtain ⟨ga, oa, rfl, hcell⟩ := hs.2 (by omega)
    have hsplit : ts.take m ++ ts.drop m = ts := List.take_append_drop m ts
    have hlt1 : (ts.take m).length = m := by rw [List.length_take]; omega
    have hld1 : (ts.drop m).length = n - m := by rw [List.length_drop]; omega
    have hs1 : Sl w (some ⟨ga, oa, none⟩) m ((ts.take m).map fun p => p.1.ifc) := by rw [List.map_take]; exact hs.take (by omega)
    have hs2 : Sl w (some ⟨ga, oa + m, none⟩) (n - m) ((ts.drop m).map fun p => p.1.ifc) := by
      have := hs.drop (m := m) (c := c) (by omega) hc
      rw [if_neg (by omega), Option.map_some, add_none] at this
      rw [List.map_drop]
      exact this
    have HIH : Hid (∀ (ts : Fo) (A : Option Addr) (n c : Nat) (w : World), ts.length ≤ N → ts.length = n → 0 < n → n ≤ c → n ≤ 1000000 → Sl w A n (ts.map fun p => p.1.ifc) → For U rev w ts → NewU U w → Calls Tryz.prog 20 #[.slice A n c, .bool rev] w (NewP U rev w ts)) := fun ts A n c w a1 a2 a3 a4 a5 a6 a7 a8 => newMerge U rev N ts A n c w a1 a2 a3 a4 a5 a6 a7 a8
    have HS := Lib.hid (And.intro hs1 hs2)
    have HL := Lib.hid (And.intro hlt1 hld1)
    have HF := Lib.hid hF
    have HNU := Lib.hid hNU
    have HSP := Lib.hid hsplit
    have HNN : Hid (ts.length ≤ N + 1 ∧ ts.length = n) := ⟨hN, hl⟩
    have hq : (Int.tdiv (n : Int) 2) = (m : Int) := by rw [hm]; rfl
    have HM := Lib.hid hm
    have f0 : (((n : Int)) == 0) = false := by simp; omega
    have f1 : (((n : Int)) == 1) = false := by simp; omega
    have f2 : (((n : Int)) == 2) = false := by simp; omega
    have hcm : ¬ c = m := by omega
    have hcm2 : (m : Int) ≤ (c : Int) := by omega
    have hcm3 : (m : Int) ≤ (n : Int) := by omega
    clear hs hF hNU hcell hsplit hlt1 hld1 hs1 hs2 hN hl hm
    go_enter Tryz.func20, Tryz.ntmps20
    go_wp2_with fail
    clear f0 f1 f2 hq
    refine start_ (n := 14) (S := fun _ => True) (ds := []) #[ff,ff,ff,ff,ff,ff,ff,ff,ff,ff,ff,ff,ff,ff] (by kernel_rfl) rfl rfl (trivial) (fun hHeld => ?_)
    have HS3 : Hid (Sl w.drew (some ⟨ga, oa, none⟩) m ((ts.take m).map fun p => p.1.ifc) ∧ Sl w.drew (some ⟨ga, oa + m, none⟩) (n - m) ((ts.drop m).map fun p => p.1.ifc)) := HS.out
    have hf3 : FrS noB w w.drew := (FrS.refl _ w).drewN 1
    have HF3 : Hid (For U rev w.drew (ts.take m ++ ts.drop m)) := by rw [HSP.out]; exact HF.out.frS hf3
    have HN3 : Hid (NewU U w.drew) := HNU.out
    have HFR3 := Lib.hid hf3
    clear HS HF HNU hf3 hHeld
    generalize w.drew = w3 at *
    refine pure_ (i := 0) (N := some 46) (v := ?_) (a' := ?_) #[tt,ff,ff,ff,ff,ff,ff,ff,ff,ff,ff,ff,ff,ff] rfl rfl (by kernel_rfl) (fun _ _ _ h => h) (Or.inl ⟨by rfl, ?_⟩) ?_ ?_; rotate_left; (intro w'; go_simp; with_reducible rfl); rotate_left; (simp only [Act.put, List.setIfInBounds_toArray, List.set_cons_zero, List.set_cons_succ, i64_w, i32_w]; rfl)
    refine pure_ (i := 1) (N := some 47) (v := ?_) (a' := ?_) #[tt,tt,ff,ff,ff,ff,ff,ff,ff,ff,ff,ff,ff,ff] rfl rfl (by kernel_rfl) (fun _ _ _ h => h) (Or.inl ⟨by rfl, ?_⟩) ?_ ?_; rotate_left; (intro w'; go_simp; with_reducible rfl); rotate_left; (simp only [Act.put, List.setIfInBounds_toArray, List.set_cons_zero, List.set_cons_succ, i64_w, i32_w]; rfl)
    refine pure_ (i := 2) (N := some 48) (v := ?_) (a' := ?_) #[tt,tt,tt,ff,ff,ff,ff,ff,ff,ff,ff,ff,ff,ff] rfl rfl (by kernel_rfl) (fun _ _ _ h => h) (Or.inl ⟨by rfl, ?_⟩) ?_ ?_; rotate_left; (intro w'; go_simp; with_reducible rfl); rotate_left; (simp only [Act.put, List.setIfInBounds_toArray, List.set_cons_zero, List.set_cons_succ, i64_w, i32_w]; rfl)
    refine pure_ (i := 3) (N := some 49) (v := ?_) (a' := ?_) #[tt,tt,tt,tt,ff,ff,ff,ff,ff,ff,ff,ff,ff,ff] rfl rfl (by kernel_rfl) (fun _ _ _ h => h) (Or.inl ⟨by rfl, ?_⟩) ?_ ?_; rotate_left; (intro w'; go_simp; with_reducible rfl); rotate_left; (simp only [Act.put, List.setIfInBounds_toArray, List.set_cons_zero, List.set_cons_succ, i64_w, i32_w]; rfl)
    refine pure_ (i := 5) (N := some 51) (v := ?_) (a' := ?_) #[tt,tt,tt,tt,ff,tt,ff,ff,ff,ff,ff,ff,ff,ff] rfl rfl (by kernel_rfl) (fun _ _ _ h => h) (Or.inl ⟨by rfl, ?_⟩) ?_ ?_; rotate_left; (intro w'; go_simp; with_reducible rfl); rotate_left; (simp only [Act.put, List.setIfInBounds_toArray, List.set_cons_zero, List.set_cons_succ, i64_w, i32_w]; rfl)
    refine pure_ (i := 6) (N := some 52) (v := ?_) (a' := ?_) #[tt,tt,tt,tt,ff,tt,tt,ff,ff,ff,ff,ff,ff,ff] rfl rfl (by kernel_rfl) (fun _ _ _ h => h) (Or.inl ⟨by rfl, ?_⟩) ?_ ?_; rotate_left; (intro w'; go_simp; with_reducible rfl); rotate_left; (simp only [Act.put, List.setIfInBounds_toArray, List.set_cons_zero, List.set_cons_succ, i64_w, i32_w]; rfl)
    refine pure_ (i := 7) (N := some 53) (v := ?_) (a' := ?_) #[tt,tt,tt,tt,ff,tt,tt,tt,ff,ff,ff,ff,ff,ff] rfl rfl (by kernel_rfl) (fun _ _ _ h => h) (Or.inl ⟨by rfl, ?_⟩) ?_ ?_; rotate_left; (intro w'; go_simp; with_reducible rfl); rotate_left; (simp only [Act.put, List.setIfInBounds_toArray, List.set_cons_zero, List.set_cons_succ, i64_w, i32_w]; rfl)
    refine pure_ (i := 8) (N := some 54) (v := ?_) (a' := ?_) #[tt,tt,tt,tt,ff,tt,tt,tt,tt,ff,ff,ff,ff,ff] rfl rfl (by kernel_rfl) (fun _ _ _ h => h) (Or.inl ⟨by rfl, ?_⟩) ?_ ?_; rotate_left; (intro w'; go_simp; with_reducible rfl); rotate_left; (simp only [Act.put, List.setIfInBounds_toArray, List.set_cons_zero, List.set_cons_succ, i64_w, i32_w]; rfl)
    refine pure_ (i := 11) (N := some 57) (v := ?_) (a' := ?_) #[tt,tt,tt,tt,ff,tt,tt,tt,tt,ff,ff,tt,ff,ff] rfl rfl (by kernel_rfl) (fun _ _ _ h => h) (Or.inl ⟨by rfl, ?_⟩) ?_ ?_; rotate_left; (intro w'; go_simp; with_reducible rfl); rotate_left; (simp only [Act.put, List.setIfInBounds_toArray, List.set_cons_zero, List.set_cons_succ, i64_w, i32_w]; rfl)
    refine one_ (i := 4) (N := some 50) #[tt,tt,tt,tt,tt,tt,tt,tt,tt,ff,ff,tt,ff,ff] rfl rfl (by kernel_rfl) (by decide) (fun K hK => ?_); refine goes_ Tryz.func20 (by kernel_rfl) rfl #[.slice (some ⟨ga, oa, none⟩) m c, .bool rev] (by rfl) rfl rfl (by (try simp only [List.map_toArray, List.map_cons, List.map_nil]); first | done | rfl) ?_
    refine (HIH.out (ts.take m) (some ⟨ga, oa, none⟩) m c w3 (by have := HNN.out; have := HL.out.1; omega) HL.out.1 (by omega) (by omega) (by omega) HS3.out.1 (by have := HF3.out.take m; rwa [List.take_left' HL.out.1] at this) HN3.out).mono ?_
    rintro E w4 ⟨T1, S1, rfl, a1, a2, a3, a4, a5⟩
    refine ⟨_, rfl, ?_⟩
    have HA := Lib.hid (And.intro a1 (And.intro a2 (And.intro a3 (And.intro a4 a5))))
    refine hK.out _ _ (trivial) (fun hHeld => ?_); clear hK K; refine norm_ (a' := ?_) ?_ ?_; rotate_left; (show Act.put _ (some 50) _ = _; simp only [Act.put, List.setIfInBounds_toArray, List.set_cons_zero, List.set_cons_succ, i64_w, i32_w]; rfl)
    have HS4 : Hid (Sl w4 (some ⟨ga, oa + m, none⟩) (n - m) ((ts.drop m).map fun p => p.1.ifc)) := HS3.out.2.frS a5 (fun _ _ _ _ _ x => x)
    have HF4 := Lib.hid (HF3.out.frS a5)
    have HN4 := Lib.hid (HN3.out.on a5)
    clear a1 a2 a3 a4 a5 HS3 hHeld
    refine one_ (i := 9) (N := some 55) #[tt,tt,tt,tt,tt,tt,tt,tt,tt,tt,ff,tt,ff,ff] rfl rfl (by kernel_rfl) (by decide) (fun K hK => ?_); refine goes_ Tryz.func20 (by kernel_rfl) rfl #[.slice (some ⟨ga, oa + m, none⟩) (n - m) (c - m), .bool rev] (by rfl) rfl rfl (by (try simp only [List.map_toArray, List.map_cons, List.map_nil]); first | done | rfl) ?_
    refine (HIH.out (ts.drop m) (some ⟨ga, oa + m, none⟩) (n - m) (c - m) w4 (by have := HNN.out; have := HL.out.2; omega) HL.out.2 (by omega) (by omega) (by omega) HS4.out (by have := HF4.out.drop m; rwa [List.drop_left' HL.out.1] at this) HN4.out).mono ?_
    rintro E w5 ⟨T2, S2, rfl, b1, b2, b3, b4, b5⟩
    refine ⟨_, rfl, ?_⟩
    refine hK.out _ _ (trivial) (fun hHeld => ?_); clear hK K; refine norm_ (a' := ?_) ?_ ?_; rotate_left; (show Act.put _ (some 55) _ = _; simp only [Act.put, List.setIfInBounds_toArray, List.set_cons_zero, List.set_cons_succ, i64_w, i32_w]; rfl)
    clear HS4 HF4 hHeld
    have hmk : FrS noB w5 (w5.alloc (mkO T1.ifc T2.ifc)) := (FrS.refl _ _).andAlloc _
    have htwo := for_two HF3.out HN3.out HA.out.1 HA.out.2.1 HA.out.2.2.2.1 HA.out.2.2.2.2 b1 b2 b4 b5 hmk
    have HTW := Lib.hid htwo
    have HLS : Hid (Fo.lists [(T1, S1), (T2, S2)] = Fo.lists ts) := by
      show List.flatMap _ [(T1, S1), (T2, S2)] = List.flatMap _ ts
      have e1 := HA.out.2.2.1
      unfold Fo.lists at e1 b3
      conv => rhs; rw [← HSP.out]
      rw [List.flatMap_append, ← e1, ← b3]
      simp
    have HFR5 : Hid (FrS noB w (w5.alloc (mkO T1.ifc T2.ifc))) := ((HFR3.out.trans HA.out.2.2.2.2 (fun i x => x.elim)).trans b5 (fun i x => x.elim)).trans hmk (fun i x => x.elim)
    have HN5 : Hid (NewU U (w5.alloc (mkO T1.ifc T2.ifc))) := (HN4.out.on b5).on hmk
    have HSL : Hid (Sl (w5.alloc (mkO T1.ifc T2.ifc)) (some ⟨w5.heap.size, 0, none⟩) 2 [T1.ifc, T2.ifc]) := (Blk.new w5 59 [T1.ifc, T2.ifc]).sl (off := 0) (n := 2) (by show 0 + 2 ≤ 2; omega)
    clear htwo hmk b1 b2 b3 b4 b5 HA HF3 HN3 HN4
    refine one_ (i := 10) (N := some 56) #[tt,tt,tt,tt,tt,tt,tt,tt,tt,tt,tt,tt,ff,ff] rfl rfl (by kernel_rfl) (by decide) (fun K hK => ?_)
    refine value_ (v := .slice (some ⟨w5.heap.size, 0, none⟩) 2 2) (w1 := w5.alloc (mkO T1.ifc T2.ifc)) (by rfl) rfl ?_ ?_
    · obtain ⟨t1, x1, e1⟩ := ifc_form T1
      obtain ⟨t2, x2, e2⟩ := ifc_form T2
      simp only [e1, e2, mkO]
      go_simp
      try rfl
    refine hK.out _ _ (trivial) (fun hHeld => ?_); clear hK K; refine norm_ (a' := ?_) ?_ ?_; rotate_left; (show Act.put _ (some 56) _ = _; simp only [Act.put, List.setIfInBounds_toArray, List.set_cons_zero, List.set_cons_succ, i64_w, i32_w]; rfl)
    generalize w5.heap.size = g5 at *
    generalize w5.alloc (mkO T1.ifc T2.ifc) = w6 at *
    refine one_ (i := 12) (N := some 58) #[tt,tt,tt,tt,tt,tt,tt,tt,tt,tt,tt,tt,tt,ff] rfl rfl (by kernel_rfl) (by decide) (fun K hK => ?_); refine goes_ Tryz.func20 (by kernel_rfl) rfl #[.slice (some ⟨g5, 0, none⟩) 2 2, .bool rev] (by rfl) rfl rfl (by (try simp only [List.map_toArray, List.map_cons, List.map_nil]); first | done | rfl) ?_
    refine (HIH.out [(T1, S1), (T2, S2)] (some ⟨g5, 0, none⟩) 2 2 w6 (by have := HNN.out; show 2 ≤ N; omega) rfl (by omega) (by omega) (by omega) HSL.out HTW.out.1 HN5.out).mono ?_
    rintro E w7 ⟨T, S, rfl, d1, d2, d3, d4, d5⟩
    refine ⟨_, rfl, ?_⟩
    refine hK.out _ _ (trivial) (fun hHeld => ?_); clear hK K; refine norm_ (a' := ?_) ?_ ?_; rotate_left; (show Act.put _ (some 58) _ = _; simp only [Act.put, List.setIfInBounds_toArray, List.set_cons_zero, List.set_cons_succ, i64_w, i32_w]; rfl)
    have HQ : Hid (NewP U rev w ts (.returned T.ifc) w7) := by
      refine ⟨T, S, rfl, d1, d2, d3.trans HLS.out, fun i hi => ?_, HFR5.out.trans d5 (fun i x => x.elim)⟩
      rcases d4 i hi with h | h
      · rcases HTW.out.2 i h with h | h
        · rw [HSP.out] at h
          exact .inl h
        · exact .inr ⟨by have := HFR3.out.size; omega, by have := d5.size; omega⟩
      · exact .inr ⟨by have := HFR5.out.size; omega, h.2⟩
    clear d1 d2 d3 d4 d5 HTW HLS HFR5 HN5 HSL hHeld
    refine pure_ (i := 13) (N := some 4) (v := ?_) (a' := ?_) #[tt,tt,tt,tt,tt,tt,tt,tt,tt,tt,tt,tt,tt,tt] rfl rfl (by kernel_rfl) (fun _ _ _ h => h) (Or.inl ⟨by rfl, ?_⟩) ?_ ?_; rotate_left; (intro w'; go_simp; with_reducible rfl); rotate_left; (simp only [Act.put, List.setIfInBounds_toArray, List.set_cons_zero, List.set_cons_succ, i64_w, i32_w]; rfl)
    refine done_ (by kernel_rfl) ?_
    go_wp2
    go_returns
    exact HQ.out
end Go.Proofs.YtegaigpolhdicaaGreat
