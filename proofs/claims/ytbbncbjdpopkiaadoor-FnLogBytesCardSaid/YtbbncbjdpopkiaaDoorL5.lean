/- A log is a head of 20 bytes and the bytes of its records: the plain part. -/
import Derived.Test.YtbbncbjdpopkiaaDoorL4
import Derived.Test.YtbbncbjdpopkiaaDoorQL5
namespace Go.Proofs.YtbbncbjdpopkiaaDoorQ.QL
open Go.RowKit Go.Proofs.YtbbncbjdpopkiaaDoorQ.Ext
set_option linter.unusedVariables false
set_option linter.unusedSimpArgs false
theorem u64ok_wf {x : Int} (h : (Lit.int .u64 x).wf = true) : u64ok x = true := by
  have := YtbbncbjdpopkiaaDoor.wf64 h
  exact u64ok_mk this.1 this.2
theorem bytb_wf {l : List Int} (h : ∀ y ∈ l, (Lit.int .u8 y).wf = true) : bytb l = true := bytb_of (YtbbncbjdpopkiaaDoor.Byt.of_wf h)
/-- A record as it can be put into bytes. -/
def RGood (r : RecS) : Prop := r.f0.length ≤ 1000 ∧ r.f1.length ≤ 1000 ∧ YtbbncbjdpopkiaaDoor.Byt r.f0 ∧ YtbbncbjdpopkiaaDoor.Byt r.f1 ∧ u64ok r.f2 = true ∧ in8 r.f3 = true ∧ in8 r.f4 = true
def rb (r : RecS) : List Int := YtbbncbjdpopkiaaDoor.recB r.f3 r.f4 r.f2 r.f0 r.f1
theorem rb_len {r : RecS} (h : RGood r) : (rb r).length ≤ 2026 := by
  have := YtbbncbjdpopkiaaDoor.recB_len r.f3 r.f4 r.f2 r.f0 r.f1 (by have := h.1; omega) (by have := h.2.1; omega)
  have h2 := YtbbncbjdpopkiaaDoor.headB_len (r.f0.length : Int) (r.f1.length : Int) r.f2 r.f3 r.f4 (by omega) (by omega)
  have := h.1
  have := h.2.1
  unfold rb
  omega
theorem bitsA : ∀ n : Fin 256, 0 ≤ Go.bits .andNot .u8 (n.val : Int) 192 ∧ Go.bits .andNot .u8 (n.val : Int) 192 ≤ 255 ∧ 0 ≤ Go.bits .or .u8 (Go.bits .andNot .u8 (n.val : Int) 192) 64 ∧ Go.bits .or .u8 (Go.bits .andNot .u8 (n.val : Int) 192) 64 ≤ 255 := by decide +kernel
theorem bitsB (x : Int) (h0 : 0 ≤ x) (h1 : x ≤ 255) : (0 ≤ Go.bits .andNot .u8 x 192 ∧ Go.bits .andNot .u8 x 192 ≤ 255) ∧ 0 ≤ Go.bits .or .u8 (Go.bits .andNot .u8 x 192) 64 ∧ Go.bits .or .u8 (Go.bits .andNot .u8 x 192) 64 ≤ 255 := by
  have := bitsA ⟨x.toNat, by omega⟩
  simp only at this
  rw [Int.toNat_of_nonneg h0] at this
  exact ⟨⟨this.1, this.2.1⟩, this.2.2⟩
/-- A record of a unit as it stands in a log. -/
def wr (u : UnitS) (r : RecS) : RecS := if u.f1 = true then ⟨YtbbncbjdpopkiaaDoor.keyB r.f0 u.f2, r.f1, r.f2, Go.bits .or .u8 (Go.bits .andNot .u8 r.f3 192) 64, r.f4⟩ else ⟨r.f0, r.f1, r.f2, Go.bits .andNot .u8 r.f3 192, r.f4⟩
theorem wr_good (u : UnitS) (r : RecS) (hw : wfR r) (hr : ROk r) (h2 : 1 ≤ u.f2) (h3 : u.f2 ≤ 1000000) : RGood (wr u r) := by
  obtain ⟨w1, w2, w3, w4, w5⟩ := hw
  obtain ⟨r1, r2, r3⟩ := hr
  have m1 := YtbbncbjdpopkiaaDoor.wf8 w4
  have m2 := YtbbncbjdpopkiaaDoor.wf8 w5
  have hb := bitsB r.f3 m1.1 m1.2
  have b1 := YtbbncbjdpopkiaaDoor.Byt.of_wf w1
  have b2 := YtbbncbjdpopkiaaDoor.Byt.of_wf w2
  unfold wr
  split
  · refine ⟨?_, by simp only; omega, YtbbncbjdpopkiaaDoor.bytKey b1 (by omega) (show _ ≤ _ by omega), b2, u64ok_wf w3, in8_mk ⟨hb.2.1, hb.2.2⟩, in8_mk m2⟩
    simp only
    rw [YtbbncbjdpopkiaaDoor.keyB_len]
    omega
  · exact ⟨by simp only; omega, by simp only; omega, b1, b2, u64ok_wf w3, in8_mk ⟨hb.1.1, hb.1.2⟩, in8_mk m2⟩
theorem keyB_some (l : List Int) (v : Int) (hl : l.length ≤ 1000000) (h0 : 0 ≤ v) (h1 : v ≤ 1000000) : spec_KeyBytes.f l v = some (YtbbncbjdpopkiaaDoor.keyB l v) := by
  unfold spec_KeyBytes.f
  rw [if_pos ⟨hl, u64ok_mk h0 (show _ ≤ _ by omega)⟩]
theorem written_l (u : UnitS) (h2 : 1 ≤ u.f2) (h3 : u.f2 ≤ 1000000) (hn : u.f0.length ≤ 10) (hr : ∀ r ∈ u.f0, ROk r) (R : List RecS) (K : Nat)
    (hend : ∀ k x41 acc, K < k → acc.length ≤ 100 → x41 = (u.f1 && !u.f3) → spec_Unit_written.j1 k acc x41 u.f0 u.f1 u.f2 u.f3 = some (acc ++ R)) :
    ∀ d i k acc, i + d = u.f0.length → K + d + 1 < k → acc.length + d ≤ 100 → spec_Unit_written.l0 k acc u.f0 (u.f0.length : Int) (i : Int) u.f0 u.f1 u.f2 u.f3 = some (acc ++ ((u.f0.drop i).map (wr u) ++ R)) := by
  intro d
  induction d with
  | zero =>
    intro i k acc hi hk ha
    obtain ⟨k, rfl⟩ : ∃ n, k = n + 1 := ⟨k - 1, by omega⟩
    rw [spec_Unit_written.l0, if_neg (by omega), List.drop_eq_nil_of_le (by omega), List.map_nil, List.nil_append]
    split
    · rename_i hf
      exact hend k _ acc (by omega) (by omega) (by rw [hf]; simp)
    · rename_i hf
      exact hend k _ acc (by omega) (by omega) (by simp [hf])
  | succ d ih =>
    intro i k acc hi hk ha
    obtain ⟨k, rfl⟩ : ∃ n, k = n + 1 := ⟨k - 1, by omega⟩
    have hri := hr _ (List.getElem_mem (show i < u.f0.length by omega))
    have hd : u.f0.drop i = u.f0[i] :: u.f0.drop (i + 1) := List.drop_eq_getElem_cons (by omega)
    rw [spec_Unit_written.l0, if_pos (by omega), if_pos (by omega), if_pos (by omega), rdR u.f0 i (by omega)]
    by_cases hf : u.f1 = true
    · rw [if_pos hf, keyB_some _ _ (by have := hri.2.1; omega) (by omega) h3, Option.bind_some, if_pos (by omega), w64 i (by omega), ih (i + 1) k _ (by omega) (by omega) (by simp; omega), hd, List.map_cons, wr, if_pos hf, List.append_assoc]
      rfl
    · rw [if_neg hf, if_pos (by omega), w64 i (by omega), ih (i + 1) k _ (by omega) (by omega) (by simp; omega), hd, List.map_cons, wr, if_neg hf, List.append_assoc]
      rfl
/-- The records of a unit as they stand in a log. -/
theorem written_some (u : UnitS) (hu : UOk u) (hw : ∀ r ∈ u.f0, wfR r) : ∃ L : List RecS, L.length ≤ 11 ∧ (∀ r ∈ L, RGood r) ∧ ∀ k, 40 < k → spec_Unit_written.f k u.f0 u.f1 u.f2 u.f3 = some L := by
  obtain ⟨h0, h1, h2, h3, h4⟩ := hu
  obtain ⟨dl, hd1, hd2, hd3⟩ := decimal_some 6 u.f2 (by omega) (by omega) (by simp; omega) h3
  obtain ⟨R, hR⟩ : ∃ R : List RecS, R = if (u.f1 && !u.f3) = true then [⟨YtbbncbjdpopkiaaDoor.keyB [33, 98, 97, 100, 103, 101, 114, 33, 116, 120, 110] u.f2, dl, 0, 128, 0⟩] else [] := ⟨_, rfl⟩
  have hend : ∀ k x41 acc, 8 < k → acc.length ≤ 100 → x41 = (u.f1 && !u.f3) → spec_Unit_written.j1 k acc x41 u.f0 u.f1 u.f2 u.f3 = some (acc ++ R) := by
    intro k x41 acc hk ha hx
    subst hx
    obtain ⟨k, rfl⟩ : ∃ n, k = n + 1 := ⟨k - 1, by omega⟩
    rw [spec_Unit_written.j1]
    by_cases hf : (u.f1 && !u.f3) = true
    · rw [if_pos hf, keyB_some _ _ (by simp) (by omega) h3, Option.bind_some, hd3 k (by omega), Option.bind_some, if_pos (by omega), hR, if_pos hf]
    · rw [if_neg hf, hR, if_neg hf, List.append_nil]
  refine ⟨u.f0.map (wr u) ++ R, ?_, ?_, ?_⟩
  · rw [List.length_append, List.length_map, hR]
    split <;> simp <;> omega
  · intro r hr
    rcases List.mem_append.1 hr with h | h
    · obtain ⟨x, hx, rfl⟩ := List.mem_map.1 h
      exact wr_good u x (hw x hx) (h4 x hx) h2 h3
    · rw [hR] at h
      split at h
      · rw [List.mem_singleton.1 h]
        refine ⟨?_, by simp only; omega, YtbbncbjdpopkiaaDoor.bytKey ?_ (by omega) (show _ ≤ _ by omega), hd2, show u64ok 0 = true by decide, show in8 128 = true by decide, show in8 0 = true by decide⟩
        · simp only; rw [YtbbncbjdpopkiaaDoor.keyB_len]; simp
        · intro x hx
          have : ∀ x ∈ ([33, 98, 97, 100, 103, 101, 114, 33, 116, 120, 110] : List Int), 0 ≤ x ∧ x ≤ 255 := by decide
          exact this x hx
      · cases h
  · intro k hk
    unfold spec_Unit_written.f
    have := written_l u h2 h3 h1 h4 R 8 hend u.f0.length 0 k [] (by omega) (by omega) (by simp; omega)
    rw [List.drop_zero, List.nil_append] at this
    exact this
theorem logRecs_some (l : List UnitS) (hn : l.length ≤ 20) (hu : ∀ u ∈ l, UOk u) (hw : ∀ u ∈ l, ∀ r ∈ u.f0, wfR r) : ∃ L : List RecS, L.length ≤ 220 ∧ (∀ r ∈ L, RGood r) ∧ ∀ k, 100 < k → spec_LogRecs.f k l = some L := by
  have key : ∀ d i, i + d = l.length → ∃ L : List RecS, L.length ≤ 11 * d ∧ (∀ r ∈ L, RGood r) ∧ ∀ k acc, 50 + d < k → acc.length + 11 * d ≤ 1000 → spec_LogRecs.l0 k acc l (l.length : Int) (i : Int) = some (acc ++ L) := by
    intro d
    induction d with
    | zero =>
      intro i hi
      refine ⟨[], by simp, by simp, fun k acc hk ha => ?_⟩
      obtain ⟨k, rfl⟩ : ∃ n, k = n + 1 := ⟨k - 1, by omega⟩
      rw [spec_LogRecs.l0, if_neg (by omega), List.append_nil]
    | succ d ih =>
      intro i hi
      have hm := List.getElem_mem (show i < l.length by omega)
      obtain ⟨L1, h1, h2, h3⟩ := written_some l[i] (hu _ hm) (hw _ hm)
      obtain ⟨L2, h4, h5, h6⟩ := ih (i + 1) (by omega)
      refine ⟨L1 ++ L2, by simp; omega, fun r hr => (List.mem_append.1 hr).elim (h2 r) (h5 r), fun k acc hk ha => ?_⟩
      obtain ⟨k, rfl⟩ : ∃ n, k = n + 1 := ⟨k - 1, by omega⟩
      rw [spec_LogRecs.l0, if_pos (by omega), if_pos (by omega), if_pos (by omega), rdU l i (by omega), h3 k (by omega), Option.bind_some, if_pos (by omega), w64 i (by omega), h6 k _ (by omega) (by simp; omega), List.append_assoc]
  obtain ⟨L, h1, h2, h3⟩ := key l.length 0 (by omega)
  refine ⟨L, by omega, h2, fun k hk => ?_⟩
  have := h3 k [] (by omega) (by simp; omega)
  rw [List.nil_append] at this
  exact this
abbrev PubS := S72
theorem rdP (l : List PubS) (i : Nat) (h : i < l.length) : rd_T72 l (i : Int) = l[i] := by
  unfold rd_T72
  rw [Int.toNat_natCast, List.getD_eq_getElem?_getD, List.getElem?_eq_getElem h]
  rfl
def pub (r : RecS) : PubS := ⟨r.f0, r.f1, r.f2, r.f3, r.f4⟩
theorem givenRec_some (r : RecS) (h : RGood r) : impl_givenRec.f r.f0 r.f1 r.f2 r.f3 r.f4 = some (r.f0, r.f1, r.f2, r.f3, r.f4) := by
  unfold impl_givenRec.f impl_own.f
  rw [if_pos (by have := h.1; omega), Option.bind_some, if_pos (by have := h.2.1; omega), Option.bind_some]
theorem encEntry_some (r : RecS) (h : RGood r) : badgerlog_EncodeEntry.f r.f0 r.f1 r.f2 r.f3 r.f4 = some (rb r) := by
  obtain ⟨h0, h1, h2, h3, h4, h5, h6⟩ := h
  unfold badgerlog_EncodeEntry.f
  rw [if_pos ⟨⟨by omega, by omega⟩, ⟨bytb_of h2, bytb_of h3⟩, h4, h5, h6⟩]
  rfl
theorem flat_len (L : List RecS) (hg : ∀ r ∈ L, RGood r) : (L.map rb).flatten.length ≤ 2026 * L.length := by
  induction L with
  | nil => simp
  | cons a L ih =>
    have h1 := rb_len (hg a (List.mem_cons_self ..))
    have h2 := ih fun r hr => hg r (List.mem_cons_of_mem _ hr)
    rw [List.map_cons, List.flatten_cons, List.length_append, List.length_cons]
    omega
theorem log_some (L : List RecS) (hg : ∀ r ∈ L, RGood r) (hn : L.length ≤ 1000) : ∀ k, 1002 < k → badgerlog_Log.f k (L.map pub) = some (List.replicate 20 0 ++ (L.map rb).flatten) := by
  have key : ∀ d i k acc, i + d = L.length → d + 1 < k → acc.length + 2026 * d ≤ 100000000 → badgerlog_Log.l0 k acc (L.map pub) ((L.map pub).length : Int) (i : Int) = some (acc ++ ((L.drop i).map rb).flatten) := by
    intro d
    induction d with
    | zero =>
      intro i k acc hi hk ha
      obtain ⟨k, rfl⟩ : ∃ n, k = n + 1 := ⟨k - 1, by omega⟩
      rw [badgerlog_Log.l0, if_neg (by rw [List.length_map]; omega), List.drop_eq_nil_of_le (by omega)]
      simp
    | succ d ih =>
      intro i k acc hi hk ha
      obtain ⟨k, rfl⟩ : ∃ n, k = n + 1 := ⟨k - 1, by omega⟩
      have hm := hg _ (List.getElem_mem (show i < L.length by omega))
      have hd : L.drop i = L[i] :: L.drop (i + 1) := List.drop_eq_getElem_cons (by omega)
      have hl := rb_len hm
      have he : rd_T72 (L.map pub) (i : Int) = pub L[i] := by rw [rdP _ _ (by rw [List.length_map]; omega), List.getElem_map]
      rw [badgerlog_Log.l0, if_pos (by rw [List.length_map]; omega), if_pos (by omega), if_pos (by rw [List.length_map]; omega), he]
      show ((badgerlog_EncodeEntry.f L[i].f0 L[i].f1 L[i].f2 L[i].f3 L[i].f4).bind _) = _
      rw [encEntry_some _ hm, Option.bind_some, if_pos (by omega), w64 i (by omega), ih (i + 1) k _ (by omega) (by omega) (by rw [List.length_append]; omega), hd, List.map_cons, List.flatten_cons, List.append_assoc]
  intro k hk
  unfold badgerlog_Log.f
  rw [if_pos (by decide)]
  have := key L.length 0 k (List.replicate 20 0) (by omega) (by omega) (by simp; omega)
  rw [List.drop_zero] at this
  exact this
theorem logOf_some (L : List RecS) (hg : ∀ r ∈ L, RGood r) (hn : L.length ≤ 1000) (k : Nat) (hk : 3000 < k) : impl_LogOf.f k L = some (List.replicate 20 0 ++ (L.map rb).flatten) := by
  have hfl := flat_len L hg
  have key : ∀ d i k acc, i + d = L.length → 1003 + d < k → acc = (L.take i).map pub → impl_LogOf.l0 k acc L (L.length : Int) (i : Int) = some (List.replicate 20 0 ++ (L.map rb).flatten) := by
    intro d
    induction d with
    | zero =>
      intro i k acc hi hk ha
      obtain ⟨k, rfl⟩ : ∃ n, k = n + 1 := ⟨k - 1, by omega⟩
      rw [impl_LogOf.l0, if_neg (by omega), ha, List.take_of_length_le (by omega), log_some L hg hn k (by omega), Option.bind_some, impl_own.f, if_pos (by rw [List.length_append, List.length_replicate]; omega), Option.bind_some]
    | succ d ih =>
      intro i k acc hi hk ha
      obtain ⟨k, rfl⟩ : ∃ n, k = n + 1 := ⟨k - 1, by omega⟩
      have hm := hg _ (List.getElem_mem (show i < L.length by omega))
      rw [impl_LogOf.l0, if_pos (by omega), if_pos (by omega), if_pos (by omega), rdR L i (by omega), givenRec_some _ hm, Option.bind_some, if_pos (by rw [ha, List.length_map, List.length_take]; omega), w64 i (by omega)]
      refine ih (i + 1) k _ (by omega) (by omega) ?_
      rw [ha, List.take_succ_eq_append_getElem (by omega), List.map_append]
      rfl
  unfold impl_LogOf.f
  exact key L.length 0 k [] (by omega) (by omega) (by simp)
theorem specRec_some (r : RecS) (h : RGood r) : spec_RecBytes.f r.f0 r.f1 r.f2 r.f3 r.f4 = some (rb r) := by
  obtain ⟨h1, h2, hb, hc, hu, m1, m2⟩ := h
  have hu := u64ok_of hu
  have hL := YtbbncbjdpopkiaaDoor.headB_len (r.f0.length : Int) (r.f1.length : Int) r.f2 r.f3 r.f4 (by omega) (by omega)
  have hP : YtbbncbjdpopkiaaDoor.Byt (YtbbncbjdpopkiaaDoor.recP r.f3 r.f4 r.f2 r.f0 r.f1) := (YtbbncbjdpopkiaaDoor.headB_byt _ _ _ _ _ (by omega) (by omega) (by omega) (by omega) hu.1 hu.2 (in8_of m1) (in8_of m2)).append (hb.append hc)
  have hin := YtbbncbjdpopkiaaDoor.crcOut_in _ hP
  have hlen : (YtbbncbjdpopkiaaDoor.recP r.f3 r.f4 r.f2 r.f0 r.f1).length ≤ 3000 := by unfold YtbbncbjdpopkiaaDoor.recP; simp; omega
  have u64w : ∀ (n : Int), 0 ≤ n → n ≤ 4294967295 → IntKind.u64.wrap n = n := by intro n h0 h; unfold IntKind.wrap; simp [IntKind.signed, IntKind.bits]; omega
  unfold spec_RecBytes.f spec_HeadOf.f
  rw [Option.bind_some]
  simp only
  rw [Int.emod_eq_of_lt (by omega) (by omega), Int.emod_eq_of_lt (by omega) (by omega), spec_HeadBytes.f, if_pos ⟨by omega, by omega, u64ok_mk hu.1 hu.2⟩, Option.bind_some, spec_Join.f, if_pos ⟨by simp, by simp; omega⟩, Option.bind_some]
  have e1 : [YtbbncbjdpopkiaaDoor.headB (r.f0.length : Int) (r.f1.length : Int) r.f2 r.f3 r.f4, r.f0, r.f1].flatten = YtbbncbjdpopkiaaDoor.recP r.f3 r.f4 r.f2 r.f0 r.f1 := by simp [YtbbncbjdpopkiaaDoor.recP]
  rw [e1, spec_Castagnoli.f, if_pos ⟨by omega, bytb_of hP⟩, Option.bind_some, u64w _ hin.1 hin.2, spec_High.f, if_pos ⟨hin.1, by omega, by omega⟩, Option.bind_some]
  have e2 : YtbbncbjdpopkiaaDoor.highL (YtbbncbjdpopkiaaDoor.crcOut (YtbbncbjdpopkiaaDoor.recP r.f3 r.f4 r.f2 r.f0 r.f1)) (4 : Int).toNat = YtbbncbjdpopkiaaDoor.be32 (YtbbncbjdpopkiaaDoor.crcOut (YtbbncbjdpopkiaaDoor.recP r.f3 r.f4 r.f2 r.f0 r.f1)) := YtbbncbjdpopkiaaDoor.highL_four _ hin.1 (by have := hin.2; omega)
  rw [e2, spec_Join.f, if_pos ⟨by simp, by simp [YtbbncbjdpopkiaaDoor.be32, YtbbncbjdpopkiaaDoor.be16]; omega⟩, Option.bind_some]
  simp [YtbbncbjdpopkiaaDoor.recB, rb]
theorem law_l (x0 : List UnitS) (L : List RecS) (hg : ∀ r ∈ L, RGood r) (hn : L.length ≤ 220) (hL : ∀ k, 100 < k → spec_LogRecs.f k x0 = some L) :
    ∀ d i k acc, i + d = L.length → 4000 + d < k → acc = ((L.take i).map rb).flatten → laws_FnLogBytes.l0 k x0 acc L (L.length : Int) (i : Int) = some true := by
  have hfl := flat_len L hg
  intro d
  induction d with
  | zero =>
    intro i k acc hi hk ha
    obtain ⟨k, rfl⟩ : ∃ n, k = n + 1 := ⟨k - 1, by omega⟩
    rw [List.take_of_length_le (by omega)] at ha
    rw [laws_FnLogBytes.l0, if_neg (by omega), hL k (by omega), Option.bind_some, logOf_some L hg (by omega) k (by omega), Option.bind_some, if_pos (by rw [List.length_append, List.length_replicate]; omega), if_pos (by rw [List.length_append, List.length_replicate]; omega)]
    have e : (List.replicate 20 (0 : Int) ++ (L.map rb).flatten).drop 20 = (L.map rb).flatten := List.drop_left' (by simp)
    rw [e, ha, spec_SameBytes.f, if_pos ⟨by omega, by omega⟩, Option.bind_some]
    simp
  | succ d ih =>
    intro i k acc hi hk ha
    obtain ⟨k, rfl⟩ : ∃ n, k = n + 1 := ⟨k - 1, by omega⟩
    have hm := hg _ (List.getElem_mem (show i < L.length by omega))
    have hl := rb_len hm
    have hfa : acc.length ≤ 2026 * 220 := by
      rw [ha]
      have := flat_len (L.take i) fun r hr => hg r (List.mem_of_mem_take hr)
      rw [List.length_take] at this
      omega
    rw [laws_FnLogBytes.l0, if_pos (by omega), if_pos (by omega), if_pos (by omega), rdR L i (by omega), specRec_some _ hm, Option.bind_some, spec_Join.f, if_pos ⟨by simp, by simp; omega⟩, Option.bind_some, w64 i (by omega)]
    refine ih (i + 1) k _ (by omega) (by omega) ?_
    rw [ha, List.take_succ_eq_append_getElem (by omega), List.map_append, List.flatten_append]
    simp
theorem logBytes_plain (x0 : List UnitS) (hw : ∀ u ∈ x0, ∀ r ∈ u.f0, wfR r): ∃ k, laws_FnLogBytes.f k x0 = some true := by
  refine ⟨x0.length * (mxU x0 + 6) + x0.length + mxU x0 + 5000, ?_⟩
  generalize hK : x0.length * (mxU x0 + 6) + x0.length + mxU x0 + 5000 = K
  have hK2 : x0.length + mxU x0 < K := by omega
  have hK3 : x0.length * (mxU x0 + 6) < K := by omega
  have hK4 : 4500 < K := by omega
  unfold laws_FnLogBytes.f
  obtain ⟨b, hb, hbl⟩ := fits11_k x0 K hK2
  rw [hb, Option.bind_some]
  cases b
  · rfl
  rw [if_pos rfl]
  obtain ⟨c, hc, hcl⟩ := units_k x0 (hbl rfl).1 (hbl rfl).2 K hK3
  rw [hc, Option.bind_some]
  cases c
  · rfl
  rw [if_pos rfl]
  obtain ⟨hu, hn⟩ := hcl rfl
  obtain ⟨L, hL1, hL2, hL3⟩ := logRecs_some x0 hn hu hw
  rw [hL3 K (by omega), Option.bind_some]
  exact law_l x0 L hL2 hL1 hL3 L.length 0 K [] (by omega) (by omega) (by simp)
end Go.Proofs.YtbbncbjdpopkiaaDoorQ.QL
