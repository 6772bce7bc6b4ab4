/- Changes read again from bytes. -/
import Derived.Test.YtpfmmbhbmdbmeaaDoorF3
namespace Go.Proofs.YtpfmmbhbmdbmeaaDoor
open Go.RowKit
set_option linter.unusedVariables false
set_option linter.unusedSimpArgs false
/-- The fields of a change that are not 0, their bytes, and the row that they leave. -/
def nzF (d : Chg) : List (Int × Int) := [(8, d.id), (16, d.op), (24, d.level), (32, d.keyId), (48, d.comp)].filter fun kv => kv.2 != 0
def nzB (F : List (Int × Int)) : List Int := F.flatMap fun kv => kv.1 :: vint 9 kv.2
def setF (cs : List Value) (kv : Int × Int) : List Value :=
  if kv.1 = 8 then cs.set 0 (.int .u64 kv.2) else if kv.1 = 16 then cs.set 1 (.int .i32 kv.2) else if kv.1 = 24 then cs.set 2 (.int .u32 kv.2) else if kv.1 = 32 then cs.set 3 (.int .u64 kv.2) else if kv.1 = 48 then cs.set 5 (.int .u32 kv.2) else cs
def row0 : List Value := [.int .u64 0, .int .i32 0, .int .u32 0, .int .u64 0, .int .i32 0, .int .u32 0]
def rowF (F : List (Int × Int)) : List Value := F.foldl setF row0
theorem grownBy_wide {w w' : World} {v : Value} {r : Option Nat} (h : w.grownBy w' v.ownBlock) (hn : v.ownBlock = none) : w.grownBy w' r := ⟨h.os, h.tape, h.output, h.size, fun k hk _ => h.block k hk (by rw [hn]; simp)⟩
theorem grownBy_own {a b c : World} {r : Option Nat} {v : Value} (h : a.grownBy b r) (k : b.grownBy c v.ownBlock) (hv : ∀ x, v.ownBlock = some x → a.heap.size ≤ x) : a.grownBy c r := by
  cases e : v.ownBlock with
  | none => exact grownBy_then h (grownBy_wide k e) (.inl rfl)
  | some x => exact grownBy_then h k (.inr ⟨x, e, hv x e⟩)
theorem blk_neF {w : World} {g k t u : Nat} {cs ds : List Value} (h : Blk w g t cs) (k' : Blk w k u ds) (hne : t ≠ u) : k ≠ g := fun e => by
  subst e
  unfold Blk at h k'
  rw [h] at k'
  simp only [Option.some.injEq, Obj.cells.injEq] at k'
  exact hne k'.2.1
theorem nzB_all (d : Chg) : nzB (nzF d) = chgB d := by
  have h : ∀ (k v : Int) (F : List (Int × Int)), nzB (((k, v) :: F).filter fun kv => kv.2 != 0) = fieldB k v ++ nzB (F.filter fun kv => kv.2 != 0) := by
    intro k v F
    unfold fieldB
    by_cases hv : v = 0
    · subst hv; simp [nzB]
    · simp [nzB, hv]
  unfold nzF
  rw [h, h, h, h, h]
  simp [nzB, chgB, List.append_assoc]
theorem rowF_all (d : Chg) : rowF (nzF d) = d.row := by
  obtain ⟨a, g, b, e, f⟩ := d
  unfold rowF nzF Chg.row
  simp only [Chg.op]
  by_cases h1 : a = 0 <;> by_cases h2 : (if g = true then (1 : Int) else 0) = 0 <;> by_cases h3 : b = 0 <;> by_cases h4 : e = 0 <;> by_cases h5 : f = 0 <;> simp [h1, h2, h3, h4, h5, setF, row0]
theorem rowF_snoc (F : List (Int × Int)) (kv : Int × Int) : rowF (F ++ [kv]) = setF (rowF F) kv := by simp [rowF]
theorem nzF_mem (d : Chg) (kv : Int × Int) (h : kv ∈ nzF d) : kv = (8, d.id) ∨ kv = (16, d.op) ∨ kv = (24, d.level) ∨ kv = (32, d.keyId) ∨ kv = (48, d.comp) := by
  unfold nzF at h
  have := (List.mem_filter.1 h).1
  simpa using this
theorem nzB_drop (F : List (Int × Int)) (j : Nat) (kv : Int × Int) (h : F[j]? = some kv) : nzB (F.drop j) = kv.1 :: (vint 9 kv.2 ++ nzB (F.drop (j + 1))) := by
  obtain ⟨g, rfl⟩ := List.getElem?_eq_some_iff.1 h
  rw [List.drop_eq_getElem_cons g]
  simp only [nzB, List.flatMap_cons, List.cons_append]
theorem chgsB_drop (l : List Chg) (i : Nat) (d : Chg) (h : l[i]? = some d) : chgsB (l.drop i) = 10 :: (vint 9 (chgB d).length ++ (chgB d ++ chgsB (l.drop (i + 1)))) := by
  obtain ⟨g, rfl⟩ := List.getElem?_eq_some_iff.1 h
  rw [List.drop_eq_getElem_cons g]
  simp only [chgsB, List.flatMap_cons, chgR, List.cons_append, List.append_assoc]
theorem rowF_len (F : List (Int × Int)) : (rowF F).length = 6 := by
  have h : ∀ (F : List (Int × Int)) (cs : List Value), cs.length = 6 → (F.foldl setF cs).length = 6 := by
    intro F
    induction F with
    | nil => intro cs h; exact h
    | cons kv F ih =>
      intro cs h
      refine ih _ ?_
      unfold setF
      repeat' split
      all_goals simp [h]
  exact h F row0 rfl
theorem fieldB_byt (k v : Int) (hk : 0 ≤ k ∧ k ≤ 255) (h0 : 0 ≤ v) (h1 : v ≤ 18446744073709551615) : Byt (fieldB k v) := by
  unfold fieldB
  split
  · intro x hx; cases hx
  · intro x hx
    rcases List.mem_cons.1 hx with h | h
    · exact h ▸ hk
    · exact vint_byt' v h0 h1 x h
theorem byt_app {a b : List Int} (ha : Byt a) (hb : Byt b) : Byt (a ++ b) := fun x hx => by
  rcases List.mem_append.1 hx with h | h
  · exact ha x h
  · exact hb x h
theorem op_two (d : Chg) : 0 ≤ d.op ∧ d.op ≤ 1 := by unfold Chg.op; split <;> omega
theorem chgB_byt (d : Chg) (h : d.ok) : Byt (chgB d) := by
  obtain ⟨⟨i0, i1⟩, ⟨l0, l1⟩, ⟨k0, k1⟩, ⟨c0, c1⟩⟩ := h
  have hop := op_two d
  unfold chgB
  exact byt_app (byt_app (byt_app (byt_app (fieldB_byt _ _ (by omega) i0 i1) (fieldB_byt _ _ (by omega) hop.1 (by omega))) (fieldB_byt _ _ (by omega) l0 (by omega))) (fieldB_byt _ _ (by omega) k0 k1)) (fieldB_byt _ _ (by omega) c0 (by omega))
theorem chgsB_byt (l : List Chg) (h : ∀ c ∈ l, Chg.ok c) : Byt (chgsB l) := by
  induction l with
  | nil => intro x hx; cases hx
  | cons d l ih =>
    have e : chgsB (d :: l) = [10] ++ (vint 9 (chgB d).length ++ (chgB d ++ chgsB l)) := by simp [chgsB, chgR]
    rw [e]
    refine byt_app (fun x hx => ?_) (byt_app (vint_byt' _ (by omega) (by have := chgB_len d; show _ ≤ _; omega)) (byt_app (chgB_byt d (h d (List.mem_cons_self ..))) (ih (fun c hc => h c (List.mem_cons_of_mem _ hc)))))
    have : x = 10 := by simpa using hx
    omega
theorem list6 {α : Type} (l : List α) (h : l.length = 6) : ∃ a b c d e f, l = [a, b, c, d, e, f] := by
  match l, h with
  | [a, b, c, d, e, f], _ => exact ⟨a, b, c, d, e, f, rfl⟩
theorem nzF_ok (d : Chg) (h : d.ok) (kv : Int × Int) (hm : kv ∈ nzF d) : 0 ≤ kv.2 ∧ kv.2 ≤ 18446744073709551615 := by
  obtain ⟨⟨i0, i1⟩, ⟨l0, l1⟩, ⟨k0, k1⟩, ⟨c0, c1⟩⟩ := h
  have hop := op_two d
  rcases nzF_mem d kv hm with h | h | h | h | h <;> subst h <;> simp only <;> omega
theorem nzB_byt (d : Chg) (h : d.ok) (j : Nat) : Byt (nzB ((nzF d).drop j)) := fun x hx => by
  have h0 := chgB_byt d h
  rw [← nzB_all] at h0
  refine h0 x ?_
  simp only [nzB, List.mem_flatMap] at hx ⊢
  obtain ⟨a, ha, hx⟩ := hx
  exact ⟨a, List.mem_of_mem_drop ha, hx⟩
set_option maxRecDepth 100000 in
set_option maxHeartbeats 8000000 in
theorem unmarshal_any (g : Nat) (A : Option Addr) (n c : Nat) (l : List Chg) (w : World) (h : Sl w A n (nums .u8 (chgsB l))) (hc : n ≤ c) (hA : ∀ h o, A = some ⟨h, o, none⟩ → h ≠ g) (hk : Blk w g 63 [.slice none 0 0]) (hok : ∀ c ∈ l, Chg.ok c) (hn : l.length ≤ 1000) :
    Calls Tryd.prog 43 #[.pointer (some ⟨g, 0, none⟩), .slice A n c] w fun E w' => ∃ v gs, E = .returned .nilIface ∧ Blk w' g 63 [v] ∧ w.grownBy w' (some g) ∧ w'.ownsRow w.heap.size 73 1 v l.length (ptrV gs) ∧ Ptrs w' w.heap.size gs l := by
  have hnl : (chgsB l).length = n := by have := h.1; rwa [nums_length] at this
  subst hnl
  have H : Hid (Sl w A (chgsB l).length (nums .u8 (chgsB l))) := h
  have HK : Hid (∀ c ∈ l, Chg.ok c) := hok
  have HA : Hid (∀ h o, A = some ⟨h, o, none⟩ → h ≠ g) := hA
  have q0 : ∀ o, (w.alloc o).cell? ⟨g, 0, none⟩ = some (.slice none 0 0) := fun o => by rw [(hk.alloc o).cell]; rfl
  have f0 : ∀ o, (w.alloc o).frozen? ⟨g, 0, none⟩ = false := fun o => (hk.alloc o).frozen 0
  have HB := Lib.hid hk
  clear h hok hk hA
  go_enter Tryd.func43, Tryd.ntmps43
  go_wp2
  have hk0 : Hid (Blk ((w.alloc (.cells #[.string ⟨#[98, 114, 111, 107, 101, 110, 32, 114, 101, 99, 111, 114, 100]⟩] 108)).setCell ⟨g, 0, none⟩ (.slice none 0 0)) g 63 [.slice none 0 0]) := (HB.out.alloc _).set_ 0 _
  have hg0 : Hid (w.grownBy ((w.alloc (.cells #[.string ⟨#[98, 114, 111, 107, 101, 110, 32, 114, 101, 99, 111, 114, 100]⟩] 108)).setCell ⟨g, 0, none⟩ (.slice none 0 0)) (some g)) := grownBy_then (World.grownBy_alloc w _ (some g)) (Wrote.sets (HB.out.alloc _) 0 _).2 (.inl rfl)
  clear q0 f0
  have hgw : Hid (g < w.heap.size) := HB.out.lt
  clear HB
  generalize (w.alloc (.cells #[.string ⟨#[98, 114, 111, 107, 101, 110, 32, 114, 101, 99, 111, 114, 100]⟩] 108)).setCell ⟨g, 0, none⟩ (.slice none 0 0) = w0 at *
  go_loopg [1] l.length (fun q v1 wr => ∃ (i c' : Nat) (gs : List Nat) (A' : Option Addr) (vs : Value), v1 = .slice A' (chgsB (l.drop i)).length c' ∧ i ≤ l.length ∧ Hid (i + q = l.length) ∧ Hid ((chgsB (l.drop i)).length ≤ c') ∧ Hid (Sl wr A' (chgsB (l.drop i)).length (nums .u8 (chgsB (l.drop i)))) ∧ Hid (∀ h o, A' = some ⟨h, o, none⟩ → 0 < (chgsB (l.drop i)).length → h ≠ g ∧ h < w.heap.size) ∧ Hid (Blk wr g 63 [vs]) ∧ Hid (wr.ownsRow w.heap.size 73 1 vs gs.length (ptrV gs)) ∧ Hid (Ptrs wr w.heap.size gs (l.take i)) ∧ Hid (w.grownBy wr (some g)))
  case atStart =>
    refine ⟨0, c, [], A, .slice none 0 0, rfl, by omega, by simp [Hid], hc, sl_grown H.out hg0.out (fun h o e f => by have := HA.out h o e; injection f with f; exact this f.symm), ?_, hk0, World.ownsRow_nil _ _ _ _, Ptrs.nil _ _, hg0⟩
    intro h o e hp
    obtain ⟨g', o', e', hcell⟩ := H.out.2 hp
    rw [e] at e'
    injection e' with e'
    injection e' with e1 e2
    subst e1
    exact ⟨HA.out h o e, World.block_lt_of_cell? w _ (hcell 0 _ (List.getElem?_eq_getElem (by rw [nums_length]; exact hp)))⟩
  case round =>
    obtain ⟨i, c', gs, A', vs, rfl, hi1, hq, hcl, hs, hA', hk, ho, hp, hg⟩ := hrel
    by_cases h1 : i < l.length
    · obtain ⟨gkO, rfl⟩ : ∃ q, gk = q + 1 := ⟨gk - 1, by have := hq.out; omega⟩
      obtain ⟨d, hd⟩ : ∃ d, l[i]? = some d := ⟨_, List.getElem?_eq_getElem h1⟩
      have hB := chgsB_drop l i d hd
      obtain ⟨R, hR⟩ : ∃ R, chgsB (l.drop (i + 1)) = R := ⟨_, rfl⟩
      obtain ⟨m, hm⟩ : ∃ m, (chgB d).length = m := ⟨_, rfl⟩
      obtain ⟨L, hL⟩ : ∃ L, (vint 9 (m : Int)).length = L := ⟨_, rfl⟩
      have hm66 : m ≤ 66 := by have := chgB_len d; omega
      have hL10 : 0 < L ∧ L ≤ 10 := by have := vint_len 9 (m : Int); omega
      rw [hm, hR] at hB
      have hRn : R.length ≤ 77000 := by
        have := chgsB_len (l.drop (i + 1))
        rw [hR, List.length_drop] at this
        omega
      have hlen : (chgsB (l.drop i)).length = 1 + (L + (m + R.length)) := by rw [hB]; simp [hL, hm]; omega
      obtain ⟨T, hT⟩ : ∃ T, R.length = T := ⟨_, rfl⟩
      rw [hT] at hlen hRn
      rw [hB] at hs
      rw [hB] at hcl hA'
      have e0 : (10 :: (vint 9 (m : Int) ++ (chgB d ++ R))).length = 1 + (L + (m + T)) := by rw [← hB]; exact hlen
      rw [e0] at hs hcl hA'
      rw [hlen]
      obtain ⟨ga, oa, rfl⟩ := hs.out.addr (by omega)
      have hcl0 := hcl.out
      have x0 : wr.cell? ⟨ga, oa, none⟩ = some (.int .u8 10) := by
        obtain ⟨g', o', e', hcell⟩ := hs.out.2 (by omega)
        injection e' with e'
        injection e' with e1 e2
        subst e1 e2
        exact hcell 0 _ rfl
      have hc1 : ¬ c' = 1 := by omega
      have hs1 := hs.out.drop (m := 1) (c := c') (by omega) hcl.out
      rw [if_neg hc1, show (nums .u8 (10 :: (vint 9 (m : Int) ++ (chgB d ++ R)))).drop 1 = nums .u8 (vint 9 (m : Int) ++ (chgB d ++ R)) from rfl] at hs1
      simp only [Option.map_some, add_none] at hs1
      have HS1 := Lib.hid hs1
      have j1 : 0 < (1 + (L + (m + T)) : Int) := by omega
      have u1 : uvarL (vint 9 (m : Int) ++ (chgB d ++ R)) 0 0 = ((m : Int), (L : Int)) := by rw [uvar_back (m : Int) _ (by omega) (by omega), hL]
      have U1 := Lib.hid u1
      rw [Nat.add_sub_cancel_left] at HS1
      have HBy : Hid (Byt (vint 9 (m : Int) ++ (chgB d ++ R))) := by
        have := chgsB_byt (l.drop i) (fun c hc => HK.out c (List.mem_of_mem_drop hc))
        rw [hB] at this
        exact fun x hx => this x (List.mem_cons_of_mem _ hx)
      clear hs1 u1 hcl e0
      go_wp2_with fail
      refine (pubUvarint_any (some ⟨ga, oa + 1, none⟩) (L + (m + T)) (c' - 1) _ wr HS1.out HBy.out (by omega)).mono ?_
      rintro E w1 ⟨rfl, rfl⟩
      rw [U1.out]
      obtain ⟨F, hF⟩ : ∃ F, nzF d = F := ⟨_, rfl⟩
      have hF0 : nzB (F.drop 0) = chgB d := by rw [List.drop_zero, ← hF, nzB_all]
      have hd0 := HK.out d (List.mem_of_getElem? hd)
      have hwop : IntKind.i32.wrap d.op = d.op := by
        unfold Chg.op
        split <;> rfl
      have hwl : IntKind.u32.wrap d.level = d.level := by
        have e : IntKind.u32.wrap d.level = d.level % 4294967296 := by rfl
        have := hd0.2.1
        rw [e]
        omega
      have hwc : IntKind.u32.wrap d.comp = d.comp := by
        have e : IntKind.u32.wrap d.comp = d.comp % 4294967296 := by rfl
        have := hd0.2.2.2
        rw [e]
        omega
      go_wp2_with fail
      case' inl.inl =>
        have hm0 : m = 0 := by omega
        have hT0 : T = 0 := by omega
        have hF0l : (nzB (F.drop 0)).length = 0 := by rw [hF0]; omega
        have HR : Hid (Sl (wr.alloc (.cells #[.int .u64 0, .int .i32 0, .int .u32 0, .int .u64 0, .int .i32 0, .int .u32 0] 76)) (some ⟨ga, oa, none⟩) (nzB (F.drop 0)).length (nums .u8 (nzB (F.drop 0)))) := by
          rw [List.length_eq_zero_iff.1 hF0l]
          exact Sl.nil _ _
        have HRc : Hid ((nzB (F.drop 0)).length ≤ 0) := by show _ ≤ _; omega
        rw [show 1 + (L + T) - (1 + L) = T from by omega]
        have HT : Hid (Sl (wr.alloc (.cells #[.int .u64 0, .int .i32 0, .int .u32 0, .int .u64 0, .int .i32 0, .int .u32 0] 76)) (some ⟨ga, oa, none⟩) R.length (nums .u8 R)) := by
          rw [List.length_eq_zero_iff.1 (show R.length = 0 by omega)]
          exact Sl.nil _ _
        have HTc : Hid (R.length ≤ 0) := by show _ ≤ _; omega
        clear hm0 hT0
      case' inl.inr =>
        have hT0 : T = 0 := by omega
        have hs2 := hs.out.drop (m := 1 + L) (c := c') (by omega) (by omega)
        rw [if_neg (by omega), ← nums_drop, show (10 :: (vint 9 (m : Int) ++ (chgB d ++ R))).drop (1 + L) = chgB d ++ R from by rw [Nat.add_comm, List.drop_succ_cons, List.drop_left' hL]] at hs2
        simp only [Option.map_some, add_none] at hs2
        have hs3 := hs2.take (m := m) (by omega)
        rw [← nums_take, List.take_left' hm] at hs3
        have hF0l : (nzB (F.drop 0)).length = m := by rw [hF0]; exact hm
        have HR : Hid (Sl (wr.alloc (.cells #[.int .u64 0, .int .i32 0, .int .u32 0, .int .u64 0, .int .i32 0, .int .u32 0] 76)) (some ⟨ga, oa + (1 + L), none⟩) (nzB (F.drop 0)).length (nums .u8 (nzB (F.drop 0)))) := by
          rw [hF0l, hF0]
          exact hs3.alloc _
        have HRc : Hid ((nzB (F.drop 0)).length ≤ m) := by show _ ≤ _; omega
        rw [show 1 + (L + (m + T)) - (1 + L + m) = T from by omega]
        have HT : Hid (Sl (wr.alloc (.cells #[.int .u64 0, .int .i32 0, .int .u32 0, .int .u64 0, .int .i32 0, .int .u32 0] 76)) (some ⟨ga, oa, none⟩) R.length (nums .u8 R)) := by
          rw [List.length_eq_zero_iff.1 (show R.length = 0 by omega)]
          exact Sl.nil _ _
        have HTc : Hid (R.length ≤ 0) := by show _ ≤ _; omega
        clear hT0
      case' inr.inr =>
        have hs2 := hs.out.drop (m := 1 + L) (c := c') (by omega) (by omega)
        rw [if_neg (by omega), ← nums_drop, show (10 :: (vint 9 (m : Int) ++ (chgB d ++ R))).drop (1 + L) = chgB d ++ R from by rw [Nat.add_comm, List.drop_succ_cons, List.drop_left' hL]] at hs2
        simp only [Option.map_some, add_none] at hs2
        have hs3 := hs2.take (m := m) (by omega)
        rw [← nums_take, List.take_left' hm] at hs3
        have hF0l : (nzB (F.drop 0)).length = m := by rw [hF0]; exact hm
        have HR : Hid (Sl (wr.alloc (.cells #[.int .u64 0, .int .i32 0, .int .u32 0, .int .u64 0, .int .i32 0, .int .u32 0] 76)) (some ⟨ga, oa + (1 + L), none⟩) (nzB (F.drop 0)).length (nums .u8 (nzB (F.drop 0)))) := by
          rw [hF0l, hF0]
          exact hs3.alloc _
        have HRc : Hid ((nzB (F.drop 0)).length ≤ c' - (1 + L)) := by show _ ≤ _; omega
        rw [show 1 + (L + (m + T)) - (1 + L + m) = T from by omega]
        have HT : Hid (Sl (wr.alloc (.cells #[.int .u64 0, .int .i32 0, .int .u32 0, .int .u64 0, .int .i32 0, .int .u32 0] 76)) (some ⟨ga, oa + (1 + L + m), none⟩) R.length (nums .u8 R)) := by
          have hs4 := hs2.drop (m := m) (c := c' - (1 + L)) (by omega) (by omega)
          rw [if_neg (by omega), ← nums_drop, List.drop_left' hm, show 1 + (L + (m + T)) - (1 + L) - m = R.length from by omega] at hs4
          simp only [Option.map_some, add_none] at hs4
          rw [Nat.add_assoc oa (1 + L) m] at hs4
          exact hs4.alloc _
        have HTc : Hid (R.length ≤ c' - (1 + L + m)) := by show _ ≤ _; omega
      all_goals (
        have hgab : ga ≠ g ∧ ga < w.heap.size := hA'.out ga oa rfl (by omega)
        have HGA := Lib.hid hgab
        have hkc : Hid (Blk (wr.alloc (.cells #[.int .u64 0, .int .i32 0, .int .u32 0, .int .u64 0, .int .i32 0, .int .u32 0] 76)) wr.heap.size 76 (rowF (F.take 0))) := Blk.new wr 76 row0
        have hk8 : Hid (Blk (wr.alloc (.cells #[.int .u64 0, .int .i32 0, .int .u32 0, .int .u64 0, .int .i32 0, .int .u32 0] 76)) g 63 [vs]) := hk.out.alloc _
        have ho8 : Hid ((wr.alloc (.cells #[.int .u64 0, .int .i32 0, .int .u32 0, .int .u64 0, .int .i32 0, .int .u32 0] 76)).ownsRow w.heap.size 73 1 vs gs.length (ptrV gs)) := ho.out.alloc _
        have hgp : Hid (w.heap.size ≤ wr.heap.size) := hg.out.size
        have hol : Hid (∀ b, vs.ownBlock = some b → w.heap.size ≤ b ∧ b < wr.heap.size) := ho.out.lt
        have hp8 : Hid (∀ k cs, Blk wr k 76 cs → k < wr.heap.size ∧ Blk (wr.alloc (.cells #[.int .u64 0, .int .i32 0, .int .u32 0, .int .u64 0, .int .i32 0, .int .u32 0] 76)) k 76 cs) := fun k cs h => ⟨h.lt, h.alloc _⟩
        have hg8 : Hid (w.grownBy (wr.alloc (.cells #[.int .u64 0, .int .i32 0, .int .u32 0, .int .u64 0, .int .i32 0, .int .u32 0] 76)) (some g)) := grownBy_then hg.out (World.grownBy_alloc wr _ (some g)) (.inl rfl)
        clear hk ho hg hs HS1 HBy U1 x0 hA' hgab
        generalize wr.alloc (.cells #[.int .u64 0, .int .i32 0, .int .u32 0, .int .u64 0, .int .i32 0, .int .u32 0] 76) = w8 at *
        generalize hgc : wr.heap.size = gc at *
        go_loopg [8] F.length (fun q v8 wk => ∃ (j c2 : Nat) (A2 : Option Addr), v8 = .slice A2 (nzB (F.drop j)).length c2 ∧ j ≤ F.length ∧ Hid (j + q = F.length) ∧ Hid ((nzB (F.drop j)).length ≤ c2) ∧ Hid (Sl wk A2 (nzB (F.drop j)).length (nums .u8 (nzB (F.drop j)))) ∧ Hid (∀ h o, A2 = some ⟨h, o, none⟩ → h < gc) ∧ Hid (Blk wk gc 76 (rowF (F.take j))) ∧ Hid (w8.grownBy wk (some gc)))
        case atStart => exact ⟨0, _, _, by rw [hF0l], by omega, by simp [Hid], HRc.out, HR.out, fun h o e => by (have := HGA.out.2; have := hgp.out; injection e with e; injection e with e _; omega), hkc, World.grownBy.refl _ _⟩
        case round =>
          obtain ⟨j, c2, A2, rfl, hj1, hjq, hjc, hjs, hja, hjk, hjg⟩ := hrel
          by_cases hj : j < F.length
          · obtain ⟨gk2, rfl⟩ : ∃ q, gk = q + 1 := ⟨gk - 1, by have := hjq.out; omega⟩
            obtain ⟨kv, hkv⟩ : ∃ kv, F[j]? = some kv := ⟨_, List.getElem?_eq_getElem hj⟩
            have hmem : kv ∈ nzF d := by rw [hF]; exact List.mem_of_getElem? hkv
            have hD := nzB_drop F j kv hkv
            have hsn := Lib.hid (take_snoc F j kv hkv)
            have hby := nzB_byt d hd0 j
            have hvb := nzF_ok d hd0 kv hmem
            rw [hF] at hby
            obtain ⟨k, v⟩ := kv
            simp only at hD hvb
            obtain ⟨R2, hR2⟩ : ∃ R2, nzB (F.drop (j + 1)) = R2 := ⟨_, rfl⟩
            obtain ⟨T2, hT2⟩ : ∃ T2, R2.length = T2 := ⟨_, rfl⟩
            obtain ⟨L2, hL2⟩ : ∃ L2, (vint 9 v).length = L2 := ⟨_, rfl⟩
            have hL210 : 0 < L2 ∧ L2 ≤ 10 := by have := vint_len 9 v; omega
            rw [hR2] at hD
            have hDn : (nzB (F.drop j)).length = 1 + (L2 + T2) := by rw [hD]; simp [hL2, hT2]; omega
            have hDb : 1 + (L2 + T2) ≤ 66 := by
              have h1 : (nzB (F.drop j)).length ≤ (nzB F).length := by
                have e : nzB F = nzB (F.take j) ++ nzB (F.drop j) := by rw [nzB, nzB, nzB, ← List.flatMap_append, List.take_append_drop]
                rw [e, List.length_append]
                omega
              have h2 := chgB_len d
              rw [← nzB_all, hF] at h2
              omega
            rw [hDn] at hjc
            rw [hDn, hD] at hjs
            rw [hDn]
            rw [hD] at hby
            have hjc0 := hjc.out
            obtain ⟨gb, ob, rfl⟩ := hjs.out.addr (by omega)
            have hgb : gb < gc := hja.out gb ob rfl
            have y0 : wr.cell? ⟨gb, ob, none⟩ = some (.int .u8 k) := by
              obtain ⟨g', o', e', hcell⟩ := hjs.out.2 (by omega)
              injection e' with e'
              injection e' with e1 e2
              subst e1 e2
              exact hcell 0 _ rfl
            have hc2 : ¬ c2 = 1 := by omega
            have hs5 := hjs.out.drop (m := 1) (c := c2) (by omega) hjc.out
            rw [if_neg hc2, show (nums .u8 (k :: (vint 9 v ++ R2))).drop 1 = nums .u8 (vint 9 v ++ R2) from rfl, Nat.add_sub_cancel_left] at hs5
            simp only [Option.map_some, add_none] at hs5
            have HS5 := Lib.hid hs5
            have HBy2 : Hid (Byt (vint 9 v ++ R2)) := fun x hx => hby x (List.mem_cons_of_mem _ hx)
            have u2 : uvarL (vint 9 v ++ R2) 0 0 = (v, (L2 : Int)) := by rw [uvar_back v _ hvb.1 hvb.2, hL2]
            have U2 := Lib.hid u2
            have j2 : 0 < (1 + (L2 + T2) : Int) := by omega
            have hT3 : 1 + (L2 + T2) - (1 + L2) = (nzB (F.drop (j + 1))).length := by rw [hR2]; omega
            obtain ⟨r0, r1, r2, r3, r4, r5, hrow⟩ := list6 _ (rowF_len (F.take j))
            have z0 : wr.cell? ⟨gc, 0, none⟩ = some r0 := by rw [hjk.out.cell, hrow]; rfl
            have z1 : wr.cell? ⟨gc, 1, none⟩ = some r1 := by rw [hjk.out.cell, hrow]; rfl
            have z2 : wr.cell? ⟨gc, 2, none⟩ = some r2 := by rw [hjk.out.cell, hrow]; rfl
            have z3 : wr.cell? ⟨gc, 3, none⟩ = some r3 := by rw [hjk.out.cell, hrow]; rfl
            have z5 : wr.cell? ⟨gc, 5, none⟩ = some r5 := by rw [hjk.out.cell, hrow]; rfl
            have zf0 := hjk.out.frozen 0
            have zf1 := hjk.out.frozen 1
            have zf2 := hjk.out.frozen 2
            have zf3 := hjk.out.frozen 3
            have zf5 := hjk.out.frozen 5
            have hs6 := hjs.out.drop (m := 1 + L2) (c := c2) (by omega) hjc.out
            rw [← nums_drop, show (k :: (vint 9 v ++ R2)).drop (1 + L2) = R2 from by rw [Nat.add_comm, List.drop_succ_cons, List.drop_left' hL2], hT3, ← hR2] at hs6
            simp only [Option.map_some, add_none] at hs6
            clear hs5 hby hjs u2 hrow
            rcases nzF_mem d _ hmem with hx | hx | hx | hx | hx
            · obtain ⟨rfl, rfl⟩ : k = 8 ∧ v = d.id := by simpa using hx
              have HB9 : Hid (Blk (wr.setCell ⟨gc, 0, none⟩ (.int .u64 d.id)) gc 76 (rowF (F.take (j + 1)))) := by
                have h9 := hjk.out.set_ 0 (.int .u64 d.id)
                rw [hsn.out, rowF_snoc]
                show Blk _ _ _ _
                simpa [setF] using h9
              have HG9 : Hid (w8.grownBy (wr.setCell ⟨gc, 0, none⟩ (.int .u64 d.id)) (some gc)) := grownBy_then hjg.out (Wrote.sets hjk.out 0 (.int .u64 d.id)).2 (.inl rfl)
              by_cases hcc : c2 = 1 + L2
              · rw [if_pos hcc] at hs6
                have HS9 : Hid (Sl (wr.setCell ⟨gc, 0, none⟩ (.int .u64 d.id)) (some ⟨gb, ob, none⟩) (nzB (F.drop (j + 1))).length (nums .u8 (nzB (F.drop (j + 1))))) := sl_grown hs6 (Wrote.sets hjk.out 0 (.int .u64 d.id)).2 (fun h o e f => by injection e with e; injection e with e _; injection f with f; omega)
                clear hs6
                go_wp2_with fail
                refine (pubUvarint_any (some ⟨gb, ob + 1, none⟩) (L2 + T2) _ _ wr HS5.out HBy2.out (by omega)).mono ?_
                rintro E w9 ⟨rfl, rfl⟩
                rw [U2.out]
                go_wp2
                go_roundg gk2
                case measure => omega
                case rel => exact ⟨j + 1, _, _, by rw [hT3], by omega, by have := hjq.out; show _ = _; omega, by show _ ≤ _; omega, HS9.out, fun h o e => by (injection e with e; injection e with e _; omega), HB9, HG9⟩
              · rw [if_neg hcc] at hs6
                have HS9 : Hid (Sl (wr.setCell ⟨gc, 0, none⟩ (.int .u64 d.id)) (some ⟨gb, ob + (1 + L2), none⟩) (nzB (F.drop (j + 1))).length (nums .u8 (nzB (F.drop (j + 1))))) := sl_grown hs6 (Wrote.sets hjk.out 0 (.int .u64 d.id)).2 (fun h o e f => by injection e with e; injection e with e _; injection f with f; omega)
                clear hs6
                go_wp2_with fail
                refine (pubUvarint_any (some ⟨gb, ob + 1, none⟩) (L2 + T2) _ _ wr HS5.out HBy2.out (by omega)).mono ?_
                rintro E w9 ⟨rfl, rfl⟩
                rw [U2.out]
                go_wp2
                go_roundg gk2
                case measure => omega
                case rel => exact ⟨j + 1, _, _, by rw [hT3], by omega, by have := hjq.out; show _ = _; omega, by show _ ≤ _; omega, HS9.out, fun h o e => by (injection e with e; injection e with e _; omega), HB9, HG9⟩
            · obtain ⟨rfl, rfl⟩ : k = 16 ∧ v = d.op := by simpa using hx
              have HB9 : Hid (Blk (wr.setCell ⟨gc, 1, none⟩ (.int .i32 d.op)) gc 76 (rowF (F.take (j + 1)))) := by
                have h9 := hjk.out.set_ 1 (.int .i32 d.op)
                rw [hsn.out, rowF_snoc]
                show Blk _ _ _ _
                simpa [setF] using h9
              have HG9 : Hid (w8.grownBy (wr.setCell ⟨gc, 1, none⟩ (.int .i32 d.op)) (some gc)) := grownBy_then hjg.out (Wrote.sets hjk.out 1 (.int .i32 d.op)).2 (.inl rfl)
              by_cases hcc : c2 = 1 + L2
              · rw [if_pos hcc] at hs6
                have HS9 : Hid (Sl (wr.setCell ⟨gc, 1, none⟩ (.int .i32 d.op)) (some ⟨gb, ob, none⟩) (nzB (F.drop (j + 1))).length (nums .u8 (nzB (F.drop (j + 1))))) := sl_grown hs6 (Wrote.sets hjk.out 1 (.int .i32 d.op)).2 (fun h o e f => by injection e with e; injection e with e _; injection f with f; omega)
                clear hs6
                go_wp2_with fail
                refine (pubUvarint_any (some ⟨gb, ob + 1, none⟩) (L2 + T2) _ _ wr HS5.out HBy2.out (by omega)).mono ?_
                rintro E w9 ⟨rfl, rfl⟩
                rw [U2.out]
                go_wp2
                go_roundg gk2
                case measure => omega
                case rel => exact ⟨j + 1, _, _, by rw [hT3], by omega, by have := hjq.out; show _ = _; omega, by show _ ≤ _; omega, HS9.out, fun h o e => by (injection e with e; injection e with e _; omega), HB9, HG9⟩
              · rw [if_neg hcc] at hs6
                have HS9 : Hid (Sl (wr.setCell ⟨gc, 1, none⟩ (.int .i32 d.op)) (some ⟨gb, ob + (1 + L2), none⟩) (nzB (F.drop (j + 1))).length (nums .u8 (nzB (F.drop (j + 1))))) := sl_grown hs6 (Wrote.sets hjk.out 1 (.int .i32 d.op)).2 (fun h o e f => by injection e with e; injection e with e _; injection f with f; omega)
                clear hs6
                go_wp2_with fail
                refine (pubUvarint_any (some ⟨gb, ob + 1, none⟩) (L2 + T2) _ _ wr HS5.out HBy2.out (by omega)).mono ?_
                rintro E w9 ⟨rfl, rfl⟩
                rw [U2.out]
                go_wp2
                go_roundg gk2
                case measure => omega
                case rel => exact ⟨j + 1, _, _, by rw [hT3], by omega, by have := hjq.out; show _ = _; omega, by show _ ≤ _; omega, HS9.out, fun h o e => by (injection e with e; injection e with e _; omega), HB9, HG9⟩
            · obtain ⟨rfl, rfl⟩ : k = 24 ∧ v = d.level := by simpa using hx
              have HB9 : Hid (Blk (wr.setCell ⟨gc, 2, none⟩ (.int .u32 d.level)) gc 76 (rowF (F.take (j + 1)))) := by
                have h9 := hjk.out.set_ 2 (.int .u32 d.level)
                rw [hsn.out, rowF_snoc]
                show Blk _ _ _ _
                simpa [setF] using h9
              have HG9 : Hid (w8.grownBy (wr.setCell ⟨gc, 2, none⟩ (.int .u32 d.level)) (some gc)) := grownBy_then hjg.out (Wrote.sets hjk.out 2 (.int .u32 d.level)).2 (.inl rfl)
              by_cases hcc : c2 = 1 + L2
              · rw [if_pos hcc] at hs6
                have HS9 : Hid (Sl (wr.setCell ⟨gc, 2, none⟩ (.int .u32 d.level)) (some ⟨gb, ob, none⟩) (nzB (F.drop (j + 1))).length (nums .u8 (nzB (F.drop (j + 1))))) := sl_grown hs6 (Wrote.sets hjk.out 2 (.int .u32 d.level)).2 (fun h o e f => by injection e with e; injection e with e _; injection f with f; omega)
                clear hs6
                go_wp2_with fail
                refine (pubUvarint_any (some ⟨gb, ob + 1, none⟩) (L2 + T2) _ _ wr HS5.out HBy2.out (by omega)).mono ?_
                rintro E w9 ⟨rfl, rfl⟩
                rw [U2.out]
                go_wp2
                go_roundg gk2
                case measure => omega
                case rel => exact ⟨j + 1, _, _, by rw [hT3], by omega, by have := hjq.out; show _ = _; omega, by show _ ≤ _; omega, HS9.out, fun h o e => by (injection e with e; injection e with e _; omega), HB9, HG9⟩
              · rw [if_neg hcc] at hs6
                have HS9 : Hid (Sl (wr.setCell ⟨gc, 2, none⟩ (.int .u32 d.level)) (some ⟨gb, ob + (1 + L2), none⟩) (nzB (F.drop (j + 1))).length (nums .u8 (nzB (F.drop (j + 1))))) := sl_grown hs6 (Wrote.sets hjk.out 2 (.int .u32 d.level)).2 (fun h o e f => by injection e with e; injection e with e _; injection f with f; omega)
                clear hs6
                go_wp2_with fail
                refine (pubUvarint_any (some ⟨gb, ob + 1, none⟩) (L2 + T2) _ _ wr HS5.out HBy2.out (by omega)).mono ?_
                rintro E w9 ⟨rfl, rfl⟩
                rw [U2.out]
                go_wp2
                go_roundg gk2
                case measure => omega
                case rel => exact ⟨j + 1, _, _, by rw [hT3], by omega, by have := hjq.out; show _ = _; omega, by show _ ≤ _; omega, HS9.out, fun h o e => by (injection e with e; injection e with e _; omega), HB9, HG9⟩
            · obtain ⟨rfl, rfl⟩ : k = 32 ∧ v = d.keyId := by simpa using hx
              have HB9 : Hid (Blk (wr.setCell ⟨gc, 3, none⟩ (.int .u64 d.keyId)) gc 76 (rowF (F.take (j + 1)))) := by
                have h9 := hjk.out.set_ 3 (.int .u64 d.keyId)
                rw [hsn.out, rowF_snoc]
                show Blk _ _ _ _
                simpa [setF] using h9
              have HG9 : Hid (w8.grownBy (wr.setCell ⟨gc, 3, none⟩ (.int .u64 d.keyId)) (some gc)) := grownBy_then hjg.out (Wrote.sets hjk.out 3 (.int .u64 d.keyId)).2 (.inl rfl)
              by_cases hcc : c2 = 1 + L2
              · rw [if_pos hcc] at hs6
                have HS9 : Hid (Sl (wr.setCell ⟨gc, 3, none⟩ (.int .u64 d.keyId)) (some ⟨gb, ob, none⟩) (nzB (F.drop (j + 1))).length (nums .u8 (nzB (F.drop (j + 1))))) := sl_grown hs6 (Wrote.sets hjk.out 3 (.int .u64 d.keyId)).2 (fun h o e f => by injection e with e; injection e with e _; injection f with f; omega)
                clear hs6
                go_wp2_with fail
                refine (pubUvarint_any (some ⟨gb, ob + 1, none⟩) (L2 + T2) _ _ wr HS5.out HBy2.out (by omega)).mono ?_
                rintro E w9 ⟨rfl, rfl⟩
                rw [U2.out]
                go_wp2
                go_roundg gk2
                case measure => omega
                case rel => exact ⟨j + 1, _, _, by rw [hT3], by omega, by have := hjq.out; show _ = _; omega, by show _ ≤ _; omega, HS9.out, fun h o e => by (injection e with e; injection e with e _; omega), HB9, HG9⟩
              · rw [if_neg hcc] at hs6
                have HS9 : Hid (Sl (wr.setCell ⟨gc, 3, none⟩ (.int .u64 d.keyId)) (some ⟨gb, ob + (1 + L2), none⟩) (nzB (F.drop (j + 1))).length (nums .u8 (nzB (F.drop (j + 1))))) := sl_grown hs6 (Wrote.sets hjk.out 3 (.int .u64 d.keyId)).2 (fun h o e f => by injection e with e; injection e with e _; injection f with f; omega)
                clear hs6
                go_wp2_with fail
                refine (pubUvarint_any (some ⟨gb, ob + 1, none⟩) (L2 + T2) _ _ wr HS5.out HBy2.out (by omega)).mono ?_
                rintro E w9 ⟨rfl, rfl⟩
                rw [U2.out]
                go_wp2
                go_roundg gk2
                case measure => omega
                case rel => exact ⟨j + 1, _, _, by rw [hT3], by omega, by have := hjq.out; show _ = _; omega, by show _ ≤ _; omega, HS9.out, fun h o e => by (injection e with e; injection e with e _; omega), HB9, HG9⟩
            · obtain ⟨rfl, rfl⟩ : k = 48 ∧ v = d.comp := by simpa using hx
              have HB9 : Hid (Blk (wr.setCell ⟨gc, 5, none⟩ (.int .u32 d.comp)) gc 76 (rowF (F.take (j + 1)))) := by
                have h9 := hjk.out.set_ 5 (.int .u32 d.comp)
                rw [hsn.out, rowF_snoc]
                show Blk _ _ _ _
                simpa [setF] using h9
              have HG9 : Hid (w8.grownBy (wr.setCell ⟨gc, 5, none⟩ (.int .u32 d.comp)) (some gc)) := grownBy_then hjg.out (Wrote.sets hjk.out 5 (.int .u32 d.comp)).2 (.inl rfl)
              by_cases hcc : c2 = 1 + L2
              · rw [if_pos hcc] at hs6
                have HS9 : Hid (Sl (wr.setCell ⟨gc, 5, none⟩ (.int .u32 d.comp)) (some ⟨gb, ob, none⟩) (nzB (F.drop (j + 1))).length (nums .u8 (nzB (F.drop (j + 1))))) := sl_grown hs6 (Wrote.sets hjk.out 5 (.int .u32 d.comp)).2 (fun h o e f => by injection e with e; injection e with e _; injection f with f; omega)
                clear hs6
                go_wp2_with fail
                refine (pubUvarint_any (some ⟨gb, ob + 1, none⟩) (L2 + T2) _ _ wr HS5.out HBy2.out (by omega)).mono ?_
                rintro E w9 ⟨rfl, rfl⟩
                rw [U2.out]
                go_wp2
                go_roundg gk2
                case measure => omega
                case rel => exact ⟨j + 1, _, _, by rw [hT3], by omega, by have := hjq.out; show _ = _; omega, by show _ ≤ _; omega, HS9.out, fun h o e => by (injection e with e; injection e with e _; omega), HB9, HG9⟩
              · rw [if_neg hcc] at hs6
                have HS9 : Hid (Sl (wr.setCell ⟨gc, 5, none⟩ (.int .u32 d.comp)) (some ⟨gb, ob + (1 + L2), none⟩) (nzB (F.drop (j + 1))).length (nums .u8 (nzB (F.drop (j + 1))))) := sl_grown hs6 (Wrote.sets hjk.out 5 (.int .u32 d.comp)).2 (fun h o e f => by injection e with e; injection e with e _; injection f with f; omega)
                clear hs6
                go_wp2_with fail
                refine (pubUvarint_any (some ⟨gb, ob + 1, none⟩) (L2 + T2) _ _ wr HS5.out HBy2.out (by omega)).mono ?_
                rintro E w9 ⟨rfl, rfl⟩
                rw [U2.out]
                go_wp2
                go_roundg gk2
                case measure => omega
                case rel => exact ⟨j + 1, _, _, by rw [hT3], by omega, by have := hjq.out; show _ = _; omega, by show _ ≤ _; omega, HS9.out, fun h o e => by (injection e with e; injection e with e _; omega), HB9, HG9⟩
          · obtain rfl : j = F.length := by omega
            have hEnd : (nzB (F.drop F.length)).length = 0 := by simp [nzB]
            rw [List.take_length, ← hF, rowF_all] at hjk
            rw [hEnd]
            have hgl : gs.length = i := by have := hp.out.1; rw [List.length_take] at this; omega
            have hrow6 : Hid (Blk (wr.alloc (.cells #[.pointer (some ⟨gc, 0, none⟩)] 73)) gc 76 d.row) := hjk.out.alloc _
            have hk9 : Hid (Blk (wr.alloc (.cells #[.pointer (some ⟨gc, 0, none⟩)] 73)) g 63 [vs]) := (hk8.out.grown hjg.out (by have := hgw.out; have := hgp.out; simp; omega)).alloc _
            have ho9 : Hid ((wr.alloc (.cells #[.pointer (some ⟨gc, 0, none⟩)] 73)).ownsRow w.heap.size 73 1 vs gs.length (ptrV gs)) := World.ownsRow.alloc (Go.Proofs.YtpfmmbhbmdbmeaaDoorW.PrintWords.own_move ho8.out (fun b hb => hjg.out.block b (ho8.out.lt b hb).2 (by have := (hol.out b hb).2; simp; omega))) _
            have hp9 : Hid (∀ k cs, k < gc → Blk w8 k 76 cs → Blk (wr.alloc (.cells #[.pointer (some ⟨gc, 0, none⟩)] 73)) k 76 cs) := fun k cs hk h => (h.grown hjg.out (by simp; omega)).alloc _
            have hg9 : Hid (w.grownBy (wr.alloc (.cells #[.pointer (some ⟨gc, 0, none⟩)] 73)) (some g)) := grownBy_then (grownBy_then hg8.out hjg.out (.inr ⟨gc, rfl, hgp.out⟩)) (World.grownBy_alloc wr _ (some g)) (.inl rfl)
            have ht9 : Hid (Sl (wr.alloc (.cells #[.pointer (some ⟨gc, 0, none⟩)] 73)) _ R.length (nums .u8 R)) := (sl_grown HT.out hjg.out (fun h o e f => by have := HGA.out.2; have := hgp.out; injection e with e; injection e with e _; injection f with f; omega)).alloc _
            have hs9 : Hid (Sl (wr.alloc (.cells #[.pointer (some ⟨gc, 0, none⟩)] 73)) (some ⟨wr.heap.size, 0, none⟩) 1 [.pointer (some ⟨gc, 0, none⟩)]) := sl_one wr (.pointer (some ⟨gc, 0, none⟩)) 73
            have hz9 : Hid (w.heap.size ≤ (wr.alloc (.cells #[.pointer (some ⟨gc, 0, none⟩)] 73)).heap.size) := hg9.out.size
            have c9 : wr.cell? ⟨g, 0, none⟩ = some vs := by rw [(hk8.out.grown hjg.out (by have := hgw.out; have := hgp.out; simp; omega)).cell]; rfl
            go_wp2_with (at_builtin; refine wpList_append_sl _ rfl (.tmp 132) (.tmp 134) 49 rfl w.heap.size 73 (.pointer none) 8 Tryd.underlying49 infoMC rfl vs _ _ rfl ho9.out _ 1 1 [.pointer (some ⟨gc, 0, none⟩)] rfl hs9.out (by simp [Value.oneCell']) ?c2 (by omega) hz9.out ?_; (case c2 => rw [hgl]; omega); intro v1 w1 hown1 hg1 hat1; obtain ⟨Av, cv, rfl, hcv, hsv⟩ := own_sl hown1; clear hsv; have hkA := (hk9.out.grown hg1 (own_ne ho9.out hk9.out (by decide))); have c10 := hkA.cell 0; simp only [List.getElem?_cons_zero] at c10; have f10 := hkA.frozen 0)
            have hB2 : Hid (Blk (w1.setCell ⟨g, 0, none⟩ (.slice Av (gs.length + 1) cv)) g 63 [.slice Av (gs.length + 1) cv]) := hkA.set_ 0 _
            have hO2 : Hid ((w1.setCell ⟨g, 0, none⟩ (.slice Av (gs.length + 1) cv)).ownsRow w.heap.size 73 1 (.slice Av (gs.length + 1) cv) (gs ++ [gc]).length (ptrV (gs ++ [gc]))) := by
              rw [ptrV_snoc, List.length_append]
              exact ownsRow_setCell_below hown1 hgw.out _
            have hP2 : Hid (Ptrs (w1.setCell ⟨g, 0, none⟩ (.slice Av (gs.length + 1) cv)) w.heap.size (gs ++ [gc]) (l.take (i + 1))) := by
              rw [take_snoc l i d hd]
              refine hp.out.snoc (fun k cs h => ?_) hgp.out ?_
              · have h8 := hp8.out k cs h
                have h10 := (hp9.out k cs h8.1 h8.2).grown hg1 (own_ne ho9.out (hp9.out k cs h8.1 h8.2) (by decide))
                exact h10.far (blk_neF hkA h10 (by decide)) _
              · have h10 := hrow6.out.grown hg1 (own_ne ho9.out hrow6.out (by decide))
                exact h10.far (blk_neF hkA h10 (by decide)) _
            have hG2 : Hid (w.grownBy (w1.setCell ⟨g, 0, none⟩ (.slice Av (gs.length + 1) cv)) (some g)) := grownBy_then (grownBy_own hg9.out hg1 (fun x hx => (hol.out x hx).1)) (Wrote.sets hkA 0 _).2 (.inl rfl)
            have hT2 : Hid (Sl (w1.setCell ⟨g, 0, none⟩ (.slice Av (gs.length + 1) cv)) _ R.length (nums .u8 R)) := sl_grown (sl_grown ht9.out hg1 (fun h o e f => by injection e with e; injection e with e _; have := (hol.out _ f).1; have := HGA.out.2; omega)) (Wrote.sets hkA 0 _).2 (fun h o e f => by injection e with e; injection e with e _; injection f with f; exact HGA.out.1 (by omega))
            rw [hgl] at hB2 hO2 hP2 hG2 hT2
            go_roundg gkO
            case measure => omega
            case rel => exact ⟨i + 1, _, gs ++ [gc], _, _, by rw [hR, hT], by omega, by have := hq.out; show _ = _; omega, by rw [hR]; exact HTc, by rw [hR]; exact hT2, fun h o e _ => by (injection e with e; injection e with e _; exact e ▸ HGA.out), hB2, hO2, hP2, hG2⟩
      )
    · obtain rfl : i = l.length := by omega
      have hE : (chgsB (l.drop l.length)).length = 0 := by simp [chgsB]
      rw [hE]
      rw [List.take_length] at hp
      have hgl := hp.out.1
      go_wp2
      go_ret
      exact ⟨vs, gs, rfl, hk.out, hg.out, by have := ho.out; rw [hgl] at this; exact this, hp.out⟩
end Go.Proofs.YtpfmmbhbmdbmeaaDoor
