/- Texts that this claim shares with others, put together: E1 E2 E3. -/
import Derived.Test.YtanmgkpgfmkobaaGB
import Derived.StillTailTactics
/- Values: contracts. -/
namespace Go.Proofs.Ytanmgkpgfmkobaa
open Go.RowKit
set_option linter.unusedVariables false
set_option linter.unusedSimpArgs false
/-- A value's bytes. -/
def valB (m u e : Int) (l : List Int) : List Int := [m, u] ++ (vint 9 e ++ l)
theorem valB_len (m u e : Int) (l : List Int) : (valB m u e l).length = 2 + (vint 9 e).length + l.length := by simp [valB]; omega
theorem two63 (x : Int) (h : x < 2 ^ (64 - 7 * 9)) : x < 128 := by simp at h; omega
theorem sizeVarint_any (x : Int) (w : World) (h0 : 0 ≤ x) (h1 : Hid (x ≤ 18446744073709551615)) :
    Calls Try.prog 129 #[.int .u64 x] w fun e w' => e = .returned (.int .i64 (vint 9 x).length) ∧ w = w' := by
  obtain ⟨L, hL⟩ : ∃ L, L = (vint 9 x).length := ⟨_, rfl⟩
  have hv := vint_len 9 x
  have HL := Lib.hid hL
  have HV : L ≤ 10 := by omega
  rw [← hL]
  have hx : Hid (x < 2 ^ (64 - 7 * 0)) := by show _ < _; have := h1.out; simp; omega
  clear hL hv
  go_enter Try.func129, Try.ntmps129
  go_wp2
  go_loopg [0, 2] 10 (fun q v0 v2 wr => ∃ (i : Nat) (y : Int), v0 = .int .u64 y ∧ v2 = .int .i64 i ∧ i ≤ 9 ∧ 0 ≤ y ∧ Hid (i + q = 10) ∧ Hid (y < 2 ^ (64 - 7 * i)) ∧ Hid (L = i + (vint (9 - i) y).length) ∧ w = wr)
  case atStart => exact ⟨0, x, rfl, rfl, by omega, h0, rfl, hx, by have := HL.out; simpa [Hid] using this, rfl⟩
  case round =>
    obtain ⟨i, y, rfl, rfl, hi, hy0, hq, hy, hl, rfl⟩ := hrel
    by_cases hc : y < 128
    · have e0 : y / 128 = 0 := by omega
      have el : L = i + 1 := by have := hl.out; rw [vint_small _ _ hc] at this; simpa using this
      subst el
      go_wp2
      go_ret
      exact ⟨by simp, rfl⟩
    · have hz : (y / 128 == 0) = false := by simp; omega
      have i8 : i ≤ 8 := by
        rcases Nat.lt_or_ge i 9 with h | h
        · omega
        · exfalso
          have : i = 9 := by omega
          subst this
          exact hc (two63 y hy.out)
      have hy2 : Hid (y / 128 < 2 ^ (64 - 7 * (i + 1))) := two64 i i8 y hy.out
      have hl2 : Hid (L = (i + 1) + (vint (9 - (i + 1)) (y / 128)).length) := by
        have := hl.out
        obtain ⟨k, hk⟩ : ∃ k, 9 - i = k + 1 := ⟨8 - i, by omega⟩
        rw [hk, vint_big _ _ (by omega)] at this
        rw [show 9 - (i + 1) = k by omega]
        show _ = _
        simp at this
        omega
      go_wp2
      cases gk with
      | zero => exact absurd hq.out (by omega)
      | succ k1 =>
        go_roundg k1
        case measure => omega
        case rel => exact ⟨i + 1, y / 128, by simp, by go_num, by omega, by omega, by have := hq.out; show _ = _; omega, hy2, hl2, rfl⟩
theorem fits4_yes (m u e : Int) (A : Option Addr) (n c : Nat) (w : World) (h : n ≤ 2147483647) :
    Calls Try.prog 65 #[.agg #[.int .u8 m, .int .u8 u, .int .u64 e, .slice A n c]] w (Ret w (.bool true)) := by
  go_enter Try.func65, Try.ntmps65
  go_wp2
  go_ret
  exact ⟨rfl, by (repeat first | with_reducible exact Below.refl _ _ | with_reducible apply bl_drewN | with_reducible apply bl_drew | with_reducible apply bl_alloc | (with_reducible refine bl_trans ?_ (Hid.out (by assumption))))⟩
theorem fits4_no (m u e : Int) (A : Option Addr) (n c : Nat) (w : World) (h : 2147483647 < n) :
    Calls Try.prog 65 #[.agg #[.int .u8 m, .int .u8 u, .int .u64 e, .slice A n c]] w (Ret w (.bool false)) := by
  go_enter Try.func65, Try.ntmps65
  go_wp2
  go_ret
  exact ⟨rfl, by (repeat first | with_reducible exact Below.refl _ _ | with_reducible apply bl_drewN | with_reducible apply bl_drew | with_reducible apply bl_alloc | (with_reducible refine bl_trans ?_ (Hid.out (by assumption))))⟩
theorem encodedSize_any (g : Nat) (e : Int) (A : Option Addr) (n c : Nat) (w : World) (h2 : w.cell? ⟨g, 2, none⟩ = some (.int .u64 e)) (h3 : w.cell? ⟨g, 3, none⟩ = some (.slice A n c)) (hn : n ≤ 1000000)
    (h0 : 0 ≤ e) (h1 : Hid (e ≤ 18446744073709551615)) :
    Calls Try.prog 120 #[.pointer (some ⟨g, 0, none⟩)] w fun E w' => E = .returned (.int .u32 ((2 + (vint 9 e).length + n : Nat) : Int)) ∧ w = w' := by
  have hv := vint_len 9 e
  obtain ⟨hv1, hv2⟩ := hv
  go_enter Try.func120, Try.ntmps120
  go_wp2_with fail
  refine (sizeVarint_any e w h0 h1).mono ?_
  rintro E w1 ⟨rfl, rfl⟩
  go_wp2
  go_ret
  refine ⟨?_, rfl⟩
  show Ending.returned (.int .u32 ((n : Int) + 2 + ((vint 9 e).length : Int))) = _
  congr 2
  omega
end Go.Proofs.Ytanmgkpgfmkobaa

/- Values by the specification. -/
namespace Go.Proofs.Ytanmgkpgfmkobaa
open Go.RowKit
set_option linter.unusedVariables false
set_option linter.unusedSimpArgs false
theorem sls_three (w : World) (g t : Nat) (v1 v2 v3 : Value) (l1 l2 l3 : List Int) (hg : g = w.heap.size) (h1 : SV w v1 l1) (h2 : SV w v2 l2) (h3 : SV w v3 l3) :
    Sls (w.alloc (.cells #[v1, v2, v3] t)) (some ⟨g, 0, none⟩) 3 [l1, l2, l3] := by
  subst hg
  exact sls_new w t [v1, v2, v3] [l1, l2, l3] rfl (fun j m hj => by
    match j, hj with
    | 0, hj => exact ⟨v1, rfl, by simp at hj; subst hj; exact h1⟩
    | 1, hj => exact ⟨v2, rfl, by simp at hj; subst hj; exact h2⟩
    | 2, hj => exact ⟨v3, rfl, by simp at hj; subst hj; exact h3⟩
    | j + 3, hj => simp at hj)
end Go.Proofs.Ytanmgkpgfmkobaa

/- Values in bytes: contracts. -/
namespace Go.Proofs.Ytanmgkpgfmkobaa
open Go.RowKit
set_option linter.unusedVariables false
set_option linter.unusedSimpArgs false
/-- copy into a block that is known whole, as a step of a drawn region. -/
theorem step_copy_blk {P : Program} {w : World} {ops : Array Oper} {o : Oper} {a : Act} {K : Act → World → Prop} {Q : Exit → Act → World → Prop} {E : Prop} (hgd : o.guard = none) (d s : Operand) (dT sT : TypeId)
    (ho : o.op = .call { callee := .builtin .copy, args := #[d, s], argTypes := #[dT, sT] }) (elem : TypeId) (hu : P.underlying dT = some (.slice elem)) (hsz : (P.info? elem).map (·.size) = some 1)
    (sp dp : Option Addr) (g off dLen dCap sLen sCap t : Nat) (cur xs : List Value) (hd : a.eval d = .slice dp dLen dCap) (hdp : 0 < dLen → dp = some ⟨g, off, none⟩) (hs : a.eval s = .slice sp sLen sCap)
    (hg : Blk w g t cur) (hr : Sl w sp sLen xs) (hfit0 : off + dLen ≤ cur.length) (h1 : ∀ v ∈ xs, v.oneCell' = true) (m : Nat) (hm : Nat.min sLen dLen = m)
    (h : ∀ w', Wrote w g t (splice cur off (xs.take dLen)) w' → K (a.put o.dst (.int .i64 m)) w') :
    if Region.wanted o (yielded ops a.tmps) = true then Oper.wp P o a w K Q else E := by
  have hw : Region.wanted o (yielded ops a.tmps) = true := by simp [Region.wanted, hgd]
  rw [if_pos hw]
  subst hm
  have hl : (xs.take dLen).length = Nat.min sLen dLen := by rw [List.length_take, hr.1, Nat.min_comm]
  have hfit : off + Nat.min sLen dLen ≤ cur.length := by have : Nat.min sLen dLen ≤ dLen := Nat.min_le_right _ _; omega
  by_cases h0 : Nat.min sLen dLen = 0
  · have hrun := run_copy_none (P := P) w dT sT o.type elem dp sp dLen dCap sLen sCap hu hsz h0
    have hn : xs.take dLen = [] := List.eq_nil_of_length_eq_zero (by rw [hl, h0])
    have hq := h w ⟨by rw [hn]; simpa [splice] using hg, World.grownBy.refl w _⟩
    rw [h0] at hq
    unfold Oper.wp
    simp [execOp, ho, resolve, invoke, builtin, hd, hs, hrun, Result.andThen]
    exact hq
  · have hpos : 0 < sLen ∧ 0 < dLen := by
      constructor
      · rcases Nat.eq_zero_or_pos sLen with e | e
        · subst e; exact absurd (Nat.zero_min dLen) h0
        · exact e
      · rcases Nat.eq_zero_or_pos dLen with e | e
        · subst e; exact absurd (Nat.min_zero sLen) h0
        · exact e
    obtain ⟨g1, o1, rfl, hc⟩ := hr.2 hpos.1
    obtain rfl := hdp hpos.2
    have hrun := run_copy_row (P := P) w dT sT o.type elem g off dLen dCap ⟨g1, o1, none⟩ sLen sCap cur.toArray t (xs.take dLen) hu hsz hg (by rw [hl]) (by
      intro j v hv
      rw [add_none]
      rw [List.getElem?_take] at hv
      split at hv
      · exact hc j v hv
      · cases hv) (by simpa [hl] using hfit) (fun v hv => h1 v (List.mem_of_mem_take hv))
    unfold Oper.wp
    simp [execOp, ho, resolve, invoke, builtin, hd, hs, hrun, Result.andThen]
    have hq := h (w.setRow g (cur.toArray.toList.take off ++ (xs.take dLen ++ cur.toArray.toList.drop (off + (xs.take dLen).length))).toArray) ⟨?_, ?_⟩
    · rw [← hl] at hq
      show K _ _
      simpa [goInt, splice] using hq
    · have := setRow_heap w g cur.toArray (splice cur off (xs.take dLen)).toArray t (0, 0) hg
      simpa [splice, hl, Blk] using this
    · exact ⟨rfl, rfl, rfl, by simp [World.setRow], fun k _ hk => setRow_other w g k _ (fun e => hk (e ▸ rfl))⟩
theorem sl_wrote {w w' : World} {g t n : Nat} {cs : List Value} {A : Option Addr} {xs : List Value} (h : Wrote w g t cs w') (hne : ∀ b o, A = some ⟨b, o, none⟩ → b ≠ g) (hs : Sl w A n xs) : Sl w' A n xs :=
  ⟨hs.1, fun hn => by
    obtain ⟨b, o, e, hc⟩ := hs.2 hn
    exact ⟨b, o, e, fun j u hu => cell_wrote h (hne b o e) (hc j u hu)⟩⟩
set_option maxRecDepth 100000 in
theorem valEncode_any (g g2 k c t n cc : Nat) (m u e ver : Int) (A : Option Addr) (l : List Int) (cs : List Value) (w : World)
    (h : Blk w g 72 [.int .u8 m, .int .u8 u, .int .u64 e, .slice A n cc, .int .u64 ver]) (hs : Sl w A n (nums .u8 l)) (h2 : Blk w g2 t cs) (hne : g ≠ g2) (hA : ∀ b o, A = some ⟨b, o, none⟩ → b ≠ g2)
    (hk : k = 2 + (vint 9 e).length + n) (hkc : k ≤ c) (hfit : k ≤ cs.length) (hn : n ≤ 1000000) (he0 : 0 ≤ e) (he : Hid (e ≤ 18446744073709551615)) :
    Calls Try.prog 128 #[.pointer (some ⟨g, 0, none⟩), .slice (some ⟨g2, 0, none⟩) k c] w fun E w' =>
      E = .returned (.int .u32 k) ∧ Wrote w g2 t (splice cs 0 (nums .u8 (valB m u e l))) w' := by
  have q0 : w.cell? ⟨g, 0, none⟩ = some (.int .u8 m) := by rw [h.cell]; rfl
  have q1 : w.cell? ⟨g, 1, none⟩ = some (.int .u8 u) := by rw [h.cell]; rfl
  have q2 : w.cell? ⟨g, 2, none⟩ = some (.int .u64 e) := by rw [h.cell]; rfl
  have q3 : w.cell? ⟨g, 3, none⟩ = some (.slice A n cc) := by rw [h.cell]; rfl
  have lv := vint_len 9 e
  obtain ⟨lv1, lv2⟩ := lv
  have hlen : l.length = n := by have := hs.1; rwa [nums_length] at this
  have HLn := Lib.hid hlen
  obtain ⟨y0, hc0⟩ : ∃ y0, w.cell? ⟨g2, 0, none⟩ = some y0 := ⟨cs[0]'(by omega), by rw [h2.cell, List.getElem?_eq_getElem]⟩
  obtain ⟨y1, hc1⟩ : ∃ y1, w.cell? ⟨g2, 1, none⟩ = some y1 := ⟨cs[1]'(by omega), by rw [h2.cell, List.getElem?_eq_getElem]⟩
  have hf0 := h2.frozen 0
  have hf1 := h2.frozen 1
  have hne2 : g2 ≠ g := fun e => hne e.symm
  have HK := Lib.hid h2
  have HS := Lib.hid hs
  have HA := Lib.hid hA
  obtain ⟨i1, hi1⟩ : ∃ i1, i1 = 2 + (vint 9 e).length := ⟨_, rfl⟩
  have HI := Lib.hid hi1
  have hk' : k = i1 + n := by omega
  have s1 : IntKind.i64.wrap (2 + ((vint 9 e).length : Int)) = (i1 : Int) := by rw [IntWalk.i64_in _ (by omega)]; omega
  have s2 : IntKind.i64.wrap ((i1 : Int) + (n : Int)) = (k : Int) := by rw [IntWalk.i64_in _ (by omega)]; omega
  have s3 : IntKind.u32.wrap (k : Int) = (k : Int) := IntWalk.u32_in _ (by omega)
  have b1 : i1 ≤ 12 := by omega
  have b0 : 3 ≤ i1 := by omega
  have b4 : i1 ≤ k := by omega
  have b5 : (2 : Int) ≤ (k : Int) := by omega
  have b6 : k ≤ 2000000 := by omega
  have z1 : (vint 9 e).length ≤ k - 2 := by omega
  have z2 : 2 + (k - 2) ≤ (splice cs 0 [Value.int .u8 m, Value.int .u8 u]).length := by rw [splice_len _ _ _ (by simp; omega)]; omega
  have HF := Lib.hid (And.intro hk' (And.intro hfit hkc))
  have hcc : ¬ c = 2 := by omega
  have k0 : 0 < k := by omega
  have k1 : 1 < k := by omega
  clear h hs h2 hA hlen hi1 hk hk' lv1 hfit
  go_enter Try.func128, Try.ntmps128
  go_wp2_with fail
  have hW1 : Wrote w g2 t (splice cs 0 [.int .u8 m, .int .u8 u]) ((w.setCell ⟨g2, 0, none⟩ (.int .u8 m)).setCell ⟨g2, 1, none⟩ (.int .u8 u)) := by
    have hs := splice_two cs 0 (.int .u8 m) (.int .u8 u) (by have := HF.out; omega)
    have := (Wrote.sets HK.out 0 (.int .u8 m)).trans (Wrote.sets (HK.out.set_ 0 (.int .u8 m)) 1 (.int .u8 u))
    rwa [hs] at this
  have HW1 := Lib.hid hW1
  generalize (w.setCell ⟨g2, 0, none⟩ (.int .u8 m)).setCell ⟨g2, 1, none⟩ (.int .u8 u) = w1 at *
  have p2 := cell_wrote hW1 hne q2
  have p3 := cell_wrote hW1 hne q3
  clear hW1 q0 q1 q2 q3 hc0 hc1 hf0 hf1
  go_region_with (go_at_call 136; refine (putUvarint_any g2 2 (k - 2) (c - 2) t e _ _ (wrote_drew HW1.out).1 z1 z2 he0 he).mono ?_; rintro E w2 ⟨rfl, hw2⟩; have HW2 := Lib.hid hw2; clear hw2)
  have HV2 : Hid (Wrote w g2 t (splice cs 0 ([.int .u8 m, .int .u8 u] ++ nums .u8 (vint 9 e))) w2) := wrote_more HW1.out HW2.out rfl (by rw [nums_length]; simp; have := HF.out; have := HI.out; omega)
  have r3 := cell_wrote (wrote_from HW2.out) hne p3
  clear p2 p3 HW2 HW1
  go_wp2_with fail
  have HV3 : Hid (Blk w2.drew g2 t (splice cs 0 ([.int .u8 m, .int .u8 u] ++ nums .u8 (vint 9 e)))) := HV2.out.1
  have HS3 : Hid (Sl w2.drew A n (nums .u8 l)) := (sl_wrote HV2.out HA.out HS.out).drew
  have e3 : w2.drew.cell? ⟨g, 3, none⟩ = some (.slice A n cc) := r3
  have HG3 : Hid (w.grownBy w2.drew (some g2)) := ⟨HV2.out.2.os, HV2.out.2.tape, HV2.out.2.output, HV2.out.2.size, HV2.out.2.block⟩
  have hsp : i1 + (k - i1) ≤ (splice cs 0 ([Value.int .u8 m, .int .u8 u] ++ nums .u8 (vint 9 e))).length := by rw [splice_len _ _ _ (by rw [List.length_append, nums_length]; simp; have := HF.out; have := HI.out; omega)]; have := HF.out; omega
  have hmin : Nat.min n (k - i1) = n := Nat.min_eq_left (by have := HF.out; omega)
  have hfin : ∀ w', Wrote w2.drew g2 t (splice (splice cs 0 ([.int .u8 m, .int .u8 u] ++ nums .u8 (vint 9 e))) i1 ((nums .u8 l).take (k - i1))) w' → Wrote w g2 t (splice cs 0 (nums .u8 (valB m u e l))) w' := by
    intro w' h
    have h1 := HF.out
    have h2 := HI.out
    have h3 := HLn.out
    rw [List.take_of_length_le (by rw [nums_length]; omega), splice_splice _ _ _ _ _ (by rw [List.length_append, nums_length]; simp; omega) (by rw [List.length_append, nums_length, nums_length]; simp; omega)] at h
    have e2 : nums .u8 (valB m u e l) = ([.int .u8 m, .int .u8 u] ++ nums .u8 (vint 9 e)) ++ nums .u8 l := by simp [valB, nums]
    rw [e2]
    exact ⟨h.1, grownBy_then HG3.out h.2 (.inl rfl)⟩
  have HFin := Lib.hid hfin
  clear hfin r3
  by_cases hci : c = i1
  · have hn0 : ¬ (0 < k - i1) := by have := HF.out; omega
    go_still_tail 8, (by kernel_rfl)
    change wpList _ _ _ _ _ w2.drew
    generalize w2.drew = w3 at *
    refine wpList_copy_blk rfl (.tmp 29) (.tmp 33) 27 27 rfl 5 Try.underlying27 sizeU8 A _ g2 i1 (k - i1) _ n cc t _ (nums .u8 l) rfl (fun h => absurd h hn0) rfl HV3.out HS3.out hsp (nums_one _ _) n hmin ?_
    intro w4 hw4
    have HW4 := Lib.hid hw4
    clear hw4 e3
    go_wp2
    go_ret
    exact ⟨rfl, HFin.out _ HW4.out⟩
  · skip
    go_still_tail 8, (by kernel_rfl)
    change wpList _ _ _ _ _ w2.drew
    generalize w2.drew = w3 at *
    refine wpList_copy_blk rfl (.tmp 29) (.tmp 33) 27 27 rfl 5 Try.underlying27 sizeU8 A _ g2 i1 (k - i1) _ n cc t _ (nums .u8 l) rfl (fun _ => rfl) rfl HV3.out HS3.out hsp (nums_one _ _) n hmin ?_
    intro w4 hw4
    have HW4 := Lib.hid hw4
    clear hw4 e3
    go_wp2
    go_ret
    exact ⟨rfl, HFin.out _ HW4.out⟩
end Go.Proofs.Ytanmgkpgfmkobaa
