/- spec.Twice. -/
import Derived.Test.YtpfmmbhbmdbmeaaDoorY9
import Derived.Test.YtpfmmbhbmdbmeaaDoorYA
import Derived.Test.YtpfmmbhbmdbmeaaDoorYB
import Derived.Test.YtpfmmbhbmdbmeaaDoorZI
import Derived.Test.YtpfmmbhbmdbmeaaDoorGM
import Derived.Test.YtpfmmbhbmdbmeaaDoorZB
import Derived.Test.YtpfmmbhbmdbmeaaDoorZA
import Derived.BigQuiet
namespace Go.Proofs.YtpfmmbhbmdbmeaaDoor
open Go.Proofs.YtpfmmbhbmdbmeaaDoorW.PrintLast
open Go.RowKit
set_option linter.unusedVariables false
set_option linter.unusedSimpArgs false
theorem infoU64Z : (Tryd.prog.info? 42).map (fun i => (i.zero, i.size, i.bytes)) = some (some (.int .u64 0), 1, 8) := by kernel_rfl
theorem wrap64_p1 (p : Nat) (h : p ≤ 3000000) : wrap64 ((p : Int) + 1) = (p : Int) + 1 := by unfold wrap64; omega
/-- Numbers of tables that are there, and the tables. -/
structure TwR (T : List Int) (M : MF) : Prop where
  srt : SortedC M.l
  nd : T.Nodup
  eq : ∀ x, x ∈ T ↔ ∃ a ∈ M.l, a.id = x
theorem TwR.hit {T : List Int} {M : MF} (h : TwR T M) (x : Int) : hitC M.l x = true ↔ x ∈ T := (hit_iff h.srt x).trans (h.eq x).symm
theorem TwR.miss {T : List Int} {M : MF} (h : TwR T M) {x : Int} (hx : x ∉ T) : hitC M.l x = false := by
  cases hh : hitC M.l x with
  | false => rfl
  | true => exact absurd ((h.hit x).1 hh) hx
theorem TwR.ins {T : List Int} {M : MF} (h : TwR T M) (c : Chg) (hx : c.id ∉ T) (k : Int) : TwR (T ++ [c.id]) ⟨insC M.l c, k, M.gone⟩ := by
  refine ⟨insC_sorted h.srt (h.miss hx), ?_, fun x => ?_⟩
  · rw [List.nodup_append]
    refine ⟨h.nd, by simp, fun a ha b hb e => ?_⟩
    rw [List.mem_singleton] at hb
    exact hx (by rw [← hb, ← e]; exact ha)
  · rw [List.mem_append, List.mem_singleton, h.eq x]
    constructor
    · rintro (⟨a, ha, e⟩ | e)
      · exact ⟨a, mem_insC.2 (.inr ha), e⟩
      · exact ⟨c, mem_insC.2 (.inl rfl), e.symm⟩
    · rintro ⟨a, ha, e⟩
      rcases mem_insC.1 ha with rfl | ha
      · exact .inr e.symm
      · exact .inl ⟨a, ha, e⟩
theorem split_at {T : List Int} {p : Nat} {x : Int} (hp : T[p]? = some x) : T = T.take p ++ x :: T.drop (p + 1) := by
  have h := List.getElem?_eq_some_iff.1 hp
  conv => lhs; rw [← List.take_append_drop p T]
  rw [← List.getElem_cons_drop h.1, h.2]
theorem TwR.del {T : List Int} {M : MF} (h : TwR T M) {p : Nat} {x : Int} (hp : T[p]? = some x) (k : Int) : TwR (T.take p ++ T.drop (p + 1)) ⟨delC M.l x, M.come, k⟩ := by
  have hx : x ∈ T := List.mem_of_getElem? hp
  have hs := split_at hp
  have hnd := h.nd
  rw [hs, List.nodup_append] at hnd
  obtain ⟨n1, n2, n3⟩ := hnd
  have n4 := List.nodup_cons.1 n2
  refine ⟨delC_sorted h.srt x, ?_, fun y => ?_⟩
  · rw [List.nodup_append]
    exact ⟨n1, n4.2, fun a ha b hb => n3 a ha b (List.mem_cons_of_mem _ hb)⟩
  · have hm : y ∈ T.take p ++ T.drop (p + 1) ↔ y ∈ T ∧ y ≠ x := by
      constructor
      · intro hy
        rcases List.mem_append.1 hy with hy | hy
        · exact ⟨List.mem_of_mem_take hy, n3 y hy x (List.mem_cons_self ..)⟩
        · exact ⟨List.mem_of_mem_drop hy, fun e => n4.1 (e ▸ hy)⟩
      · rintro ⟨hy, hne⟩
        rw [hs] at hy
        rcases List.mem_append.1 hy with hy | hy
        · exact List.mem_append.2 (.inl hy)
        · rcases List.mem_cons.1 hy with rfl | hy
          · exact absurd rfl hne
          · exact List.mem_append.2 (.inr hy)
    rw [hm, h.eq y]
    constructor
    · rintro ⟨⟨a, ha, e⟩, hne⟩
      exact ⟨a, (mem_delC h.srt ((h.hit x).2 hx)).2 ⟨ha, by rw [e]; exact hne⟩, e⟩
    · rintro ⟨a, ha, e⟩
      obtain ⟨h1, h2⟩ := (mem_delC h.srt ((h.hit x).2 hx)).1 ha
      exact ⟨⟨a, h1, e⟩, by rw [← e]; exact h2⟩
def TwP (ls : List (List Chg)) (w : World) (E : Ending) (w' : World) : Prop := (∃ b, E = .returned (.bool b) ∧ (b = true → twice ⟨[], 0, 0⟩ ls.flatten = true)) ∧ Below w.heap.size w w'
set_option maxRecDepth 100000 in
set_option maxHeartbeats 4000000 in
theorem twice_any (A : Option Addr) (m c : Nat) (ls : List (List Chg)) (w : World) (h : Sets w A m ls) (hm : m ≤ 3000000) (hN : ls.flatten.length ≤ 3000000) :
    Calls Tryd.prog 15 #[.slice A m c] w (TwP ls w) := by
  have H := Lib.hid h
  have HN := Lib.hid hN
  have HO : Hid ((w.alloc (.cells #[] 42)).ownsRow w.heap.size 42 1 (.slice (some ⟨w.heap.size, 0, none⟩) 0 0) 0 (nums .u64 [])) := World.ownsRow_made w #[] 0 (Nat.le_refl _) (by simp [maxLen]) rfl
  have HU : Hid (Below w.heap.size w (w.alloc (.cells #[] 42))) := (Below.refl _ _).alloc (Nat.le_refl _) _
  clear h hN
  go_enter Tryd.func15, Tryd.ntmps15
  go_wp2_with fail
  generalize w.alloc (.cells #[] 42) = w0 at *
  go_loopg [3, 14] m (fun f v3 v14 wr => ∃ (i n3 c3 : Nat) (A3 : Option Addr) (T : List Int) (Mi : MF), v3 = .slice A3 n3 c3 ∧ v14 = .int .i64 i ∧ i ≤ m ∧ Hid (i + f = m) ∧ Hid (wr.ownsRow w.heap.size 42 1 (.slice A3 n3 c3) n3 (nums .u64 T)) ∧ Hid (Below w.heap.size w wr) ∧ Hid (TwR T Mi) ∧ Hid (twice Mi (ls.drop i).flatten = twice ⟨[], 0, 0⟩ ls.flatten) ∧ Hid (n3 + (ls.drop i).flatten.length ≤ 3000000))
  case atStart => exact ⟨0, 0, 0, _, [], ⟨[], 0, 0⟩, rfl, rfl, Nat.zero_le _, Nat.zero_add _, HO.out, HU.out, ⟨List.Pairwise.nil, List.Pairwise.nil, fun x => by simp⟩, rfl, by have := HN.out; show 0 + ls.flatten.length ≤ _; omega⟩
  case round =>
    obtain ⟨i, n3, c3, A3, T, Mi, rfl, rfl, him, hf, hO, hU, hT, hA, hC⟩ := hrel
    by_cases hlt : i < m
    · obtain ⟨ga, oa, l, B, cB, hAe, hl, hcl0, hsl⟩ := H.out.2 i hlt
      subst hAe
      have hcl : wr.cell? ⟨ga, oa + i, none⟩ = some (.slice B l.length cB) := by rw [hU.out.cell (World.block_lt_of_cell? w _ hcl0)]; exact hcl0
      have hd : (ls.drop i).flatten = l ++ (ls.drop (i + 1)).flatten := by
        have hi := List.getElem?_eq_some_iff.1 hl
        rw [← List.getElem_cons_drop hi.1, hi.2, List.flatten_cons]
      have HSL := Lib.hid hsl
      rw [hd] at hA hC
      have HC0 : Hid (n3 + (l.drop 0 ++ (ls.drop (i + 1)).flatten).length ≤ 3000000) := hC.out
      have HA0 : Hid (twice Mi (l.drop 0 ++ (ls.drop (i + 1)).flatten) = twice ⟨[], 0, 0⟩ ls.flatten) := hA.out
      generalize hrst : (ls.drop (i + 1)).flatten = rst at *
      have HRST := Lib.hid hrst
      have HLL : Hid (l.length ≤ 3000000) := by
        have h1 := HC0.out
        rw [List.drop_zero, List.length_append] at h1
        show _ ≤ _
        omega
      obtain ⟨gkO, rfl⟩ : ∃ x, gk = x + 1 := ⟨gk - 1, by have := hf.out; omega⟩
      clear hl hd hcl0 hsl hA hC hrst
      go_wp2_with fail
      go_loopg [3, 20] l.length (fun f v3 v20 wz => ∃ (j n3 c3 : Nat) (A3 : Option Addr) (T : List Int) (Mj : MF), v3 = .slice A3 n3 c3 ∧ v20 = .int .i64 j ∧ j ≤ l.length ∧ Hid (j + f = l.length) ∧ Hid (wz.ownsRow w.heap.size 42 1 (.slice A3 n3 c3) n3 (nums .u64 T)) ∧ Hid (Below w.heap.size w wz) ∧ Hid (TwR T Mj) ∧ Hid (twice Mj (l.drop j ++ rst) = twice ⟨[], 0, 0⟩ ls.flatten) ∧ Hid (n3 + (l.drop j ++ rst).length ≤ 3000000))
      case atStart => exact ⟨0, n3, c3, A3, T, Mi, rfl, rfl, Nat.zero_le _, Nat.zero_add _, hO.out, hU.out, hT.out, HA0.out, HC0.out⟩
      case round =>
        clear HA0 HC0 hT hO hU
        obtain ⟨j, n3, c3, A3, T, Mj, rfl, rfl, hjl, hjf, hO, hU, hT, hA, hC⟩ := hrel
        by_cases hlj : j < l.length
        · have hd : l.drop j ++ rst = l[j] :: (l.drop (j + 1) ++ rst) := by rw [← List.getElem_cons_drop hlj]; rfl
          obtain ⟨gB, oB, y, hBe, hy, d0, d1, d2, d3, d4⟩ := (HSL.out.below hU.out).num hlj
          subst hBe
          obtain rfl : l[j] = y := by have h1 := List.getElem?_eq_getElem hlj; rw [hy.out] at h1; injection h1 with h1; exact h1.symm
          rw [hd] at hA hC
          generalize l[j] = y at *
          have HAJ : Hid ((match stepM Mj y with | some m' => twice m' (l.drop (j + 1) ++ rst) | none => !y.gone) = twice ⟨[], 0, 0⟩ ls.flatten) := hA.out
          have HCJ : Hid (n3 + (l.drop (j + 1) ++ rst).length + 1 ≤ 3000000) := by
            have h1 := hC.out
            rw [List.length_cons] at h1
            show _ ≤ _
            omega
          obtain ⟨gkI, rfl⟩ : ∃ x, gk = x + 1 := ⟨gk - 1, by have := hjf.out; omega⟩
          have HOf : Hid ((wr.alloc (.cells #[.int .u64 y.id, .bool y.gone, .int .u32 y.level, .int .u64 y.keyId, .int .u32 y.comp] 45)).ownsRow w.heap.size 42 1 (.slice A3 n3 c3) n3 (nums .u64 T)) := hO.out.alloc _
          have HUf : Hid (Below w.heap.size w (wr.alloc (.cells #[.int .u64 y.id, .bool y.gone, .int .u32 y.level, .int .u64 y.keyId, .int .u32 y.comp] 45))) := hU.out.alloc hU.out.size _
          have HYf : Hid (Blk (wr.alloc (.cells #[.int .u64 y.id, .bool y.gone, .int .u32 y.level, .int .u64 y.keyId, .int .u32 y.comp] 45)) wr.heap.size 45 [.int .u64 y.id, .bool y.gone, .int .u32 y.level, .int .u64 y.keyId, .int .u32 y.comp]) := Blk.new wr _ _
          have HJF := hjf
          have HTL : Hid (T.length = n3) := by have h := hO.out.1; rw [nums_length, Nat.mul_one] at h; exact h
          clear hd hy hA hC hO hU hjf
          go_wp2_with fail
          generalize wr.alloc (.cells #[.int .u64 y.id, .bool y.gone, .int .u32 y.level, .int .u64 y.keyId, .int .u32 y.comp] 45) = wf at *
          generalize wr.heap.size = g8 at *
          clear d0 d1 d2 d3 d4
          have b8 : wf.cell? ⟨g8, 0, none⟩ = some (.int .u64 y.id) := HYf.out.at_ rfl
          have b81 : wf.cell? ⟨g8, 1, none⟩ = some (.bool y.gone) := HYf.out.at_ rfl
          have HNB : Hid (n3 ≤ 3000000 ∧ l.length ≤ 3000000) := ⟨by have := HCJ.out; omega, HLL.out⟩
          have hnb1 : n3 ≤ 3000000 := HNB.out.1
          have hnb2 : l.length ≤ 3000000 := HNB.out.2
          go_loopg [8, 26] n3 (fun f v8 v26 wz => ∃ k : Nat, v26 = .int .i64 k ∧ k ≤ n3 ∧ Hid (k + f = n3) ∧ wf = wz ∧ ((v8 = .int .i64 (-1) ∧ Hid (∀ q z, q < k → T[q]? = some z → z ≠ y.id)) ∨ ∃ p : Nat, v8 = .int .i64 p ∧ Hid (p < k ∧ T[p]? = some y.id)))
          case atStart => exact ⟨0, rfl, Nat.zero_le _, Nat.zero_add _, rfl, .inl ⟨rfl, fun q z hq => by omega⟩⟩
          case round =>
            obtain ⟨k, rfl, hkn, hkf, hwz, hv⟩ := hrel
            subst hwz
            by_cases hk : k < n3
            · obtain ⟨z, hz⟩ : ∃ z, T[k]? = some z := ⟨_, List.getElem?_eq_getElem (by have := HTL.out; omega)⟩
              obtain ⟨gA, cur, hAe, _, _, _, _, _⟩ := own_blk HOf.out (by omega)
              subst hAe
              have cz : wf.cell? ⟨gA, k, none⟩ = some (.int .u64 z) := by
                rw [HOf.out.cellAt k (by omega), nums, List.getElem?_map, hz]
                rfl
              have HZ := Lib.hid hz
              obtain ⟨gkK, rfl⟩ : ∃ x, gk = x + 1 := ⟨gk - 1, by have := hkf.out; omega⟩
              clear hz
              by_cases he : z = y.id
              · subst he
                rcases hv with ⟨rfl, hno⟩ | ⟨p, rfl, hp⟩
                · go_wp2
                  go_roundg gkK
                  case measure => omega
                  case rel => exact ⟨k + 1, by go_num, by omega, by have := hkf.out; show _ = _; omega, rfl, .inr ⟨k, rfl, Nat.lt_succ_self k, HZ.out⟩⟩
                · go_wp2
                  go_roundg gkK
                  case measure => omega
                  case rel => exact ⟨k + 1, by go_num, by omega, by have := hkf.out; show _ = _; omega, rfl, .inr ⟨k, rfl, Nat.lt_succ_self k, HZ.out⟩⟩

              have hzb : (z == y.id) = false := beq_eq_false_iff_ne.2 he
              rcases hv with ⟨rfl, hno⟩ | ⟨p, rfl, hp⟩
              · have HNO : Hid (∀ q u, q < k + 1 → T[q]? = some u → u ≠ y.id) := fun q u hq hu => by
                  by_cases e : q = k
                  · subst e
                    rw [HZ.out] at hu
                    injection hu with hu
                    rw [← hu]
                    exact he
                  · exact hno.out q u (by omega) hu
                go_wp2
                go_roundg gkK
                case measure => omega
                case rel => exact ⟨k + 1, by go_num, by omega, by have := hkf.out; show _ = _; omega, rfl, .inl ⟨rfl, HNO.out⟩⟩
              · go_wp2
                go_roundg gkK
                case measure => omega
                case rel => exact ⟨k + 1, by go_num, by omega, by have := hkf.out; show _ = _; omega, rfl, .inr ⟨p, rfl, by have := hp.out.1; omega, hp.out.2⟩⟩
            · have hke : k = n3 := by omega
              subst hke
              have hge : ¬ ((k : Int) < (k : Int)) := by omega
              rcases hv with ⟨rfl, hno⟩ | ⟨p, rfl, hp⟩
              · have HMI : Hid (y.id ∉ T) := fun h => by
                  obtain ⟨q, hq⟩ := List.mem_iff_getElem?.1 h
                  exact hno.out q y.id (by have h1 := (List.getElem?_eq_some_iff.1 hq).1; have := HTL.out; omega) hq rfl
                cases hgn : y.gone with
                | true =>
                  rw [hgn] at b81
                  go_wp2
                  go_ret
                  exact ⟨⟨false, rfl, fun h => by cases h⟩, HUf.out⟩
                | false =>
                  rw [hgn] at b81
                  have HAN : Hid (twice ⟨insC Mj.l y, Mj.come + 1, Mj.gone⟩ (l.drop (j + 1) ++ rst) = twice ⟨[], 0, 0⟩ ls.flatten) := by
                    have h := HAJ.out
                    rw [stepM_ins hgn (hT.out.miss HMI.out)] at h
                    exact h
                  have HTN := Lib.hid (hT.out.ins y HMI.out (Mj.come + 1))
                  have HOa := Lib.hid (HOf.out.alloc (.cells #[.int .u64 y.id] 42))
                  have HBa : Hid (Below w.heap.size w (wf.alloc (.cells #[.int .u64 y.id] 42))) := HUf.out.alloc HUf.out.size _
                  have HSa := Lib.hid (sl_one wf (.int .u64 y.id) 42)
                  go_wp2_with (at_builtin; go_loud (refine wpList_append_sl _ rfl (.tmp 37) (.tmp 40) 65 rfl w.heap.size 42 (.int .u64 0) 8 Tryd.underlying65 infoU64Z rfl (.slice A3 k c3) k (nums .u64 T) rfl HOa.out _ 1 1 [.int .u64 y.id] rfl HSa.out (by simp [Value.oneCell']) (by have := HNB.out; omega) (by omega) HBa.out.size ?_; intro v9 w9 ho9 hg9 hat9))
                  obtain ⟨A9, c9, hv9, hc9, _⟩ := own_sl ho9
                  subst hv9
                  have HO9 : Hid (w9.ownsRow w.heap.size 42 1 (.slice A9 (k + 1) c9) (k + 1) (nums .u64 (T ++ [y.id]))) := by
                    have h := ho9
                    show w9.ownsRow _ _ _ _ _ (nums .u64 (T ++ [y.id]))
                    rw [nums_append]
                    exact h
                  have HB9 : Hid (Below w.heap.size w w9) := HBa.out.grown hg9 HBa.out.size (fun x e => (HOa.out.lt x e).1)
                  clear ho9 hg9 hat9 HOa HBa HSa
                  go_wp2
                  go_roundg gkI
                  case measure => omega
                  case rel => exact ⟨j + 1, k + 1, c9, A9, T ++ [y.id], ⟨insC Mj.l y, Mj.come + 1, Mj.gone⟩, rfl, by go_num, by omega, by have := HJF.out; show _ = _; omega, HO9.out, HB9.out, HTN.out, HAN.out, by have := HCJ.out; show _ ≤ _; omega⟩

              have HPT : Hid (T[p]? = some y.id) := hp.out.2
              have hpk : p < k := hp.out.1
              cases hgn : y.gone with
              | false =>
                rw [hgn] at b81
                have HTR : Hid (twice ⟨[], 0, 0⟩ ls.flatten = true) := by
                  have h := HAJ.out
                  have hs : stepM Mj y = none := by
                    unfold stepM
                    rw [(hT.out.hit y.id).2 (List.mem_of_getElem? HPT.out), hgn, if_neg (by decide)]
                  rw [hs, hgn] at h
                  exact h.symm
                go_wp2
                go_ret
                exact ⟨⟨true, rfl, fun _ => HTR.out⟩, HUf.out⟩
              | true =>
                rw [hgn] at b81
                obtain ⟨n3, rfl⟩ : ∃ q, q = k := ⟨k, rfl⟩
                obtain ⟨gA, cur, hAe, _, _, hnc, _, _⟩ := own_blk HOf.out (by omega)
                subst hAe
                have hp0 : (0 : Int) ≤ (p : Int) := by omega
                have hpl : (p : Int) ≤ (n3 : Int) := by omega
                have hpc : (p : Int) ≤ (c3 : Int) := by omega
                have hq0 : (0 : Int) ≤ (p : Int) + 1 := by omega
                have hql : (p : Int) + 1 ≤ (n3 : Int) := by omega
                have hqc : (p : Int) + 1 ≤ (c3 : Int) := by omega
                have hp3 : p ≤ 3000000 := by have := HNB.out.1; omega
                by_cases hcp : c3 = p + 1
                · have hn1 : n3 = p + 1 := by omega
                  subst hn1
                  subst hcp
                  have hx1 : (p : Int) ≤ (p : Int) + 1 := by omega
                  have hx4 : (p : Int) + 1 ≤ (p : Int) + 1 := by omega
                  have hx5 : (0 : Int) ≤ (p : Int) + 1 := by omega

                  have hA5 := HOf.out
                  obtain ⟨hz1, hz2⟩ := And.intro HOf.out.1 HOf.out.1
                  clear hz1 hz2 hA5
                  have HSf : Hid (Sl wf (some ⟨gA, 0, none⟩) (p + 1) (nums .u64 T)) := by
                    obtain ⟨A', c', hv', _, hsl⟩ := own_sl HOf.out
                    injection hv' with e1 e2 e3
                    rw [← e1] at hsl
                    exact hsl
                  have HOd : Hid (wf.drew.ownsRow w.heap.size 42 1 (.slice (some ⟨gA, 0, none⟩) (p + 1) (p + 1)) (p + 1) (nums .u64 T)) := HOf.out
                  have HSd : Hid (Sl wf.drew (some ⟨gA, 0, none⟩) (p + 1) (nums .u64 T)) := HSf.out
                  have HBd : Hid (Below w.heap.size w wf.drew) := HUf.out.drew
                  have HGL : Hid (gA < wf.drew.heap.size) := (HOf.out.lt gA rfl).2
                  have hcell0 : gA < wf.heap.size := (HOf.out.lt gA rfl).2
                  clear hcell0 HOf HUf HYf HSf
                  go_wp2_with fail
                  clear b8 b81
                  have hw1 : wrap64 ((p : Int) + 1) = (p : Int) + 1 := wrap64_p1 p hp3
                  refine start_ (n := 11) (S := fun _ => True) (ds := []) #[ff,ff,ff,ff,ff,ff,ff,ff,ff,ff,ff] (by kernel_rfl) rfl rfl (trivial) (fun hHeld => ?_)
                  generalize wf.drew = wd at *
                  refine pure_ (i := 1) (N := some 61) (v := ?_) (a' := ?_) #[ff,tt,ff,ff,ff,ff,ff,ff,ff,ff,ff] rfl rfl (by kernel_rfl) (fun _ _ _ h => h) (Or.inl ⟨by rfl, ?_⟩) ?_ ?_; rotate_left; (intro w'; go_simp; with_reducible rfl); rotate_left; (simp only [Act.put, List.setIfInBounds_toArray, List.set_cons_zero, List.set_cons_succ, i64_w, i32_w]; rfl)
                  refine pure_ (i := 2) (N := some 62) (v := ?_) (a' := ?_) #[ff,tt,tt,ff,ff,ff,ff,ff,ff,ff,ff] rfl rfl (by kernel_rfl) (fun _ _ _ h => h) (Or.inl ⟨by rfl, ?_⟩) ?_ ?_; rotate_left; (intro w'; go_simp; with_reducible rfl); rotate_left; (simp only [Act.put, List.setIfInBounds_toArray, List.set_cons_zero, List.set_cons_succ, i64_w, i32_w]; rfl)
                  refine pure_ (i := 3) (N := some 63) (v := ?_) (a' := ?_) #[ff,tt,tt,tt,ff,ff,ff,ff,ff,ff,ff] rfl rfl (by kernel_rfl) (fun _ _ _ h => h) (Or.inl ⟨by rfl, ?_⟩) ?_ ?_; rotate_left; (intro w'; go_simp; with_reducible rfl); rotate_left; (simp only [Act.put, List.setIfInBounds_toArray, List.set_cons_zero, List.set_cons_succ, i64_w, i32_w]; rfl)
                  refine pure_ (i := 5) (N := some 65) (v := ?_) (a' := ?_) #[ff,tt,tt,tt,ff,tt,ff,ff,ff,ff,ff] rfl rfl (by kernel_rfl) (fun _ _ _ h => h) (Or.inl ⟨by rfl, ?_⟩) ?_ ?_; rotate_left; (intro w'; go_simp; with_reducible rfl); rotate_left; (simp only [Act.put, List.setIfInBounds_toArray, List.set_cons_zero, List.set_cons_succ, i64_w, i32_w]; rfl)
                  refine pure_ (i := 6) (N := some 66) (v := ?_) (a' := ?_) #[ff,tt,tt,tt,ff,tt,tt,ff,ff,ff,ff] rfl rfl (by kernel_rfl) (fun _ _ _ h => h) (Or.inl ⟨by rfl, ?_⟩) ?_ ?_; rotate_left; (intro w'; go_simp; with_reducible rfl); rotate_left; (simp only [Act.put, List.setIfInBounds_toArray, List.set_cons_zero, List.set_cons_succ, i64_w, i32_w]; rfl)
                  refine pure_ (i := 7) (N := some 67) (v := ?_) (a' := ?_) #[ff,tt,tt,tt,ff,tt,tt,tt,ff,ff,ff] rfl rfl (by kernel_rfl) (fun _ _ _ h => h) (Or.inl ⟨by rfl, ?_⟩) ?_ ?_; rotate_left; (intro w'; go_simp; with_reducible rfl); rotate_left; (simp only [Act.put, List.setIfInBounds_toArray, List.set_cons_zero, List.set_cons_succ, i64_w, i32_w]; rfl)
                  refine pure_ (i := 8) (N := some 68) (v := ?_) (a' := ?_) #[ff,tt,tt,tt,ff,tt,tt,tt,tt,ff,ff] rfl rfl (by kernel_rfl) (fun _ _ _ h => h) (Or.inl ⟨by rfl, ?_⟩) ?_ ?_; rotate_left; (intro w'; go_simp; with_reducible rfl); rotate_left; (simp only [Act.put, List.setIfInBounds_toArray, List.set_cons_zero, List.set_cons_succ, i64_w, i32_w]; rfl)
                  clear hw1
                  refine one_ (i := 0) (N := some 60) #[tt,tt,tt,tt,ff,tt,tt,tt,tt,ff,ff] rfl rfl (by kernel_rfl) (by decide) (fun K hK => ?_)
                  refine value_ (v := .slice (some ⟨wd.heap.size, 0, none⟩) 0 0) (w1 := wd.alloc (.cells #[] 42)) (by rfl) rfl ?_ ?_
                  · go_simp
                    try rfl
                  have HOe : Hid ((wd.alloc (.cells #[] 42)).ownsRow w.heap.size 42 1 (.slice (some ⟨wd.heap.size, 0, none⟩) 0 0) 0 (nums .u64 [])) := own_weaken' (World.ownsRow_made wd #[] 0 (Nat.le_refl _) (by simp [maxLen]) rfl) HBd.out.size
                  have HS4 := Lib.hid (HSd.out.alloc (.cells #[] 42))
                  have HB4 : Hid (Below w.heap.size w (wd.alloc (.cells #[] 42))) := HBd.out.alloc HBd.out.size _
                  have HGW : Hid (gA < wd.heap.size ∧ wd.heap.size ≤ (wd.alloc (.cells #[] 42)).heap.size) := ⟨HGL.out, by rw [World.size_alloc]; omega⟩
                  refine hK.out _ _ (trivial) (fun hHeld => ?_); clear hK K; refine norm_ (a' := ?_) ?_ ?_; rotate_left; (show Act.put _ (some 60) _ = _; simp only [Act.put, List.setIfInBounds_toArray, List.set_cons_zero, List.set_cons_succ, i64_w, i32_w]; rfl)
                  clear HOd HSd HBd HGL
                  generalize wd.alloc (.cells #[] 42) = w4 at *
                  generalize wd.heap.size = ge at *
                  have HST : Hid (Sl w4 (some ⟨gA, 0, none⟩) p (nums .u64 (T.take p))) := by
                    have h := HS4.out.take (m := p) (by omega)
                    rw [← nums_take] at h
                    exact h
                  refine one_ (i := 4) (N := some 64) #[tt,tt,tt,tt,tt,tt,tt,tt,tt,ff,ff] rfl rfl (by kernel_rfl) (by decide) (fun K hK => ?_)
                  refine step_append_sl rfl (.tmp 60) (.tmp 63) 65 rfl w.heap.size 42 (.int .u64 0) 8 Tryd.underlying65 infoU64Z rfl (.slice (some ⟨ge, 0, none⟩) 0 0) 0 (nums .u64 []) rfl HOe.out (some ⟨gA, 0, none⟩) p (p + 1) (nums .u64 (T.take p)) rfl HST.out (nums_one _ _) (by have := HNB.out; omega) (by omega) HB4.out.size ?_
                  intro v64 w5 ho64 hg64 hat64
                  obtain ⟨A7, c7, hv64, hc7, _⟩ := own_sl ho64
                  subst hv64
                  have HO7 : Hid (w5.ownsRow w.heap.size 42 1 (.slice A7 (0 + p) c7) (0 + p) (nums .u64 (T.take p))) := ho64
                  have HS5 : Hid (Sl w5 (some ⟨gA, 0, none⟩) (p + 1) (nums .u64 T)) := sl_row HS4.out hg64 (fun g o e => by
                    injection e with e
                    injection e with e1 e2
                    subst e1
                    intro h2
                    injection h2 with h2
                    have h3 : gA = ge := h2
                    have := HGW.out.1
                    omega)
                  have HNE5 : Hid (some gA ≠ (Value.slice A7 (0 + p) c7).ownBlock) := fun e => by
                    rcases hat64 with h | h
                    · rw [h] at e; simp only [Value.ownBlock, Option.some.injEq] at e; have := HGW.out.1; omega
                    · rw [h] at e; injection e with e; have := HGW.out; omega
                  have HB5 : Hid (Below w.heap.size w w5) := HB4.out.grown hg64 HB4.out.size (fun x e => (HOe.out.lt x e).1)
                  refine hK.out _ _ (trivial) (fun hHeld => ?_); clear hK K; refine norm_ (a' := ?_) ?_ ?_; rotate_left; (show Act.put _ (some 64) _ = _; simp only [Act.put, List.setIfInBounds_toArray, List.set_cons_zero, List.set_cons_succ, i64_w, i32_w]; rfl)
                  clear ho64 hg64 hat64 HOe HS4 HB4 HST HGW
                  have hdn : T.drop (p + 1) = [] := List.drop_eq_nil_of_le (by have := HTL.out; omega)
                  have HDR : ∀ X, Hid (Sl w5 X 0 (nums .u64 (T.drop (p + 1)))) := fun X => by
                    rw [hdn]
                    exact ⟨by simp [nums], fun h => by omega⟩
                  refine one_ (i := 9) (N := some 69) #[tt,tt,tt,tt,tt,tt,tt,tt,tt,tt,ff] rfl rfl (by kernel_rfl) (by decide) (fun K hK => ?_)
                  refine step_append_sl rfl (.tmp 64) (.tmp 68) 65 rfl w.heap.size 42 (.int .u64 0) 8 Tryd.underlying65 infoU64Z rfl (.slice A7 (0 + p) c7) (0 + p) (nums .u64 (T.take p)) rfl HO7.out _ _ _ (nums .u64 (T.drop (p + 1))) rfl (HDR _).out (nums_one _ _) (by have := HNB.out; omega) (by omega) HB5.out.size ?_
                  intro v69 w6 ho69 hg69 hat69
                  obtain ⟨A9, c9, hv69, hc9, _⟩ := own_sl ho69
                  subst hv69
                  have HO9 := Lib.hid ho69
                  have HB9 : Hid (Below w.heap.size w w6) := HB5.out.grown hg69 HB5.out.size (fun x e => (HO7.out.lt x e).1)
                  refine hK.out _ _ (trivial) (fun hHeld => ?_); clear hK K; refine norm_ (a' := ?_) ?_ ?_; rotate_left; (show Act.put _ (some 69) _ = _; simp only [Act.put, List.setIfInBounds_toArray, List.set_cons_zero, List.set_cons_succ, i64_w, i32_w]; rfl)
                  clear ho69 hg69 hat69 HO7 HS5 HB5 HDR HNE5
                  refine pure_ (i := 10) (N := some 3) (v := ?_) (a' := ?_) #[tt,tt,tt,tt,tt,tt,tt,tt,tt,tt,tt] rfl rfl (by kernel_rfl) (fun _ _ _ h => h) (Or.inl ⟨by rfl, ?_⟩) ?_ ?_; rotate_left; (intro w'; go_simp; with_reducible rfl); rotate_left; (simp only [Act.put, List.setIfInBounds_toArray, List.set_cons_zero, List.set_cons_succ, i64_w, i32_w]; rfl)
                  refine done_ (by kernel_rfl) ?_
                  have HAN : Hid (twice ⟨delC Mj.l y.id, Mj.come, Mj.gone + 1⟩ (l.drop (j + 1) ++ rst) = twice ⟨[], 0, 0⟩ ls.flatten) := by
                    have h := HAJ.out
                    rw [stepM_del hgn ((hT.out.hit y.id).2 (List.mem_of_getElem? HPT.out))] at h
                    exact h
                  have HTN := Lib.hid (hT.out.del HPT.out (Mj.gone + 1))
                  have HON : Hid (w6.ownsRow w.heap.size 42 1 (.slice A9 p c9) p (nums .u64 (T.take p ++ T.drop (p + 1)))) := by
                    have h := HO9.out
                    rw [nums_append]
                    simp only [Nat.zero_add, Nat.add_zero] at h
                    exact h
                  go_wp2
                  go_roundg gkI
                  case measure => omega
                  case rel => exact ⟨j + 1, _, c9, A9, T.take p ++ T.drop (p + 1), ⟨delC Mj.l y.id, Mj.come, Mj.gone + 1⟩, rfl, by go_num, by omega, by have := HJF.out; show _ = _; omega, HON.out, HB9.out, HTN.out, HAN.out, by have := HCJ.out; show _ ≤ _; omega⟩
                have hcp1 : ¬ c3 = p + 1 := hcp
                have hcp2 : ¬ (c3 : Int) = (p : Int) + 1 := by omega
                have hcp3 : ¬ p + 1 = c3 := fun e => hcp e.symm

                have hA5 := HOf.out
                obtain ⟨hz1, hz2⟩ := And.intro HOf.out.1 HOf.out.1
                clear hz1 hz2 hA5
                have HSf : Hid (Sl wf (some ⟨gA, 0, none⟩) n3 (nums .u64 T)) := by
                  obtain ⟨A', c', hv', _, hsl⟩ := own_sl HOf.out
                  injection hv' with e1 e2 e3
                  rw [← e1] at hsl
                  exact hsl
                have HOd : Hid (wf.drew.ownsRow w.heap.size 42 1 (.slice (some ⟨gA, 0, none⟩) n3 c3) n3 (nums .u64 T)) := HOf.out
                have HSd : Hid (Sl wf.drew (some ⟨gA, 0, none⟩) n3 (nums .u64 T)) := HSf.out
                have HBd : Hid (Below w.heap.size w wf.drew) := HUf.out.drew
                have HGL : Hid (gA < wf.drew.heap.size) := (HOf.out.lt gA rfl).2
                have hcell0 : gA < wf.heap.size := (HOf.out.lt gA rfl).2
                clear hcell0 HOf HUf HYf HSf
                go_wp2_with fail
                clear b8 b81
                have hw1 : wrap64 ((p : Int) + 1) = (p : Int) + 1 := wrap64_p1 p hp3
                refine start_ (n := 11) (S := fun _ => True) (ds := []) #[ff,ff,ff,ff,ff,ff,ff,ff,ff,ff,ff] (by kernel_rfl) rfl rfl (trivial) (fun hHeld => ?_)
                generalize wf.drew = wd at *
                refine pure_ (i := 1) (N := some 61) (v := ?_) (a' := ?_) #[ff,tt,ff,ff,ff,ff,ff,ff,ff,ff,ff] rfl rfl (by kernel_rfl) (fun _ _ _ h => h) (Or.inl ⟨by rfl, ?_⟩) ?_ ?_; rotate_left; (intro w'; go_simp; with_reducible rfl); rotate_left; (simp only [Act.put, List.setIfInBounds_toArray, List.set_cons_zero, List.set_cons_succ, i64_w, i32_w]; rfl)
                refine pure_ (i := 2) (N := some 62) (v := ?_) (a' := ?_) #[ff,tt,tt,ff,ff,ff,ff,ff,ff,ff,ff] rfl rfl (by kernel_rfl) (fun _ _ _ h => h) (Or.inl ⟨by rfl, ?_⟩) ?_ ?_; rotate_left; (intro w'; go_simp; with_reducible rfl); rotate_left; (simp only [Act.put, List.setIfInBounds_toArray, List.set_cons_zero, List.set_cons_succ, i64_w, i32_w]; rfl)
                refine pure_ (i := 3) (N := some 63) (v := ?_) (a' := ?_) #[ff,tt,tt,tt,ff,ff,ff,ff,ff,ff,ff] rfl rfl (by kernel_rfl) (fun _ _ _ h => h) (Or.inl ⟨by rfl, ?_⟩) ?_ ?_; rotate_left; (intro w'; go_simp; with_reducible rfl); rotate_left; (simp only [Act.put, List.setIfInBounds_toArray, List.set_cons_zero, List.set_cons_succ, i64_w, i32_w]; rfl)
                refine pure_ (i := 5) (N := some 65) (v := ?_) (a' := ?_) #[ff,tt,tt,tt,ff,tt,ff,ff,ff,ff,ff] rfl rfl (by kernel_rfl) (fun _ _ _ h => h) (Or.inl ⟨by rfl, ?_⟩) ?_ ?_; rotate_left; (intro w'; go_simp; with_reducible rfl); rotate_left; (simp only [Act.put, List.setIfInBounds_toArray, List.set_cons_zero, List.set_cons_succ, i64_w, i32_w]; rfl)
                refine pure_ (i := 6) (N := some 66) (v := ?_) (a' := ?_) #[ff,tt,tt,tt,ff,tt,tt,ff,ff,ff,ff] rfl rfl (by kernel_rfl) (fun _ _ _ h => h) (Or.inl ⟨by rfl, ?_⟩) ?_ ?_; rotate_left; (intro w'; go_simp; with_reducible rfl); rotate_left; (simp only [Act.put, List.setIfInBounds_toArray, List.set_cons_zero, List.set_cons_succ, i64_w, i32_w]; rfl)
                refine pure_ (i := 7) (N := some 67) (v := ?_) (a' := ?_) #[ff,tt,tt,tt,ff,tt,tt,tt,ff,ff,ff] rfl rfl (by kernel_rfl) (fun _ _ _ h => h) (Or.inl ⟨by rfl, ?_⟩) ?_ ?_; rotate_left; (intro w'; go_simp; with_reducible rfl); rotate_left; (simp only [Act.put, List.setIfInBounds_toArray, List.set_cons_zero, List.set_cons_succ, i64_w, i32_w]; rfl)
                refine pure_ (i := 8) (N := some 68) (v := ?_) (a' := ?_) #[ff,tt,tt,tt,ff,tt,tt,tt,tt,ff,ff] rfl rfl (by kernel_rfl) (fun _ _ _ h => h) (Or.inl ⟨by rfl, ?_⟩) ?_ ?_; rotate_left; (intro w'; go_simp; with_reducible rfl); rotate_left; (simp only [Act.put, List.setIfInBounds_toArray, List.set_cons_zero, List.set_cons_succ, i64_w, i32_w]; rfl)
                clear hw1
                refine one_ (i := 0) (N := some 60) #[tt,tt,tt,tt,ff,tt,tt,tt,tt,ff,ff] rfl rfl (by kernel_rfl) (by decide) (fun K hK => ?_)
                refine value_ (v := .slice (some ⟨wd.heap.size, 0, none⟩) 0 0) (w1 := wd.alloc (.cells #[] 42)) (by rfl) rfl ?_ ?_
                · go_simp
                  try rfl
                have HOe : Hid ((wd.alloc (.cells #[] 42)).ownsRow w.heap.size 42 1 (.slice (some ⟨wd.heap.size, 0, none⟩) 0 0) 0 (nums .u64 [])) := own_weaken' (World.ownsRow_made wd #[] 0 (Nat.le_refl _) (by simp [maxLen]) rfl) HBd.out.size
                have HS4 := Lib.hid (HSd.out.alloc (.cells #[] 42))
                have HB4 : Hid (Below w.heap.size w (wd.alloc (.cells #[] 42))) := HBd.out.alloc HBd.out.size _
                have HGW : Hid (gA < wd.heap.size ∧ wd.heap.size ≤ (wd.alloc (.cells #[] 42)).heap.size) := ⟨HGL.out, by rw [World.size_alloc]; omega⟩
                refine hK.out _ _ (trivial) (fun hHeld => ?_); clear hK K; refine norm_ (a' := ?_) ?_ ?_; rotate_left; (show Act.put _ (some 60) _ = _; simp only [Act.put, List.setIfInBounds_toArray, List.set_cons_zero, List.set_cons_succ, i64_w, i32_w]; rfl)
                clear HOd HSd HBd HGL
                generalize wd.alloc (.cells #[] 42) = w4 at *
                generalize wd.heap.size = ge at *
                have HST : Hid (Sl w4 (some ⟨gA, 0, none⟩) p (nums .u64 (T.take p))) := by
                  have h := HS4.out.take (m := p) (by omega)
                  rw [← nums_take] at h
                  exact h
                refine one_ (i := 4) (N := some 64) #[tt,tt,tt,tt,tt,tt,tt,tt,tt,ff,ff] rfl rfl (by kernel_rfl) (by decide) (fun K hK => ?_)
                refine step_append_sl rfl (.tmp 60) (.tmp 63) 65 rfl w.heap.size 42 (.int .u64 0) 8 Tryd.underlying65 infoU64Z rfl (.slice (some ⟨ge, 0, none⟩) 0 0) 0 (nums .u64 []) rfl HOe.out (some ⟨gA, 0, none⟩) p c3 (nums .u64 (T.take p)) rfl HST.out (nums_one _ _) (by have := HNB.out; omega) (by omega) HB4.out.size ?_
                intro v64 w5 ho64 hg64 hat64
                obtain ⟨A7, c7, hv64, hc7, _⟩ := own_sl ho64
                subst hv64
                have HO7 : Hid (w5.ownsRow w.heap.size 42 1 (.slice A7 (0 + p) c7) (0 + p) (nums .u64 (T.take p))) := ho64
                have HS5 : Hid (Sl w5 (some ⟨gA, 0, none⟩) n3 (nums .u64 T)) := sl_row HS4.out hg64 (fun g o e => by
                  injection e with e
                  injection e with e1 e2
                  subst e1
                  intro h2
                  injection h2 with h2
                  have h3 : gA = ge := h2
                  have := HGW.out.1
                  omega)
                have HNE5 : Hid (some gA ≠ (Value.slice A7 (0 + p) c7).ownBlock) := fun e => by
                  rcases hat64 with h | h
                  · rw [h] at e; simp only [Value.ownBlock, Option.some.injEq] at e; have := HGW.out.1; omega
                  · rw [h] at e; injection e with e; have := HGW.out; omega
                have HB5 : Hid (Below w.heap.size w w5) := HB4.out.grown hg64 HB4.out.size (fun x e => (HOe.out.lt x e).1)
                refine hK.out _ _ (trivial) (fun hHeld => ?_); clear hK K; refine norm_ (a' := ?_) ?_ ?_; rotate_left; (show Act.put _ (some 64) _ = _; simp only [Act.put, List.setIfInBounds_toArray, List.set_cons_zero, List.set_cons_succ, i64_w, i32_w]; rfl)
                clear ho64 hg64 hat64 HOe HS4 HB4 HST HGW
                have HDR : Hid (Sl w5 (some ⟨gA, p + 1, none⟩) (n3 - (p + 1)) (nums .u64 (T.drop (p + 1)))) := by
                  have h := sl_dropZ (m := p + 1) HS5.out (by omega)
                  have e : (nums .u64 T).drop (p + 1) = nums .u64 (T.drop (p + 1)) := by unfold nums; rw [List.map_drop]
                  rw [e, Nat.zero_add] at h
                  exact h
                refine one_ (i := 9) (N := some 69) #[tt,tt,tt,tt,tt,tt,tt,tt,tt,tt,ff] rfl rfl (by kernel_rfl) (by decide) (fun K hK => ?_)
                refine step_append_sl rfl (.tmp 64) (.tmp 68) 65 rfl w.heap.size 42 (.int .u64 0) 8 Tryd.underlying65 infoU64Z rfl (.slice A7 (0 + p) c7) (0 + p) (nums .u64 (T.take p)) rfl HO7.out _ _ _ (nums .u64 (T.drop (p + 1))) rfl HDR.out (nums_one _ _) (by have := HNB.out; omega) (by omega) HB5.out.size ?_
                intro v69 w6 ho69 hg69 hat69
                obtain ⟨A9, c9, hv69, hc9, _⟩ := own_sl ho69
                subst hv69
                have HO9 := Lib.hid ho69
                have HB9 : Hid (Below w.heap.size w w6) := HB5.out.grown hg69 HB5.out.size (fun x e => (HO7.out.lt x e).1)
                refine hK.out _ _ (trivial) (fun hHeld => ?_); clear hK K; refine norm_ (a' := ?_) ?_ ?_; rotate_left; (show Act.put _ (some 69) _ = _; simp only [Act.put, List.setIfInBounds_toArray, List.set_cons_zero, List.set_cons_succ, i64_w, i32_w]; rfl)
                clear ho69 hg69 hat69 HO7 HS5 HB5 HDR HNE5
                refine pure_ (i := 10) (N := some 3) (v := ?_) (a' := ?_) #[tt,tt,tt,tt,tt,tt,tt,tt,tt,tt,tt] rfl rfl (by kernel_rfl) (fun _ _ _ h => h) (Or.inl ⟨by rfl, ?_⟩) ?_ ?_; rotate_left; (intro w'; go_simp; with_reducible rfl); rotate_left; (simp only [Act.put, List.setIfInBounds_toArray, List.set_cons_zero, List.set_cons_succ, i64_w, i32_w]; rfl)
                refine done_ (by kernel_rfl) ?_
                have HAN : Hid (twice ⟨delC Mj.l y.id, Mj.come, Mj.gone + 1⟩ (l.drop (j + 1) ++ rst) = twice ⟨[], 0, 0⟩ ls.flatten) := by
                  have h := HAJ.out
                  rw [stepM_del hgn ((hT.out.hit y.id).2 (List.mem_of_getElem? HPT.out))] at h
                  exact h
                have HTN := Lib.hid (hT.out.del HPT.out (Mj.gone + 1))
                have HON : Hid (w6.ownsRow w.heap.size 42 1 (.slice A9 (p + (n3 - (p + 1))) c9) (p + (n3 - (p + 1))) (nums .u64 (T.take p ++ T.drop (p + 1)))) := by
                  have h := HO9.out
                  rw [nums_append]
                  simp only [Nat.zero_add, Nat.add_zero] at h
                  exact h
                go_wp2
                go_roundg gkI
                case measure => omega
                case rel => exact ⟨j + 1, _, c9, A9, T.take p ++ T.drop (p + 1), ⟨delC Mj.l y.id, Mj.come, Mj.gone + 1⟩, rfl, by go_num, by omega, by have := HJF.out; show _ = _; omega, HON.out, HB9.out, HTN.out, HAN.out, by have := HCJ.out; show _ ≤ _; omega⟩
        · have hje : j = l.length := by omega
          subst hje
          have hge : ¬ ((l.length : Int) < (l.length : Int)) := by omega
          have HAN : Hid (twice Mj (ls.drop (i + 1)).flatten = twice ⟨[], 0, 0⟩ ls.flatten) := by
            have h := hA.out
            rw [List.drop_eq_nil_of_le (Nat.le_refl _), List.nil_append, ← HRST.out] at h
            exact h
          have HCN : Hid (n3 + (ls.drop (i + 1)).flatten.length ≤ 3000000) := by
            have h := hC.out
            rw [List.drop_eq_nil_of_le (Nat.le_refl _), List.nil_append, ← HRST.out] at h
            exact h
          go_wp2
          go_roundg gkO
          case measure => omega
          case rel => exact ⟨i + 1, n3, c3, A3, T, Mj, rfl, by go_num, by omega, by have := hf.out; show _ = _; omega, hO.out, hU.out, hT.out, HAN.out, HCN.out⟩
    · have hie : i = m := by omega
      subst hie
      have hge : ¬ ((i : Int) < (i : Int)) := by omega
      go_wp2
      go_ret
      exact ⟨⟨false, rfl, fun h => by cases h⟩, hU.out⟩
end Go.Proofs.YtpfmmbhbmdbmeaaDoor
