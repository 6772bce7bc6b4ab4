/- Texts that this claim shares with others, put together: TA TB TC TD TE TF. -/
import Derived.Test.YtanmgkpgfmkobaaGT
import Derived.LaidEqlPtr
/- A skip list in memory, and how a place in it is found. -/
namespace Go.Proofs.Ytanmgkpgfmkobaa
open Go.RowKit
set_option linter.unusedVariables false
set_option linter.unusedSimpArgs false
structure SkA where
  ga : Nat
  gb : Nat
  gm : Nat
  gh : Nat
  n : Nat
  cs : List Value
  hc : List Value
  hat : Nat
  height : Nat
  ref : Int
  ra : Option Addr
  rn : Nat
  rc : Nat
  rs : List Int
  turn : Nat
  k : Nat
  m : Int → Option Value
  ns : List Nd
def SkA.cells (s : SkA) : List Value := listC (.int .i32 s.height) (.pointer (some ⟨s.gh, 0, none⟩)) (.int .i32 s.ref) (.pointer (some ⟨s.ga, 0, none⟩)) s.ra s.rn s.rc s.turn
def SkA.headC (s : SkA) : List Value := s.hc ++ (tow 20 s.ns ++ [.int .u32 s.hat])
structure SkSt (w : World) (g : Nat) (s : SkA) : Prop where
  list : Blk w g 119 s.cells
  arn : Arn w s.ga s.gb s.gm s.n s.cs s.k s.m
  head : Blk w s.gh 130 s.headC
  nodes : ∀ (j : Nat) (d : Nd), s.ns[j]? = some d → Blk w d.blk 130 (d.cells (s.ns.drop (j + 1)))
  rand : Sl w s.ra s.rn (nums .u32 s.rs)
/-- An entry within the bounds. -/
structure EntOk (e : Ent) : Prop where
  kpos : 1 ≤ e.k.length
  klen : e.k.length ≤ 300
  kb : Byt e.k
  v0 : 0 ≤ e.v
  v1 : Hid (e.v ≤ 18446744073709551615)
  dlen : e.d.length ≤ 300
  db : Byt e.d
  m : 0 ≤ e.m ∧ e.m ≤ 255
  u : 0 ≤ e.u ∧ e.u ≤ 255
  x0 : 0 ≤ e.x
  x1 : Hid (e.x ≤ 18446744073709551615)
structure SkOk (g B : Nat) (s : SkA) : Prop where
  hcl : s.hc.length = 4
  own : (g :: s.ga :: s.gb :: s.gm :: s.gh :: s.ns.map Nd.blk).Nodup
  base : ∀ b ∈ g :: s.ga :: s.gb :: s.gm :: s.gh :: s.ns.map Nd.blk, B ≤ b
  ran : ∀ b o, s.ra = some ⟨b, o, none⟩ → B ≤ b ∧ b ∉ g :: s.ga :: s.gb :: s.gm :: s.gh :: s.ns.map Nd.blk
  rn1 : 1 ≤ s.rn
  rn2 : s.rn ≤ 1000000
  turn : s.turn ≤ s.n + 20
  k : s.k ≤ s.n
  n0 : 1 ≤ s.n
  n1 : s.n ≤ 900000
  at_ : ∀ d ∈ s.ns, s.m d.at_ = some (.pointer (some ⟨d.blk, 0, none⟩)) ∧ 0 < d.at_ ∧ d.at_ < s.n
  key : ∀ d ∈ s.ns, d.ko + d.key.length ≤ s.n ∧ (s.cs.drop d.ko).take d.key.length = nums .u8 d.key
  val : ∀ d ∈ s.ns, d.vo + d.val.length ≤ s.n ∧ (s.cs.drop d.vo).take d.val.length = nums .u8 d.val
  ent : ∀ d ∈ s.ns, EntOk d.e
  sorted : SortedE (s.ns.map Nd.e)
  eff : ∀ d ∈ s.ns, d.eff ≤ s.height
  h1 : 1 ≤ s.height
  h2 : s.height ≤ 20
theorem Nd.key_len (d : Nd) : d.key.length = d.e.k.length + 8 := by unfold Nd.key; exact keyB_len _ _
theorem EntOk.kbyt {e : Ent} (h : EntOk e) : Byt (keyB e.k e.v) := bytKey h.kb h.v0 h.v1
/-- The block of a place: the head's, or that of the node ahead of it. -/
def plcB (s : SkA) (p : Nat) : Nat := if p = 0 then s.gh else match s.ns[p - 1]? with | some d => d.blk | none => 0
def plcP (s : SkA) (p : Nat) : Value := .pointer (some ⟨plcB s p, 0, none⟩)
def ndP (s : SkA) (j : Nat) : Value := match s.ns[j]? with | some d => .pointer (some ⟨d.blk, 0, none⟩) | none => .pointer none
/-- A place that is seen at a level. -/
def Vis (s : SkA) (p h : Nat) : Prop := p = 0 ∨ ∃ d, s.ns[p - 1]? = some d ∧ h < d.eff
theorem SkSt.drewN {w : World} {g : Nat} {s : SkA} (h : SkSt w g s) (k : Nat) : SkSt (w.drewN k) g s :=
  ⟨h.list, ⟨h.arn.ar, h.arn.buf, h.arn.len, h.arn.map, h.arn.ne⟩, h.head, h.nodes, h.rand⟩
theorem SkSt.drew {w w' : World} {g : Nat} {s : SkA} (h : SkSt w g s) (k : Drew w w') : SkSt w' g s := by
  obtain ⟨n, rfl⟩ := k
  exact h.drewN n
theorem SkSt.tower {w : World} {g B : Nat} {s : SkA} (h : SkSt w g s) (ok : SkOk g B s) (p l : Nat) (hl : l < 20) (hv : Vis s p l) (hp : p ≤ s.ns.length) : w.cell? ⟨plcB s p, 4 + l, none⟩ = some (.int .u32 (nextAt (s.ns.drop p) l)) := by
  by_cases h0 : p = 0
  · subst h0
    unfold plcB
    rw [if_pos rfl]
    refine h.head.at_ ?_
    unfold SkA.headC
    rw [List.getElem?_append_right (by rw [ok.hcl]; omega), ok.hcl, List.getElem?_append_left (by rw [tow_len]; omega), show 4 + l - 4 = l from by omega, tow_get _ _ _ hl, List.drop_zero]
    unfold towV
    rw [if_pos hl]
  · rcases hv with hv | ⟨d, hd, hs⟩
    · exact absurd hv h0
    · unfold plcB
      rw [if_neg h0, hd]
      refine (h.nodes _ _ hd).at_ ?_
      rw [d.cells_tow _ _ hl, show p - 1 + 1 = p from by omega]
      unfold towV
      rw [if_pos hs]
theorem next_skl {w : World} {g B : Nat} {s : SkA} (h : SkSt w g s) (ok : SkOk g B s) (p l j : Nat) (hl : l < 20) (hv : Vis s p l) (hp : p ≤ s.ns.length) (hn : Nx s.ns p l j) :
    Calls Try.prog 79 #[.pointer (some ⟨g, 0, none⟩), plcP s p, .int .i64 l] w fun E w' => E = .returned (ndP s j) ∧ Drew w w' := by
  have hc := h.tower ok p l hl hv hp
  rw [nx_at hn] at hc
  have hg : w.cell? ⟨g, 3, none⟩ = some (.pointer (some ⟨s.ga, 0, none⟩)) := h.list.at_ rfl
  unfold ndP
  cases hj : s.ns[j]? with
  | none =>
    rw [hj] at hc
    exact getNext_nil g s.ga _ l w hg hl hc
  | some d =>
    rw [hj] at hc
    obtain ⟨a1, a2, a3⟩ := ok.at_ d (List.mem_of_getElem? hj)
    have hn1 := ok.n1
    exact getNext_some g s.ga s.gm _ l s.k d.at_ s.m _ w hg hl hc (h.arn.ar.at_ rfl) h.arn.map a2 (by omega) a1
theorem nodeKey_any {w : World} {g B : Nat} {s : SkA} (h : SkSt w g s) (ok : SkOk g B s) (j : Nat) (d : Nd) (hj : s.ns[j]? = some d) :
    Calls Try.prog 102 #[.pointer (some ⟨d.blk, 0, none⟩), .pointer (some ⟨s.ga, 0, none⟩)] w fun E w' => E = .returned (.slice (some ⟨s.gb, d.ko, none⟩) d.key.length (1048576 - d.ko)) ∧ Drew w w' := by
  have hb := h.nodes j d hj
  have hk := ok.key d (List.mem_of_getElem? hj)
  have he := ok.ent d (List.mem_of_getElem? hj)
  have hn1 := ok.n1
  have hkl := d.key_len
  have hkk := he.klen
  exact nodeKey_skl s.ga s.gb d.blk d.ko d.key.length w (h.arn.ar.at_ rfl) (hb.at_ rfl) (hb.at_ rfl) (by omega) (by omega)
theorem nodeKey_sl {w : World} {g B : Nat} {s : SkA} (h : SkSt w g s) (ok : SkOk g B s) (j : Nat) (d : Nd) (hj : s.ns[j]? = some d) : Sl w (some ⟨s.gb, d.ko, none⟩) d.key.length (nums .u8 (keyB d.e.k d.e.v)) := by
  have hk := ok.key d (List.mem_of_getElem? hj)
  have hn1 := ok.n1
  have := h.arn.buf.sl (off := d.ko) (n := d.key.length) (by rw [h.arn.len]; omega)
  rw [hk.2] at this
  exact this
/-- Where a key with a version belongs. -/
def SkA.pos (s : SkA) (k : List Int) (v : Int) : Nat := posE (s.ns.map Nd.e) k v
theorem SkA.pos_le (s : SkA) (k : List Int) (v : Int) : s.pos k v ≤ s.ns.length := by
  have := posE_le (s.ns.map Nd.e) k v
  rwa [List.length_map] at this
theorem pos_of_gt {g B : Nat} {s : SkA} (ok : SkOk g B s) (k : List Int) (v : Int) (j : Nat) (d : Nd) (hj : s.ns[j]? = some d) (h : orderL k v d.e.k d.e.v = 1) : j < s.pos k v := by
  have he : (s.ns.map Nd.e)[j]? = some d.e := by rw [List.getElem?_map, hj]; rfl
  have h2 : orderL d.e.k d.e.v k v = -1 := by rw [orderL_anti, h]
  rcases Nat.lt_or_ge j (s.pos k v) with h3 | h3
  · exact h3
  · rcases Nat.eq_or_lt_of_le h3 with h4 | h4
    · exact absurd h2 (posE_at _ _ _ _ (by unfold SkA.pos at h4; rw [h4]; exact he))
    · have := posE_gt _ ok.sorted k v j d.e h4 he
      rw [h2] at this
      simp at this
theorem pos_of_lt {g B : Nat} {s : SkA} (ok : SkOk g B s) (k : List Int) (v : Int) (j : Nat) (d : Nd) (hj : s.ns[j]? = some d) (h : orderL k v d.e.k d.e.v = -1) : s.pos k v ≤ j := by
  have he : (s.ns.map Nd.e)[j]? = some d.e := by rw [List.getElem?_map, hj]; rfl
  have h2 : orderL d.e.k d.e.v k v = 1 := by rw [orderL_anti, h]; rfl
  rcases Nat.lt_or_ge j (s.pos k v) with h3 | h3
  · have := posE_lt _ k v j d.e h3 he
    rw [h2] at this
    simp at this
  · exact h3
theorem pos_of_eq {g B : Nat} {s : SkA} (ok : SkOk g B s) (k : List Int) (v : Int) (j : Nat) (d : Nd) (hj : s.ns[j]? = some d) (h : orderL k v d.e.k d.e.v = 0) : s.pos k v = j := by
  have he : (s.ns.map Nd.e)[j]? = some d.e := by rw [List.getElem?_map, hj]; rfl
  have h2 : orderL d.e.k d.e.v k v = 0 := by rw [orderL_anti, h]; rfl
  rcases Nat.lt_trichotomy j (s.pos k v) with h3 | h3 | h3
  · have := posE_lt _ k v j d.e h3 he
    rw [h2] at this
    simp at this
  · exact h3.symm
  · have := posE_gt _ ok.sorted k v j d.e h3 he
    rw [h2] at this
    simp at this
/-- What a search at a level hands back: the node with the key, twice, or the places around it. -/
def SpP (s : SkA) (k : List Int) (v : Int) (h : Nat) (w : World) (E : Ending) (w' : World) : Prop :=
  Drew w w' ∧ ((∃ d, s.ns[s.pos k v]? = some d ∧ h < d.eff ∧ d.e.k = k ∧ d.e.v = v ∧ E = .returned (.tuple #[.pointer (some ⟨d.blk, 0, none⟩), .pointer (some ⟨d.blk, 0, none⟩)])) ∨
    (∃ p j, Nx s.ns p h j ∧ p ≤ s.pos k v ∧ Vis s p h ∧ s.pos k v ≤ j ∧ (∀ d, s.ns[j]? = some d → orderL k v d.e.k d.e.v = -1) ∧ E = .returned (.tuple #[plcP s p, ndP s j])))
set_option maxRecDepth 100000 in
theorem findSplice_skl (g B : Nat) (s : SkA) (A : Option Addr) (nk ck p0 l : Nat) (k : List Int) (v : Int) (w : World) (h : SkSt w g s) (ok : SkOk g B s) (hk : Sl w A nk (nums .u8 (keyB k v))) (hck : nk ≤ ck) (hkb : Byt (keyB k v)) (hnk : nk ≤ 1000) (hl : l < 20)
    (hv0 : Vis s p0 l) (hp0 : p0 ≤ s.pos k v) :
    Calls Try.prog 96 #[.pointer (some ⟨g, 0, none⟩), .slice A nk ck, plcP s p0, .int .i64 l] w (SpP s k v l w) := by
  have H := Lib.hid h
  have HK := Lib.hid hk
  have OK := Lib.hid ok
  have HKB := Lib.hid hkb
  have hkl : (keyB k v).length = nk := by have := hk.1; rwa [nums_length] at this
  rw [keyB_len] at hkl
  have hn8 : 8 ≤ nk := by omega
  have hpl := s.pos_le k v
  have HV0 := Lib.hid hv0
  clear h hk ok hkb hv0 hkl
  go_enter Try.func96, Try.ntmps96
  go_wp2
  go_loopg [2] (s.pos k v - p0) (fun q v2 wr => ∃ (p c : Nat), v2 = plcP s p ∧ p ≤ s.pos k v ∧ Hid (s.pos k v - p ≤ q) ∧ Hid (Vis s p l) ∧ Hid (wr = w.drewN c))
  case atStart => exact ⟨p0, 0, rfl, hp0, Nat.le_refl _, HV0.out, rfl⟩
  case round =>
    obtain ⟨p, c, rfl, hp, hq, hv, hw⟩ := hrel
    obtain ⟨j, hj⟩ := nx_ex s.ns p l (by omega)
    have HJ := Lib.hid hj
    have hjl := hj.2.1
    have hpj := hj.1
    have hst : Hid (SkSt wr g s) := by rw [hw.out]; exact H.out.drewN c
    have hks : Hid (Sl wr A nk (nums .u8 (keyB k v))) := by rw [hw.out]; exact HK.out
    have hdr : Hid (Drew w wr) := ⟨c, hw.out⟩
    clear hj hw
    go_wp2_with fail
    refine (next_skl hst.out OK.out p l j hl hv.out (by omega) HJ.out).mono ?_
    rintro E w1 ⟨rfl, hd1⟩
    have hst1 : Hid (SkSt w1 g s) := hst.out.drew hd1
    have hks1 : Hid (Sl w1 A nk (nums .u8 (keyB k v))) := by obtain ⟨c1, rfl⟩ := hd1; exact hks.out
    have hdr1 : Hid (Drew w w1) := by obtain ⟨c1, rfl⟩ := hd1; exact hdr.out.step c1
    clear hd1 hst hks hdr
    cases hnj : s.ns[j]? with
    | none =>
      have hnd : ndP s j = .pointer none := by unfold ndP; rw [hnj]
      rw [hnd]
      have HNJ := Lib.hid hnj
      have HND := Lib.hid hnd
      clear hnj hnd
      go_wp2
      go_ret2
      have hno : ∀ d : Nd, s.ns[j]? = some d → orderL k v d.e.k d.e.v = -1 := fun d hd => by rw [HNJ.out] at hd; cases hd
      refine ⟨hdr1.out, .inr ⟨p, j, HJ.out, hp, hv.out, ?_, hno, by rw [HND.out]; rfl⟩⟩
      have := List.getElem?_eq_none_iff.1 HNJ.out
      omega
    | some d =>
      have hnd : ndP s j = .pointer (some ⟨d.blk, 0, none⟩) := by unfold ndP; rw [hnj]
      rw [hnd]
      have HNJ := Lib.hid hnj
      have HND := Lib.hid hnd
      have he := OK.out.ent d (List.mem_of_getElem? hnj)
      have hdk := OK.out.key d (List.mem_of_getElem? hnj)
      have hn1 := OK.out.n1
      have hdl := d.key_len
      have HE := Lib.hid (And.intro he (And.intro hdk (And.intro hn1 hdl)))
      have hg : w1.cell? ⟨g, 3, none⟩ = some (.pointer (some ⟨s.ga, 0, none⟩)) := hst1.out.list.at_ rfl
      clear hnj hnd he hdk hn1 hdl
      go_wp2_with fail
      refine (nodeKey_any hst1.out OK.out j d HNJ.out).mono ?_
      rintro E w2 ⟨rfl, hd2⟩
      have hst2 : Hid (SkSt w2 g s) := hst1.out.drew hd2
      have hks2 : Hid (Sl w2 A nk (nums .u8 (keyB k v))) := by obtain ⟨c1, rfl⟩ := hd2; exact hks1.out
      have hdr2 : Hid (Drew w w2) := by obtain ⟨c1, rfl⟩ := hd2; exact hdr1.out.step c1
      clear hd2 hst1 hks1 hdr1 hg
      go_wp2_with fail
      refine (compareKeys_any A (some ⟨s.gb, d.ko, none⟩) nk d.key.length ck (1048576 - d.ko) (keyB k v) (keyB d.e.k d.e.v) w2 hks2.out (nodeKey_sl hst2.out OK.out j d HNJ.out) HKB.out HE.out.1.kbyt hn8 (by have := HE.out; omega) hck (by have := HE.out; omega) (by omega) (by have := HE.out; have := HE.out.1.klen; omega)).mono ?_
      rintro E w3 ⟨rfl, hd3⟩
      rw [cmpKeys_keyB]
      have hdr3 : Hid (Drew w w3) := by obtain ⟨c1, rfl⟩ := hd3; exact hdr2.out.step c1
      clear hd3 hst2 hks2 hdr2
      obtain ⟨y, hy⟩ : ∃ y, orderL k v d.e.k d.e.v = y := ⟨_, rfl⟩
      rw [hy]
      have HY := Lib.hid hy
      rcases orderL_three k d.e.k v d.e.v with h3 | h3 | h3
      · obtain rfl : y = -1 := by omega
        clear hy h3
        go_wp2
        go_ret2
        have hno : ∀ d' : Nd, s.ns[j]? = some d' → orderL k v d'.e.k d'.e.v = -1 := fun d' hd' => by rw [HNJ.out] at hd'; injection hd' with hd'; rw [← hd']; exact HY.out
        exact ⟨hdr3.out, .inr ⟨p, j, HJ.out, hp, hv.out, pos_of_lt OK.out k v j d HNJ.out HY.out, hno, by rw [HND.out]; rfl⟩⟩
      · obtain rfl : y = 0 := by omega
        clear hy h3
        go_wp2
        go_ret2
        have e1 := pos_of_eq OK.out k v j d HNJ.out HY.out
        obtain ⟨e2, e3⟩ := (orderL_eq _ _ _ _).1 HY.out
        exact ⟨hdr3.out, .inl ⟨d, by rw [e1]; exact HNJ.out, HJ.out.2.2.2 d HNJ.out, e2.symm, e3.symm, rfl⟩⟩
      · obtain rfl : y = 1 := by omega
        clear hy h3
        have hlt := pos_of_gt OK.out k v j d HNJ.out HY.out
        obtain ⟨c3, hc3⟩ := hdr3.out
        have HC3 := Lib.hid hc3
        clear hc3
        go_wp2
        obtain ⟨gkO, rfl⟩ : ∃ q, gk = q + 1 := ⟨gk - 1, by have := hq.out; omega⟩
        go_roundg gkO
        case measure => omega
        case rel =>
          refine ⟨j + 1, c3, ?_, hlt, by have := hq.out; show _ ≤ _; omega, .inr ⟨d, by simpa using HNJ.out, HJ.out.2.2.2 d HNJ.out⟩, HC3.out⟩
          unfold plcP plcB
          rw [if_neg (by omega), show j + 1 - 1 = j from by omega, HNJ.out]
end Go.Proofs.Ytanmgkpgfmkobaa

/- A skip list: its last node, and the node near to a key. -/
namespace Go.Proofs.Ytanmgkpgfmkobaa
open Go.RowKit
set_option linter.unusedVariables false
set_option linter.unusedSimpArgs false
theorem Vis.lower {s : SkA} {p h h' : Nat} (hv : Vis s p h) (hh : h' ≤ h) : Vis s p h' := by
  rcases hv with hv | ⟨d, hd, hs⟩
  · exact .inl hv
  · exact .inr ⟨d, hd, by omega⟩
theorem plcP_zero (s : SkA) : plcP s 0 = .pointer (some ⟨s.gh, 0, none⟩) := by unfold plcP plcB; rw [if_pos rfl]
theorem plcP_succ (s : SkA) (j : Nat) (d : Nd) (h : s.ns[j]? = some d) : plcP s (j + 1) = .pointer (some ⟨d.blk, 0, none⟩) := by
  unfold plcP plcB
  rw [if_neg (by omega), show j + 1 - 1 = j from by omega, h]
theorem blk_head {g B : Nat} {s : SkA} (ok : SkOk g B s) (j : Nat) (d : Nd) (h : s.ns[j]? = some d) : d.blk ≠ s.gh := by
  have h1 := ok.own
  simp only [List.nodup_cons] at h1
  intro e
  exact h1.2.2.2.2.1 (e ▸ List.mem_map_of_mem (List.mem_of_getElem? h))
/-- The node ahead of a place, if there is one. -/
def befP (s : SkA) (p : Nat) : Value := if p = 0 then .pointer none else plcP s p
/-- All nodes are seen at the lowest level. -/
def Full (s : SkA) : Prop := ∀ d ∈ s.ns, 1 ≤ d.eff
theorem nx_zero {s : SkA} (hf : Full s) {p j : Nat} (h : Nx s.ns p 0 j) : p = j := by
  obtain ⟨h1, h2, h3, _⟩ := h
  rcases Nat.eq_or_lt_of_le h1 with e | e
  · exact e
  · have hp : p < s.ns.length := by omega
    have := h3 p s.ns[p] (Nat.le_refl _) e (List.getElem?_eq_getElem hp)
    have h4 := hf _ (List.getElem_mem hp)
    omega
theorem bef_walk (s : SkA) {g B : Nat} (ok : SkOk g B s) (p : Nat) (hp : p ≤ s.ns.length) : (p = 0 ∧ plcP s p = .pointer (some ⟨s.gh, 0, none⟩) ∧ befP s p = .pointer none) ∨ ∃ d : Nd, s.ns[p - 1]? = some d ∧ 0 < p ∧ d.blk ≠ s.gh ∧ plcP s p = .pointer (some ⟨d.blk, 0, none⟩) ∧ befP s p = .pointer (some ⟨d.blk, 0, none⟩) := by
  by_cases h0 : p = 0
  · subst h0
    exact .inl ⟨rfl, plcP_zero s, by unfold befP; rw [if_pos rfl]⟩
  · obtain ⟨q, rfl⟩ : ∃ q, p = q + 1 := ⟨p - 1, by omega⟩
    have hq : q < s.ns.length := by omega
    have e := List.getElem?_eq_getElem hq
    refine .inr ⟨s.ns[q], e, by omega, blk_head ok q _ e, plcP_succ s q _ e, ?_⟩
    unfold befP
    rw [if_neg h0, plcP_succ s q _ e]
theorem sizeNode : (Try.prog.info? 130).map (·.size) = some 25 := by kernel_rfl
theorem ptr_same (w : World) (b : Nat) : (binOp .eql 116 (.pointer (some ⟨b, 0, none⟩)) (.pointer (some ⟨b, 0, none⟩))).run Try.prog w = .ok (.bool true) w := by
  obtain ⟨j, hj, hs⟩ := Option.map_eq_some_iff.1 sizeNode
  exact run_eql_ptr_same (P := Try.prog) w _ Try.underlying116 hj
theorem ptr_other {w : World} {b c t u : Nat} {cs ds : List Value} (hb : Blk w b t cs) (hc : Blk w c u ds) (hne : b ≠ c) : (binOp .eql 116 (.pointer (some ⟨b, 0, none⟩)) (.pointer (some ⟨c, 0, none⟩))).run Try.prog w = .ok (.bool false) w := by
  obtain ⟨j, hj, hs⟩ := Option.map_eq_some_iff.1 sizeNode
  exact run_eql_ptr_other (P := Try.prog) w Try.underlying116 hj (by rw [hs]; decide) (fun e => hne (by injection e)) hb hc
set_option maxRecDepth 100000 in
theorem findLast_skl (g B : Nat) (s : SkA) (w : World) (h : SkSt w g s) (ok : SkOk g B s) (hf : Full s) :
    Calls Try.prog 69 #[.pointer (some ⟨g, 0, none⟩)] w fun E w' => E = .returned (befP s s.ns.length) ∧ Drew w w' := by
  have H := Lib.hid h
  have OK := Lib.hid ok
  have HF := Lib.hid hf
  have c1 : w.cell? ⟨g, 1, none⟩ = some (.pointer (some ⟨s.gh, 0, none⟩)) := h.list.at_ rfl
  have c0 : w.cell? ⟨g, 0, none⟩ = some (.int .i32 s.height) := h.list.at_ rfl
  have hh1 := ok.h1
  have hh2 := ok.h2
  clear h ok hf
  go_enter Try.func69, Try.ntmps69
  go_wp2_with fail
  refine (getHeight_skl g s.height w c0).mono ?_
  rintro E w1 ⟨rfl, rfl⟩
  go_wp2
  obtain ⟨L, hL⟩ : ∃ L, L + 1 = s.height := ⟨s.height - 1, by omega⟩
  have e1 : (s.height : Int) - 1 = (L : Int) := by omega
  rw [e1, ← plcP_zero]
  have hL2 : L < 20 := by omega
  have HH := Lib.hid (And.intro hL (And.intro hh1 hh2))
  clear e1 hL hh1 hh2 c0 c1
  go_loopg [3, 4] (L * (s.ns.length + 1) + s.ns.length) (fun q v3 v4 wr => ∃ (p l c : Nat), v3 = plcP s p ∧ v4 = .int .i64 l ∧ l < 20 ∧ p ≤ s.ns.length ∧ Hid (l * (s.ns.length + 1) + (s.ns.length - p) ≤ q) ∧ Hid (Vis s p l) ∧ Hid (wr = w.drewN c))
  case atStart => exact ⟨0, L, 0, rfl, rfl, hL2, by omega, by show _ ≤ _; omega, .inl rfl, rfl⟩
  case round =>
    obtain ⟨p, l, c, rfl, rfl, hl, hp, hq, hv, hw⟩ := hrel
    obtain ⟨j, hj⟩ := nx_ex s.ns p l (by omega)
    have HJ := Lib.hid hj
    have hst : Hid (SkSt wr g s) := by rw [hw.out]; exact H.out.drewN c
    have hdr : Hid (Drew w wr) := ⟨c, hw.out⟩
    clear hj hw
    go_wp2_with fail
    refine (next_skl hst.out OK.out p l j hl hv.out (by omega) HJ.out).mono ?_
    rintro E w1 ⟨rfl, hd1⟩
    have hst1 : Hid (SkSt w1 g s) := hst.out.drew hd1
    have hdr1 : Hid (Drew w w1) := by obtain ⟨c1, rfl⟩ := hd1; exact hdr.out.step c1
    have c1 : w1.cell? ⟨g, 1, none⟩ = some (.pointer (some ⟨s.gh, 0, none⟩)) := hst1.out.list.at_ rfl
    clear hd1 hst hdr
    cases hnj : s.ns[j]? with
    | none =>
      have hnd : ndP s j = .pointer none := by unfold ndP; rw [hnj]
      rw [hnd]
      have HNJ := Lib.hid hnj
      clear hnj hnd
      by_cases hl0 : l = 0
      · subst hl0
        have hpj := nx_zero HF.out HJ.out
        have hpl : p = s.ns.length := by have := List.getElem?_eq_none_iff.1 HNJ.out; have := HJ.out.2.1; omega
        have HPL := Lib.hid hpl
        have e0 : (((0 : Nat) : Int)) = (0 : Int) := rfl
        rw [e0]
        clear hpj hpl e0
        rcases bef_walk s OK.out p hp with ⟨h0, e1, e2⟩ | ⟨d, hd, h0, hne, e1, e2⟩
        · rw [e1]
          have HE2 := Lib.hid e2
          have hpe := ptr_same w1 s.gh
          clear e1 e2
          go_wp2
          go_ret
          exact ⟨by rw [← HPL.out, HE2.out]; rfl, hdr1.out⟩
        · rw [e1]
          have HE2 := Lib.hid e2
          have HD := Lib.hid hd
          have hpe := ptr_other (hst1.out.nodes _ _ hd) hst1.out.head hne
          clear e1 e2 hd
          go_wp2
          go_ret
          exact ⟨by rw [← HPL.out, HE2.out]; rfl, hdr1.out⟩
      · obtain ⟨l', rfl⟩ : ∃ l', l = l' + 1 := ⟨l - 1, by omega⟩
        have e0 : (((l' + 1 : Nat) : Int) == 0) = false := by simp; omega
        obtain ⟨c3, hc3⟩ := hdr1.out
        have HC3 := Lib.hid hc3
        clear hc3
        go_wp2
        have hqq := hq.out
        rw [Nat.succ_mul] at hqq
        obtain ⟨gkO, rfl⟩ : ∃ q, gk = q + 1 := ⟨gk - 1, by omega⟩
        go_roundg gkO
        case measure => omega
        case rel => exact ⟨p, l', c3, rfl, by go_num, by omega, hp, by show _ ≤ _; omega, hv.out.lower (by omega), HC3.out⟩
    | some d =>
      have hnd : ndP s j = .pointer (some ⟨d.blk, 0, none⟩) := by unfold ndP; rw [hnj]
      rw [hnd]
      have HNJ := Lib.hid hnj
      have hjl : j < s.ns.length := (List.getElem?_eq_some_iff.1 hnj).1
      have hpj := HJ.out.1
      obtain ⟨c3, hc3⟩ := hdr1.out
      have HC3 := Lib.hid hc3
      clear hnj hnd hc3
      go_wp2
      have hqq := hq.out
      obtain ⟨gkO, rfl⟩ : ∃ q, gk = q + 1 := ⟨gk - 1, by omega⟩
      go_roundg gkO
      case measure => omega
      case rel => exact ⟨j + 1, l, c3, (plcP_succ s j d HNJ.out).symm, rfl, hl, hjl, by show _ ≤ _; omega, .inr ⟨d, by simpa using HNJ.out, HJ.out.2.2.2 d HNJ.out⟩, HC3.out⟩
end Go.Proofs.Ytanmgkpgfmkobaa

/- A skip list: the node near to a key. -/
namespace Go.Proofs.Ytanmgkpgfmkobaa
open Go.RowKit
set_option linter.unusedVariables false
set_option linter.unusedSimpArgs false
def SkA.hit (s : SkA) (k : List Int) (v : Int) : Bool := hitE (s.ns.map Nd.e) k v
theorem hit_of {s : SkA} {k : List Int} {v : Int} {d : Nd} (h : s.ns[s.pos k v]? = some d) : s.hit k v = (orderL k v d.e.k d.e.v == 0) := by
  unfold SkA.hit hitE
  have he : (s.ns.map Nd.e)[posE (s.ns.map Nd.e) k v]? = some d.e := by rw [List.getElem?_map]; unfold SkA.pos at h; rw [h]; rfl
  rw [he]
  show (orderL d.e.k d.e.v k v == 0) = _
  rw [orderL_anti k d.e.k v d.e.v]
  rcases orderL_three k d.e.k v d.e.v with h3 | h3 | h3 <;> rw [h3] <;> rfl
theorem hit_none {s : SkA} {k : List Int} {v : Int} (h : s.ns[s.pos k v]? = none) : s.hit k v = false := by
  unfold SkA.hit hitE
  have he : (s.ns.map Nd.e)[posE (s.ns.map Nd.e) k v]? = none := by rw [List.getElem?_map]; unfold SkA.pos at h; rw [h]; rfl
  rw [he]
def nearV (s : SkA) (k : List Int) (v : Int) (less eq : Bool) : Value := if less = true then (if (eq && s.hit k v) = true then ndP s (s.pos k v) else befP s (s.pos k v)) else ndP s (s.pos k v)
def NearP (s : SkA) (k : List Int) (v : Int) (less eq : Bool) (w : World) (E : Ending) (w' : World) : Prop :=
  Drew w w' ∧ E = .returned (.tuple #[nearV s k v less eq, .bool (eq && s.hit k v)])
theorem ndP_some {s : SkA} {j : Nat} {d : Nd} (h : s.ns[j]? = some d) : ndP s j = .pointer (some ⟨d.blk, 0, none⟩) := by unfold ndP; rw [h]
theorem ndP_none {s : SkA} {j : Nat} (h : s.ns[j]? = none) : ndP s j = .pointer none := by unfold ndP; rw [h]
set_option maxRecDepth 100000 in
set_option maxHeartbeats 800000 in
theorem findNear_falsetrue (g B : Nat) (s : SkA) (A : Option Addr) (nk ck : Nat) (k : List Int) (v : Int) (w : World) (h : SkSt w g s) (ok : SkOk g B s) (hf : Full s) (hk : Sl w A nk (nums .u8 (keyB k v))) (hck : nk ≤ ck) (hkb : Byt (keyB k v)) (hnk : nk ≤ 1000) :
    Calls Try.prog 71 #[.pointer (some ⟨g, 0, none⟩), .slice A nk ck, .bool false, .bool true] w (NearP s k v false true w) := by
  have H := Lib.hid h
  have HK := Lib.hid hk
  have OK := Lib.hid ok
  have HF := Lib.hid hf
  have HKB := Lib.hid hkb
  have hkl : (keyB k v).length = nk := by have := hk.1; rwa [nums_length] at this
  rw [keyB_len] at hkl
  have hn8 : 8 ≤ nk := by omega
  have hpl := s.pos_le k v
  have c1 : w.cell? ⟨g, 1, none⟩ = some (.pointer (some ⟨s.gh, 0, none⟩)) := h.list.at_ rfl
  have c0 : w.cell? ⟨g, 0, none⟩ = some (.int .i32 s.height) := h.list.at_ rfl
  have hh1 := ok.h1
  have hh2 := ok.h2
  clear h hk ok hf hkb hkl
  go_enter Try.func71, Try.ntmps71
  go_wp2_with fail
  refine (getHeight_skl g s.height w c0).mono ?_
  rintro E w1 ⟨rfl, rfl⟩
  go_wp2
  obtain ⟨L, hL⟩ : ∃ L, L + 1 = s.height := ⟨s.height - 1, by omega⟩
  have e1 : (s.height : Int) - 1 = (L : Int) := by omega
  rw [e1, ← plcP_zero]
  have hL2 : L < 20 := by omega
  have HH := Lib.hid (And.intro hL (And.intro hh1 hh2))
  clear e1 hL hh1 hh2 c0 c1
  go_loopg [10, 11] (L * (s.ns.length + 1) + s.ns.length) (fun q v10 v11 wr => ∃ (p l c : Nat), v10 = plcP s p ∧ v11 = .int .i64 l ∧ l < 20 ∧ p ≤ s.pos k v ∧ Hid (l * (s.ns.length + 1) + (s.ns.length - p) ≤ q) ∧ Hid (Vis s p l) ∧ Hid (wr = w.drewN c))
  case atStart => exact ⟨0, L, 0, rfl, rfl, hL2, by omega, by show _ ≤ _; omega, .inl rfl, rfl⟩
  case round =>
    obtain ⟨p, l, c, rfl, rfl, hl, hp, hq, hv, hw⟩ := hrel
    have hp' : p ≤ s.ns.length := by omega
    obtain ⟨j, hj⟩ := nx_ex s.ns p l hp'
    have HJ := Lib.hid hj
    have hjl := hj.2.1
    have hpj := hj.1
    have hst : Hid (SkSt wr g s) := by rw [hw.out]; exact H.out.drewN c
    have hks : Hid (Sl wr A nk (nums .u8 (keyB k v))) := by rw [hw.out]; exact HK.out
    have hdr : Hid (Drew w wr) := ⟨c, hw.out⟩
    clear hj hw
    go_wp2_with fail
    refine (next_skl hst.out OK.out p l j hl hv.out hp' HJ.out).mono ?_
    rintro E w1 ⟨rfl, hd1⟩
    have hst1 : Hid (SkSt w1 g s) := hst.out.drew hd1
    have hks1 : Hid (Sl w1 A nk (nums .u8 (keyB k v))) := by obtain ⟨c1, rfl⟩ := hd1; exact hks.out
    have hdr1 : Hid (Drew w w1) := by obtain ⟨c1, rfl⟩ := hd1; exact hdr.out.step c1
    have c1 : w1.cell? ⟨g, 1, none⟩ = some (.pointer (some ⟨s.gh, 0, none⟩)) := hst1.out.list.at_ rfl
    clear hd1 hst hks hdr
    cases hnj : s.ns[j]? with
    | none =>
      rw [ndP_none hnj]
      have HNJ := Lib.hid hnj
      clear hnj
      by_cases hl0 : l = 0
      · subst hl0
        have hpj := nx_zero HF.out HJ.out
        have hjj := List.getElem?_eq_none_iff.1 HNJ.out
        have hpp : s.pos k v = p := by omega
        have hhit := hit_none (s := s) (k := k) (v := v) (by rw [hpp, hpj]; exact HNJ.out)
        have hfin : nearV s k v false true = .pointer none ∧ (true && s.hit k v) = false := by
          unfold nearV
          rw [hhit, hpp]
          exact ⟨ndP_none (by rw [hpj]; exact HNJ.out), rfl⟩
        have e0 : (((0 : Nat) : Int)) = (0 : Int) := rfl
        rw [e0]
        have HPP := Lib.hid (And.intro hpp (And.intro hhit (And.intro hpj hjj)))
        clear hpj hpp hhit e0 hjj
        have HFIN := Lib.hid hfin
        clear hfin
        go_wp2
        go_ret2
        exact ⟨hdr1.out, by rw [HFIN.out.1, HFIN.out.2]; rfl⟩
      · obtain ⟨l', rfl⟩ : ∃ l', l = l' + 1 := ⟨l - 1, by omega⟩
        have e0 : (0 : Int) < ((l' + 1 : Nat) : Int) := by omega
        obtain ⟨c3, hc3⟩ := hdr1.out
        have HC3 := Lib.hid hc3
        clear hc3
        go_wp2
        have hqq := hq.out
        rw [Nat.succ_mul] at hqq
        obtain ⟨gkO, rfl⟩ : ∃ q, gk = q + 1 := ⟨gk - 1, by omega⟩
        go_roundg gkO
        case measure => omega
        case rel => exact ⟨p, l', c3, rfl, by go_num, by omega, hp, by show _ ≤ _; omega, hv.out.lower (by omega), HC3.out⟩
    | some d =>
      rw [ndP_some hnj]
      have HNJ := Lib.hid hnj
      have hjl2 : j < s.ns.length := (List.getElem?_eq_some_iff.1 hnj).1
      have he := OK.out.ent d (List.mem_of_getElem? hnj)
      have hdk := OK.out.key d (List.mem_of_getElem? hnj)
      have hn1 := OK.out.n1
      have hdl := d.key_len
      have HE := Lib.hid (And.intro he (And.intro hdk (And.intro hn1 hdl)))
      have c3 : w1.cell? ⟨g, 3, none⟩ = some (.pointer (some ⟨s.ga, 0, none⟩)) := hst1.out.list.at_ rfl
      clear hnj he hdk hn1 hdl
      go_wp2_with fail
      refine (nodeKey_any hst1.out OK.out j d HNJ.out).mono ?_
      rintro E w2 ⟨rfl, hd2⟩
      have hst2 : Hid (SkSt w2 g s) := hst1.out.drew hd2
      have hks2 : Hid (Sl w2 A nk (nums .u8 (keyB k v))) := by obtain ⟨c1, rfl⟩ := hd2; exact hks1.out
      have hdr2 : Hid (Drew w w2) := by obtain ⟨c1, rfl⟩ := hd2; exact hdr1.out.step c1
      clear hd2 hst1 hks1 hdr1 c1 c3
      go_wp2_with fail
      refine (compareKeys_any A (some ⟨s.gb, d.ko, none⟩) nk d.key.length ck (1048576 - d.ko) (keyB k v) (keyB d.e.k d.e.v) w2 hks2.out (nodeKey_sl hst2.out OK.out j d HNJ.out) HKB.out HE.out.1.kbyt hn8 (by have := HE.out; omega) hck (by have := HE.out; omega) (by omega) (by have := HE.out; have := HE.out.1.klen; omega)).mono ?_
      rintro E w3 ⟨rfl, hd3⟩
      rw [cmpKeys_keyB]
      have hst3 : Hid (SkSt w3 g s) := hst2.out.drew hd3
      have hdr3 : Hid (Drew w w3) := by obtain ⟨c1, rfl⟩ := hd3; exact hdr2.out.step c1
      have c1 : w3.cell? ⟨g, 1, none⟩ = some (.pointer (some ⟨s.gh, 0, none⟩)) := hst3.out.list.at_ rfl
      clear hd3 hst2 hks2 hdr2
      obtain ⟨y, hy⟩ : ∃ y, orderL k v d.e.k d.e.v = y := ⟨_, rfl⟩
      rw [hy]
      have HY := Lib.hid hy
      rcases orderL_three k d.e.k v d.e.v with h3 | h3 | h3
      · obtain rfl : y = -1 := by omega
        have hpos := pos_of_lt OK.out k v j d HNJ.out h3
        clear hy h3
        by_cases hl0 : l = 0
        · subst hl0
          have hpj := nx_zero HF.out HJ.out
          have hpp : s.pos k v = p := by omega
          have hhit := hit_of (s := s) (k := k) (v := v) (d := d) (by rw [hpp, hpj]; exact HNJ.out)
          rw [HY.out] at hhit
          have hfin : nearV s k v false true = .pointer (some ⟨d.blk, 0, none⟩) ∧ (true && s.hit k v) = false := by
            unfold nearV
            rw [hhit, hpp]
            exact ⟨ndP_some (by rw [hpj]; exact HNJ.out), rfl⟩
          have e0 : (((0 : Nat) : Int)) = (0 : Int) := rfl
          rw [e0]
          have HPP := Lib.hid (And.intro hpp (And.intro hhit hpj))
          clear hpj hpp hhit e0 hpos
          have HFIN := Lib.hid hfin
          clear hfin
          go_wp2
          go_ret2
          exact ⟨hdr3.out, by rw [HFIN.out.1, HFIN.out.2]; rfl⟩
        · obtain ⟨l', rfl⟩ : ∃ l', l = l' + 1 := ⟨l - 1, by omega⟩
          have e0 : (0 : Int) < ((l' + 1 : Nat) : Int) := by omega
          obtain ⟨c3, hc3⟩ := hdr3.out
          have HC3 := Lib.hid hc3
          clear hc3
          go_wp2
          have hqq := hq.out
          rw [Nat.succ_mul] at hqq
          obtain ⟨gkO, rfl⟩ : ∃ q, gk = q + 1 := ⟨gk - 1, by omega⟩
          go_roundg gkO
          case measure => omega
          case rel => exact ⟨p, l', c3, rfl, by go_num, by omega, hp, by show _ ≤ _; omega, hv.out.lower (by omega), HC3.out⟩
      · obtain rfl : y = 0 := by omega
        have hpos := pos_of_eq OK.out k v j d HNJ.out h3
        have hhit := hit_of (s := s) (k := k) (v := v) (d := d) (by rw [hpos]; exact HNJ.out)
        rw [h3] at hhit
        clear hy h3
        have hfin : nearV s k v false true = .pointer (some ⟨d.blk, 0, none⟩) ∧ (true && s.hit k v) = true := by
          unfold nearV
          rw [hhit, hpos]
          exact ⟨ndP_some HNJ.out, rfl⟩
        have HPP := Lib.hid (And.intro hpos hhit)
        clear hpos hhit
        have HFIN := Lib.hid hfin
        clear hfin
        go_wp2
        go_ret2
        exact ⟨hdr3.out, by rw [HFIN.out.1, HFIN.out.2]; rfl⟩
      · obtain rfl : y = 1 := by omega
        have hlt := pos_of_gt OK.out k v j d HNJ.out h3
        obtain ⟨c3, hc3⟩ := hdr3.out
        have HC3 := Lib.hid hc3
        clear hy h3 hc3
        go_wp2
        have hqq := hq.out
        obtain ⟨gkO, rfl⟩ : ∃ q, gk = q + 1 := ⟨gk - 1, by omega⟩
        go_roundg gkO
        case measure => omega
        case rel => exact ⟨j + 1, l, c3, (plcP_succ s j d HNJ.out).symm, rfl, hl, hlt, by show _ ≤ _; omega, .inr ⟨d, by simpa using HNJ.out, HJ.out.2.2.2 d HNJ.out⟩, HC3.out⟩
set_option maxRecDepth 100000 in
set_option maxHeartbeats 800000 in
theorem findNear_truetrue (g B : Nat) (s : SkA) (A : Option Addr) (nk ck : Nat) (k : List Int) (v : Int) (w : World) (h : SkSt w g s) (ok : SkOk g B s) (hf : Full s) (hk : Sl w A nk (nums .u8 (keyB k v))) (hck : nk ≤ ck) (hkb : Byt (keyB k v)) (hnk : nk ≤ 1000) :
    Calls Try.prog 71 #[.pointer (some ⟨g, 0, none⟩), .slice A nk ck, .bool true, .bool true] w (NearP s k v true true w) := by
  have H := Lib.hid h
  have HK := Lib.hid hk
  have OK := Lib.hid ok
  have HF := Lib.hid hf
  have HKB := Lib.hid hkb
  have hkl : (keyB k v).length = nk := by have := hk.1; rwa [nums_length] at this
  rw [keyB_len] at hkl
  have hn8 : 8 ≤ nk := by omega
  have hpl := s.pos_le k v
  have c1 : w.cell? ⟨g, 1, none⟩ = some (.pointer (some ⟨s.gh, 0, none⟩)) := h.list.at_ rfl
  have c0 : w.cell? ⟨g, 0, none⟩ = some (.int .i32 s.height) := h.list.at_ rfl
  have hh1 := ok.h1
  have hh2 := ok.h2
  clear h hk ok hf hkb hkl
  go_enter Try.func71, Try.ntmps71
  go_wp2_with fail
  refine (getHeight_skl g s.height w c0).mono ?_
  rintro E w1 ⟨rfl, rfl⟩
  go_wp2
  obtain ⟨L, hL⟩ : ∃ L, L + 1 = s.height := ⟨s.height - 1, by omega⟩
  have e1 : (s.height : Int) - 1 = (L : Int) := by omega
  rw [e1, ← plcP_zero]
  have hL2 : L < 20 := by omega
  have HH := Lib.hid (And.intro hL (And.intro hh1 hh2))
  clear e1 hL hh1 hh2 c0 c1
  go_loopg [10, 11] (L * (s.ns.length + 1) + s.ns.length) (fun q v10 v11 wr => ∃ (p l c : Nat), v10 = plcP s p ∧ v11 = .int .i64 l ∧ l < 20 ∧ p ≤ s.pos k v ∧ Hid (l * (s.ns.length + 1) + (s.ns.length - p) ≤ q) ∧ Hid (Vis s p l) ∧ Hid (wr = w.drewN c))
  case atStart => exact ⟨0, L, 0, rfl, rfl, hL2, by omega, by show _ ≤ _; omega, .inl rfl, rfl⟩
  case round =>
    obtain ⟨p, l, c, rfl, rfl, hl, hp, hq, hv, hw⟩ := hrel
    have hp' : p ≤ s.ns.length := by omega
    obtain ⟨j, hj⟩ := nx_ex s.ns p l hp'
    have HJ := Lib.hid hj
    have hjl := hj.2.1
    have hpj := hj.1
    have hst : Hid (SkSt wr g s) := by rw [hw.out]; exact H.out.drewN c
    have hks : Hid (Sl wr A nk (nums .u8 (keyB k v))) := by rw [hw.out]; exact HK.out
    have hdr : Hid (Drew w wr) := ⟨c, hw.out⟩
    clear hj hw
    go_wp2_with fail
    refine (next_skl hst.out OK.out p l j hl hv.out hp' HJ.out).mono ?_
    rintro E w1 ⟨rfl, hd1⟩
    have hst1 : Hid (SkSt w1 g s) := hst.out.drew hd1
    have hks1 : Hid (Sl w1 A nk (nums .u8 (keyB k v))) := by obtain ⟨c1, rfl⟩ := hd1; exact hks.out
    have hdr1 : Hid (Drew w w1) := by obtain ⟨c1, rfl⟩ := hd1; exact hdr.out.step c1
    have c1 : w1.cell? ⟨g, 1, none⟩ = some (.pointer (some ⟨s.gh, 0, none⟩)) := hst1.out.list.at_ rfl
    clear hd1 hst hks hdr
    cases hnj : s.ns[j]? with
    | none =>
      rw [ndP_none hnj]
      have HNJ := Lib.hid hnj
      clear hnj
      by_cases hl0 : l = 0
      · subst hl0
        have hpj := nx_zero HF.out HJ.out
        have hjj := List.getElem?_eq_none_iff.1 HNJ.out
        have hpp : s.pos k v = p := by omega
        have hhit := hit_none (s := s) (k := k) (v := v) (by rw [hpp, hpj]; exact HNJ.out)
        have hfin : nearV s k v true true = befP s p ∧ (true && s.hit k v) = false := by
          unfold nearV
          rw [hhit, hpp]
          exact ⟨rfl, rfl⟩
        have e0 : (((0 : Nat) : Int)) = (0 : Int) := rfl
        rw [e0]
        have HPP := Lib.hid (And.intro hpp (And.intro hhit (And.intro hpj hjj)))
        clear hpj hpp hhit e0 hjj
        rcases bef_walk s OK.out p hp' with ⟨h0, e1, e2⟩ | ⟨d2, hd2, h0, hne, e1, e2⟩
        · rw [e1]
          rw [e2] at hfin
          have hpe := ptr_same w1 s.gh
          have HFIN := Lib.hid hfin
          clear e1 e2 hfin
          go_wp2
          go_ret2
          exact ⟨hdr1.out, by rw [HFIN.out.1, HFIN.out.2]; rfl⟩
        · rw [e1]
          rw [e2] at hfin
          have HD2 := Lib.hid hd2
          have hpe := ptr_other (hst1.out.nodes _ _ hd2) hst1.out.head hne
          have HFIN := Lib.hid hfin
          clear e1 e2 hd2 hfin
          go_wp2
          go_ret2
          exact ⟨hdr1.out, by rw [HFIN.out.1, HFIN.out.2]; rfl⟩
      · obtain ⟨l', rfl⟩ : ∃ l', l = l' + 1 := ⟨l - 1, by omega⟩
        have e0 : (0 : Int) < ((l' + 1 : Nat) : Int) := by omega
        obtain ⟨c3, hc3⟩ := hdr1.out
        have HC3 := Lib.hid hc3
        clear hc3
        go_wp2
        have hqq := hq.out
        rw [Nat.succ_mul] at hqq
        obtain ⟨gkO, rfl⟩ : ∃ q, gk = q + 1 := ⟨gk - 1, by omega⟩
        go_roundg gkO
        case measure => omega
        case rel => exact ⟨p, l', c3, rfl, by go_num, by omega, hp, by show _ ≤ _; omega, hv.out.lower (by omega), HC3.out⟩
    | some d =>
      rw [ndP_some hnj]
      have HNJ := Lib.hid hnj
      have hjl2 : j < s.ns.length := (List.getElem?_eq_some_iff.1 hnj).1
      have he := OK.out.ent d (List.mem_of_getElem? hnj)
      have hdk := OK.out.key d (List.mem_of_getElem? hnj)
      have hn1 := OK.out.n1
      have hdl := d.key_len
      have HE := Lib.hid (And.intro he (And.intro hdk (And.intro hn1 hdl)))
      have c3 : w1.cell? ⟨g, 3, none⟩ = some (.pointer (some ⟨s.ga, 0, none⟩)) := hst1.out.list.at_ rfl
      clear hnj he hdk hn1 hdl
      go_wp2_with fail
      refine (nodeKey_any hst1.out OK.out j d HNJ.out).mono ?_
      rintro E w2 ⟨rfl, hd2⟩
      have hst2 : Hid (SkSt w2 g s) := hst1.out.drew hd2
      have hks2 : Hid (Sl w2 A nk (nums .u8 (keyB k v))) := by obtain ⟨c1, rfl⟩ := hd2; exact hks1.out
      have hdr2 : Hid (Drew w w2) := by obtain ⟨c1, rfl⟩ := hd2; exact hdr1.out.step c1
      clear hd2 hst1 hks1 hdr1 c1 c3
      go_wp2_with fail
      refine (compareKeys_any A (some ⟨s.gb, d.ko, none⟩) nk d.key.length ck (1048576 - d.ko) (keyB k v) (keyB d.e.k d.e.v) w2 hks2.out (nodeKey_sl hst2.out OK.out j d HNJ.out) HKB.out HE.out.1.kbyt hn8 (by have := HE.out; omega) hck (by have := HE.out; omega) (by omega) (by have := HE.out; have := HE.out.1.klen; omega)).mono ?_
      rintro E w3 ⟨rfl, hd3⟩
      rw [cmpKeys_keyB]
      have hst3 : Hid (SkSt w3 g s) := hst2.out.drew hd3
      have hdr3 : Hid (Drew w w3) := by obtain ⟨c1, rfl⟩ := hd3; exact hdr2.out.step c1
      have c1 : w3.cell? ⟨g, 1, none⟩ = some (.pointer (some ⟨s.gh, 0, none⟩)) := hst3.out.list.at_ rfl
      clear hd3 hst2 hks2 hdr2
      obtain ⟨y, hy⟩ : ∃ y, orderL k v d.e.k d.e.v = y := ⟨_, rfl⟩
      rw [hy]
      have HY := Lib.hid hy
      rcases orderL_three k d.e.k v d.e.v with h3 | h3 | h3
      · obtain rfl : y = -1 := by omega
        have hpos := pos_of_lt OK.out k v j d HNJ.out h3
        clear hy h3
        by_cases hl0 : l = 0
        · subst hl0
          have hpj := nx_zero HF.out HJ.out
          have hpp : s.pos k v = p := by omega
          have hhit := hit_of (s := s) (k := k) (v := v) (d := d) (by rw [hpp, hpj]; exact HNJ.out)
          rw [HY.out] at hhit
          have hfin : nearV s k v true true = befP s p ∧ (true && s.hit k v) = false := by
            unfold nearV
            rw [hhit, hpp]
            exact ⟨rfl, rfl⟩
          have e0 : (((0 : Nat) : Int)) = (0 : Int) := rfl
          rw [e0]
          have HPP := Lib.hid (And.intro hpp (And.intro hhit hpj))
          clear hpj hpp hhit e0 hpos
          rcases bef_walk s OK.out p hp' with ⟨h0, e1, e2⟩ | ⟨d2, hd2, h0, hne, e1, e2⟩
          · rw [e1]
            rw [e2] at hfin
            have hpe := ptr_same w3 s.gh
            have HFIN := Lib.hid hfin
            clear e1 e2 hfin
            go_wp2
            go_ret2
            exact ⟨hdr3.out, by rw [HFIN.out.1, HFIN.out.2]; rfl⟩
          · rw [e1]
            rw [e2] at hfin
            have HD2 := Lib.hid hd2
            have hpe := ptr_other (hst3.out.nodes _ _ hd2) hst3.out.head hne
            have HFIN := Lib.hid hfin
            clear e1 e2 hd2 hfin
            go_wp2
            go_ret2
            exact ⟨hdr3.out, by rw [HFIN.out.1, HFIN.out.2]; rfl⟩
        · obtain ⟨l', rfl⟩ : ∃ l', l = l' + 1 := ⟨l - 1, by omega⟩
          have e0 : (0 : Int) < ((l' + 1 : Nat) : Int) := by omega
          obtain ⟨c3, hc3⟩ := hdr3.out
          have HC3 := Lib.hid hc3
          clear hc3
          go_wp2
          have hqq := hq.out
          rw [Nat.succ_mul] at hqq
          obtain ⟨gkO, rfl⟩ : ∃ q, gk = q + 1 := ⟨gk - 1, by omega⟩
          go_roundg gkO
          case measure => omega
          case rel => exact ⟨p, l', c3, rfl, by go_num, by omega, hp, by show _ ≤ _; omega, hv.out.lower (by omega), HC3.out⟩
      · obtain rfl : y = 0 := by omega
        have hpos := pos_of_eq OK.out k v j d HNJ.out h3
        have hhit := hit_of (s := s) (k := k) (v := v) (d := d) (by rw [hpos]; exact HNJ.out)
        rw [h3] at hhit
        clear hy h3
        have hfin : nearV s k v true true = .pointer (some ⟨d.blk, 0, none⟩) ∧ (true && s.hit k v) = true := by
          unfold nearV
          rw [hhit, hpos]
          exact ⟨ndP_some HNJ.out, rfl⟩
        have HPP := Lib.hid (And.intro hpos hhit)
        clear hpos hhit
        have HFIN := Lib.hid hfin
        clear hfin
        go_wp2
        go_ret2
        exact ⟨hdr3.out, by rw [HFIN.out.1, HFIN.out.2]; rfl⟩
      · obtain rfl : y = 1 := by omega
        have hlt := pos_of_gt OK.out k v j d HNJ.out h3
        obtain ⟨c3, hc3⟩ := hdr3.out
        have HC3 := Lib.hid hc3
        clear hy h3 hc3
        go_wp2
        have hqq := hq.out
        obtain ⟨gkO, rfl⟩ : ∃ q, gk = q + 1 := ⟨gk - 1, by omega⟩
        go_roundg gkO
        case measure => omega
        case rel => exact ⟨j + 1, l, c3, (plcP_succ s j d HNJ.out).symm, rfl, hl, hlt, by show _ ≤ _; omega, .inr ⟨d, by simpa using HNJ.out, HJ.out.2.2.2 d HNJ.out⟩, HC3.out⟩
set_option maxRecDepth 100000 in
set_option maxHeartbeats 800000 in
theorem findNear_truefalse (g B : Nat) (s : SkA) (A : Option Addr) (nk ck : Nat) (k : List Int) (v : Int) (w : World) (h : SkSt w g s) (ok : SkOk g B s) (hf : Full s) (hk : Sl w A nk (nums .u8 (keyB k v))) (hck : nk ≤ ck) (hkb : Byt (keyB k v)) (hnk : nk ≤ 1000) :
    Calls Try.prog 71 #[.pointer (some ⟨g, 0, none⟩), .slice A nk ck, .bool true, .bool false] w (NearP s k v true false w) := by
  have H := Lib.hid h
  have HK := Lib.hid hk
  have OK := Lib.hid ok
  have HF := Lib.hid hf
  have HKB := Lib.hid hkb
  have hkl : (keyB k v).length = nk := by have := hk.1; rwa [nums_length] at this
  rw [keyB_len] at hkl
  have hn8 : 8 ≤ nk := by omega
  have hpl := s.pos_le k v
  have c1 : w.cell? ⟨g, 1, none⟩ = some (.pointer (some ⟨s.gh, 0, none⟩)) := h.list.at_ rfl
  have c0 : w.cell? ⟨g, 0, none⟩ = some (.int .i32 s.height) := h.list.at_ rfl
  have hh1 := ok.h1
  have hh2 := ok.h2
  clear h hk ok hf hkb hkl
  go_enter Try.func71, Try.ntmps71
  go_wp2_with fail
  refine (getHeight_skl g s.height w c0).mono ?_
  rintro E w1 ⟨rfl, rfl⟩
  go_wp2
  obtain ⟨L, hL⟩ : ∃ L, L + 1 = s.height := ⟨s.height - 1, by omega⟩
  have e1 : (s.height : Int) - 1 = (L : Int) := by omega
  rw [e1, ← plcP_zero]
  have hL2 : L < 20 := by omega
  have HH := Lib.hid (And.intro hL (And.intro hh1 hh2))
  clear e1 hL hh1 hh2 c0 c1
  go_loopg [10, 11] (L * (s.ns.length + 1) + s.ns.length) (fun q v10 v11 wr => ∃ (p l c : Nat), v10 = plcP s p ∧ v11 = .int .i64 l ∧ l < 20 ∧ p ≤ s.pos k v ∧ Hid (l * (s.ns.length + 1) + (s.ns.length - p) ≤ q) ∧ Hid (Vis s p l) ∧ Hid (wr = w.drewN c))
  case atStart => exact ⟨0, L, 0, rfl, rfl, hL2, by omega, by show _ ≤ _; omega, .inl rfl, rfl⟩
  case round =>
    obtain ⟨p, l, c, rfl, rfl, hl, hp, hq, hv, hw⟩ := hrel
    have hp' : p ≤ s.ns.length := by omega
    obtain ⟨j, hj⟩ := nx_ex s.ns p l hp'
    have HJ := Lib.hid hj
    have hjl := hj.2.1
    have hpj := hj.1
    have hst : Hid (SkSt wr g s) := by rw [hw.out]; exact H.out.drewN c
    have hks : Hid (Sl wr A nk (nums .u8 (keyB k v))) := by rw [hw.out]; exact HK.out
    have hdr : Hid (Drew w wr) := ⟨c, hw.out⟩
    clear hj hw
    go_wp2_with fail
    refine (next_skl hst.out OK.out p l j hl hv.out hp' HJ.out).mono ?_
    rintro E w1 ⟨rfl, hd1⟩
    have hst1 : Hid (SkSt w1 g s) := hst.out.drew hd1
    have hks1 : Hid (Sl w1 A nk (nums .u8 (keyB k v))) := by obtain ⟨c1, rfl⟩ := hd1; exact hks.out
    have hdr1 : Hid (Drew w w1) := by obtain ⟨c1, rfl⟩ := hd1; exact hdr.out.step c1
    have c1 : w1.cell? ⟨g, 1, none⟩ = some (.pointer (some ⟨s.gh, 0, none⟩)) := hst1.out.list.at_ rfl
    clear hd1 hst hks hdr
    cases hnj : s.ns[j]? with
    | none =>
      rw [ndP_none hnj]
      have HNJ := Lib.hid hnj
      clear hnj
      by_cases hl0 : l = 0
      · subst hl0
        have hpj := nx_zero HF.out HJ.out
        have hjj := List.getElem?_eq_none_iff.1 HNJ.out
        have hpp : s.pos k v = p := by omega
        have hhit := hit_none (s := s) (k := k) (v := v) (by rw [hpp, hpj]; exact HNJ.out)
        have hfin : nearV s k v true false = befP s p ∧ (false && s.hit k v) = false := by
          unfold nearV
          rw [hhit, hpp]
          exact ⟨rfl, rfl⟩
        have e0 : (((0 : Nat) : Int)) = (0 : Int) := rfl
        rw [e0]
        have HPP := Lib.hid (And.intro hpp (And.intro hhit (And.intro hpj hjj)))
        clear hpj hpp hhit e0 hjj
        rcases bef_walk s OK.out p hp' with ⟨h0, e1, e2⟩ | ⟨d2, hd2, h0, hne, e1, e2⟩
        · rw [e1]
          rw [e2] at hfin
          have hpe := ptr_same w1 s.gh
          have HFIN := Lib.hid hfin
          clear e1 e2 hfin
          go_wp2
          go_ret2
          exact ⟨hdr1.out, by rw [HFIN.out.1, HFIN.out.2]; rfl⟩
        · rw [e1]
          rw [e2] at hfin
          have HD2 := Lib.hid hd2
          have hpe := ptr_other (hst1.out.nodes _ _ hd2) hst1.out.head hne
          have HFIN := Lib.hid hfin
          clear e1 e2 hd2 hfin
          go_wp2
          go_ret2
          exact ⟨hdr1.out, by rw [HFIN.out.1, HFIN.out.2]; rfl⟩
      · obtain ⟨l', rfl⟩ : ∃ l', l = l' + 1 := ⟨l - 1, by omega⟩
        have e0 : (0 : Int) < ((l' + 1 : Nat) : Int) := by omega
        obtain ⟨c3, hc3⟩ := hdr1.out
        have HC3 := Lib.hid hc3
        clear hc3
        go_wp2
        have hqq := hq.out
        rw [Nat.succ_mul] at hqq
        obtain ⟨gkO, rfl⟩ : ∃ q, gk = q + 1 := ⟨gk - 1, by omega⟩
        go_roundg gkO
        case measure => omega
        case rel => exact ⟨p, l', c3, rfl, by go_num, by omega, hp, by show _ ≤ _; omega, hv.out.lower (by omega), HC3.out⟩
    | some d =>
      rw [ndP_some hnj]
      have HNJ := Lib.hid hnj
      have hjl2 : j < s.ns.length := (List.getElem?_eq_some_iff.1 hnj).1
      have he := OK.out.ent d (List.mem_of_getElem? hnj)
      have hdk := OK.out.key d (List.mem_of_getElem? hnj)
      have hn1 := OK.out.n1
      have hdl := d.key_len
      have HE := Lib.hid (And.intro he (And.intro hdk (And.intro hn1 hdl)))
      have c3 : w1.cell? ⟨g, 3, none⟩ = some (.pointer (some ⟨s.ga, 0, none⟩)) := hst1.out.list.at_ rfl
      clear hnj he hdk hn1 hdl
      go_wp2_with fail
      refine (nodeKey_any hst1.out OK.out j d HNJ.out).mono ?_
      rintro E w2 ⟨rfl, hd2⟩
      have hst2 : Hid (SkSt w2 g s) := hst1.out.drew hd2
      have hks2 : Hid (Sl w2 A nk (nums .u8 (keyB k v))) := by obtain ⟨c1, rfl⟩ := hd2; exact hks1.out
      have hdr2 : Hid (Drew w w2) := by obtain ⟨c1, rfl⟩ := hd2; exact hdr1.out.step c1
      clear hd2 hst1 hks1 hdr1 c1 c3
      go_wp2_with fail
      refine (compareKeys_any A (some ⟨s.gb, d.ko, none⟩) nk d.key.length ck (1048576 - d.ko) (keyB k v) (keyB d.e.k d.e.v) w2 hks2.out (nodeKey_sl hst2.out OK.out j d HNJ.out) HKB.out HE.out.1.kbyt hn8 (by have := HE.out; omega) hck (by have := HE.out; omega) (by omega) (by have := HE.out; have := HE.out.1.klen; omega)).mono ?_
      rintro E w3 ⟨rfl, hd3⟩
      rw [cmpKeys_keyB]
      have hst3 : Hid (SkSt w3 g s) := hst2.out.drew hd3
      have hdr3 : Hid (Drew w w3) := by obtain ⟨c1, rfl⟩ := hd3; exact hdr2.out.step c1
      have c1 : w3.cell? ⟨g, 1, none⟩ = some (.pointer (some ⟨s.gh, 0, none⟩)) := hst3.out.list.at_ rfl
      clear hd3 hst2 hks2 hdr2
      obtain ⟨y, hy⟩ : ∃ y, orderL k v d.e.k d.e.v = y := ⟨_, rfl⟩
      rw [hy]
      have HY := Lib.hid hy
      rcases orderL_three k d.e.k v d.e.v with h3 | h3 | h3
      · obtain rfl : y = -1 := by omega
        have hpos := pos_of_lt OK.out k v j d HNJ.out h3
        clear hy h3
        by_cases hl0 : l = 0
        · subst hl0
          have hpj := nx_zero HF.out HJ.out
          have hpp : s.pos k v = p := by omega
          have hhit := hit_of (s := s) (k := k) (v := v) (d := d) (by rw [hpp, hpj]; exact HNJ.out)
          rw [HY.out] at hhit
          have hfin : nearV s k v true false = befP s p ∧ (false && s.hit k v) = false := by
            unfold nearV
            rw [hhit, hpp]
            exact ⟨rfl, rfl⟩
          have e0 : (((0 : Nat) : Int)) = (0 : Int) := rfl
          rw [e0]
          have HPP := Lib.hid (And.intro hpp (And.intro hhit hpj))
          clear hpj hpp hhit e0 hpos
          rcases bef_walk s OK.out p hp' with ⟨h0, e1, e2⟩ | ⟨d2, hd2, h0, hne, e1, e2⟩
          · rw [e1]
            rw [e2] at hfin
            have hpe := ptr_same w3 s.gh
            have HFIN := Lib.hid hfin
            clear e1 e2 hfin
            go_wp2
            go_ret2
            exact ⟨hdr3.out, by rw [HFIN.out.1, HFIN.out.2]; rfl⟩
          · rw [e1]
            rw [e2] at hfin
            have HD2 := Lib.hid hd2
            have hpe := ptr_other (hst3.out.nodes _ _ hd2) hst3.out.head hne
            have HFIN := Lib.hid hfin
            clear e1 e2 hd2 hfin
            go_wp2
            go_ret2
            exact ⟨hdr3.out, by rw [HFIN.out.1, HFIN.out.2]; rfl⟩
        · obtain ⟨l', rfl⟩ : ∃ l', l = l' + 1 := ⟨l - 1, by omega⟩
          have e0 : (0 : Int) < ((l' + 1 : Nat) : Int) := by omega
          obtain ⟨c3, hc3⟩ := hdr3.out
          have HC3 := Lib.hid hc3
          clear hc3
          go_wp2
          have hqq := hq.out
          rw [Nat.succ_mul] at hqq
          obtain ⟨gkO, rfl⟩ : ∃ q, gk = q + 1 := ⟨gk - 1, by omega⟩
          go_roundg gkO
          case measure => omega
          case rel => exact ⟨p, l', c3, rfl, by go_num, by omega, hp, by show _ ≤ _; omega, hv.out.lower (by omega), HC3.out⟩
      · obtain rfl : y = 0 := by omega
        have hpos := pos_of_eq OK.out k v j d HNJ.out h3
        have hhit := hit_of (s := s) (k := k) (v := v) (d := d) (by rw [hpos]; exact HNJ.out)
        rw [h3] at hhit
        clear hy h3
        by_cases hl0 : l = 0
        · subst hl0
          have hpj := nx_zero HF.out HJ.out
          have hpp : s.pos k v = p := by omega
          have hfin : nearV s k v true false = befP s p ∧ (false && s.hit k v) = false := by
            unfold nearV
            rw [hhit, hpp]
            exact ⟨rfl, rfl⟩
          have e0 : (((0 : Nat) : Int)) = (0 : Int) := rfl
          rw [e0]
          have HPP := Lib.hid (And.intro hpp (And.intro hhit (And.intro hpj hpos)))
          clear hpj hpp hhit e0 hpos
          rcases bef_walk s OK.out p hp' with ⟨h0, e1, e2⟩ | ⟨d2, hd2, h0, hne, e1, e2⟩
          · rw [e1]
            rw [e2] at hfin
            have hpe := ptr_same w3 s.gh
            have HFIN := Lib.hid hfin
            clear e1 e2 hfin
            go_wp2
            go_ret2
            exact ⟨hdr3.out, by rw [HFIN.out.1, HFIN.out.2]; rfl⟩
          · rw [e1]
            rw [e2] at hfin
            have HD2 := Lib.hid hd2
            have hpe := ptr_other (hst3.out.nodes _ _ hd2) hst3.out.head hne
            have HFIN := Lib.hid hfin
            clear e1 e2 hd2 hfin
            go_wp2
            go_ret2
            exact ⟨hdr3.out, by rw [HFIN.out.1, HFIN.out.2]; rfl⟩
        · have HPP := Lib.hid (And.intro hpos hhit)
          clear hpos hhit
          obtain ⟨l', rfl⟩ : ∃ l', l = l' + 1 := ⟨l - 1, by omega⟩
          have e0 : (0 : Int) < ((l' + 1 : Nat) : Int) := by omega
          obtain ⟨c3, hc3⟩ := hdr3.out
          have HC3 := Lib.hid hc3
          clear hc3
          go_wp2
          have hqq := hq.out
          rw [Nat.succ_mul] at hqq
          obtain ⟨gkO, rfl⟩ : ∃ q, gk = q + 1 := ⟨gk - 1, by omega⟩
          go_roundg gkO
          case measure => omega
          case rel => exact ⟨p, l', c3, rfl, by go_num, by omega, hp, by show _ ≤ _; omega, hv.out.lower (by omega), HC3.out⟩
      · obtain rfl : y = 1 := by omega
        have hlt := pos_of_gt OK.out k v j d HNJ.out h3
        obtain ⟨c3, hc3⟩ := hdr3.out
        have HC3 := Lib.hid hc3
        clear hy h3 hc3
        go_wp2
        have hqq := hq.out
        obtain ⟨gkO, rfl⟩ : ∃ q, gk = q + 1 := ⟨gk - 1, by omega⟩
        go_roundg gkO
        case measure => omega
        case rel => exact ⟨j + 1, l, c3, (plcP_succ s j d HNJ.out).symm, rfl, hl, hlt, by show _ ≤ _; omega, .inr ⟨d, by simpa using HNJ.out, HJ.out.2.2.2 d HNJ.out⟩, HC3.out⟩
end Go.Proofs.Ytanmgkpgfmkobaa

/- A skip list: what a new node, and a new value, do to it. -/
namespace Go.Proofs.Ytanmgkpgfmkobaa
open Go.RowKit
set_option linter.unusedVariables false
set_option linter.unusedSimpArgs false
/-- A list with one more node, seen below a level alone. -/
def insL (s : SkA) (i : Nat) (x : Nd) (l : Nat) : List Nd := s.ns.take i ++ x.upto l :: s.ns.drop i
theorem insL_lo (s : SkA) (i : Nat) (x : Nd) (l j : Nat) (hi : i ≤ s.ns.length) (hj : j < i) : (insL s i x l)[j]? = s.ns[j]? := by
  unfold insL
  rw [List.getElem?_append_left (by rw [List.length_take]; omega), List.getElem?_take_of_lt hj]
theorem insL_at (s : SkA) (i : Nat) (x : Nd) (l : Nat) (hi : i ≤ s.ns.length) : (insL s i x l)[i]? = some (x.upto l) := by
  unfold insL
  rw [List.getElem?_append_right (by rw [List.length_take]; omega), List.length_take, Nat.min_eq_left hi, Nat.sub_self]
  rfl
theorem insL_hi (s : SkA) (i : Nat) (x : Nd) (l j : Nat) (hi : i ≤ s.ns.length) (hj : i < j) : (insL s i x l)[j]? = s.ns[j - 1]? := by
  unfold insL
  obtain ⟨q, rfl⟩ : ∃ q, j = i + 1 + q := ⟨j - (i + 1), by omega⟩
  rw [List.getElem?_append_right (by rw [List.length_take]; omega), List.length_take, Nat.min_eq_left hi, show i + 1 + q - i = q + 1 from by omega, List.getElem?_cons_succ, List.getElem?_drop, show i + 1 + q - 1 = i + q from by omega]
theorem insL_drop_lo (s : SkA) (i : Nat) (x : Nd) (l q : Nat) (hi : i ≤ s.ns.length) (hq : q ≤ i) : (insL s i x l).drop q = (s.ns.take i).drop q ++ x.upto l :: s.ns.drop i := by
  unfold insL
  rw [List.drop_append_of_le_length (by rw [List.length_take]; omega)]
theorem insL_drop_hi (s : SkA) (i : Nat) (x : Nd) (l q : Nat) (hi : i ≤ s.ns.length) (hq : i < q) : (insL s i x l).drop q = s.ns.drop (q - 1) := by
  unfold insL
  obtain ⟨r, rfl⟩ : ∃ r, q = i + 1 + r := ⟨q - (i + 1), by omega⟩
  rw [List.drop_append, List.drop_eq_nil_of_le (by rw [List.length_take]; omega), List.nil_append, List.length_take, Nat.min_eq_left hi, show i + 1 + r - i = r + 1 from by omega, List.drop_succ_cons, List.drop_drop, show i + 1 + r - 1 = i + r from by omega]
theorem take_drop_app (l : List Nd) (i q : Nat) (hq : q ≤ i) (hi : i ≤ l.length) : l.drop q = (l.take i).drop q ++ l.drop i := by
  conv => lhs; rw [← List.take_append_drop i l]
  rw [List.drop_append_of_le_length (by rw [List.length_take]; omega)]
theorem cells_same (d : Nd) (r r' : List Nd) (h : ∀ q, q < 20 → towV d.eff r' q = towV d.eff r q) : d.cells r' = d.cells r := by
  unfold Nd.cells
  rw [tow_same _ _ _ _ h]
theorem cells_set (d : Nd) (r r' : List Nd) (l : Nat) (hl : l < 20) (v : Value) (h : ∀ q, q ≠ l → towV d.eff r' q = towV d.eff r q) (hv : towV d.eff r' l = v) : d.cells r' = (d.cells r).set (4 + l) v := by
  unfold Nd.cells
  rw [tow_set d.eff d.eff r r' l hl h, hv, List.set_append_right _ _ (by simp), List.set_append_left _ _ (by rw [tow_len]; simp; omega)]
  simp
/-- What is known of a level ahead of a new node's coming: the place, and the node behind it. -/
structure Lev (s : SkA) (i l p j : Nat) : Prop where
  nx : Nx s.ns p l j
  lo : p ≤ i
  vis : Vis s p l
  hi : i ≤ j
theorem Lev.skip {s : SkA} {i l p j : Nat} (h : Lev s i l p j) (hi : i ≤ s.ns.length) : ∀ d ∈ (s.ns.take i).drop p, d.eff ≤ l := by
  intro d hd
  obtain ⟨q, hq⟩ := List.mem_iff_getElem?.1 hd
  rw [List.getElem?_drop] at hq
  have hlt := (List.getElem?_eq_some_iff.1 hq).1
  rw [List.length_take] at hlt
  rw [List.getElem?_take_of_lt (by omega)] at hq
  exact h.nx.2.2.1 (p + q) d (by omega) (by have := h.hi; omega) hq
theorem Lev.next {s : SkA} {i l p j : Nat} (h : Lev s i l p j) (hi : i ≤ s.ns.length) : nextAt (s.ns.drop i) l = (match s.ns[j]? with | some d => d.at_ | none => 0) := by
  refine nx_at ⟨h.hi, h.nx.2.1, fun q d h1 h2 hd => h.nx.2.2.1 q d (by have := h.lo; omega) h2 hd, h.nx.2.2.2⟩
theorem Lev.seen {s : SkA} {i l p j : Nat} (h : Lev s i l p j) (hi : i ≤ s.ns.length) (q : Nat) (hq : q < p) : ∃ d ∈ (s.ns.take i).drop q, l < d.eff := by
  rcases h.vis with h0 | ⟨d, hd, hs⟩
  · omega
  · refine ⟨d, ?_, hs⟩
    have hlo := h.lo
    refine List.mem_of_getElem? (i := p - 1 - q) ?_
    rw [List.getElem?_drop, List.getElem?_take_of_lt (by omega), show q + (p - 1 - q) = p - 1 from by omega]
    exact hd
/-- The towers of the place turn, no others. -/
theorem tow_step_at {s : SkA} {i l p j : Nat} (x : Nd) (e : Nat) (h : Lev s i l p j) (hi : i ≤ s.ns.length) (he : l < e) : towV e ((insL s i x (l + 1)).drop p) l = .int .u32 x.at_ := by
  rw [insL_drop_lo s i x _ p hi h.lo]
  exact towV_up_here e _ _ x l (h.skip hi) he
theorem tow_step_other {s : SkA} {i l : Nat} (x : Nd) (e q r : Nat) (hi : i ≤ s.ns.length) (hr : r ≤ i) (hq : q ≠ l) : towV e ((insL s i x (l + 1)).drop r) q = towV e ((insL s i x l).drop r) q := by
  rw [insL_drop_lo s i x _ r hi hr, insL_drop_lo s i x _ r hi hr]
  exact towV_up_other e _ _ x l q hq
theorem tow_step_far {s : SkA} {i l p j : Nat} (x : Nd) (e r : Nat) (h : Lev s i l p j) (hi : i ≤ s.ns.length) (hr : r ≤ i) (hne : r ≠ p) (hv : l < e → r ≤ p) : towV e ((insL s i x (l + 1)).drop r) l = towV e ((insL s i x l).drop r) l := by
  rw [insL_drop_lo s i x _ r hi hr, insL_drop_lo s i x _ r hi hr]
  by_cases he : l < e
  · have := hv he
    exact towV_up_seen e _ _ x l (h.seen hi r (by omega))
  · exact towV_up_low e _ _ x l (by omega)
end Go.Proofs.Ytanmgkpgfmkobaa

/- A skip list in memory: a node comes into it. -/
namespace Go.Proofs.Ytanmgkpgfmkobaa
open Go.RowKit
set_option linter.unusedVariables false
set_option linter.unusedSimpArgs false
section
variable {w w' : World} {g B : Nat} {s t : SkA}
theorem own_five (ok : SkOk g B s) : g ≠ s.ga ∧ g ≠ s.gb ∧ g ≠ s.gm ∧ g ≠ s.gh ∧ s.gh ≠ s.ga ∧ s.gh ≠ s.gb ∧ s.gh ≠ s.gm := by
  have h1 := ok.own
  simp only [List.nodup_cons, List.mem_cons, not_or] at h1
  obtain ⟨⟨a1, a2, a3, a4, _⟩, ⟨b1, b2, b3, _⟩, ⟨c1, c2, _⟩, ⟨d1, _⟩, _⟩ := h1
  exact ⟨a1, a2, a3, a4, fun e => b3 e.symm, fun e => c2 e.symm, fun e => d1 e.symm⟩
theorem own_node (ok : SkOk g B s) {j : Nat} {d : Nd} (h : s.ns[j]? = some d) : d.blk ≠ g ∧ d.blk ≠ s.ga ∧ d.blk ≠ s.gb ∧ d.blk ≠ s.gm ∧ d.blk ≠ s.gh := by
  have h1 := ok.own
  have hm : d.blk ∈ s.ns.map Nd.blk := List.mem_map_of_mem (List.mem_of_getElem? h)
  simp only [List.nodup_cons, List.mem_cons, not_or] at h1
  obtain ⟨⟨a1, a2, a3, a4, a5⟩, ⟨b1, b2, b3, b4⟩, ⟨c1, c2, c3⟩, ⟨d1, d2⟩, ⟨e1, e2⟩⟩ := h1
  exact ⟨fun e => a5 (e ▸ hm), fun e => b4 (e ▸ hm), fun e => c3 (e ▸ hm), fun e => d2 (e ▸ hm), fun e => e1 (e ▸ hm)⟩
theorem own_two (ok : SkOk g B s) (i j : Nat) {d e : Nd} (h : s.ns[i]? = some d) (k : s.ns[j]? = some e) (hne : i ≠ j) : d.blk ≠ e.blk := by
  have h1 := ok.own
  simp only [List.nodup_cons] at h1
  have h2 : (s.ns.map Nd.blk).Nodup := h1.2.2.2.2.2
  intro he
  have e1 : (s.ns.map Nd.blk)[i]? = some d.blk := by rw [List.getElem?_map, h]; rfl
  have e2 : (s.ns.map Nd.blk)[j]? = some d.blk := by rw [List.getElem?_map, k, he]; rfl
  obtain ⟨g1, f1⟩ := List.getElem?_eq_some_iff.1 e1
  obtain ⟨g2, f2⟩ := List.getElem?_eq_some_iff.1 e2
  have hp := List.pairwise_iff_getElem.1 h2
  rcases Nat.lt_or_gt_of_ne hne with h3 | h3
  · exact hp i j g1 g2 h3 (f1.trans f2.symm)
  · exact hp j i g2 g1 h3 (f2.trans f1.symm)
theorem ran_five (ok : SkOk g B s) {b o : Nat} (h : s.ra = some ⟨b, o, none⟩) : b ≠ g ∧ b ≠ s.ga ∧ b ≠ s.gb ∧ b ≠ s.gm ∧ b ≠ s.gh := by
  have h1 := (ok.ran b o h).2
  simp only [List.mem_cons, not_or] at h1
  obtain ⟨a1, a2, a3, a4, a5, _⟩ := h1
  exact ⟨a1, a2, a3, a4, a5⟩
theorem ran_node (ok : SkOk g B s) {b o j : Nat} {d : Nd} (h : s.ra = some ⟨b, o, none⟩) (k : s.ns[j]? = some d) : b ≠ d.blk := by
  have h1 := (ok.ran b o h).2
  simp only [List.mem_cons, not_or] at h1
  exact fun e => h1.2.2.2.2.2 (e ▸ List.mem_map_of_mem (List.mem_of_getElem? k))
theorem word_upto (x : Nd) (l : Nat) (r : List Nd) : (x.upto l).cells r = [.int .u64 x.word, .int .u32 x.ko, .int .u16 x.key.length, .int .u16 x.ht] ++ (tow l r ++ [.int .u32 x.at_]) := rfl
theorem st_new {n' k' i : Nat} {cs' : List Value} {m' : Int → Option Value} {x : Nd} (h : SkSt w g s) (ok : SkOk g B s) (hi : i ≤ s.ns.length) (hf : Frm [s.ga, s.gb, s.gm] w w') (ha : Arn w' s.ga s.gb s.gm n' cs' k' m')
    (hx : Blk w' x.blk 130 ((x.upto 0).cells (s.ns.drop i))) : SkSt w' g { s with n := n', cs := cs', k := k', m := m', ns := insL s i x 0 } := by
  obtain ⟨f1, f2, f3, f4, f5, f6, f7⟩ := own_five ok
  have tw : ∀ e r, r ≤ i → ∀ q, q < 20 → towV e ((insL s i x 0).drop r) q = towV e (s.ns.drop r) q := fun e r hr q _ => by
    rw [insL_drop_lo s i x 0 r hi hr, towV_come e _ _ (x.upto 0) rfl q, ← take_drop_app s.ns i r hr hi]
  refine ⟨h.list.frm hf (by simp; exact ⟨f1, f2, f3⟩), ha, ?_, ?_, h.rand.frm hf (fun b o e => by have := ran_five ok e; simp; exact ⟨this.2.1, this.2.2.1, this.2.2.2.1⟩)⟩
  · have hh := h.head.frm hf (by simp; exact ⟨f5, f6, f7⟩)
    have e : ({ s with n := n', cs := cs', k := k', m := m', ns := insL s i x 0 } : SkA).headC = s.headC := by
      unfold SkA.headC
      show s.hc ++ (tow 20 (insL s i x 0) ++ _) = _
      rw [tow_same 20 20 s.ns (insL s i x 0) (fun q hq => by have := tw 20 0 (by omega) q hq; simpa using this)]
    rw [e]
    exact hh
  · intro j d hj
    show Blk w' d.blk _ (d.cells ((insL s i x 0).drop (j + 1)))
    replace hj : (insL s i x 0)[j]? = some d := hj
    rcases Nat.lt_trichotomy j i with h1 | h1 | h1
    · rw [insL_lo s i x 0 j hi h1] at hj
      have hb := h.nodes j d hj
      obtain ⟨n1, n2, n3, n4, n5⟩ := own_node ok hj
      have hb' := hb.frm hf (by simp; exact ⟨n2, n3, n4⟩)
      rw [cells_same d (s.ns.drop (j + 1)) ((insL s i x 0).drop (j + 1)) (fun q hq => tw _ _ (by omega) q hq)]
      exact hb'
    · subst h1
      rw [insL_at s j x 0 hi] at hj
      injection hj with hj
      subst hj
      rw [insL_drop_hi s j x 0 (j + 1) hi (by omega)]
      exact hx
    · rw [insL_hi s i x 0 j hi h1] at hj
      have hb := h.nodes (j - 1) d hj
      obtain ⟨n1, n2, n3, n4, n5⟩ := own_node ok hj
      have hb' := hb.frm hf (by simp; exact ⟨n2, n3, n4⟩)
      rw [insL_drop_hi s i x 0 (j + 1) hi (by omega)]
      rw [show j - 1 + 1 = j + 1 - 1 from by omega] at hb'
      exact hb'
theorem st_turn {turn' : Nat} (h : SkSt w g s) (ok : SkOk g B s) (hf : Frm [g] w w') (hb : Blk w' g 119 ({ s with turn := turn' } : SkA).cells) : SkSt w' g { s with turn := turn' } := by
  obtain ⟨f1, f2, f3, f4, f5, f6, f7⟩ := own_five ok
  refine ⟨hb, h.arn.frm hf (by simpa using f1.symm) (by simpa using f2.symm) (by simpa using f3.symm), h.head.frm hf (by simpa using f4.symm), fun j d hj => (h.nodes j d hj).frm hf (by simpa using (own_node ok hj).1), h.rand.frm hf (fun b o e => by simpa using (ran_five ok e).1)⟩
theorem st_height {H : Nat} (h : SkSt w g s) (ok : SkOk g B s) : SkSt (w.setCell ⟨g, 0, none⟩ (.int .i32 H)) g { s with height := H } := by
  have hf := Frm.set w ⟨g, 0, none⟩ (.int .i32 H)
  obtain ⟨f1, f2, f3, f4, f5, f6, f7⟩ := own_five ok
  exact ⟨h.list.set_ 0 (.int .i32 H), h.arn.frm hf (by simpa using f1.symm) (by simpa using f2.symm) (by simpa using f3.symm), h.head.frm hf (by simpa using f4.symm), fun j d hj => (h.nodes j d hj).frm hf (by simpa using (own_node ok hj).1), h.rand.frm hf (fun b o e => by simpa using (ran_five ok e).1)⟩
/-- A node is seen at one more level. -/
theorem st_step {i l p j : Nat} {x : Nd} (h : SkSt w g t) (ok : SkOk g B t) (ht : t.ns = insL s i x l) (hg : t.gh = s.gh) (hi : i ≤ s.ns.length) (hl : l < 20) (lev : Lev s i l p j) :
    SkSt ((w.setCell ⟨x.blk, 4 + l, none⟩ (.int .u32 (nextAt (s.ns.drop i) l))).setCell ⟨plcB s p, 4 + l, none⟩ (.int .u32 x.at_)) g { t with ns := insL s i x (l + 1) } := by
  obtain ⟨f1, f2, f3, f4, f5, f6, f7⟩ := own_five ok
  have hxi : t.ns[i]? = some (x.upto l) := by rw [ht]; exact insL_at s i x l hi
  obtain ⟨x1, x2, x3, x4, x5⟩ := own_node ok hxi
  have x1' : x.blk ≠ g := x1
  have x2' : x.blk ≠ t.ga := x2
  have x3' : x.blk ≠ t.gb := x3
  have x4' : x.blk ≠ t.gm := x4
  have x5' : x.blk ≠ t.gh := x5
  have hpi := lev.lo
  obtain ⟨c, hc⟩ : ∃ c, plcB s p = c := ⟨_, rfl⟩
  have hcc : (p = 0 ∧ c = t.gh) ∨ ∃ d : Nd, 0 < p ∧ t.ns[p - 1]? = some d ∧ c = d.blk ∧ l < d.eff := by
    rcases lev.vis with h0 | ⟨d, hd, hs⟩
    · subst h0; left; rw [← hc, hg]; exact ⟨rfl, rfl⟩
    · by_cases h0 : p = 0
      · subst h0; left; rw [← hc, hg]; exact ⟨rfl, rfl⟩
      · right
        refine ⟨d, by omega, by rw [ht, insL_lo s i x l (p - 1) hi (by omega)]; exact hd, ?_, hs⟩
        rw [← hc]; unfold plcB; rw [if_neg h0, hd]
  have c0 : c ≠ g ∧ c ≠ t.ga ∧ c ≠ t.gb ∧ c ≠ t.gm ∧ c ≠ x.blk := by
    rcases hcc with ⟨_, rfl⟩ | ⟨d, h0, hd, rfl, _⟩
    · exact ⟨f4.symm, f5, f6, f7, x5'.symm⟩
    · obtain ⟨a1, a2, a3, a4, a5⟩ := own_node ok hd
      exact ⟨a1, a2, a3, a4, own_two ok (p - 1) i (e := x.upto l) hd hxi (by omega)⟩
  rw [hc]
  have hfr : Frm [x.blk, c] w ((w.setCell ⟨x.blk, 4 + l, none⟩ (.int .u32 (nextAt (s.ns.drop i) l))).setCell ⟨c, 4 + l, none⟩ (.int .u32 x.at_)) := ((Frm.refl _ w).andSet _ _ (.inl (by simp))).andSet _ _ (.inl (by simp))
  refine ⟨h.list.frm hfr (by simp; exact ⟨x1'.symm, c0.1.symm⟩), h.arn.frm hfr (by simp; exact ⟨x2'.symm, c0.2.1.symm⟩) (by simp; exact ⟨x3'.symm, c0.2.2.1.symm⟩) (by simp; exact ⟨x4'.symm, c0.2.2.2.1.symm⟩), ?_, ?_, h.rand.frm hfr (fun b o e => ?_)⟩
  · have hh := h.head
    rcases hcc with ⟨h0, hcg⟩ | ⟨d, h0, hd, hcd, _⟩
    · subst h0
      have e : ({ t with ns := insL s i x (l + 1) } : SkA).headC = t.headC.set (4 + l) (.int .u32 x.at_) := by
        unfold SkA.headC
        show t.hc ++ (tow 20 (insL s i x (l + 1)) ++ _) = _
        have hts := tow_set 20 20 t.ns (insL s i x (l + 1)) l hl (fun q hq => by have := tow_step_other (s := s) (i := i) (l := l) x 20 q 0 hi (by omega) hq; rw [ht]; simpa using this)
        have hat := tow_step_at x 20 lev hi (by omega)
        rw [List.drop_zero] at hat
        rw [hts, hat, List.set_append_right _ _ (by rw [ok.hcl]; omega), ok.hcl, List.set_append_left _ _ (by rw [tow_len]; omega), show 4 + l - 4 = l from by omega]
      rw [e, hcg]
      exact ((hh.far (p := ⟨x.blk, 4 + l, none⟩) x5'.symm _)).set_ (4 + l) _
    · have e : ({ t with ns := insL s i x (l + 1) } : SkA).headC = t.headC := by
        unfold SkA.headC
        show t.hc ++ (tow 20 (insL s i x (l + 1)) ++ _) = _
        rw [tow_same 20 20 t.ns (insL s i x (l + 1)) (fun q hq => ?_)]
        rw [ht]
        by_cases hql : q = l
        · subst hql
          have := tow_step_far x 20 0 lev hi (by omega) (by omega) (fun _ => by omega)
          simpa using this
        · have := tow_step_other (s := s) (i := i) (l := l) x 20 q 0 hi (by omega) hql
          simpa using this
      rw [e]
      exact hh.frm hfr (by simp; exact ⟨x5'.symm, fun e => (own_node ok hd).2.2.2.2 (by rw [← hcd]; exact e.symm)⟩)
  · intro q d hq
    show Blk _ d.blk _ (d.cells ((insL s i x (l + 1)).drop (q + 1)))
    replace hq : (insL s i x (l + 1))[q]? = some d := hq
    rcases Nat.lt_trichotomy q i with h1 | h1 | h1
    · rw [insL_lo s i x _ q hi h1] at hq
      have htq : t.ns[q]? = some d := by rw [ht, insL_lo s i x l q hi h1]; exact hq
      have hb := h.nodes q d htq
      have hdx : d.blk ≠ x.blk := own_two ok q i (e := x.upto l) htq hxi (by omega)
      rw [ht] at hb
      by_cases hqp : q + 1 = p
      · have hcd : c = d.blk ∧ l < d.eff := by
          rcases hcc with ⟨h0, _⟩ | ⟨d', h0, hd', hcd, hs⟩
          · omega
          · rw [show p - 1 = q from by omega, htq] at hd'
            injection hd' with hd'
            rw [hd']; exact ⟨hcd, hs⟩
        rw [cells_set d ((insL s i x l).drop (q + 1)) ((insL s i x (l + 1)).drop (q + 1)) l hl (.int .u32 x.at_) (fun r hr => tow_step_other x _ r _ hi (by omega) hr) (by rw [hqp]; exact tow_step_at x _ lev hi hcd.2), hcd.1]
        exact (hb.far (p := ⟨x.blk, 4 + l, none⟩) hdx _).set_ (4 + l) _
      · have hcd : c ≠ d.blk := by
          rcases hcc with ⟨h0, hcg⟩ | ⟨d', h0, hd', hcd, hs⟩
          · rw [hcg]; exact (own_node ok htq).2.2.2.2.symm
          · rw [hcd]; exact own_two ok (p - 1) q hd' htq (by omega)
        have hce : d.cells ((insL s i x (l + 1)).drop (q + 1)) = d.cells ((insL s i x l).drop (q + 1)) := by
          refine cells_same d _ _ (fun r hr => ?_)
          by_cases hrl : r = l
          · subst hrl
            refine tow_step_far x _ _ lev hi (by omega) hqp (fun he => ?_)
            rcases Nat.lt_or_ge q p with h2 | h2
            · omega
            · have := lev.skip hi d (List.mem_of_getElem? (i := q - p) (by rw [List.getElem?_drop, List.getElem?_take_of_lt (by omega), show p + (q - p) = q from by omega]; exact hq))
              omega
          · exact tow_step_other x _ r _ hi (by omega) hrl
        rw [hce]
        exact hb.frm hfr (by simp; exact ⟨hdx, hcd.symm⟩)
    · subst h1
      rw [insL_at s q x _ hi] at hq
      injection hq with hq
      subst hq
      have hb := h.nodes q _ hxi
      rw [ht, insL_drop_hi s q x l (q + 1) hi (by omega), word_upto] at hb
      rw [insL_drop_hi s q x (l + 1) (q + 1) hi (by omega), word_upto, show q + 1 - 1 = q from by omega] at *
      have hts := tow_set l (l + 1) (s.ns.drop q) (s.ns.drop q) l hl (fun r hr => towV_up_own_other _ l r hr)
      rw [towV_up_own] at hts
      rw [hts]
      have hb2 := (Blk.set_ hb (4 + l) (.int .u32 (nextAt (s.ns.drop q) l))).far (p := ⟨c, 4 + l, none⟩) c0.2.2.2.2.symm (.int .u32 x.at_)
      rw [List.set_append_right _ _ (by simp), List.set_append_left _ _ (by rw [tow_len]; simp; omega)] at hb2
      have e4 : 4 + l - [Value.int .u64 x.word, .int .u32 x.ko, .int .u16 x.key.length, .int .u16 x.ht].length = l := by simp
      rw [e4] at hb2
      exact hb2
    · rw [insL_hi s i x _ q hi h1] at hq
      have htq : t.ns[q]? = some d := by rw [ht, insL_hi s i x l q hi h1]; exact hq
      have hb := h.nodes q d htq
      rw [ht, insL_drop_hi s i x l (q + 1) hi (by omega)] at hb
      rw [insL_drop_hi s i x (l + 1) (q + 1) hi (by omega)]
      refine hb.frm hfr ?_
      have hdx : d.blk ≠ x.blk := own_two ok q i (e := x.upto l) htq hxi (by omega)
      have hcd : c ≠ d.blk := by
        rcases hcc with ⟨h0, hcg⟩ | ⟨d', h0, hd', hcd, hs⟩
        · rw [hcg]; exact (own_node ok htq).2.2.2.2.symm
        · rw [hcd]; exact own_two ok (p - 1) q hd' htq (by omega)
      simp
      exact ⟨hdx, hcd.symm⟩
  · have h5 := ran_five ok e
    have hx := ran_node ok e hxi
    have hcc2 : b ≠ c := by
      rcases hcc with ⟨h0, hcg⟩ | ⟨d', h0, hd', hcd, hs⟩
      · rw [hcg]; exact h5.2.2.2.2
      · rw [hcd]; exact ran_node ok e hd'
    simp
    exact ⟨hx, hcc2⟩
end
end Go.Proofs.Ytanmgkpgfmkobaa

/- A skip list: what holds of it when a node has come, or a value has been put in a node. -/
namespace Go.Proofs.Ytanmgkpgfmkobaa
open Go.RowKit
set_option linter.unusedVariables false
set_option linter.unusedSimpArgs false
theorem take_splice0 (cs a : List Value) (off n0 : Nat) (h : n0 ≤ off) (hl : off ≤ cs.length) : (splice cs off a).take n0 = cs.take n0 := by
  unfold splice
  rw [List.take_append_of_le_length (by rw [List.length_take]; omega), List.take_take, Nat.min_eq_left h]
theorem part_of_take {cs ds : List Value} {n0 o k : Nat} (h : ds.take n0 = cs.take n0) (ho : o + k ≤ n0) : (ds.drop o).take k = (cs.drop o).take k := by
  have e : ∀ l : List Value, (l.drop o).take k = ((l.take n0).drop o).take k := fun l => by
    rw [List.drop_take, List.take_take, Nat.min_eq_left (by omega)]
  rw [e ds, e cs, h]
theorem part_splice (cs a : List Value) (off : Nat) (hl : off ≤ cs.length) : ((splice cs off a).drop off).take a.length = a := by
  unfold splice
  rw [List.drop_append_of_le_length (by rw [List.length_take]; omega), List.drop_eq_nil_of_le (by rw [List.length_take]; omega), List.nil_append, List.take_left' rfl]
theorem putE_miss (s : SkA) (x : Nd) (l : Nat) (h : s.hit x.e.k x.e.v = false) : (insL s (s.pos x.e.k x.e.v) x l).map Nd.e = putE (s.ns.map Nd.e) x.e := by
  unfold putE
  have h' : hitE (s.ns.map Nd.e) x.e.k x.e.v = false := h
  rw [h']
  unfold insL SkA.pos
  rw [List.map_append, List.map_cons, List.map_take, List.map_drop]
  rfl
theorem mem_insL {s : SkA} {i l : Nat} {x d : Nd} (h : d ∈ insL s i x l) : d = x.upto l ∨ d ∈ s.ns := by
  unfold insL at h
  rcases List.mem_append.1 h with h | h
  · exact .inr (List.mem_of_mem_take h)
  · rcases List.mem_cons.1 h with h | h
    · exact .inl h
    · exact .inr (List.mem_of_mem_drop h)
theorem nodup_ins {l : List Nat} {i : Nat} {b : Nat} (h : l.Nodup) (hb : b ∉ l) : (l.take i ++ b :: l.drop i).Nodup := by
  have hp : (l.take i ++ b :: l.drop i).Perm (b :: l) := by
    have := List.perm_middle (a := b) (l₁ := l.take i) (l₂ := l.drop i)
    rwa [List.take_append_drop] at this
  rw [hp.nodup_iff]
  exact List.nodup_cons.2 ⟨hb, h⟩
theorem ok_ins {g B : Nat} {s : SkA} (ok : SkOk g B s) (x : Nd) (l n' turn' height' : Nat) (cs' : List Value) (hh : s.hit x.e.k x.e.v = false) (he : EntOk x.e)
    (hx1 : x.blk ∉ g :: s.ga :: s.gb :: s.gm :: s.gh :: s.ns.map Nd.blk) (hx2 : B ≤ x.blk) (hx3 : ∀ b o, s.ra = some ⟨b, o, none⟩ → b ≠ x.blk)
    (ha1 : s.n ≤ x.at_) (ha2 : x.at_ < n') (hn : n' ≤ 900000) (hcs : cs'.take s.n = s.cs.take s.n) (hk1 : x.ko + x.key.length ≤ n') (hk2 : (cs'.drop x.ko).take x.key.length = nums .u8 x.key)
    (hv1 : x.vo + x.val.length ≤ n') (hv2 : (cs'.drop x.vo).take x.val.length = nums .u8 x.val) (ht : turn' ≤ n' + 20) (hh1 : s.height ≤ height') (hh2 : l ≤ height') (hh3 : height' ≤ 20) :
    SkOk g B { s with n := n', cs := cs', k := s.k + 1, m := updM s.m x.at_ (some (.pointer (some ⟨x.blk, 0, none⟩))), turn := turn', height := height', ns := insL s (s.pos x.e.k x.e.v) x l } := by
  have hn0 := ok.n0
  have hbl : ((insL s (s.pos x.e.k x.e.v) x l).map Nd.blk) = (s.ns.map Nd.blk).take (s.pos x.e.k x.e.v) ++ x.blk :: (s.ns.map Nd.blk).drop (s.pos x.e.k x.e.v) := by
    unfold insL
    rw [List.map_append, List.map_cons, List.map_take, List.map_drop]
    rfl
  have hsub : ∀ b, b ∈ (insL s (s.pos x.e.k x.e.v) x l).map Nd.blk → b = x.blk ∨ b ∈ s.ns.map Nd.blk := by
    intro b hb
    obtain ⟨d, hd, rfl⟩ := List.mem_map.1 hb
    rcases mem_insL hd with rfl | hd
    · exact .inl rfl
    · exact .inr (List.mem_map_of_mem hd)
  have hx1' := hx1
  simp only [List.mem_cons, not_or] at hx1'
  obtain ⟨y1, y2, y3, y4, y5, y6⟩ := hx1'
  have h1 := ok.own
  simp only [List.nodup_cons, List.mem_cons, not_or] at h1
  obtain ⟨⟨a1, a2, a3, a4, a5⟩, ⟨b1, b2, b3, b4⟩, ⟨c1, c2, c3⟩, ⟨d1, d2⟩, ⟨e1, e2⟩⟩ := h1
  have hno : ∀ b, b ∉ s.ns.map Nd.blk → x.blk ≠ b → b ∉ (insL s (s.pos x.e.k x.e.v) x l).map Nd.blk := fun b hb hne h => by
    rcases hsub b h with h | h
    · exact hne h.symm
    · exact hb h
  refine ⟨ok.hcl, ?_, ?_, ?_, ok.rn1, ok.rn2, ht, by have := ok.k; show s.k + 1 ≤ n'; omega, by show 1 ≤ n'; omega, hn, ?_, ?_, ?_, ?_, ?_, ?_, by have := ok.h1; show 1 ≤ height'; omega, hh3⟩
  · show (g :: s.ga :: s.gb :: s.gm :: s.gh :: (insL s (s.pos x.e.k x.e.v) x l).map Nd.blk).Nodup
    simp only [List.nodup_cons, List.mem_cons, not_or]
    exact ⟨⟨a1, a2, a3, a4, hno g a5 y1⟩, ⟨b1, b2, b3, hno _ b4 y2⟩, ⟨c1, c2, hno _ c3 y3⟩, ⟨d1, hno _ d2 y4⟩, hno _ e1 y5, by rw [hbl]; exact nodup_ins e2 y6⟩
  · intro b hb
    have hbb := ok.base b
    replace hb : b ∈ g :: s.ga :: s.gb :: s.gm :: s.gh :: (insL s (s.pos x.e.k x.e.v) x l).map Nd.blk := hb
    simp only [List.mem_cons] at hb hbb
    rcases hb with h | h | h | h | h | h
    · exact hbb (.inl h)
    · exact hbb (.inr (.inl h))
    · exact hbb (.inr (.inr (.inl h)))
    · exact hbb (.inr (.inr (.inr (.inl h))))
    · exact hbb (.inr (.inr (.inr (.inr (.inl h)))))
    · rcases hsub b h with rfl | h
      · exact hx2
      · exact hbb (.inr (.inr (.inr (.inr (.inr h)))))
  · intro b o e
    obtain ⟨r1, r2⟩ := ok.ran b o e
    refine ⟨r1, ?_⟩
    show b ∉ g :: s.ga :: s.gb :: s.gm :: s.gh :: (insL s (s.pos x.e.k x.e.v) x l).map Nd.blk
    simp only [List.mem_cons, not_or] at r2 ⊢
    obtain ⟨z1, z2, z3, z4, z5, z6⟩ := r2
    exact ⟨z1, z2, z3, z4, z5, hno b z6 (hx3 b o e).symm⟩
  · intro d hd
    rcases mem_insL hd with rfl | hd
    · exact ⟨by show updM s.m x.at_ _ (x.at_ : Int) = _; simp [updM]; rfl, by show 0 < x.at_; omega, ha2⟩
    · obtain ⟨p1, p2, p3⟩ := ok.at_ d hd
      refine ⟨?_, p2, by show d.at_ < n'; omega⟩
      show updM s.m x.at_ _ (d.at_ : Int) = _
      rw [← p1]
      unfold updM
      rw [if_neg (by omega)]
  · intro d hd
    rcases mem_insL hd with rfl | hd
    · exact ⟨hk1, hk2⟩
    · obtain ⟨p1, p2⟩ := ok.key d hd
      exact ⟨by show d.ko + d.key.length ≤ n'; omega, by rw [← p2]; exact part_of_take hcs p1⟩
  · intro d hd
    rcases mem_insL hd with rfl | hd
    · exact ⟨hv1, hv2⟩
    · obtain ⟨p1, p2⟩ := ok.val d hd
      exact ⟨by show d.vo + d.val.length ≤ n'; omega, by rw [← p2]; exact part_of_take hcs p1⟩
  · intro d hd
    rcases mem_insL hd with rfl | hd
    · exact he
    · exact ok.ent d hd
  · show SortedE ((insL s (s.pos x.e.k x.e.v) x l).map Nd.e)
    rw [putE_miss s x l hh]
    exact putE_sorted _ _ ok.sorted
  · intro d hd
    rcases mem_insL hd with rfl | hd
    · exact hh2
    · exact Nat.le_trans (ok.eff d hd) hh1
theorem ok_turn {g B turn' : Nat} {s : SkA} (ok : SkOk g B s) (ht : turn' ≤ s.n + 20) : SkOk g B { s with turn := turn' } :=
  ⟨ok.hcl, ok.own, ok.base, ok.ran, ok.rn1, ok.rn2, ht, ok.k, ok.n0, ok.n1, ok.at_, ok.key, ok.val, ok.ent, ok.sorted, ok.eff, ok.h1, ok.h2⟩
/-- The list while a node comes into it. -/
def SkA.put (s : SkA) (turn' n' : Nat) (cs' : List Value) (hm : Nat) (x : Nd) (l : Nat) : SkA :=
  { s with n := n', cs := cs', k := s.k + 1, m := updM s.m x.at_ (some (.pointer (some ⟨x.blk, 0, none⟩))), turn := turn', height := hm, ns := insL s (s.pos x.e.k x.e.v) x l }
/-- A node with another value. -/
def Nd.with (d : Nd) (vo : Nat) (e : Ent) : Nd := { d with vo := vo, e := e }
theorem nextAt_set (ns : List Nd) (i h : Nat) (d d' : Nd) (hd : ns[i]? = some d) (h1 : d'.at_ = d.at_) (h2 : d'.eff = d.eff) (r : Nat) : nextAt ((ns.set i d').drop r) h = nextAt (ns.drop r) h := by
  induction ns generalizing i r with
  | nil => simp
  | cons a ns ih =>
    cases i with
    | zero =>
      simp only [List.getElem?_cons_zero, Option.some.injEq] at hd
      subst hd
      cases r with
      | zero => simp only [List.set_cons_zero, List.drop_zero, nextAt, h1, h2]
      | succ r => simp only [List.set_cons_zero, List.drop_succ_cons]
    | succ i =>
      simp only [List.getElem?_cons_succ] at hd
      cases r with
      | zero =>
        have := ih i hd 0
        simp only [List.drop_zero] at this
        simp only [List.set_cons_succ, List.drop_zero, nextAt, this]
      | succ r => simpa only [List.set_cons_succ, List.drop_succ_cons] using ih i hd r
theorem towV_with (ns : List Nd) (i e q : Nat) (d d' : Nd) (hd : ns[i]? = some d) (h1 : d'.at_ = d.at_) (h2 : d'.eff = d.eff) (r : Nat) : towV e ((ns.set i d').drop r) q = towV e (ns.drop r) q := by
  unfold towV
  rw [nextAt_set ns i q d d' hd h1 h2 r]
theorem putE_hit (s : SkA) (d : Nd) (vo : Nat) (e : Ent) (hd : s.ns[s.pos e.k e.v]? = some d) (hk : d.e.k = e.k) (hv : d.e.v = e.v) : (s.ns.set (s.pos e.k e.v) (d.with vo e)).map Nd.e = putE (s.ns.map Nd.e) e := by
  have h : s.hit e.k e.v = true := by
    rw [hit_of hd, ← hk, ← hv, orderL_self]; rfl
  have h' : hitE (s.ns.map Nd.e) e.k e.v = true := h
  have hl := (List.getElem?_eq_some_iff.1 hd).1
  unfold putE
  rw [h', if_pos rfl, List.map_set, List.set_eq_take_append_cons_drop, if_pos (by rw [List.length_map]; exact hl)]
  rfl
/-- A value is put in a node. -/
theorem st_with {w w' : World} {g B n' : Nat} {s : SkA} {cs' : List Value} (h : SkSt w g s) (ok : SkOk g B s) (i : Nat) (d : Nd) (vo : Nat) (e : Ent) (hd : s.ns[i]? = some d) (hk : d.e.k = e.k) (hv : d.e.v = e.v) (hf : Frm [s.ga, s.gb, d.blk] w w')
    (ha : Arn w' s.ga s.gb s.gm n' cs' s.k s.m) (hb : Blk w' d.blk 130 ((d.cells (s.ns.drop (i + 1))).set 0 (.int .u64 (d.with vo e).word))) : SkSt w' g { s with n := n', cs := cs', ns := s.ns.set i (d.with vo e) } := by
  obtain ⟨f1, f2, f3, f4, f5, f6, f7⟩ := own_five ok
  obtain ⟨x1, x2, x3, x4, x5⟩ := own_node ok hd
  have hil := (List.getElem?_eq_some_iff.1 hd).1
  have tw : ∀ e' r q, towV e' ((s.ns.set i (d.with vo e)).drop r) q = towV e' (s.ns.drop r) q := fun e' r q => towV_with s.ns i e' q d (d.with vo e) hd rfl rfl r
  refine ⟨h.list.frm hf (by simp; exact ⟨f1, f2, x1.symm⟩), ha, ?_, ?_, h.rand.frm hf (fun b o e' => by have h5 := ran_five ok e'; have := ran_node ok e' hd; simp; exact ⟨h5.2.1, h5.2.2.1, this⟩)⟩
  · have hh := h.head.frm hf (by simp; exact ⟨f5, f6, x5.symm⟩)
    have e1 : ({ s with n := n', cs := cs', ns := s.ns.set i (d.with vo e) } : SkA).headC = s.headC := by
      unfold SkA.headC
      show s.hc ++ (tow 20 (s.ns.set i (d.with vo e)) ++ _) = _
      rw [tow_same 20 20 s.ns (s.ns.set i (d.with vo e)) (fun q hq => by have := tw 20 0 q; simpa using this)]
    rw [e1]
    exact hh
  · intro j d' hj
    show Blk w' d'.blk _ (d'.cells ((s.ns.set i (d.with vo e)).drop (j + 1)))
    replace hj : (s.ns.set i (d.with vo e))[j]? = some d' := hj
    rw [cells_same d' (s.ns.drop (j + 1)) _ (fun q hq => tw _ _ q)]
    by_cases hji : i = j
    · subst hji
      rw [List.getElem?_set_self hil] at hj
      injection hj with hj
      subst hj
      have e2 : (d.with vo e).cells (s.ns.drop (i + 1)) = (d.cells (s.ns.drop (i + 1))).set 0 (.int .u64 (d.with vo e).word) := by
        have e3 : (d.with vo e).key = d.key := by unfold Nd.key Nd.with; rw [hk, hv]
        unfold Nd.cells
        rw [e3]
        rfl
      rw [e2]
      exact hb
    · rw [List.getElem?_set_ne hji] at hj
      obtain ⟨n1, n2, n3, n4, n5⟩ := own_node ok hj
      exact (h.nodes j d' hj).frm hf (by simp; exact ⟨n2, n3, own_two ok j i hj hd (fun e => hji e.symm)⟩)
theorem ok_with {g B : Nat} {s : SkA} (ok : SkOk g B s) (d : Nd) (e : Ent) (cs' : List Value) (n' : Nat) (hd : s.ns[s.pos e.k e.v]? = some d) (hk : d.e.k = e.k) (hv : d.e.v = e.v) (he : EntOk e) (hn1 : s.n + (d.with s.n e).val.length ≤ n') (hn : n' ≤ 900000)
    (hcs : cs'.take s.n = s.cs.take s.n) (hv2 : (cs'.drop s.n).take (d.with s.n e).val.length = nums .u8 (d.with s.n e).val) :
    SkOk g B { s with n := n', cs := cs', ns := s.ns.set (s.pos e.k e.v) (d.with s.n e) } := by
  have hil := (List.getElem?_eq_some_iff.1 hd).1
  have hbl : (s.ns.set (s.pos e.k e.v) (d.with s.n e)).map Nd.blk = s.ns.map Nd.blk := by
    rw [List.map_set]
    refine List.ext_getElem? (fun j => ?_)
    by_cases hj : s.pos e.k e.v = j
    · subst hj
      rw [List.getElem?_set_self (by rw [List.length_map]; exact hil), List.getElem?_map, hd]
      rfl
    · rw [List.getElem?_set_ne hj]
  have mem : ∀ d', d' ∈ s.ns.set (s.pos e.k e.v) (d.with s.n e) → d' = d.with s.n e ∨ d' ∈ s.ns := fun d' h => by
    rcases List.mem_or_eq_of_mem_set h with h | h
    · exact .inr h
    · exact .inl h
  have hdm := List.mem_of_getElem? hd
  have hk0 := ok.k
  have ht0 := ok.turn
  have hn0 := ok.n0
  have hkey : (d.with s.n e).key = d.key := by unfold Nd.key Nd.with; rw [hk, hv]
  refine ⟨ok.hcl, ?_, ?_, ?_, ok.rn1, ok.rn2, by show s.turn ≤ n' + 20; omega, by show s.k ≤ n'; omega, by show 1 ≤ n'; omega, hn, ?_, ?_, ?_, ?_, ?_, ?_, ok.h1, ok.h2⟩
  · show (g :: s.ga :: s.gb :: s.gm :: s.gh :: (s.ns.set (s.pos e.k e.v) (d.with s.n e)).map Nd.blk).Nodup
    rw [hbl]; exact ok.own
  · intro b hb
    replace hb : b ∈ g :: s.ga :: s.gb :: s.gm :: s.gh :: (s.ns.set (s.pos e.k e.v) (d.with s.n e)).map Nd.blk := hb
    rw [hbl] at hb; exact ok.base b hb
  · intro b o er
    show B ≤ b ∧ b ∉ g :: s.ga :: s.gb :: s.gm :: s.gh :: (s.ns.set (s.pos e.k e.v) (d.with s.n e)).map Nd.blk
    rw [hbl]; exact ok.ran b o er
  · intro d' hd'
    rcases mem d' hd' with rfl | h
    · obtain ⟨p1, p2, p3⟩ := ok.at_ d hdm
      exact ⟨p1, p2, by show d.at_ < n'; omega⟩
    · obtain ⟨p1, p2, p3⟩ := ok.at_ d' h
      exact ⟨p1, p2, by show d'.at_ < n'; omega⟩
  · intro d' hd'
    rcases mem d' hd' with rfl | h
    · obtain ⟨p1, p2⟩ := ok.key d hdm
      rw [hkey]
      exact ⟨by show d.ko + d.key.length ≤ n'; omega, by rw [← p2]; exact part_of_take hcs p1⟩
    · obtain ⟨p1, p2⟩ := ok.key d' h
      exact ⟨by show d'.ko + d'.key.length ≤ n'; omega, by rw [← p2]; exact part_of_take hcs p1⟩
  · intro d' hd'
    rcases mem d' hd' with rfl | h
    · exact ⟨hn1, hv2⟩
    · obtain ⟨p1, p2⟩ := ok.val d' h
      exact ⟨by show d'.vo + d'.val.length ≤ n'; omega, by rw [← p2]; exact part_of_take hcs p1⟩
  · intro d' hd'
    rcases mem d' hd' with rfl | h
    · exact he
    · exact ok.ent d' h
  · show SortedE ((s.ns.set (s.pos e.k e.v) (d.with s.n e)).map Nd.e)
    rw [putE_hit s d s.n e hd hk hv]
    exact putE_sorted _ _ ok.sorted
  · intro d' hd'
    rcases mem d' hd' with rfl | h
    · exact ok.eff d hdm
    · exact ok.eff d' h
end Go.Proofs.Ytanmgkpgfmkobaa
