/- Manifests read again: such as cannot be made. -/
import Derived.Test.YtpfmmbhbmdbmeaaDoorZG
import Derived.BigQuiet
import Derived.Test.YtpfmmbhbmdbmeaaDoorZI
namespace Go.Proofs.YtpfmmbhbmdbmeaaDoor
open Go.Proofs.YtpfmmbhbmdbmeaaDoorW.PrintLast
open Go.RowKit
set_option linter.unusedVariables false
set_option linter.unusedSimpArgs false
attribute [local go_sem] eqErr
set_option maxRecDepth 100000 in
set_option maxHeartbeats 8000000 in
theorem replay_cannot (mark : Int) (A : Option Addr) (n c : Nat) (l tail : List Int) (ls : List (List Chg)) (M : MF) (ae au : Addr) (w : World) (hs : Sl w A n (nums .u8 l)) (hc : n ≤ c) (hn : n ≤ 1000000) (hl : l = manB mark ls ++ tail) (hm : 0 ≤ mark ∧ mark ≤ 65535) (hg : ErrG w ae au) (hok : ∀ x ∈ ls.flatten, Chg.ok x) (hck : ∀ x ∈ ls.flatten, ChOk x) (hal : allM ⟨[], 0, 0⟩ ls.flatten = some M) (hN : ls.flatten.length ≤ 1000) (x : List Chg) (rest : List Int) (ht : tail = setB x ++ rest) (htw : twice M x = true) (hxo : ∀ y ∈ x, Chg.ok y) (hxc : ∀ y ∈ x, ChOk y) (hxl : x.length ≤ 1000) :
    Calls Tryd.prog 30 #[.slice A n c, .int .u16 mark] w (RepNo w) := by
  have HT := Lib.hid ht
  have HTW := Lib.hid htw
  have HXO := Lib.hid hxo
  have HXC := Lib.hid hxc
  have HXL := Lib.hid hxl
  clear ht htw hxo hxc hxl
  have HS := Lib.hid hs
  have HG := Lib.hid hg
  have HOK := Lib.hid hok
  have HCK := Lib.hid hck
  have HAL := Lib.hid hal
  have HNN := Lib.hid hN
  have HLA : Hid (∀ g o, A = some ⟨g, o, none⟩ → 0 < n → g < w.heap.size) := fun g o e h0 => hs.lt e h0
  have ha := arr8
  have HLN : Hid (n = l.length) := by have h := hs.1; rw [nums_length] at h; exact h.symm
  have HL := Lib.hid hl
  have kc := fun (w : World) (C : Array Value) (n c : Nat) => Lib.run_convert_bytes_const (P := Tryd.prog) w 30 5 C n c Tryd.underlying30 Tryd.underlying5
  clear hs hg hok hck hal hN
  go_enter Tryd.func30, Tryd.ntmps30
  go_wp2_with fail
  have HP := Lib.hid (rp_state w A n c l HS.out hc hn)
  generalize ((((w.alloc (.cells #[.slice none 0 0, .map none, .int .i64 0, .int .i64 0] 54)).alloc (.cells #[.slice A n c, .int .i64 0] 89)).alloc (.cells #[.pointer (some ⟨w.heap.size + 1, 0, none⟩), .int .i64 0] 91)).alloc (.cells #[.int .u8 0, .int .u8 0, .int .u8 0, .int .u8 0, .int .u8 0, .int .u8 0, .int .u8 0, .int .u8 0] 92)) = w4 at *
  generalize hsz : w.heap.size = s at *
  have HSZ := Lib.hid hsz
  clear hsz
  refine (readFull_ok (s + 1 + 1) (s + 1) (s + 1 + 1 + 1) 92 8 n c 0 A z8 l w4 HP.out.rd HP.out.buf rfl (by omega) HP.out.apt (by omega) (by have h := HLN.out; rw [HL.out, List.length_append] at h; have h2 : 8 ≤ (manB mark ls).length := (by unfold manB; rw [List.length_append]; have : (headM mark).length = 8 := rfl; omega); omega)).mono ?_
  rintro E w5 ⟨rfl, hr5, hb5, hf5⟩
  have HB5 : Hid (Blk w5 (s + 1 + 1 + 1) 92 (nums .u8 (headM mark))) := by
    have e : (l.drop 0).take 8 = headM mark := by rw [HL.out]; rfl
    rw [e] at hb5
    exact hb5
  have HR5 := Lib.hid hr5
  have HU5 : Hid (Below w.heap.size w w5) := HP.out.bel.trans (hf5.below HP.out.bel.size (fun i hi => by rw [HSZ.out]; simp only [List.mem_cons, List.not_mem_nil, or_false] at hi; omega))
  have HM5 := Lib.hid (HP.out.man.frm hf5 (by simp only [List.mem_cons, List.not_mem_nil, or_false]; omega))
  have HX4 : Hid (Sl w5 (some ⟨s + 1 + 1 + 1, 0, none⟩) 4 (nums .u8 [66, 100, 103, 114])) := by
    have h := HB5.out.sl (off := 0) (n := 4) (by rw [nums_length]; show 0 + 4 ≤ 8; omega)
    exact h
  clear hr5 hb5 hf5 HP
  go_wp2_with fail
  have HY4 : Hid (Sl (w5.alloc (.cells #[.int .u8 66, .int .u8 100, .int .u8 103, .int .u8 114] 5 (4, 5))) (some ⟨w5.heap.size, 0, none⟩) 4 (nums .u8 [66, 100, 103, 114])) := ⟨rfl, fun _ => ⟨_, 0, rfl, fun j u hu => by rw [Nat.zero_add]; have h := World.cell?_alloc_mark w5 #[.int .u8 66, .int .u8 100, .int .u8 103, .int .u8 114] 5 (4, 5) j; rw [h]; simpa [nums] using hu⟩⟩
  have HX6 : Hid (Sl (w5.alloc (.cells #[.int .u8 66, .int .u8 100, .int .u8 103, .int .u8 114] 5 (4, 5))) (some ⟨s + 1 + 1 + 1, 0, none⟩) 4 (nums .u8 [66, 100, 103, 114])) := HX4.out.alloc _
  have HB6 : Hid (Blk (w5.alloc (.cells #[.int .u8 66, .int .u8 100, .int .u8 103, .int .u8 114] 5 (4, 5))) (s + 1 + 1 + 1) 92 (nums .u8 (headM mark))) := HB5.out.alloc _
  have HM6 : Hid (Blk (w5.alloc (.cells #[.int .u8 66, .int .u8 100, .int .u8 103, .int .u8 114] 5 (4, 5))) s 54 [.slice none 0 0, .map none, .int .i64 0, .int .i64 0]) := HM5.out.alloc _
  have HU6 : Hid (Below w.heap.size w (w5.alloc (.cells #[.int .u8 66, .int .u8 100, .int .u8 103, .int .u8 114] 5 (4, 5)))) := HU5.out.alloc HU5.out.size _
  have HR6 : Hid (RdS (w5.alloc (.cells #[.int .u8 66, .int .u8 100, .int .u8 103, .int .u8 114] 5 (4, 5))) (s + 1 + 1) (s + 1) n c (0 + 8) A l) := HR5.out.below ((Below.refl _ _).alloc (Nat.le_refl _) _)
  have hmk : mark / 256 * 256 + mark % 256 = mark := by omega
  have hb1 : 0 ≤ mark / 256 ∧ mark / 256 ≤ 255 := by omega
  have hb2 : 0 ≤ mark % 256 ∧ mark % 256 ≤ 255 := by omega
  clear HX4 HB5 HM5 HU5 HR5
  go_wp2_with fail
  generalize w5.alloc (.cells #[.int .u8 66, .int .u8 100, .int .u8 103, .int .u8 114] 5 (4, 5)) = w6 at *
  generalize w5.heap.size = g6 at *
  refine (bytesEqual_any _ _ 4 4 8 4 _ _ w6 HX6.out HY4.out (by unfold Byt; decide) (by unfold Byt; decide)).mono ?_
  rintro E wx ⟨hE, hwx⟩
  subst hwx
  rw [decide_eq_true rfl] at hE
  subst hE
  clear HY4 HX6
  go_wp2_with fail
  refine (bytesToU16_any (some ⟨s + 1 + 1 + 1, 4, none⟩) 2 4 (mark / 256) (mark % 256) [] w6 (by have h := HB6.out.sl (off := 4) (n := 2) (by rw [nums_length]; show 4 + 2 ≤ 8; omega); exact h) ⟨hb1, hb2⟩).mono ?_
  rintro E w7 ⟨hE, hf7⟩
  rw [hmk] at hE
  subst hE
  have HB7 := Lib.hid (HB6.out.frm hf7 (by simp))
  have HM7 := Lib.hid (HM6.out.frm hf7 (by simp))
  have HU7 : Hid (Below w.heap.size w w7) := HU6.out.trans (hf7.below HU6.out.size (fun i hi => by cases hi))
  have HR7 := Lib.hid (HR6.out.frm hf7 (by simp) (by simp) (fun _ _ _ _ hx => by cases hx))
  clear hf7 HB6 HM6 HU6 HR6
  go_wp2_with fail
  refine (bytesToU16_any (some ⟨s + 1 + 1 + 1, 6, none⟩) 2 2 0 8 [] w7 (by have h := HB7.out.sl (off := 6) (n := 2) (by rw [nums_length]; show 6 + 2 ≤ 8; omega); exact h) ⟨by omega, by omega⟩).mono ?_
  rintro E w8 ⟨rfl, hf8⟩
  have HM8 := Lib.hid (HM7.out.frm hf8 (by simp))
  have HU8 : Hid (Below w.heap.size w w8) := HU7.out.trans (hf8.below HU7.out.size (fun i hi => by cases hi))
  have HR8 := Lib.hid (HR7.out.frm hf8 (by simp) (by simp) (fun _ _ _ _ hx => by cases hx))
  clear hf8 HB7 HM7 HU7 HR7
  go_wp2_with fail
  refine (createManifest_any w8).mono ?_
  rintro E w9 ⟨A9, c9, bt, rfl, hm9, ho9, hb9, hbt9⟩
  have HX9 : Hid (Blk (w9.alloc (.cells #[.slice A9 0 c9, .map (some bt), .int .i64 0, .int .i64 0] 54)) w9.heap.size 54 [.slice A9 0 c9, .map (some bt), .int .i64 0, .int .i64 0]) := Blk.new w9 _ _
  have HL9 : Hid (RpL w (w9.alloc (.cells #[.slice A9 0 c9, .map (some bt), .int .i64 0, .int .i64 0] 54)) s (s + 1 + 1) (s + 1) w9.heap.size bt 0 n c (0 + 8) c9 A A9 [] ⟨[], 0, 0⟩ l) := by
    have h8 := HU8.out.size
    have h9 := hb9.size
    have hs8 := HM8.out.lt
    have hfo : ∀ x ∈ foot w9.heap.size bt A9 [], w8.heap.size ≤ x := foot_ge h9 hbt9 ho9
    exact ⟨(HR8.out.below hb9).below ((Below.refl _ _).alloc (Nat.le_refl _) _), mst_new HX9.out (hm9.alloc _) (ho9.alloc _), (HU8.out.trans (hb9.mono HU8.out.size)).alloc (Nat.le_trans h8 h9) _, fun x hx => Nat.le_trans h8 (hfo x hx), (HM8.out.frm (Frm.of_below hb9) (by simp)).alloc _, fun hx => by have := hfo s hx; omega, by have := HSZ.out; omega, fun g o e h0 => by have := HLA.out g o e h0; have := HSZ.out; omega⟩
  clear hm9 ho9 hb9 hbt9 HX9 HM8 HU8 HR8
  go_wp2_with fail
  generalize w9.alloc (.cells #[.slice A9 0 c9, .map (some bt), .int .i64 0, .int .i64 0] 54) = wa at *
  generalize w9.heap.size = g13 at *
  generalize hg7 : s + 1 + 1 = g7 at *
  generalize hgb : s + 1 = gb at *
  have HNE7 : Hid (s + 2 = g7 ∧ s + 1 = gb) := ⟨by omega, by omega⟩
  clear hg7 hgb
  have HAA : Hid (allM ⟨[], 0, 0⟩ (ls.drop 0).flatten = some M) := HAL.out
  have hm8 : (manB mark (ls.take 0)).length = 0 + 8 := by unfold manB; simp; rfl
  have HM8 := Lib.hid hm8
  clear hm8
  go_loopg [14] ls.length (fun f v14 wr => ∃ (i nn at' lc : Nat) (o : Int) (LA : Option Addr) (lm : List Nat) (Mi : MF), v14 = .int .i64 o ∧ i ≤ ls.length ∧ Hid (i + f = ls.length) ∧ Hid (at' = (manB mark (ls.take i)).length) ∧ Hid (RpL w wr s g7 gb g13 bt nn n c at' lc A LA lm Mi l) ∧ Hid (nn + 2 * (ls.drop i).flatten.length ≤ 200000) ∧ Hid (allM Mi (ls.drop i).flatten = some M) ∧ Hid (0 ≤ Mi.come ∧ Mi.come + (ls.drop i).flatten.length ≤ 100000 ∧ 0 ≤ Mi.gone ∧ Mi.gone + (ls.drop i).flatten.length ≤ 100000))
  case atStart => exact ⟨0, 0, 0 + 8, c9, 0, A9, [], ⟨[], 0, 0⟩, rfl, Nat.zero_le _, Nat.zero_add _, HM8.out.symm, HL9.out, by have := HNN.out; show 0 + 2 * ls.flatten.length ≤ _; omega, HAA.out, by have := HNN.out; show (0 : Int) ≤ 0 ∧ (0 : Int) + ls.flatten.length ≤ 100000 ∧ (0 : Int) ≤ 0 ∧ (0 : Int) + ls.flatten.length ≤ 100000; omega⟩
  case round =>
    obtain ⟨i, nn, at', lc, o, LA, lm, Mi, rfl, him, hf, hat, hL, hnn, hA, hC⟩ := hrel
    clear HL9 HAA
    have r1 := hL.out.rd.rd.at_ (i := 1) rfl
    have HZ8 : Hid (z8.length = 8) := rfl
    by_cases hlt : i < ls.length
    · have hx0 : ∃ x, ls[i]? = some x := ⟨_, List.getElem?_eq_getElem hlt⟩
      obtain ⟨x, hx⟩ := hx0
      have hds := drop_set HL.out hx
      rw [← hat.out] at hds
      have hsp := set_parts hds
      have HX8 := Lib.hid hsp.1
      have HXB := Lib.hid hsp.2.1
      have HSP : Hid (at' + (8 + (chgsB x).length) ≤ n) := by have h := hsp.2.2; rw [← HLN.out] at h; exact h
      have hmem := List.mem_of_getElem? hx
      have HXO : Hid (∀ y ∈ x, Chg.ok y) := fun y hy => HOK.out y (List.mem_flatten.2 ⟨x, hmem, hy⟩)
      have HXC : Hid (∀ y ∈ x, ChOk y) := fun y hy => HCK.out y (List.mem_flatten.2 ⟨x, hmem, hy⟩)
      have HXL : Hid (x.length ≤ 1000) := by
        obtain ⟨a, b, hab⟩ := List.append_of_mem hmem
        have h1 := HNN.out
        rw [hab, List.flatten_append, List.flatten_cons, List.length_append, List.length_append] at h1
        show _ ≤ _
        omega
      have HCB : Hid ((chgsB x).length ≤ 77000) := by have := chgsB_len x; have := HXL.out; show _ ≤ _; omega
      have HCN : Hid ((chgsB x).length ≤ n) := by have := HSP.out; show _ ≤ _; omega
      have HIN := Lib.hid (crcOut_in (chgsB x) (chgsB_byt x HXO.out))
      have HXI := Lib.hid hx
      have hd2 : (ls.drop i).flatten = x ++ (ls.drop (i + 1)).flatten := by
        have hi := List.getElem?_eq_some_iff.1 hx
        rw [← List.getElem_cons_drop hi.1, hi.2, List.flatten_cons]
      have HLE : Hid ((ls.drop i).flatten.length = x.length + (ls.drop (i + 1)).flatten.length) := by show _ = _; rw [hd2, List.length_append]
      obtain ⟨Mn, hMn, hA2⟩ : ∃ Mn, allM Mi x = some Mn ∧ allM Mn (ls.drop (i + 1)).flatten = some M := by
        have h1 := hA.out
        rw [hd2, allM_append] at h1
        cases hsx : allM Mi x with
        | none => rw [hsx] at h1; cases h1
        | some Mn => rw [hsx] at h1; exact ⟨Mn, rfl, h1⟩
      have HMN := Lib.hid hMn
      have HA2 := Lib.hid hA2
      obtain ⟨gkO, rfl⟩ : ∃ q, gk = q + 1 := ⟨gk - 1, by have := hf.out; omega⟩
      clear hds hsp hmem hx hd2 hMn hA2
      have HLa := Lib.hid (hL.out.below ((Below.refl _ _).alloc (Nat.le_refl _) (.cells #[.int .u8 0, .int .u8 0, .int .u8 0, .int .u8 0, .int .u8 0, .int .u8 0, .int .u8 0, .int .u8 0] 92)))
      have HBa : Hid (Blk (wr.alloc (.cells #[.int .u8 0, .int .u8 0, .int .u8 0, .int .u8 0, .int .u8 0, .int .u8 0, .int .u8 0, .int .u8 0] 92)) wr.heap.size 92 z8) := Blk.new wr _ z8
      have HDa : Hid (wr.heap.size ≠ g7 ∧ wr.heap.size ≠ gb ∧ w.heap.size ≤ wr.heap.size ∧ wr.heap.size ∉ foot g13 bt LA lm ∧ wr.heap.size ≠ s) := ⟨fun e => by have := hL.out.rd.rd.lt; omega, fun e => by have := hL.out.rd.br.lt; omega, hL.out.bel.size, fun hx => by have := hL.out.ms.o.lt _ hx; omega, fun e => by have := hL.out.man.lt; omega⟩
      go_wp2_with fail
      generalize wr.alloc (.cells #[.int .u8 0, .int .u8 0, .int .u8 0, .int .u8 0, .int .u8 0, .int .u8 0, .int .u8 0, .int .u8 0] 92) = wA at *
      generalize hD : wr.heap.size = D at *
      have HDw : Hid (wr.heap.size = D) := hD
      clear hD
      have HAD : Hid (∀ g o, A = some ⟨g, o, none⟩ → 0 < n → g ≠ D) := fun g o e h0 => by have := HLA.out g o e h0; have := HDa.out.2.2.1; have := HSZ.out; omega
      clear r1
      refine (readFull_ok g7 gb D 92 8 n c at' A z8 l wA HLa.out.rd HBa.out rfl ⟨HDa.out.1, HDa.out.2.1⟩ HAD.out (by omega) (by have := HSP.out; omega)).mono ?_
      rintro E w2 ⟨rfl, hr2, hb2, hf2⟩
      have HL2 := Lib.hid (HLa.out.turn hf2 HDa.out.2.2 hr2)
      obtain ⟨a0, a1, a2, a3, hbe, hun, i0, i1, i2, i3⟩ := un32_be32 ((chgsB x).length : Int) (by omega) (by have := HCB.out; omega)
      obtain ⟨b0, b1, b2, b3, hbf, hvn, j0, j1, j2, j3⟩ := un32_be32 (crcOut (chgsB x)) HIN.out.1 HIN.out.2
      rw [HX8.out, hbe, hbf] at hb2
      have HB2 := Lib.hid hb2
      have HUN := Lib.hid hun
      have HVN := Lib.hid hvn
      have HJ := Lib.hid (And.intro j0 (And.intro j1 (And.intro j2 j3)))
      clear hr2 hb2 hf2 hbe hbf hun hvn HLa HBa j0 j1 j2 j3
      go_wp2_with fail
      refine (bytesToU32_any (some ⟨D, 0, none⟩) 4 8 a0 a1 a2 a3 [] w2 (by have h := HB2.out.sl (off := 0) (n := 4) (by rw [nums_length]; show 0 + 4 ≤ 8; omega); exact h) (by omega) i0 i1 i2 i3).mono ?_
      rintro E w3 ⟨hE, hf3⟩
      rw [HUN.out] at hE
      subst hE
      have HL3 := Lib.hid (HL2.out.below (hf3.below (Nat.le_refl _) (fun i hi => by cases hi)))
      have HB3 := Lib.hid (HB2.out.frm hf3 (by simp))
      clear hf3 HL2 HB2 i0 i1 i2 i3 HUN
      have hnw : (n : Int) % 4294967296 = n := by omega
      have hng : ¬ ((chgsB x).length : Int) > (n : Int) := by have := HCN.out; omega
      have hng2 : ¬ (n : Int) < ((chgsB x).length : Int) := by have := HCN.out; omega
      have hmk2 := make_u32 (chgsB x).length w3 (by have := HCB.out; omega)
      have HL3a := Lib.hid (HL3.out.below ((Below.refl _ _).alloc (Nat.le_refl _) (.cells (Array.replicate (chgsB x).length (Value.int .u8 0)) 5)))
      have HB3a := Lib.hid (HB3.out.alloc (.cells (Array.replicate (chgsB x).length (Value.int .u8 0)) 5))
      have HN3a : Hid (Blk (w3.alloc (.cells (Array.replicate (chgsB x).length (Value.int .u8 0)) 5)) w3.heap.size 5 (List.replicate (chgsB x).length (Value.int .u8 0))) := by
        have h := Blk.new w3 5 (List.replicate (chgsB x).length (Value.int .u8 0))
        rw [List.toArray_replicate] at h
        exact h
      have HD3 : Hid (w3.heap.size ≠ g7 ∧ w3.heap.size ≠ gb ∧ w.heap.size ≤ w3.heap.size ∧ w3.heap.size ∉ foot g13 bt LA lm ∧ w3.heap.size ≠ s ∧ D ≠ w3.heap.size) := ⟨fun e => by have := HL3.out.rd.rd.lt; omega, fun e => by have := HL3.out.rd.br.lt; omega, HL3.out.bel.size, fun hx => by have := HL3.out.ms.o.lt _ hx; omega, fun e => by have := HL3.out.man.lt; omega, fun e => by have := HB3.out.lt; omega⟩
      go_wp2_with fail
      clear hmk2
      generalize w3.alloc (.cells (Array.replicate (chgsB x).length (Value.int .u8 0)) 5) = wB at *
      generalize w3.heap.size = D2 at *
      have HAD2 : Hid (∀ g o, A = some ⟨g, o, none⟩ → 0 < n → g ≠ D2) := fun g o e h0 => by have := HLA.out g o e h0; have := HD3.out.2.2.1; have := HSZ.out; omega
      clear HL3 HB3
      refine (readFull_ok g7 gb D2 5 (chgsB x).length n c (at' + 8) A _ l wB HL3a.out.rd HN3a.out (by simp) ⟨HD3.out.1, HD3.out.2.1⟩ HAD2.out (by have := HCB.out; omega) (by have := HSP.out; omega)).mono ?_
      rintro E w4x ⟨rfl, hr4, hb4, hf4⟩
      rw [HXB.out] at hb4
      have HL4 := Lib.hid (HL3a.out.turn hf4 ⟨HD3.out.2.2.1, HD3.out.2.2.2.1, HD3.out.2.2.2.2.1⟩ hr4)
      have HB4 := Lib.hid (HB3a.out.frm hf4 (by simp only [List.mem_cons, List.not_mem_nil, or_false, not_or]; exact ⟨HD3.out.2.2.2.2.2, HDa.out.2.1, HDa.out.1⟩))
      have HN4 := Lib.hid hb4
      clear hr4 hb4 hf4 HL3a HB3a HN3a
      go_wp2_with fail
      refine start_ (n := 5) (S := fun w' => Frm [] w4x w') (ds := []) #[ff,ff,ff,ff,ff] (by kernel_rfl) rfl rfl ((Frm.refl [] w4x).drew) (fun hHeld => ?_)
      refine pure_ (i := 0) (N := some 109) (v := ?_) (a' := ?_) #[tt,ff,ff,ff,ff] rfl rfl (by kernel_rfl) (fun _ _ _ h => h) (Or.inl ⟨by rfl, ?_⟩) ?_ ?_; rotate_left; (intro w'; go_simp; with_reducible rfl); rotate_left; (simp only [Act.put, List.setIfInBounds_toArray, List.set_cons_zero, List.set_cons_succ, i64_w, i32_w]; rfl)
      refine pure_ (i := 2) (N := some 111) (v := ?_) (a' := ?_) #[tt,ff,tt,ff,ff] rfl rfl (by kernel_rfl) (fun _ _ _ h => h) (Or.inl ⟨by rfl, ?_⟩) ?_ ?_; rotate_left; (intro w'; go_simp; with_reducible rfl); rotate_left; (simp only [Act.put, List.setIfInBounds_toArray, List.set_cons_zero, List.set_cons_succ, i64_w, i32_w]; rfl)
      refine one_ (i := 1) (N := some 110) #[tt,tt,tt,ff,ff] rfl rfl (by kernel_rfl) (by decide) (fun K hK => ?_); refine goes_ Tryd.func29 (by kernel_rfl) rfl #[.slice (some ⟨D2, 0, none⟩) (chgsB x).length (chgsB x).length] (by rfl) rfl rfl (by (try simp only [List.map_toArray, List.map_cons, List.map_nil]); first | done | rfl) ?_
      refine (pubCastagnoli_any (some ⟨D2, 0, none⟩) _ _ (chgsB x) w4x.drew (by have h := (HN4.out.frm (Frm.refl [] w4x).drew (by simp)).sl (off := 0) (n := (chgsB x).length) (by rw [nums_length, Nat.zero_add]; exact Nat.le_refl _); rw [List.drop_zero, List.take_of_length_le (by rw [nums_length]; exact Nat.le_refl _)] at h; exact h) (chgsB_byt x HXO.out) (by have := HCB.out; omega)).mono ?_
      rintro E wx ⟨rfl, hwx⟩
      refine ⟨_, rfl, ?_⟩
      refine hK.out _ _ (hwx ▸ (Frm.refl [] w4x).drew) (fun hHeld => ?_); clear hK K; refine norm_ (a' := ?_) ?_ ?_; rotate_left; (show Act.put _ (some 110) _ = _; simp only [Act.put, List.setIfInBounds_toArray, List.set_cons_zero, List.set_cons_succ, i64_w, i32_w]; rfl)
      refine one_ (i := 3) (N := some 112) #[tt,tt,tt,tt,ff] rfl rfl (by kernel_rfl) (by decide) (fun K hK => ?_); refine goes_ Tryd.func42 (by kernel_rfl) rfl #[.slice (some ⟨D, 4, none⟩) 4 4] (by rfl) rfl rfl (by (try simp only [List.map_toArray, List.map_cons, List.map_nil]); first | done | rfl) ?_
      refine (bytesToU32_any (some ⟨D, 4, none⟩) 4 4 b0 b1 b2 b3 [] wx (by have h := (HB4.out.frm hHeld (by simp)).sl (off := 4) (n := 4) (by rw [nums_length]; show 4 + 4 ≤ 8; omega); exact h) (by omega) HJ.out.1 HJ.out.2.1 HJ.out.2.2.1 HJ.out.2.2.2).mono ?_
      rintro E wy ⟨hE, hfy⟩
      rw [HVN.out] at hE
      subst hE
      refine ⟨_, rfl, ?_⟩
      refine hK.out _ _ (hHeld.trans hfy (fun i hi => .inl hi)) (fun hHeld => ?_); clear hK K; refine norm_ (a' := ?_) ?_ ?_; rotate_left; (show Act.put _ (some 112) _ = _; simp only [Act.put, List.setIfInBounds_toArray, List.set_cons_zero, List.set_cons_succ, i64_w, i32_w]; rfl)
      have HL5 := Lib.hid (HL4.out.below (hHeld.below (Nat.le_refl _) (fun i hi => by cases hi)))
      have HN5 := Lib.hid (HN4.out.frm hHeld (by simp))
      clear hfy hwx HB4 HVN HJ HL4 HN4 hHeld
      refine pure_ (i := 4) (N := some 113) (v := ?_) (a' := ?_) #[tt,tt,tt,tt,tt] rfl rfl (by kernel_rfl) (fun _ _ _ h => h) (Or.inl ⟨by rfl, ?_⟩) ?_ ?_; rotate_left; (intro w'; go_simp; with_reducible rfl); rotate_left; (simp only [Act.put, List.setIfInBounds_toArray, List.set_cons_zero, List.set_cons_succ, i64_w, i32_w]; rfl)
      refine done_ (by kernel_rfl) ?_
      go_wp2_with fail
      have HL6 := Lib.hid (HL5.out.below ((Below.refl _ _).alloc (Nat.le_refl _) (.cells #[.slice none 0 0] 63)))
      have HN6 := Lib.hid (HN5.out.alloc (.cells #[.slice none 0 0] 63))
      have HK6 : Hid (Blk (wy.alloc (.cells #[.slice none 0 0] 63)) wy.heap.size 63 [.slice none 0 0]) := Blk.new wy _ _
      have HE6 : Hid (∀ h o, (some ⟨D2, 0, none⟩ : Option Addr) = some ⟨h, o, none⟩ → h ≠ wy.heap.size) := fun h o e h2 => by
        injection e with e
        injection e with e1 e2
        have := HN5.out.lt
        omega
      have HB6 : Hid (w.heap.size ≤ wy.heap.size) := HL5.out.bel.size
      clear HL5 HN5
      generalize wy.alloc (.cells #[.slice none 0 0] 63) = wC at *
      generalize wy.heap.size = D3 at *
      refine (unmarshal_any D3 (some ⟨D2, 0, none⟩) _ _ x wC (by have h := HN6.out.sl (off := 0) (n := (chgsB x).length) (by rw [nums_length, Nat.zero_add]; exact Nat.le_refl _); rw [List.drop_zero, List.take_of_length_le (by rw [nums_length]; exact Nat.le_refl _)] at h; exact h) (Nat.le_refl _) HE6.out HK6.out HXO.out HXL.out).mono ?_
      rintro E wD ⟨v, gs, rfl, hk7, hg7, ho7, hp7⟩
      obtain ⟨Ag, cg, rfl⟩ := own_form ho7
      have HL7 := Lib.hid (HL6.out.own (Frm.of_grown hg7) HK6.out (by decide) (by decide) (by decide) (by decide) HB6.out)
      have HK7 := Lib.hid hk7
      have HO7 := Lib.hid (Joins.ownsRow_le ho7 (Nat.zero_le _))
      have HP7 := Lib.hid hp7
      clear hk7 hg7 ho7 hp7 HL6 HN6 HK6 HE6
      go_wp2_with fail
      refine (applySet g13 D3 bt nn lc x.length cg _ Ag LA lm gs Mi Mn x wD HL7.out.ms HK7.out HO7.out HP7.out rfl HMN.out HXC.out (by have := hnn.out; have := HLE.out; omega) ⟨hC.out.1, by have := hC.out; have := HLE.out; omega⟩ ⟨hC.out.2.2.1, by have := hC.out; have := HLE.out; omega⟩).mono ?_
      rintro E wE ⟨rfl, LA3, lc3, lm3, hM3, hF3, hft3⟩
      have HL8 := Lib.hid (HL7.out.apply hM3 hF3 hft3)
      have hk4 := allM_mem x HMN.out
      have HN4 : Hid (nn + 2 * x.length + 2 * (ls.drop (i + 1)).flatten.length ≤ 200000) := by have := hnn.out; have := HLE.out; show _ ≤ _; omega
      have HC4 : Hid (0 ≤ Mn.come ∧ Mn.come + (ls.drop (i + 1)).flatten.length ≤ 100000 ∧ 0 ≤ Mn.gone ∧ Mn.gone + (ls.drop (i + 1)).flatten.length ≤ 100000) := by have := hC.out; have := HLE.out; show _ ∧ _; omega
      have HAT4 : Hid (at' + 8 + (chgsB x).length = (manB mark (ls.take (i + 1))).length) := by
        have h1 := hat.out
        have h2 := setB_len x
        show _ = _
        rw [manB_snoc mark ls i x HXI.out, List.length_append]
        omega
      clear hM3 hF3 hft3 hk4 hL HL7 HK7 HO7 HP7 hnn hC hA hat HMN
      go_wp2
      go_roundg gkO
      case measure => omega
      case rel => exact ⟨i + 1, _, _, lc3, _, LA3, lm3, Mn, rfl, by omega, by have := hf.out; show _ = _; omega, HAT4.out, HL8.out, HN4.out, HA2.out, HC4.out⟩
    · have hie : i = ls.length := by omega
      subst hie
      have HE : Mi = M := by
        have h1 := hA.out
        rw [List.drop_eq_nil_of_le (Nat.le_refl _)] at h1
        injection h1
      subst HE
      have hoff : Hid (at' = (manB mark ls).length) := by have h := hat.out; rw [List.take_length] at h; exact h
      have hTL : l.drop at' = tail := by rw [hoff.out, drop_all HL.out]
      rw [HT.out] at hTL
      have hsp := set_parts hTL
      have HX8 := Lib.hid hsp.1
      have HXB := Lib.hid hsp.2.1
      have HSP : Hid (at' + (8 + (chgsB x).length) ≤ n) := by have h := hsp.2.2; rw [← HLN.out] at h; exact h
      have HCB : Hid ((chgsB x).length ≤ 77000) := by have := chgsB_len x; have := HXL.out; show _ ≤ _; omega
      have HCN : Hid ((chgsB x).length ≤ n) := by have := HSP.out; show _ ≤ _; omega
      have HIN := Lib.hid (crcOut_in (chgsB x) (chgsB_byt x HXO.out))
      clear hA hat hTL hsp
      have HLa := Lib.hid (hL.out.below ((Below.refl _ _).alloc (Nat.le_refl _) (.cells #[.int .u8 0, .int .u8 0, .int .u8 0, .int .u8 0, .int .u8 0, .int .u8 0, .int .u8 0, .int .u8 0] 92)))
      have HBa : Hid (Blk (wr.alloc (.cells #[.int .u8 0, .int .u8 0, .int .u8 0, .int .u8 0, .int .u8 0, .int .u8 0, .int .u8 0, .int .u8 0] 92)) wr.heap.size 92 z8) := Blk.new wr _ z8
      have HDa : Hid (wr.heap.size ≠ g7 ∧ wr.heap.size ≠ gb ∧ w.heap.size ≤ wr.heap.size ∧ wr.heap.size ∉ foot g13 bt LA lm ∧ wr.heap.size ≠ s) := ⟨fun e => by have := hL.out.rd.rd.lt; omega, fun e => by have := hL.out.rd.br.lt; omega, hL.out.bel.size, fun hx => by have := hL.out.ms.o.lt _ hx; omega, fun e => by have := hL.out.man.lt; omega⟩
      go_wp2_with fail
      generalize wr.alloc (.cells #[.int .u8 0, .int .u8 0, .int .u8 0, .int .u8 0, .int .u8 0, .int .u8 0, .int .u8 0, .int .u8 0] 92) = wA at *
      generalize hD : wr.heap.size = D at *
      have HDw : Hid (wr.heap.size = D) := hD
      clear hD
      have HAD : Hid (∀ g o, A = some ⟨g, o, none⟩ → 0 < n → g ≠ D) := fun g o e h0 => by have := HLA.out g o e h0; have := HDa.out.2.2.1; have := HSZ.out; omega
      clear r1
      refine (readFull_ok g7 gb D 92 8 n c at' A z8 l wA HLa.out.rd HBa.out rfl ⟨HDa.out.1, HDa.out.2.1⟩ HAD.out (by omega) (by have := HSP.out; omega)).mono ?_
      rintro E w2 ⟨rfl, hr2, hb2, hf2⟩
      have HL2 := Lib.hid (HLa.out.turn hf2 HDa.out.2.2 hr2)
      obtain ⟨a0, a1, a2, a3, hbe, hun, i0, i1, i2, i3⟩ := un32_be32 ((chgsB x).length : Int) (by omega) (by have := HCB.out; omega)
      obtain ⟨b0, b1, b2, b3, hbf, hvn, j0, j1, j2, j3⟩ := un32_be32 (crcOut (chgsB x)) HIN.out.1 HIN.out.2
      rw [HX8.out, hbe, hbf] at hb2
      have HB2 := Lib.hid hb2
      have HUN := Lib.hid hun
      have HVN := Lib.hid hvn
      have HJ := Lib.hid (And.intro j0 (And.intro j1 (And.intro j2 j3)))
      clear hr2 hb2 hf2 hbe hbf hun hvn HLa HBa j0 j1 j2 j3
      go_wp2_with fail
      refine (bytesToU32_any (some ⟨D, 0, none⟩) 4 8 a0 a1 a2 a3 [] w2 (by have h := HB2.out.sl (off := 0) (n := 4) (by rw [nums_length]; show 0 + 4 ≤ 8; omega); exact h) (by omega) i0 i1 i2 i3).mono ?_
      rintro E w3 ⟨hE, hf3⟩
      rw [HUN.out] at hE
      subst hE
      have HL3 := Lib.hid (HL2.out.below (hf3.below (Nat.le_refl _) (fun i hi => by cases hi)))
      have HB3 := Lib.hid (HB2.out.frm hf3 (by simp))
      clear hf3 HL2 HB2 i0 i1 i2 i3 HUN
      have hnw : (n : Int) % 4294967296 = n := by omega
      have hng : ¬ ((chgsB x).length : Int) > (n : Int) := by have := HCN.out; omega
      have hng2 : ¬ (n : Int) < ((chgsB x).length : Int) := by have := HCN.out; omega
      have hmk2 := make_u32 (chgsB x).length w3 (by have := HCB.out; omega)
      have HL3a := Lib.hid (HL3.out.below ((Below.refl _ _).alloc (Nat.le_refl _) (.cells (Array.replicate (chgsB x).length (Value.int .u8 0)) 5)))
      have HB3a := Lib.hid (HB3.out.alloc (.cells (Array.replicate (chgsB x).length (Value.int .u8 0)) 5))
      have HN3a : Hid (Blk (w3.alloc (.cells (Array.replicate (chgsB x).length (Value.int .u8 0)) 5)) w3.heap.size 5 (List.replicate (chgsB x).length (Value.int .u8 0))) := by
        have h := Blk.new w3 5 (List.replicate (chgsB x).length (Value.int .u8 0))
        rw [List.toArray_replicate] at h
        exact h
      have HD3 : Hid (w3.heap.size ≠ g7 ∧ w3.heap.size ≠ gb ∧ w.heap.size ≤ w3.heap.size ∧ w3.heap.size ∉ foot g13 bt LA lm ∧ w3.heap.size ≠ s ∧ D ≠ w3.heap.size) := ⟨fun e => by have := HL3.out.rd.rd.lt; omega, fun e => by have := HL3.out.rd.br.lt; omega, HL3.out.bel.size, fun hx => by have := HL3.out.ms.o.lt _ hx; omega, fun e => by have := HL3.out.man.lt; omega, fun e => by have := HB3.out.lt; omega⟩
      go_wp2_with fail
      clear hmk2
      generalize w3.alloc (.cells (Array.replicate (chgsB x).length (Value.int .u8 0)) 5) = wB at *
      generalize w3.heap.size = D2 at *
      have HAD2 : Hid (∀ g o, A = some ⟨g, o, none⟩ → 0 < n → g ≠ D2) := fun g o e h0 => by have := HLA.out g o e h0; have := HD3.out.2.2.1; have := HSZ.out; omega
      clear HL3 HB3
      refine (readFull_ok g7 gb D2 5 (chgsB x).length n c (at' + 8) A _ l wB HL3a.out.rd HN3a.out (by simp) ⟨HD3.out.1, HD3.out.2.1⟩ HAD2.out (by have := HCB.out; omega) (by have := HSP.out; omega)).mono ?_
      rintro E w4x ⟨rfl, hr4, hb4, hf4⟩
      rw [HXB.out] at hb4
      have HL4 := Lib.hid (HL3a.out.turn hf4 ⟨HD3.out.2.2.1, HD3.out.2.2.2.1, HD3.out.2.2.2.2.1⟩ hr4)
      have HB4 := Lib.hid (HB3a.out.frm hf4 (by simp only [List.mem_cons, List.not_mem_nil, or_false, not_or]; exact ⟨HD3.out.2.2.2.2.2, HDa.out.2.1, HDa.out.1⟩))
      have HN4 := Lib.hid hb4
      clear hr4 hb4 hf4 HL3a HB3a HN3a
      go_wp2_with fail
      refine start_ (n := 5) (S := fun w' => Frm [] w4x w') (ds := []) #[ff,ff,ff,ff,ff] (by kernel_rfl) rfl rfl ((Frm.refl [] w4x).drew) (fun hHeld => ?_)
      refine pure_ (i := 0) (N := some 109) (v := ?_) (a' := ?_) #[tt,ff,ff,ff,ff] rfl rfl (by kernel_rfl) (fun _ _ _ h => h) (Or.inl ⟨by rfl, ?_⟩) ?_ ?_; rotate_left; (intro w'; go_simp; with_reducible rfl); rotate_left; (simp only [Act.put, List.setIfInBounds_toArray, List.set_cons_zero, List.set_cons_succ, i64_w, i32_w]; rfl)
      refine pure_ (i := 2) (N := some 111) (v := ?_) (a' := ?_) #[tt,ff,tt,ff,ff] rfl rfl (by kernel_rfl) (fun _ _ _ h => h) (Or.inl ⟨by rfl, ?_⟩) ?_ ?_; rotate_left; (intro w'; go_simp; with_reducible rfl); rotate_left; (simp only [Act.put, List.setIfInBounds_toArray, List.set_cons_zero, List.set_cons_succ, i64_w, i32_w]; rfl)
      refine one_ (i := 1) (N := some 110) #[tt,tt,tt,ff,ff] rfl rfl (by kernel_rfl) (by decide) (fun K hK => ?_); refine goes_ Tryd.func29 (by kernel_rfl) rfl #[.slice (some ⟨D2, 0, none⟩) (chgsB x).length (chgsB x).length] (by rfl) rfl rfl (by (try simp only [List.map_toArray, List.map_cons, List.map_nil]); first | done | rfl) ?_
      refine (pubCastagnoli_any (some ⟨D2, 0, none⟩) _ _ (chgsB x) w4x.drew (by have h := (HN4.out.frm (Frm.refl [] w4x).drew (by simp)).sl (off := 0) (n := (chgsB x).length) (by rw [nums_length, Nat.zero_add]; exact Nat.le_refl _); rw [List.drop_zero, List.take_of_length_le (by rw [nums_length]; exact Nat.le_refl _)] at h; exact h) (chgsB_byt x HXO.out) (by have := HCB.out; omega)).mono ?_
      rintro E wx ⟨rfl, hwx⟩
      refine ⟨_, rfl, ?_⟩
      refine hK.out _ _ (hwx ▸ (Frm.refl [] w4x).drew) (fun hHeld => ?_); clear hK K; refine norm_ (a' := ?_) ?_ ?_; rotate_left; (show Act.put _ (some 110) _ = _; simp only [Act.put, List.setIfInBounds_toArray, List.set_cons_zero, List.set_cons_succ, i64_w, i32_w]; rfl)
      refine one_ (i := 3) (N := some 112) #[tt,tt,tt,tt,ff] rfl rfl (by kernel_rfl) (by decide) (fun K hK => ?_); refine goes_ Tryd.func42 (by kernel_rfl) rfl #[.slice (some ⟨D, 4, none⟩) 4 4] (by rfl) rfl rfl (by (try simp only [List.map_toArray, List.map_cons, List.map_nil]); first | done | rfl) ?_
      refine (bytesToU32_any (some ⟨D, 4, none⟩) 4 4 b0 b1 b2 b3 [] wx (by have h := (HB4.out.frm hHeld (by simp)).sl (off := 4) (n := 4) (by rw [nums_length]; show 4 + 4 ≤ 8; omega); exact h) (by omega) HJ.out.1 HJ.out.2.1 HJ.out.2.2.1 HJ.out.2.2.2).mono ?_
      rintro E wy ⟨hE, hfy⟩
      rw [HVN.out] at hE
      subst hE
      refine ⟨_, rfl, ?_⟩
      refine hK.out _ _ (hHeld.trans hfy (fun i hi => .inl hi)) (fun hHeld => ?_); clear hK K; refine norm_ (a' := ?_) ?_ ?_; rotate_left; (show Act.put _ (some 112) _ = _; simp only [Act.put, List.setIfInBounds_toArray, List.set_cons_zero, List.set_cons_succ, i64_w, i32_w]; rfl)
      have HL5 := Lib.hid (HL4.out.below (hHeld.below (Nat.le_refl _) (fun i hi => by cases hi)))
      have HN5 := Lib.hid (HN4.out.frm hHeld (by simp))
      clear hfy hwx HB4 HVN HJ HL4 HN4 hHeld
      refine pure_ (i := 4) (N := some 113) (v := ?_) (a' := ?_) #[tt,tt,tt,tt,tt] rfl rfl (by kernel_rfl) (fun _ _ _ h => h) (Or.inl ⟨by rfl, ?_⟩) ?_ ?_; rotate_left; (intro w'; go_simp; with_reducible rfl); rotate_left; (simp only [Act.put, List.setIfInBounds_toArray, List.set_cons_zero, List.set_cons_succ, i64_w, i32_w]; rfl)
      refine done_ (by kernel_rfl) ?_
      go_wp2_with fail
      have HL6 := Lib.hid (HL5.out.below ((Below.refl _ _).alloc (Nat.le_refl _) (.cells #[.slice none 0 0] 63)))
      have HN6 := Lib.hid (HN5.out.alloc (.cells #[.slice none 0 0] 63))
      have HK6 : Hid (Blk (wy.alloc (.cells #[.slice none 0 0] 63)) wy.heap.size 63 [.slice none 0 0]) := Blk.new wy _ _
      have HE6 : Hid (∀ h o, (some ⟨D2, 0, none⟩ : Option Addr) = some ⟨h, o, none⟩ → h ≠ wy.heap.size) := fun h o e h2 => by
        injection e with e
        injection e with e1 e2
        have := HN5.out.lt
        omega
      have HB6 : Hid (w.heap.size ≤ wy.heap.size) := HL5.out.bel.size
      clear HL5 HN5
      generalize wy.alloc (.cells #[.slice none 0 0] 63) = wC at *
      generalize wy.heap.size = D3 at *
      refine (unmarshal_any D3 (some ⟨D2, 0, none⟩) _ _ x wC (by have h := HN6.out.sl (off := 0) (n := (chgsB x).length) (by rw [nums_length, Nat.zero_add]; exact Nat.le_refl _); rw [List.drop_zero, List.take_of_length_le (by rw [nums_length]; exact Nat.le_refl _)] at h; exact h) (Nat.le_refl _) HE6.out HK6.out HXO.out HXL.out).mono ?_
      rintro E wD ⟨v, gs, rfl, hk7, hg7, ho7, hp7⟩
      obtain ⟨Ag, cg, rfl⟩ := own_form ho7
      have HL7 := Lib.hid (HL6.out.own (Frm.of_grown hg7) HK6.out (by decide) (by decide) (by decide) (by decide) HB6.out)
      have HK7 := Lib.hid hk7
      have HO7 := Lib.hid (Joins.ownsRow_le ho7 (Nat.zero_le _))
      have HP7 := Lib.hid hp7
      clear hk7 hg7 ho7 hp7 HL6 HN6 HK6 HE6
      go_wp2_with fail
      refine (applySetHit g13 D3 bt nn lc x.length cg _ Ag LA lm gs Mi x wD HL7.out.ms HK7.out HO7.out HP7.out rfl HTW.out HXC.out (by have := hnn.out; have := HXL.out; omega) ⟨hC.out.1, by have := hC.out; have := HXL.out; omega⟩ ⟨hC.out.2.2.1, by have := hC.out; have := HXL.out; omega⟩).mono ?_
      rintro E wE ⟨⟨te, pe, rfl⟩, hfE⟩
      have hbE := HL7.out.bel.trans (frm_below hfE HL7.out.ft HL7.out.bel.size)
      have hME := HL7.out.man.frm hfE HL7.out.ns
      have hlo := HL7.out.lo.1
      have q0 := hME.at_ (i := 0) rfl
      have q1 := hME.at_ (i := 1) rfl
      have q2 := hME.at_ (i := 2) rfl
      have q3 := hME.at_ (i := 3) rfl
      have z0 := hME.frozen 0
      have z1 := hME.frozen 1
      have z2 := hME.frozen 2
      have z3 := hME.frozen 3
      have HRB : Hid (Below w.heap.size w ((((wE.setCell ⟨s, 0, none⟩ (.slice none 0 0)).setCell ⟨s, 1, none⟩ (.map none)).setCell ⟨s, 2, none⟩ (.int .i64 0)).setCell ⟨s, 3, none⟩ (.int .i64 0))) := (((hbE.setCell hlo _).setCell hlo _).setCell hlo _).setCell hlo _
      clear hbE hME hlo hfE HL7
      go_wp2
      refine bodyPost_ret (v := .tuple #[.agg #[.slice none 0 0, .map none, .int .i64 0, .int .i64 0], .int .i64 0, .iface te pe]) (by simp [results, Tryd.results30, go_sem, q0, q1, q2, q3, z0, z1, z2, z3]) rfl ?_
      exact ⟨⟨_, _, rfl⟩, HRB.out⟩
end Go.Proofs.YtpfmmbhbmdbmeaaDoor
