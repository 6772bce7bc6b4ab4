/- A log, read from one end to the other. -/
import Derived.Test.YtpfmmbhbmdbmeaaGreatDoorHL
import Derived.Test.YtpfmmbhbmdbmeaaGreatDoorPB
import Derived.BigRegion
import Derived.WalkMore
import Derived.Deep.DeepCutAuto
import Derived.Deep.CutBlock
namespace Go.Proofs.YtpfmmbhbmdbmeaaGreatDoor
open Go.RowKit
set_option linter.unusedVariables false
set_option linter.unusedSimpArgs false
attribute [local go_sem] eqErr
def RR.lr (r : RR) : LR := ⟨r.key, r.dat, r.e, r.m, r.u⟩
def sp3 (fid : Int) (x : LR × Nat) : Sp3 := (fid, (x.1.size : Int), (x.2 : Int))
theorem ownB_len (A : Option Addr) (n m : Nat) {c : Nat} : (Value.slice A n c).ownBlock = (Value.slice A m c).ownBlock := by cases A <;> rfl
theorem own_slX {w : World} {base e s n c : Nat} {A : Option Addr} {xs : List Value} (h : w.ownsRow base e s (.slice A n c) n xs) : Sl w A (n * s) xs := by
  obtain ⟨A', c', e1, _, h2, _⟩ := own_slT h
  injection e1 with e2 _ _
  subst e2
  exact h2
theorem infoEnt : (Tryz.prog.info? 89).map (fun i => (i.zero, i.size, i.bytes)) = some (some (.pointer none), 1, 8) := by kernel_rfl
theorem infoVp : (Tryz.prog.info? 95).map (fun i => (i.zero, i.size, i.bytes)) = some (some (.agg #[.int .u32 0, .int .u32 0, .int .u32 0]), 3, 12) := by kernel_rfl
theorem ptr_one (p : Option Addr) : ∀ u ∈ [Value.pointer p], u.oneCell' = true := fun u hu => by
  rw [List.mem_singleton] at hu
  subst hu
  rfl
theorem flatSp_at : ∀ (l : List Sp3) (i : Nat) (p : Sp3), l[i]? = some p → (flatSp l)[i * 3]? = some (.int .u32 p.1) ∧ (flatSp l)[i * 3 + 1]? = some (.int .u32 p.2.1) ∧ (flatSp l)[i * 3 + 2]? = some (.int .u32 p.2.2)
  | [], i, p, h => by simp at h
  | x :: l, 0, p, h => by
    rw [List.getElem?_cons_zero] at h
    injection h with h
    subst h
    exact ⟨rfl, rfl, rfl⟩
  | x :: l, i + 1, p, h => by
    rw [List.getElem?_cons_succ] at h
    have ih := flatSp_at l i p h
    have e : ∀ j, (flatSp (x :: l))[(i + 1) * 3 + j]? = (flatSp l)[i * 3 + j]? := fun j => by
      show (spC x ++ flatSp l)[(i + 1) * 3 + j]? = _
      rw [List.getElem?_append_right (by show 3 ≤ _; omega)]
      congr 1
      show (i + 1) * 3 + j - 3 = _
      omega
    exact ⟨(e 0).trans ih.1, (e 1).trans ih.2.1, (e 2).trans ih.2.2⟩
/-- What the reading leaves. -/
structure ItF (w0 : World) (gl gp : Nat) (vL vQ : Value) (outs : List RR) (ops : List Sp3) (w : World) : Prop where
  sm : Below w0.heap.size w0 w
  bl : Blk w gl 49 [vL]
  bp : Blk w gp 70 [vQ]
  ol : w.ownsRow w0.heap.size 51 5 vL outs.length (flatRR outs)
  oq : w.ownsRow w0.heap.size 75 3 vQ ops.length (flatSp ops)
  ins : ∀ r ∈ outs, r.In w
theorem ItS.fin {w0 w w' : World} {gb gs glf gl gp n c pos off : Nat} {A : Option Addr} {l : List Int} {fid : Int} {vE vP vL vQ : Value} {pend : List PE} {sps ops : List Sp3} {outs : List RR} (s : ItS w0 gb gs glf gl gp n c pos off A l fid vE vP vL vQ pend sps outs ops w) (hf : Frm [gb, gs] w w') : ItF w0 gl gp vL vQ outs ops w' := by
  have hL : ∀ k ∈ [gb, gs], ∃ t cs, Blk w k t cs ∧ t ∈ [134, 115] := fun k hk => by
    simp only [List.mem_cons, List.not_mem_nil, or_false] at hk
    rcases hk with rfl | rfl
    · exact ⟨_, _, s.rd.b, by simp⟩
    · obtain ⟨a, b, c, d, e, f, g, h⟩ := s.sr
      exact ⟨_, _, h, by simp⟩
  have hx : ∀ k, k ∈ [gb, gs] → k < w.heap.size → k ∈ volX gb gs gl gp vE vP vL vQ := fun k hk _ => by
    simp only [List.mem_cons, List.not_mem_nil, or_false] at hk
    rcases hk with rfl | rfl <;> simp [volX]
  exact ⟨s.sm.trans (hf.below s.sm.size (fun i hi => (s.lt i (by simp only [List.mem_cons, List.not_mem_nil, or_false] at hi; rcases hi with rfl | rfl <;> simp [volX])).2)), blkT s.bl hf hL (by decide), blkT s.bp hf hL (by decide), ownT s.ol hf hL (by decide), ownT s.oq hf hL (by decide), fun r hr => ((s.ost r hr).frm (Y := volX gb gs gl gp vE vP vL vQ) hf hx (fun k hk _ => hk)).now⟩
def IterP (w0 : World) (gl gp : Nat) (fid : Int) (gs0 : List LK) (E : Ending) (w' : World) : Prop :=
  E = .returned (.tuple #[.int .u32 (runE 20 20 gs0 : Nat), .nilIface]) ∧ ∃ vL vQ outs ops, ItF w0 gl gp vL vQ outs ops w' ∧ outs.map RR.lr = (runO 20 [] gs0).map (·.1) ∧ ops = (runO 20 [] gs0).map (sp3 fid)
theorem lin_nil {Y : List Int} (h : Lin Y []) : ∃ (k d : Nat) (e m u : Int) (b : Bool), Pre Y (headB k d e m u) b ∧ 1 ≤ k ∧ k ≤ 60 ∧ d ≤ 1000 ∧ (0 ≤ e ∧ e ≤ 18446744073709551615) ∧ ¬ GoodE b (Y.drop (headB k d e m u).length) (headB k d e m u) k d := by
  cases h with
  | stop _ k d e m u b hp h1 h2 h3 h4 hb => exact ⟨k, d, e, m, u, b, hp, h1, h2, h3, h4, hb⟩
theorem lin_cons {Y : List Int} {r : LR} {kn : Kn} {gs : List LK} (h : Lin Y ((r, kn) :: gs)) : ∃ Y', Y = r.by_ ++ Y' ∧ r.Ok ∧ KnOk r kn ∧ Lin Y' gs := by
  cases h with
  | more Y' _ _ _ h1 h2 h => exact ⟨Y', rfl, h1, h2, h⟩
/-- A round's words. -/
structure ItR (w0 : World) (gb gs glf gl gp n c : Nat) (A : Option Addr) (l : List Int) (fid : Int) (gs0 : List LK) (pos ve lc : Nat) (vE vP : Value) (gsL : List LK) (w : World) : Prop where
  st : ∃ vL vQ pend pd outs ops, ItS w0 gb gs glf gl gp n c pos pos A l fid vE vP vL vQ pend (pd.map (sp3 fid)) outs ops w ∧ pend.map (fun e => e.r.lr) = pd.map (·.1) ∧ outs.map RR.lr ++ (runO pos pd gsL).map (·.1) = (runO 20 [] gs0).map (·.1) ∧ ops ++ (runO pos pd gsL).map (sp3 fid) = (runO 20 [] gs0).map (sp3 fid) ∧ outs.length + pend.length ≤ pos ∧ outs.length = ops.length
  lin : Lin (l.drop pos) gsL
  wb : WB lc gsL
  en : runE pos ve gsL = runE 20 20 gs0
  le : pos ≤ n
  vle : ve ≤ pos
  lcb : lc ≤ 1000000
theorem ItS.took {w0 w w' : World} {gb gs glf gl gp n c pos : Nat} {A : Option Addr} {l Y' : List Int} {fid : Int} {vE vP vL vQ lf : Value} {pend : List PE} {sps ops : List Sp3} {outs : List RR} {r : LR} {ge kN dN hN : Nat}
    (s : ItS w0 gb gs glf gl gp n c pos pos A l fid vE vP vL vQ pend sps outs ops w) (hr : r.Ok) (hY : l.drop pos = r.by_ ++ Y') (hk : r.k.length = kN) (hd : r.d.length = dN) (hh : r.hd.length = hN)
    (ok : EntOk gb gs n c pos kN dN A l r.hd (l.drop (pos + r.hd.length)) r.m r.u r.e pos lf w w' ge) :
    ∃ a1 c1 a2 c2, ItS w0 gb gs glf gl gp n c (pos + r.size) pos A l fid vE vP vL vQ pend sps outs ops w' ∧ Stab (volX gb gs gl gp vE vP vL vQ) w' (PE.In ⟨ge, ⟨a1, kN, c1, a2, dN, c2, r.k, r.d, r.e, r.m, r.u⟩, pos, hN⟩) := by
  subst hk hd hh
  obtain ⟨D, Av, cv, hb, hsk, hsd, hcv, hD, _, hAv⟩ := ok.blk
  have eY : l.drop (pos + r.hd.length) = (r.by_ ++ Y').drop r.hd.length := by rw [← List.drop_drop, hY]
  obtain ⟨_, _, g3, g4, _⟩ := LR.good hr Y'
  rw [eY, g3] at hsk
  rw [eY, g4] at hsd
  have hrd : BrS w' gb n c (pos + r.size) A l := by
    have h := ok.rd
    have e2 : pos + r.hd.length + (r.k.length + r.d.length) + 4 = pos + r.size := by unfold LR.size; omega
    rwa [e2] at h
  obtain ⟨a, b, c', d, e, f, hs⟩ := ok.sr
  have s' := s.entry ok.f hrd ⟨a, b, c', d, e, f, _, hs⟩
  refine ⟨some ⟨D, 0, none⟩, r.k.length + r.d.length, Av, cv, s', s.fresh s' ⟨ge, ⟨some ⟨D, 0, none⟩, r.k.length, r.k.length + r.d.length, Av, r.d.length, cv, r.k, r.d, r.e, r.m, r.u⟩, pos, r.hd.length⟩ D hb ⟨hsk, hsd, Nat.le_add_right _ _, hcv⟩ ok.new (fun g o e1 _ => ?_) (fun g o e1 h1 => ?_)⟩
  · injection e1 with e1
    injection e1 with e1 _ _
    omega
  · have := hAv g o e1 h1; omega
set_option maxRecDepth 100000 in
set_option maxHeartbeats 8000000 in
theorem iterate_any (glf gl gp n c : Nat) (A : Option Addr) (l : List Int) (fid : Int) (x z : Value) (gs0 : List LK) (ae au at2 : Addr) (w0 w : World)
    (hlf : Blk w glf 86 [.slice A n c, x, .int .u32 fid, z]) (hbl : Blk w gl 49 [.slice none 0 0]) (hbp : Blk w gp 70 [.slice none 0 0]) (hsl : Sl w0 A n (nums .u8 l)) (hbyt : Byt l) (hc : n ≤ c) (hn : n ≤ 900000) (h20 : 20 ≤ n) (hlin : Lin (l.drop 20) gs0) (hwb : WB 0 gs0) (hZ : ErrZ w0 ae au at2) (hB : Below w0.heap.size w0 w) (hbig : w0.heap.size ≤ gl ∧ w0.heap.size ≤ gp) :
    Calls Tryz.prog 38 #[.pointer (some ⟨glf, 0, none⟩), .bool true, .int .u32 0, .func (.func 39) #[] #[.pointer (some ⟨gl, 0, none⟩), .pointer (some ⟨gp, 0, none⟩)]] w (IterP w0 gl gp fid gs0) := by
  have HLF := Lib.hid hlf
  have HBL := Lib.hid hbl
  have HBP := Lib.hid hbp
  have HSL := Lib.hid hsl
  have HBY := Lib.hid hbyt
  have HLI := Lib.hid hlin
  have HWB := Lib.hid hwb
  have HZ := Lib.hid hZ
  have HB := Lib.hid hB
  have HBG := Lib.hid hbig
  clear hlf hbl hbp hsl hbyt hlin hwb hZ hB hbig
  generalize hvf : Value.func (.func 39) #[] #[.pointer (some ⟨gl, 0, none⟩), .pointer (some ⟨gp, 0, none⟩)] = vf
  have HVF := Lib.hid hvf
  clear hvf
  go_enter Tryz.func38, Tryz.ntmps38
  go_wp2
  go_step3
  go_upto_region 4 with (refine Calls.mono (newReader_any glf n c 20 A _ w HLF.out) ?_; rintro E w1 ⟨rfl, hw1⟩)
  have HRB : Hid (Blk (w.alloc (.cells #[.slice A n c, .int .i64 20] 134)) w.heap.size 134 [.slice A n c, .int .i64 20]) := Blk.new w 134 [.slice A n c, .int .i64 20]
  have HLF1 := Lib.hid (HLF.out.alloc (.cells #[.slice A n c, .int .i64 20] 134))
  have HBL1 := Lib.hid (HBL.out.alloc (.cells #[.slice A n c, .int .i64 20] 134))
  have HBP1 := Lib.hid (HBP.out.alloc (.cells #[.slice A n c, .int .i64 20] 134))
  have HB1 := Lib.hid (HB.out.alloc HB.out.size (.cells #[.slice A n c, .int .i64 20] 134))
  have HGB : Hid (w0.heap.size ≤ w.heap.size) := HB.out.size
  have HGL : Hid (gl < w.heap.size ∧ gp < w.heap.size) := ⟨HBL.out.lt, HBP.out.lt⟩
  clear HLF HBL HBP HB
  generalize w.alloc (.cells #[.slice A n c, .int .i64 20] 134) = w1 at *
  generalize w.heap.size = gb at *
  have hmk : ∀ W : World, (Instr.makeSlice 27 (.int .i64 10) (.int .i64 10)).run Tryz.prog W = .ok (.slice (some ⟨W.heap.size, 0, none⟩) 10 10) (W.alloc (.cells (Array.replicate 10 (Value.int .u8 0)) 5)) := fun W => make_i64 10 W (by omega)
  go_cut [11] (fun v11 wx => ∃ gs : Nat, v11 = .pointer (some ⟨gs, 0, none⟩) ∧ Hid (ItS w0 gb gs glf gl gp n c 20 20 A l fid (.slice none 0 0) (.slice none 0 0) (.slice none 0 0) (.slice none 0 0) [] [] [] [] wx))
  case first =>
    have key : ∀ (v1 v2 : Value), (∃ a b x, v1 = .slice a b x) → (∃ a b x, v2 = .slice a b x) → ItS w0 gb (w1.heap.size + 1 + 1) glf gl gp n c 20 20 A l fid (.slice none 0 0) (.slice none 0 0) (.slice none 0 0) (.slice none 0 0) [] [] [] [] (((w1.alloc (.cells (Array.replicate 10 (Value.int .u8 0)) 5)).alloc (.cells (Array.replicate 10 (Value.int .u8 0)) 5)).alloc (.cells #[v1, v2, .int .u32 20, .pointer (some ⟨glf, 0, none⟩)] 115)).drew := by
      rintro v1 v2 ⟨a1, b1, x1, rfl⟩ ⟨a2, b2, x2, rfl⟩
      have hf : Frm [] w1 (((w1.alloc (.cells (Array.replicate 10 (Value.int .u8 0)) 5)).alloc (.cells (Array.replicate 10 (Value.int .u8 0)) 5)).alloc (.cells #[.slice a1 b1 x1, .slice a2 b2 x2, .int .u32 20, .pointer (some ⟨glf, 0, none⟩)] 115)).drew := (((Frm.alloc w1 _).andAlloc _).andAlloc _).drew
      have hs : Blk (((w1.alloc (.cells (Array.replicate 10 (Value.int .u8 0)) 5)).alloc (.cells (Array.replicate 10 (Value.int .u8 0)) 5)).alloc (.cells #[.slice a1 b1 x1, .slice a2 b2 x2, .int .u32 20, .pointer (some ⟨glf, 0, none⟩)] 115)).drew (w1.heap.size + 1 + 1) 115 [.slice a1 b1 x1, .slice a2 b2 x2, .int .u32 20, .pointer (some ⟨glf, 0, none⟩)] := by
        have h := Blk.new ((w1.alloc (.cells (Array.replicate 10 (Value.int .u8 0)) 5)).alloc (.cells (Array.replicate 10 (Value.int .u8 0)) 5)) 115 [.slice a1 b1 x1, .slice a2 b2 x2, .int .u32 20, .pointer (some ⟨glf, 0, none⟩)]
        rw [World.size_alloc, World.size_alloc] at h
        exact h
      have hsm := HB1.out.trans (hf.below HB1.out.size (fun i hi => by cases hi))
      have hnil : ∀ W : World, ∀ e s : Nat, W.ownsRow w0.heap.size e s (.slice none 0 0) 0 [] := fun W e s => ⟨by simp, .inl ⟨rfl, rfl⟩⟩
      exact ⟨hsm, ⟨HRB.out.frm hf (by simp), HSL.out.below hsm, HBY.out, hc, h20, by omega, fun g o e2 h0 => by have := HSL.out.lt e2 h0; have := HGB.out; omega⟩, ⟨_, _, _, _, _, _, _, hs⟩, ⟨_, _, _, HLF1.out.frm hf (by simp)⟩, hnil _ _ _, hnil _ _ _, HBL1.out.frm hf (by simp), HBP1.out.frm hf (by simp), hnil _ _ _, hnil _ _ _, (fun e he => by cases he), (fun r hr => by cases hr), ⟨HGB.out, by have := HRB.out.lt; have := HGB.out; omega, HBG.out.1, HBG.out.2⟩, fun g o e2 h0 => HSL.out.lt e2 h0⟩
    have KEY := Lib.hid key
    clear key
    go_region
    all_goals (
      go_wp2_with fail
      go_meet
      exact ⟨_, rfl, KEY.out _ _ ⟨_, _, _, rfl⟩ ⟨_, _, _, rfl⟩⟩)
  case rest =>
    obtain ⟨gs, rfl, HI⟩ := hcut
    clear HRB HLF1 HBL1 HBP1 HB1 hmk HGL
    have HRR : Hid (ItR w0 gb gs glf gl gp n c A l fid gs0 20 20 0 (.slice none 0 0) (.slice none 0 0) gs0 wc) := ⟨⟨_, _, [], [], [], [], HI.out, rfl, by simp, by simp, by simp, rfl⟩, HLI.out, HWB.out, rfl, h20, Nat.le_refl _, by omega⟩
    clear HI HLI HWB
    go_wp2_with fail
    go_step3
    go_wp2_with fail
    go_loopg [12, 13, 14, 15] gs0.length (fun f v12 v13 v14 v15 wr => ∃ (pos ve lc : Nat) (gsL : List LK), f = gsL.length ∧ v12 = .int .u64 lc ∧ v13 = .int .u32 ve ∧ Hid (ItR w0 gb gs glf gl gp n c A l fid gs0 pos ve lc v14 v15 gsL wr))
    case atStart => exact ⟨20, 20, 0, gs0, rfl, rfl, rfl, HRR⟩
    case round =>
      clear HRR
      obtain ⟨pos, ve, lc, gsL, hgk, rfl, rfl, HR⟩ := hrel
      have HGK := Lib.hid hgk
      clear hgk
      obtain ⟨vL, vQ, pend, pd, outs, ops, hst, hpe, hos, hoq, hcnt, hlen⟩ := HR.out.st
      have HST := Lib.hid hst
      have HPE := Lib.hid hpe
      have HOS := Lib.hid hos
      have HOQ := Lib.hid hoq
      have HLN := Lib.hid (And.intro hcnt hlen)
      have HLI := Lib.hid HR.out.lin
      have HWB := Lib.hid HR.out.wb
      have HEN := Lib.hid HR.out.en
      have HLE : Hid (pos ≤ n ∧ ve ≤ pos ∧ lc ≤ 1000000) := ⟨HR.out.le, HR.out.vle, HR.out.lcb⟩
      clear hst hpe hos hoq hcnt hlen HR
      obtain ⟨Ak, nk, ck, Av, nv, cv, lf, hsr⟩ := HST.out.sr
      have HSR := Lib.hid hsr
      clear hsr
      have HLA : Hid (∀ g o, A = some ⟨g, o, none⟩ → 0 < n → g ≠ gs) := fun g o e2 h0 => by have := HST.out.data g o e2 h0; have := HST.out.big.2.1; omega
      rcases gsL with _ | ⟨⟨r, kn⟩, gsL⟩
      case' nil =>
        as_aux_lemma =>
          obtain ⟨k, d, e, m, u, b, hp, hk1, hk, hd, he, hng⟩ := lin_nil HLI.out
          have HP := Lib.hid hp
          have HNG := Lib.hid hng
          clear hp hng
          go_wp2_with fail
          refine Calls.mono (entry_any gb gs n c pos k d nk ck nv cv A Ak Av l m u e pos lf ae au at2 b w0 _ HST.out.rd HSR.out HP.out hk hd hk1 he HZ.out HST.out.sm HST.out.big.1 HST.out.big.2.1 HLA.out hn) ?_
          intro E wx hE
          rcases hE with ⟨hg, _⟩ | ⟨_, ⟨y, rfl, hy⟩, hf⟩
          · exact absurd (by simpa [List.drop_drop] using hg) (by simpa [List.drop_drop] using HNG.out)
          have HFI := Lib.hid (HST.out.fin hf)
          have HZX := Lib.hid (HZ.out.below HFI.out.sm)
          have v0 := HZX.out.eof
          have v1 := HZX.out.une
          have v2 := HZX.out.tru
          have HEND : Hid (IterP w0 gl gp fid gs0 (.returned (.tuple #[.int .u32 (ve : Nat), .nilIface])) wx) := ⟨by have h := HEN.out; show _ = Ending.returned (.tuple #[.int .u32 ((runE 20 20 gs0 : Nat) : Int), .nilIface]); rw [← h]; rfl, vL, vQ, outs, ops, HFI.out, by have h := HOS.out; simpa [runO] using h, by have h := HOQ.out; simpa [runO] using h⟩
          clear hf HST HSR HLI HWB HPE HOS HOQ HLN HLE HEN HP HNG HFI
          rcases hy with rfl | rfl | rfl
          · go_wp2
            rw [Exit.noGoto_ret]
            go_ret2
            exact HEND.out
          · have eq1 := eqErrZ HZX.out.n1 HZX.out.bu HZX.out.be
            go_wp2
            rw [Exit.noGoto_ret]
            go_ret2
            exact HEND.out
          · have eq1 := eqErrZ HZX.out.n2 HZX.out.bt HZX.out.be
            have eq2 := eqErrZ HZX.out.n3 HZX.out.bt HZX.out.bu
            go_wp2
            rw [Exit.noGoto_ret]
            go_ret2
            exact HEND.out
      obtain ⟨Y', hY, hokr, hkn, hlin2⟩ := lin_cons HLI.out
      have HY := Lib.hid hY
      have HOKR := Lib.hid hokr
      have HKN := Lib.hid hkn
      have HLI2 := Lib.hid hlin2
      clear hY hokr hkn hlin2 HLI
      have HGD := Lib.hid (LR.good HOKR.out Y')
      obtain ⟨kN, hkN⟩ : ∃ x, r.k.length = x := ⟨_, rfl⟩
      obtain ⟨dN, hdN⟩ : ∃ x, r.d.length = x := ⟨_, rfl⟩
      obtain ⟨hN, hhN⟩ : ∃ x, r.hd.length = x := ⟨_, rfl⟩
      have hk1 : 1 ≤ kN := by have := HOKR.out.k1; omega
      have hk : kN ≤ 60 := by have := HOKR.out.k2; omega
      have hd : dN ≤ 1000 := by have := HOKR.out.d1; omega
      have hh : hN ≤ 22 := by have := (LR.hd_len HOKR.out).2; omega
      have HKN1 := Lib.hid hkN
      have HDN1 := Lib.hid hdN
      have HHN1 := Lib.hid hhN
      have hhd : r.hd = headB (kN : Nat) (dN : Nat) r.e r.m r.u := by rw [← hkN, ← hdN]; rfl
      have HHD := Lib.hid hhd
      have HP : Hid (Pre (l.drop pos) (headB (kN : Nat) (dN : Nat) r.e r.m r.u) true) := by show Pre _ _ _; rw [← hhd, HY.out]; exact HGD.out.1
      have hsz : r.size = hN + (kN + dN) + 4 := by unfold LR.size; rw [hkN, hdN, hhN]
      have HSZ := Lib.hid hsz
      have hposn : pos + r.size ≤ n := by
        have h1 := congrArg List.length HY.out
        have h2 := HST.out.rd.sl.1
        rw [nums_length] at h2
        rw [List.length_drop, List.length_append, LR.by_len HOKR.out] at h1
        have := HLE.out.1
        omega
      have HPN := Lib.hid hposn
      clear hkN hdN hhN hhd hsz hposn
      go_wp2_with fail
      refine Calls.mono (entry_any gb gs n c pos kN dN nk ck nv cv A Ak Av l r.m r.u r.e pos lf ae au at2 true w0 _ HST.out.rd HSR.out HP.out hk hd hk1 HOKR.out.e1 HZ.out HST.out.sm HST.out.big.1 HST.out.big.2.1 HLA.out hn) ?_
      rintro E wx hE
      rw [← HHD.out] at hE
      replace hE := hE.resolve_right (fun h => h.1 (by have h2 := HGD.out.2.1; rw [← HY.out, List.drop_drop, HKN1.out, HDN1.out] at h2; exact h2))
      obtain ⟨_, ge, rfl, hok2⟩ := hE
      obtain ⟨a1, c1, a2, c2, hs1, hst1⟩ := HST.out.took HOKR.out HY.out HKN1.out HDN1.out HHN1.out hok2
      have HS1 := Lib.hid hs1
      have HT1 := Lib.hid hst1
      clear hs1 hst1 hok2 HST HSR HP HLA HGD HHD
      go_upto_block 2 with fail
      go_cut [] (fun wz => wx = wz)
      case first =>
        as_aux_lemma =>
          have HE1 : Hid (Blk wx ge 91 [.slice a1 kN c1, .slice a2 dN c2, .int .u64 r.e, .int .u64 0, .int .u32 pos, .int .u8 r.u, .int .u8 r.m, .int .i64 hN, .int .i64 0]) := HT1.out.now.1
          have HZX := Lib.hid (HZ.out.below HS1.out.sm)
          have v0 := HZX.out.eof
          have v1 := HZX.out.une
          have v2 := HZX.out.tru
          have eqn : ∀ x : Addr, (binOp .eql 82 .nilIface (.iface 169 (.pointer (some x)))).run Tryz.prog wx = .ok (.bool false) wx := fun x => run_eql_iface_nil_left wx _ _ Tryz.underlying82
          go_wp2_with fail
          refine Calls.mono (isZero_any ge kN c1 0 a1 _ wx HE1.out hk1 (by omega)) ?_
          rintro E wy ⟨rfl, rfl⟩
          go_wp2_with fail
          go_meet
          rfl
      case rest =>
        subst hcut
        have HEX : Hid (Blk wx ge 91 [.slice a1 kN c1, .slice a2 dN c2, .int .u64 r.e, .int .u64 0, .int .u32 pos, .int .u8 r.u, .int .u8 r.m, .int .i64 hN, .int .i64 0]) := HT1.out.now.1
        go_upto_region 17 with fail
        have HV0 : Hid (Blk (wx.alloc (.cells #[.int .u32 0, .int .u32 0, .int .u32 0] 95)) wx.heap.size 95 [.int .u32 0, .int .u32 0, .int .u32 0]) := Blk.new wx 95 [.int .u32 0, .int .u32 0, .int .u32 0]
        have HE2 := Lib.hid (HEX.out.alloc (.cells #[.int .u32 0, .int .u32 0, .int .u32 0] 95))
        have HF2 : Hid (Frm [] wx (wx.alloc (.cells #[.int .u32 0, .int .u32 0, .int .u32 0] 95))) := Frm.alloc wx _
        obtain ⟨Ak1, nk1, ck1, Av1, nv1, cv1, lf1, hsr1⟩ := HS1.out.sr
        have HSR1 := Lib.hid hsr1
        obtain ⟨y0, y1, y3, hlf1⟩ := HS1.out.lf
        have HLF1 := Lib.hid hlf1
        clear hsr1 hlf1
        generalize wx.alloc (.cells #[.int .u32 0, .int .u32 0, .int .u32 0] 95) = wy at *
        obtain ⟨gv, hgv⟩ : ∃ x, wx.heap.size = x := ⟨_, rfl⟩
        have HGV := Lib.hid hgv
        rw [hgv]
        rw [hgv] at HV0
        clear hgv
        go_cut [] (fun wz => Hid (Blk wz gv 95 [.int .u32 0, .int .u32 (r.size : Nat), .int .u32 0]) ∧ Hid (Frm [] wx wz))
        case first =>
          as_aux_lemma =>
            have q0 := HE2.out.at_ (i := 0) rfl
            have q1 := HE2.out.at_ (i := 1) rfl
            have q7 := HE2.out.at_ (i := 7) rfl
            have hsz2 : (hN : Int) + kN + dN + 4 = (r.size : Nat) := by have := HSZ.out; omega
            have HSZ2 := Lib.hid hsz2
            clear hsz2
            go_still_tail 19, (by kernel_rfl)
            change wpList _ _ _ _ _ wy.drew
            have HVd := Lib.hid (HV0.out.drew)
            have HFd := Lib.hid (HF2.out.drew)
            generalize wy.drew = wd at *
            have p1 := HVd.out.at_ (i := 1) rfl
            have f1 := HVd.out.frozen 1
            go_wp2_with fail
            rw [HSZ2.out]
            go_meet
            exact ⟨HVd.out.set_ 1 (.int .u32 (r.size : Nat)), HFd.out.andSet ⟨gv, 1, none⟩ _ (.inr (Nat.le_of_eq HGV.out))⟩
        case rest =>
          obtain ⟨HV1, HF1⟩ := hcut
          clear HV0 HE2 HF2
          have HSR2 := Lib.hid (HSR1.out.frm HF1.out (by simp))
          go_upto_region 18 with fail
          go_cut [] (fun wz => Hid (Blk wz gv 95 [.int .u32 0, .int .u32 (r.size : Nat), .int .u32 0]) ∧ Hid (Frm [gs] wx wz) ∧ Hid (Blk wz gs 115 [.slice Ak1 nk1 ck1, .slice Av1 nv1 cv1, .int .u32 (pos + r.size : Nat), lf1]))
          case first =>
            as_aux_lemma =>
              have p1 := HV1.out.at_ (i := 1) rfl
              have s2 := HSR2.out.at_ (i := 2) rfl
              have hb18 : pos + r.size ≤ 900000 := Nat.le_trans HPN.out hn
              go_still_tail 9, (by kernel_rfl)
              change wpList _ _ _ _ _ wc.drew
              have HVd := Lib.hid HV1.out.drew
              have HFd := Lib.hid HF1.out.drew
              have HSd := Lib.hid HSR2.out.drew
              clear p1 s2
              generalize wc.drew = wd at *
              have s2 := HSd.out.at_ (i := 2) rfl
              have f2 := HSd.out.frozen 2
              go_wp2_with fail
              go_meet
              exact ⟨HVd.out.far (p := ⟨gs, 2, none⟩) (blk_neZ HVd.out HSd.out (by decide)) _, (HFd.out.mono (fun i hi => by cases hi)).andSet ⟨gs, 2, none⟩ _ (.inl (List.mem_singleton_self _)), HSd.out.set_ 2 _⟩
          case rest =>
            obtain ⟨HV2, HF2, HS2⟩ := hcut
            clear HV1 HF1 HSR2
            have HE3 := Lib.hid (HEX.out.frm HF2.out (fun hm => by rw [List.mem_singleton] at hm; exact blk_neZ HEX.out HSR1.out (by decide) hm))
            have HLF3 := Lib.hid (HLF1.out.frm HF2.out (fun hm => by rw [List.mem_singleton] at hm; exact blk_neZ HLF1.out HSR1.out (by decide) hm))
            have q4 := HE3.out.at_ (i := 4) rfl
            have l2 := HLF3.out.at_ (i := 2) rfl
            have p2 := HV2.out.at_ (i := 2) rfl
            have f2 := HV2.out.frozen 2
            have p0 := HV2.out.at_ (i := 0) rfl
            have f0 := HV2.out.frozen 0
            have hne1 : glf ≠ gv := blk_neZ HLF3.out HV2.out (by decide)
            go_upto_region 27 with fail
            have HV := Lib.hid ((HV2.out.set_ 2 (.int .u32 pos)).set_ 0 (.int .u32 fid))
            have hgsv : gs ≠ gv := blk_neZ HS2.out HV2.out (by decide)
            have HF3 : Hid (Frm [gs] wx ((wc.setCell ⟨gv, 2, none⟩ (.int .u32 pos)).setCell ⟨gv, 0, none⟩ (.int .u32 fid))) := (HF2.out.andSet ⟨gv, 2, none⟩ _ (.inr (Nat.le_of_eq HGV.out))).andSet ⟨gv, 0, none⟩ _ (.inr (Nat.le_of_eq HGV.out))
            have HS3 := Lib.hid ((HS2.out.far (p := ⟨gv, 2, none⟩) hgsv (.int .u32 pos)).far (p := ⟨gv, 0, none⟩) hgsv (.int .u32 fid))
            clear q4 l2 p2 f2 p0 f0 hne1 hgsv HV2 HF2 HS2 HE3 HLF3
            generalize (wc.setCell ⟨gv, 2, none⟩ (.int .u32 pos)).setCell ⟨gv, 0, none⟩ (.int .u32 fid) = wq at *
            have HS := Lib.hid (HS1.out.entry (off' := pos + r.size) (HF3.out.mono (fun i hi => .inl (List.mem_cons_of_mem _ hi))) (HS1.out.rd.frm HF3.out (fun hm => by rw [List.mem_singleton] at hm; exact blk_neZ HS1.out.rd.b HSR1.out (by decide) hm) (fun g o e h0 hm => by rw [List.mem_singleton] at hm; have := HS1.out.data g o e h0; have := HS1.out.big.2.1; omega)) ⟨_, _, _, _, _, _, _, HS3.out⟩)
            have HT := Lib.hid (HT1.out.frm HF3.out (fun k hk _ => by rw [List.mem_singleton] at hk; subst hk; simp [volX]) (fun k hk _ => hk))
            clear HS1 HT1 HF3 HS3 HSR1 HLF1 HEX
            obtain ⟨A14, c14, e14, hc14, hsl14, _⟩ := own_slT HS.out.ent
            obtain ⟨A15, c15, e15, hc15, hsl15, _⟩ := own_slT HS.out.vps
            have hpl : (pd.map (sp3 fid)).length = pend.length := by have h := congrArg List.length HPE.out; rw [List.length_map, List.length_map] at h; rw [List.length_map]; exact h.symm
            rw [hpl] at e15 hc15 hsl15
            subst e14 e15
            have HPL := Lib.hid hpl
            have H14 := Lib.hid hsl14
            have H15 := Lib.hid hsl15
            clear hpl hsl14 hsl15
            have hlin3 : Lin (l.drop (pos + r.size)) gsL := by rw [← List.drop_drop, HY.out, (LR.good HOKR.out Y').2.2.2.2]; exact HLI2.out
            have HLI3 := Lib.hid hlin3
            clear hlin3
            have hs1 : 1 ≤ r.size := by have := HSZ.out; omega
            have HS1 := Lib.hid hs1
            clear hs1
            rcases kn with _ | ts | ts
            case one =>
              as_aux_lemma =>
                have hb1 : bits .and .u8 r.m 64 = 0 := HKN.out.1
                have hb2 : bits .and .u8 r.m 128 = 0 := HKN.out.2
                have hlc : lc = 0 := HWB.out.1
                subst hlc
                obtain ⟨_, _, _, _, _, _, _, hsr⟩ := HS.out.sr
                have HSRq := Lib.hid hsr
                clear hsr
                have HEQ := Lib.hid HT.out.now.1
                have q6 := HEQ.out.at_ (i := 6) rfl
                have s2 := HSRq.out.at_ (i := 2) rfl
                go_upto_region 23 with fail
                have q0 := HEQ.out.at_ (i := 0) rfl
                have q1 := HEQ.out.at_ (i := 1) rfl
                have q2 := HEQ.out.at_ (i := 2) rfl
                have q3 := HEQ.out.at_ (i := 3) rfl
                have q4 := HEQ.out.at_ (i := 4) rfl
                have q5 := HEQ.out.at_ (i := 5) rfl
                have q7 := HEQ.out.at_ (i := 7) rfl
                have q8 := HEQ.out.at_ (i := 8) rfl
                have p0 := HV.out.at_ (i := 0) rfl
                have p1 := HV.out.at_ (i := 1) rfl
                have p2 := HV.out.at_ (i := 2) rfl
                go_still_tail 5, (by kernel_rfl)
                change wpList _ _ _ _ _ wq.drew
                have hSd := HS.out.frm0 ((Frm.refl [] wq).drew)
                have hTd := HT.out.frm ((Frm.refl [] wq).drew) (fun k hk => by cases hk) (fun k hk _ => hk)
                have HSd := Lib.hid hSd
                have HTd := Lib.hid hTd
                clear hSd hTd q0 q1 q2 q3 q4 q5 q6 q7 q8 p0 p1 p2 s2 HEQ HSRq HS HT HV
                generalize wq.drew = wd at *
                rw [← HVF.out]
                go_wp2_with fail
                refine Calls.mono (hand_any w0.heap.size gl gp vL vQ outs ops ⟨a1, kN, c1, a2, dN, c2, r.k, r.d, r.e, r.m, r.u⟩ (fid, ((r.size : Nat) : Int), ((pos : Nat) : Int)) 0 pos hN 0 wd HSd.out.bl HSd.out.bp HSd.out.ol HSd.out.oq HSd.out.sm.size (by have := HLN.out; have := HLE.out.1; omega) (by have := HLN.out; have := HLE.out.1; omega)) ?_
                rintro E wh ⟨rfl, vL', vQ', hbl, hbp, hol, hoq, hfh, hgL, hgQ⟩
                rw [HVF.out]
                have HSh := Lib.hid (HSd.out.hand hfh hbl hbp hol hoq hgL hgQ (HTd.out.imp (fun W h => h.2)))
                clear hbl hbp hol hoq hfh hgL hgQ HSd HTd
                go_wp2
                go_roundg gsL.length
                case measure => have := HGK.out; rw [List.length_cons] at this; omega
                case rel =>
                  refine ⟨pos + r.size, pos + r.size, 0, gsL, rfl, by first | rfl | simp, by first | rfl | simp, ⟨⟨_, _, pend, pd, _, _, HSh.out, HPE.out, ?_, ?_, ?_, ?_⟩, HLI3.out, HWB.out.2, HEN.out, HPN.out, Nat.le_refl _, by omega⟩⟩
                  · have h := HOS.out
                    simpa [runO, RR.lr] using h
                  · have h := HOQ.out
                    simpa [runO, sp3] using h
                  · have := HLN.out; have := HS1.out; rw [List.length_append, List.length_singleton]; omega
                  · have := HLN.out; rw [List.length_append, List.length_append, List.length_singleton, List.length_singleton]; omega
            case txn =>
              as_aux_lemma =>
                have hb1 : bits .and .u8 r.m 64 = 64 := HKN.out.1
                obtain ⟨_, ⟨k0, hk0, hkey⟩, hts1, hts2⟩ := HKN.out
                have HKEY := Lib.hid hkey
                clear hkey
                have HEQ := Lib.hid HT.out.now.1
                have q6 := HEQ.out.at_ (i := 6) rfl
                have q0 := HEQ.out.at_ (i := 0) rfl
                go_wp2_with fail
                refine Calls.mono (parseTs_any a1 kN c1 k0 ts wq (by have h : Sl wq a1 kN (nums .u8 r.k) := HT.out.now.2.key; rw [HKEY.out] at h; exact h) HT.out.now.2.hk hk0 (by omega) (by omega) (Lib.hid (show (ts : Int) ≤ 18446744073709551615 by omega))) ?_
                rintro E wp ⟨rfl, hdr⟩
                have hfp : Frm [] wq wp := Frm.of_below hdr.below
                have HSp := Lib.hid (HS.out.frm0 hfp)
                have HTp := Lib.hid (HT.out.frm hfp (fun k hk => by cases hk) (fun k hk _ => hk))
                have HVp := Lib.hid (HV.out.frm hfp (by simp))
                clear hdr hfp q6 q0 HEQ HS HT HV H14 H15
                have hz : lc = ts → ((lc : Int) == 0) = false := fun h => by rw [beq_eq_false_iff_ne]; omega
                have HZZ := Lib.hid hz
                clear hz
                go_upto_if 143 with fail
                go_cut [12] (fun v12 wz => v12 = .int .u64 (ts : Nat) ∧ wp = wz)
                case first =>
                  rcases HWB.out.1 with hw | hw
                  · subst hw
                    go_wp2_with fail
                    go_meet
                    exact ⟨rfl, rfl⟩
                  · have h0 := HZZ.out hw
                    subst hw
                    go_wp2_with fail
                    go_meet
                    exact ⟨rfl, rfl⟩
                case rest =>
                  obtain ⟨rfl, rfl⟩ := hcut
                  go_upto_region 33 with (at_builtin; refine wpList_appT rfl (.tmp 148) (.tmp 150) 116 89 rfl _ 1 8 Tryz.underlying116 infoEnt rfl (by omega) (by omega) w0.heap.size _ pend.length (pend.map PE.ptr) rfl (HSp.out.ent.alloc _) _ 1 1 [.pointer (some ⟨ge, 0, none⟩)] rfl (blkSl5 _ _ 1 rfl) (ptr_one _) (by have := HLN.out; have := HLE.out.1; omega) ?cx ?_; (case cx => rw [World.size_alloc]; have := HSp.out.sm.size; omega); intro v14 w3 ho3 hg3 hat3; obtain ⟨B14, d14, e14, _, _, _⟩ := own_slT ho3; subst e14; have HF3 := Lib.hid (frm_appT _ hg3); have HO3 := Lib.hid ho3; have HA3 := Lib.hid hat3; clear ho3 hg3 hat3)
                  have HS3 := Lib.hid (HSp.out.newE HF3.out (pend' := pend ++ [⟨ge, ⟨a1, kN, c1, a2, dN, c2, r.k, r.d, r.e, r.m, r.u⟩, pos, hN⟩]) (by rw [List.length_append, List.map_append]; exact HO3.out) (fun k hk => by
                    rcases HA3.out with h | h
                    · rw [h] at hk; exact .inl hk
                    · rw [h, World.size_alloc] at hk
                      simp only [Option.toList_some, List.mem_singleton] at hk
                      exact .inr (by omega)) (fun e' he => by
                    rcases List.mem_append.1 he with h | h
                    · exact HSp.out.pst e' h
                    · rw [List.mem_singleton] at h; subst h; exact HTp.out))
                  have HV3 := Lib.hid (HVp.out.frm HF3.out (own_neT HSp.out.ent HVp.out (by decide)))
                  clear HO3 HA3 HF3 HSp HTp HVp
                  have p0 := HV3.out.at_ (i := 0) rfl
                  have p1 := HV3.out.at_ (i := 1) rfl
                  have p2 := HV3.out.at_ (i := 2) rfl
                  go_wp2_with (at_builtin; refine wpList_appT rfl (.tmp 152) (.tmp 154) 117 95 rfl _ 3 12 Tryz.underlying117 infoVp rfl (by omega) (by omega) w0.heap.size _ (pd.map (sp3 fid)).length (flatSp (pd.map (sp3 fid))) rfl (HS3.out.vps.alloc _) _ 1 1 (spC (sp3 fid (r, pos))) rfl (blkSl5 _ _ 3 rfl) (spC_one _) (by have := HLN.out; have := HLE.out.1; have := HPL.out; omega) ?cx ?_; (case cx => rw [World.size_alloc]; have := HS3.out.sm.size; omega); intro v15 w4 ho4 hg4 hat4; obtain ⟨B15, d15, e15, _, _, _⟩ := own_slT ho4; subst e15; have HF4 := Lib.hid (frm_appT _ hg4); have HO4 := Lib.hid ho4; have HA4 := Lib.hid hat4; clear ho4 hg4 hat4)
                  have HS4 := Lib.hid (HS3.out.newP HF4.out (sps' := (pd ++ [(r, pos)]).map (sp3 fid)) (by have h := HO4.out; rw [flatSp_snoc] at h; rw [List.map_append, List.length_append]; exact h) (fun k hk => by
                    rcases HA4.out with h | h
                    · rw [h] at hk; exact .inl hk
                    · rw [h, World.size_alloc] at hk
                      simp only [Option.toList_some, List.mem_singleton] at hk
                      exact .inr (by omega)))
                  clear HO4 HA4 HF4 HS3 p0 p1 p2
                  go_roundg gsL.length
                  case measure => have := HGK.out; rw [List.length_cons] at this; omega
                  case rel =>
                    exact ⟨pos + r.size, ve, ts, gsL, rfl, rfl, rfl, ⟨⟨vL, vQ, pend ++ [⟨ge, ⟨a1, kN, c1, a2, dN, c2, r.k, r.d, r.e, r.m, r.u⟩, pos, hN⟩], pd ++ [(r, pos)], outs, ops, (by have h := HS4.out; rw [List.length_map] at h; exact h), by rw [List.map_append, List.map_append, HPE.out]; rfl, HOS.out, HOQ.out, by have := HLN.out; have := HS1.out; rw [List.length_append, List.length_singleton]; omega, HLN.out.2⟩, HLI3.out, HWB.out.2, HEN.out, HPN.out, by have := HLE.out; omega, hts2⟩⟩
            case fin =>
              as_aux_lemma =>
                have hb1 : bits .and .u8 r.m 64 = 0 := HKN.out.1
                have hb2 : bits .and .u8 r.m 128 = 128 := HKN.out.2.1
                obtain ⟨_, _, hd1, hdig, hdn, hts1, hts2⟩ := HKN.out
                have hlc : lc = ts := HWB.out.1
                obtain rfl : ts = lc := hlc.symm
                have hp : Lib.parseUint10 0 (strB r.d).data.toList = .ok ts := by rw [strB_list, parse_dig _ 0 hdig (by omega), hdn]
                have HPU := Lib.hid hp
                have HPZ : Hid ((strB r.d).size ≠ 0 ∧ (strB r.d).size ≤ 1000000) := by show _ ∧ _; rw [strB_size]; have := HDN1.out; omega
                clear hp hdig hdn hlc
                have HEQ := Lib.hid HT.out.now.1
                have q6 := HEQ.out.at_ (i := 6) rfl
                have q1 := HEQ.out.at_ (i := 1) rfl
                have hdat : Sl wq a2 dN (nums .u8 r.d) := HT.out.now.2.dat
                have cv := convert_sl hdat c2 _ _ _ Tryz.underlying27 Tryz.underlying5 Tryz.underlying9
                go_wp2_with fail
                refine Calls.mono (parse_any (strB r.d) ts HPZ.out.1 HPZ.out.2 HPU.out wq) ?_
                rintro E wp ⟨rfl, hfp⟩
                have HSp := Lib.hid (HS.out.frm0 hfp)
                clear hfp q6 q1 HEQ HS HT HV H14 H15 hdat cv HPU HPZ
                obtain ⟨_, _, _, _, _, _, _, hsr⟩ := HSp.out.sr
                have s2 := hsr.at_ (i := 2) rfl
                clear hsr
                go_wp2_with fail
                have hpd : pd.length = pend.length := by have := HPL.out; rwa [List.length_map] at this
                have HPD := Lib.hid hpd
                clear hpd s2
                go_loopg [185] pend.length (fun f v185 wr => ∃ (i : Nat) (vL' vQ' : Value), v185 = .int .i64 i ∧ i ≤ pend.length ∧ Hid (i + f = pend.length) ∧ Hid (ItS w0 gb gs glf gl gp n c (pos + r.size) (pos + r.size) A l fid (.slice A14 pend.length c14) (.slice A15 pend.length c15) vL' vQ' pend (pd.map (sp3 fid)) (outs ++ (pend.take i).map PE.r) (ops ++ (pd.take i).map (sp3 fid)) wr))
                case atStart => exact ⟨0, vL, vQ, rfl, Nat.zero_le _, Nat.zero_add _, by rw [List.take_zero, List.take_zero, List.map_nil, List.map_nil, List.append_nil, List.append_nil]; exact HSp⟩
                case round =>
                  clear HSp
                  obtain ⟨i, vL', vQ', rfl, hil, hif, HI⟩ := hrel
                  rcases Nat.lt_or_ge i pend.length with hlt | hge
                  · obtain ⟨gkI, rfl⟩ : ∃ q, gk = q + 1 := ⟨gk - 1, by have := hif.out; omega⟩
                    obtain ⟨ei, hei⟩ : ∃ e, pend[i]? = some e := ⟨pend[i], List.getElem?_eq_getElem hlt⟩
                    obtain ⟨xi, hxi⟩ : ∃ e, pd[i]? = some e := ⟨pd[i]'(by rw [HPD.out]; exact hlt), List.getElem?_eq_getElem _⟩
                    have ho15 := HI.out.vps
                    rw [HPL.out] at ho15
                    obtain ⟨g14, o14, hA14, hc4⟩ := (own_slX HI.out.ent).2 (by omega)
                    obtain ⟨g15, o15, hA15, hc5⟩ := (own_slX ho15).2 (by omega)
                    subst hA14 hA15
                    have d14 := hc4 i (.pointer (some ⟨ei.ge, 0, none⟩)) (by rw [List.getElem?_map, hei]; rfl)
                    obtain ⟨t0, t1, t2⟩ := flatSp_at (pd.map (sp3 fid)) i (sp3 fid xi) (by rw [List.getElem?_map, hxi]; rfl)
                    have e0 := hc5 _ _ t0
                    have e1 := hc5 _ _ t1
                    have e2 := hc5 _ _ t2
                    rw [← Nat.add_assoc] at e1 e2
                    have HEI := Lib.hid hei
                    have HXI := Lib.hid hxi
                    clear t0 t1 t2 hc4 hc5 ho15 hei hxi
                    go_upto_region 43 with fail
                    have HVi := Lib.hid (Blk.new wr 95 [.int .u32 (sp3 fid xi).1, .int .u32 (sp3 fid xi).2.1, .int .u32 (sp3 fid xi).2.2])
                    have hfi : Frm [] wr (wr.alloc (.cells #[.int .u32 (sp3 fid xi).1, .int .u32 (sp3 fid xi).2.1, .int .u32 (sp3 fid xi).2.2] 95)) := Frm.alloc wr _
                    have HIi := Lib.hid (HI.out.frm0 hfi)
                    have HEi := Lib.hid ((HI.out.pst ei (List.mem_of_getElem? HEI.out)).frm hfi (fun k hk => by cases hk) (fun k hk _ => hk))
                    clear d14 e0 e1 e2 HI hfi
                    generalize wr.alloc (.cells #[.int .u32 (sp3 fid xi).1, .int .u32 (sp3 fid xi).2.1, .int .u32 (sp3 fid xi).2.2] 95) = wn at *
                    have HBi := Lib.hid HEi.out.now.1
                    have q0 := HBi.out.at_ (i := 0) rfl
                    have q1 := HBi.out.at_ (i := 1) rfl
                    have q2 := HBi.out.at_ (i := 2) rfl
                    have q3 := HBi.out.at_ (i := 3) rfl
                    have q4 := HBi.out.at_ (i := 4) rfl
                    have q5 := HBi.out.at_ (i := 5) rfl
                    have q6 := HBi.out.at_ (i := 6) rfl
                    have q7 := HBi.out.at_ (i := 7) rfl
                    have q8 := HBi.out.at_ (i := 8) rfl
                    have p0 := HVi.out.at_ (i := 0) rfl
                    have p1 := HVi.out.at_ (i := 1) rfl
                    have p2 := HVi.out.at_ (i := 2) rfl
                    go_still_tail 5, (by kernel_rfl)
                    change wpList _ _ _ _ _ wn.drew
                    have HSd := Lib.hid (HIi.out.frm0 ((Frm.refl [] wn).drew))
                    have HTd := Lib.hid (HEi.out.frm ((Frm.refl [] wn).drew) (fun k hk => by cases hk) (fun k hk _ => hk))
                    clear q0 q1 q2 q3 q4 q5 q6 q7 q8 p0 p1 p2 HBi HIi HEi HVi
                    generalize wn.drew = wd at *
                    rw [← HVF.out]
                    go_wp2_with fail
                    refine Calls.mono (hand_any w0.heap.size gl gp vL' vQ' (outs ++ (pend.take i).map PE.r) (ops ++ (pd.take i).map (sp3 fid)) ei.r (sp3 fid xi) 0 ei.off ei.hl 0 wd HSd.out.bl HSd.out.bp HSd.out.ol HSd.out.oq HSd.out.sm.size (by have := HLN.out; have := HLE.out.1; rw [List.length_append, List.length_map, List.length_take]; omega) (by have := HLN.out; have := HLE.out.1; rw [List.length_append, List.length_map, List.length_take]; omega)) ?_
                    rintro E wh ⟨rfl, vL2, vQ2, hbl, hbp, hol, hoq, hfh, hgL, hgQ⟩
                    rw [HVF.out]
                    have HSh := Lib.hid (HSd.out.hand hfh hbl hbp hol hoq hgL hgQ (HTd.out.imp (fun W h => h.2)))
                    clear hbl hbp hol hoq hfh hgL hgQ HSd HTd
                    have hpb : i ≤ 900000 := by have := HLN.out; have := HLE.out.1; omega
                    go_wp2
                    go_roundg gkI
                    case measure => omega
                    case rel =>
                      refine ⟨i + 1, vL2, vQ2, by go_num, hlt, ?_, ?_⟩
                      · have := hif.out; show _ = _; omega
                      · have t1 : (pend.take (i + 1)).map PE.r = (pend.take i).map PE.r ++ [ei.r] := by rw [List.take_add_one, HEI.out, List.map_append]; rfl
                        have t2 : (pd.take (i + 1)).map (sp3 fid) = (pd.take i).map (sp3 fid) ++ [sp3 fid xi] := by rw [List.take_add_one, HXI.out, List.map_append]; rfl
                        rw [t1, t2, ← List.append_assoc, ← List.append_assoc]
                        exact HSh
                  · obtain rfl : i = pend.length := by omega
                    have h := HI.out
                    have t1 : pend.take pend.length = pend := List.take_length
                    have t2 : pd.take pend.length = pd := by rw [← HPD.out]; exact List.take_length
                    rw [t1, t2] at h
                    have h1 := h.newE (v' := .slice A14 0 c14) (Frm.refl _ wr) (pend' := []) (by have h2 := own_takeT h.ent (Nat.zero_le pend.length); rw [Nat.zero_mul, List.take_zero] at h2; exact h2) (fun k hk => .inl (by rw [ownB_len A14 pend.length 0]; exact hk)) (fun e he => by cases he)
                    have h3 := h.vps
                    rw [HPL.out] at h3
                    have h4 := h1.newP (v' := .slice A15 0 c15) (Frm.refl _ wr) (sps' := []) (by have h2 := own_takeT h3 (Nat.zero_le pend.length); rw [Nat.zero_mul, List.take_zero] at h2; exact h2) (fun k hk => .inl (by rw [ownB_len A15 pend.length 0]; exact hk))
                    have H9 := Lib.hid h4
                    clear h h1 h3 h4 t1 t2 HI
                    go_wp2_with fail
                    go_roundg gsL.length
                    case measure => have := HGK.out; rw [List.length_cons] at this; omega
                    case rel =>
                      refine ⟨pos + r.size, pos + r.size, 0, gsL, rfl, by first | rfl | go_num, by first | rfl | go_num, ⟨⟨vL', vQ', [], [], outs ++ pend.map PE.r, ops ++ pd.map (sp3 fid), H9.out, rfl, ?_, ?_, ?_, ?_⟩, HLI3.out, HWB.out.2, HEN.out, HPN.out, Nat.le_refl _, by omega⟩⟩
                      · have h := HOS.out
                        rw [show runO pos pd ((r, Kn.fin ts) :: gsL) = pd ++ runO (pos + r.size) [] gsL from rfl, List.map_append, ← HPE.out] at h
                        rw [List.map_append, List.map_map, List.append_assoc]
                        exact h
                      · have h := HOQ.out
                        rw [show runO pos pd ((r, Kn.fin ts) :: gsL) = pd ++ runO (pos + r.size) [] gsL from rfl, List.map_append] at h
                        rw [List.append_assoc]
                        exact h
                      · have := HLN.out; rw [List.length_append, List.length_map, List.length_nil]; omega
                      · have := HLN.out; have := HPD.out; rw [List.length_append, List.length_map, List.length_append, List.length_map]; omega
end Go.Proofs.YtpfmmbhbmdbmeaaGreatDoor
