/- Key, value and end of an iterator over lists that are merged. -/
import Derived.Test.YtegaigpolhdicaaGreatA9
namespace Go.Proofs.YtegaigpolhdicaaGreat
open Go.RowKit
set_option linter.unusedVariables false
set_option linter.unusedSimpArgs false
def Tr.fVal : Tr → Nat
  | .leaf _ _ _ _ => 64
  | .node _ _ _ => 74
def Tr.fKey : Tr → Nat
  | .leaf _ _ _ _ => 59
  | .node _ _ _ => 69
def Tr.fVld : Tr → Nat
  | .leaf _ _ _ _ => 63
  | .node _ _ _ => 73
def Tr.fCls : Tr → Nat
  | .leaf _ _ _ _ => 58
  | .node _ _ _ => 68
def noB : Nat → Prop := fun _ => False
theorem noB_in {U : Nat → Prop} : ∀ i, noB i → U i := fun _ x => x.elim
theorem noB_out {S : Nat → Prop} : ∀ i, S i → ¬ noB i := fun _ _ x => x
theorem trValid {U S : Nat → Prop} {rev : Bool} {w : World} {r : List Ent} (T : Tr) (h : T.Ok U rev w S (some r)) : Calls Tryz.prog T.fVld #[T.adr] w fun E w' => E = .returned (.bool (nonE r)) ∧ Drew w w' := by
  cases T with
  | leaf g A c es => exact leafValid h
  | node g L R =>
    obtain ⟨SL, SR, mL, mR, v1, K1, v2, K2, s, cu, h1, h2, h3, h4⟩ := h
    obtain ⟨rl, rr, rfl, rfl, rfl, hs, o1, o2, rfl, rfl, k1, k2, hc⟩ := h4 r rfl
    have hcells := ncells_small (L := L) (R := R) (g := g) (s := s) (cu := cu) (rev := rev) K1 K2 (nonE rl) (nonE rr)
    rw [small_valid hs] at hcells
    refine (mValid_any g s _ _ w h3.blk rfl hcells.1).mono ?_
    rintro E w' ⟨rfl, rfl⟩
    exact ⟨rfl, 0, rfl⟩
set_option maxRecDepth 100000 in
theorem mKey_any (g o : Nat) (K : Value) (w : World) (u10 : w.cell? ⟨g, 10, none⟩ = some (.pointer (some ⟨g, o, none⟩))) (uo : w.cell? ⟨g, o + 1, none⟩ = some K) (hK : ∃ A n c, K = .slice A n c) :
    Calls Tryz.prog 69 #[.pointer (some ⟨g, 0, none⟩)] w fun E w' => E = .returned K ∧ w = w' := by
  obtain ⟨A, n, c, rfl⟩ := hK
  go_enter Tryz.func69, Tryz.ntmps69
  go_wp2
  go_returns
  exact ⟨rfl, rfl⟩
theorem trKey {U S : Nat → Prop} {rev : Bool} {w : World} {e : Ent} {r : List Ent} (T : Tr) (h : T.Ok U rev w S (some (e :: r))) (hG : T.Good rev) : ∃ K, KeyOf U w K (keyB e.k e.v) ∧ Calls Tryz.prog T.fKey #[T.adr] w fun E w' => E = .returned K ∧ Drew w w' := by
  cases T with
  | leaf g A c es => exact leafKey h hG
  | node g L R =>
    obtain ⟨s, Ks, c10, cv, ck, hk⟩ := node_small h
    refine ⟨Ks, hk, (mKey_any g (offS s) Ks w c10 ck ?_).mono ?_⟩
    · obtain ⟨A, n, c, hh, _⟩ := hk
      exact ⟨A, n, c, hh⟩
    · rintro E w' ⟨rfl, rfl⟩
      exact ⟨rfl, 0, rfl⟩
def ValR (U : Nat → Prop) (w : World) (e : Ent) (f : Nat) (adr : Value) : Prop := ∃ D nd cd, nd ≤ cd ∧ nd = e.d.length ∧ Fix U w (fun W => Sl W D nd (nums .u8 e.d)) ∧ ∀ w1, FrS noB w w1 → Calls Tryz.prog f #[adr] w1 fun E w' => E = .returned (.agg #[.int .u8 e.m, .int .u8 e.u, .int .u64 e.x, .slice D nd cd, .int .u64 0]) ∧ Below w1.heap.size w1 w'
set_option maxRecDepth 100000 in
set_option maxHeartbeats 2000000 in
theorem mVal_leaf (g o g2 : Nat) (e : Ent) (D : Option Addr) (nd cd : Nat) (w : World) (u10 : w.cell? ⟨g, 10, none⟩ = some (.pointer (some ⟨g, o, none⟩))) (uo : w.cell? ⟨g, o + 2, none⟩ = some (.iface 52 (.pointer (some ⟨g2, 0, none⟩))))
    (hc : ∀ w1, FrS noB w w1 → Calls Tryz.prog 64 #[.pointer (some ⟨g2, 0, none⟩)] w1 fun E w' => E = .returned (.agg #[.int .u8 e.m, .int .u8 e.u, .int .u64 e.x, .slice D nd cd, .int .u64 0]) ∧ Below w1.heap.size w1 w') :
    Calls Tryz.prog 74 #[.pointer (some ⟨g, 0, none⟩)] w fun E w' => E = .returned (.agg #[.int .u8 e.m, .int .u8 e.u, .int .u64 e.x, .slice D nd cd, .int .u64 0]) ∧ Below w.heap.size w w' := by
  have HC := Lib.hid (hc _ ((FrS.refl noB w).andAlloc (.cells #[.int .u8 0, .int .u8 0, .int .u64 0, .slice none 0 0, .int .u64 0] 66)))
  have HR : Hid (Blk (w.alloc (.cells #[.int .u8 0, .int .u8 0, .int .u64 0, .slice none 0 0, .int .u64 0] 66)) w.heap.size 66 [.int .u8 0, .int .u8 0, .int .u64 0, .slice none 0 0, .int .u64 0]) := Blk.new w _ _
  have HB : Hid (Below w.heap.size w (w.alloc (.cells #[.int .u8 0, .int .u8 0, .int .u64 0, .slice none 0 0, .int .u64 0] 66))) := (Below.refl w.heap.size w).alloc (Nat.le_refl _) _
  have v10 := cell_alloc (.cells #[.int .u8 0, .int .u8 0, .int .u64 0, .slice none 0 0, .int .u64 0] 66) u10
  have vo := cell_alloc (.cells #[.int .u8 0, .int .u8 0, .int .u64 0, .slice none 0 0, .int .u64 0] 66) uo
  clear hc u10 uo
  go_enter Tryz.func74, Tryz.ntmps74
  go_wp2_with fail
  generalize w.alloc (.cells #[.int .u8 0, .int .u8 0, .int .u64 0, .slice none 0 0, .int .u64 0] 66) = w0 at *
  go_wp2_with fail
  refine HC.out.mono ?_
  rintro E w3 ⟨rfl, hb3⟩
  have hr3 := HR.out.below hb3 HR.out.lt
  have HB3 : Hid (Below w.heap.size w w3) := HB.out.trans (hb3.mono HB.out.size)
  have r0 := hr3.at_ (i := 0) rfl
  have r1 := hr3.at_ (i := 1) rfl
  have r2 := hr3.at_ (i := 2) rfl
  have r3 := hr3.at_ (i := 3) rfl
  have r4 := hr3.at_ (i := 4) rfl
  have z0 := hr3.frozen 0
  have z1 := hr3.frozen 1
  have z2 := hr3.frozen 2
  have z3 := hr3.frozen 3
  have z4 := hr3.frozen 4
  clear hr3 hb3 HC v10 vo
  go_wp2
  refine bodyPost_ret (v := .agg #[.int .u8 e.m, .int .u8 e.u, .int .u64 e.x, .slice D nd cd, .int .u64 0]) (by simp [results, Tryz.results74, go_sem, r0, r1, r2, r3, r4, z0, z1, z2, z3, z4]) rfl ?_
  exact ⟨rfl, ((((HB3.out.setCell (Nat.le_refl _) _).setCell (Nat.le_refl _) _).setCell (Nat.le_refl _) _).setCell (Nat.le_refl _) _).setCell (Nat.le_refl _) _⟩
set_option maxRecDepth 100000 in
set_option maxHeartbeats 2000000 in
theorem mVal_node (g o g2 : Nat) (e : Ent) (D : Option Addr) (nd cd : Nat) (w : World) (u10 : w.cell? ⟨g, 10, none⟩ = some (.pointer (some ⟨g, o, none⟩))) (uo : w.cell? ⟨g, o + 2, none⟩ = some (.iface 77 (.pointer (some ⟨g2, 0, none⟩))))
    (hc : ∀ w1, FrS noB w w1 → Calls Tryz.prog 74 #[.pointer (some ⟨g2, 0, none⟩)] w1 fun E w' => E = .returned (.agg #[.int .u8 e.m, .int .u8 e.u, .int .u64 e.x, .slice D nd cd, .int .u64 0]) ∧ Below w1.heap.size w1 w') :
    Calls Tryz.prog 74 #[.pointer (some ⟨g, 0, none⟩)] w fun E w' => E = .returned (.agg #[.int .u8 e.m, .int .u8 e.u, .int .u64 e.x, .slice D nd cd, .int .u64 0]) ∧ Below w.heap.size w w' := by
  have HC := Lib.hid (hc _ ((FrS.refl noB w).andAlloc (.cells #[.int .u8 0, .int .u8 0, .int .u64 0, .slice none 0 0, .int .u64 0] 66)))
  have HR : Hid (Blk (w.alloc (.cells #[.int .u8 0, .int .u8 0, .int .u64 0, .slice none 0 0, .int .u64 0] 66)) w.heap.size 66 [.int .u8 0, .int .u8 0, .int .u64 0, .slice none 0 0, .int .u64 0]) := Blk.new w _ _
  have HB : Hid (Below w.heap.size w (w.alloc (.cells #[.int .u8 0, .int .u8 0, .int .u64 0, .slice none 0 0, .int .u64 0] 66))) := (Below.refl w.heap.size w).alloc (Nat.le_refl _) _
  have v10 := cell_alloc (.cells #[.int .u8 0, .int .u8 0, .int .u64 0, .slice none 0 0, .int .u64 0] 66) u10
  have vo := cell_alloc (.cells #[.int .u8 0, .int .u8 0, .int .u64 0, .slice none 0 0, .int .u64 0] 66) uo
  clear hc u10 uo
  go_enter Tryz.func74, Tryz.ntmps74
  go_wp2_with fail
  generalize w.alloc (.cells #[.int .u8 0, .int .u8 0, .int .u64 0, .slice none 0 0, .int .u64 0] 66) = w0 at *
  go_wp2_with fail
  refine HC.out.mono ?_
  rintro E w3 ⟨rfl, hb3⟩
  have hr3 := HR.out.below hb3 HR.out.lt
  have HB3 : Hid (Below w.heap.size w w3) := HB.out.trans (hb3.mono HB.out.size)
  have r0 := hr3.at_ (i := 0) rfl
  have r1 := hr3.at_ (i := 1) rfl
  have r2 := hr3.at_ (i := 2) rfl
  have r3 := hr3.at_ (i := 3) rfl
  have r4 := hr3.at_ (i := 4) rfl
  have z0 := hr3.frozen 0
  have z1 := hr3.frozen 1
  have z2 := hr3.frozen 2
  have z3 := hr3.frozen 3
  have z4 := hr3.frozen 4
  clear hr3 hb3 HC v10 vo
  go_wp2
  refine bodyPost_ret (v := .agg #[.int .u8 e.m, .int .u8 e.u, .int .u64 e.x, .slice D nd cd, .int .u64 0]) (by simp [results, Tryz.results74, go_sem, r0, r1, r2, r3, r4, z0, z1, z2, z3, z4]) rfl ?_
  exact ⟨rfl, ((((HB3.out.setCell (Nat.le_refl _) _).setCell (Nat.le_refl _) _).setCell (Nat.le_refl _) _).setCell (Nat.le_refl _) _).setCell (Nat.le_refl _) _⟩
theorem trValue {U : Nat → Prop} {rev : Bool} {w : World} {e : Ent} : ∀ (T : Tr) {S : Nat → Prop} {r : List Ent}, T.Ok U rev w S (some (e :: r)) → T.Good rev → ValR U w e T.fVal T.adr
  | .leaf g A c es, S, r, h, hG => by
    obtain ⟨h2, i, q, hi, rfl, hb⟩ := leaf_head h
    have hq := List.mem_of_getElem? hi
    have hT := h2.now
    have hI := hT.each q hq
    exact ⟨q.Ad, q.nd, q.cd, hI.hd, by have := hI.dat.1; rwa [nums_length, eq_comm] at this, h2.imp (fun W hW => (hW.each q hq).dat), fun w1 hf => lValue g c i A rev es q w1 (hf.blk hb (fun x => x)) (h2 w1 (hf.mono (fun i x => x.elim))) hi hG.2.1⟩
  | .node g L R, S, r, h, hG => by
    obtain ⟨SL, SR, mL, mR, v1, K1, v2, K2, s, cu, h1, h2, h3, h4⟩ := h
    obtain ⟨rl, rr, rfl, rfl, hr, hs, o1, o2, rfl, rfl, k1, k2, hc⟩ := h4 (e :: r) rfl
    rcases sml_head hs hr.symm with ⟨rfl, l, rfl, _⟩ | ⟨rfl, l, rfl, _⟩
    · obtain ⟨D, nd, cd, a1, a2, a3, a4⟩ := trValue L h1 hG.1
      refine ⟨D, nd, cd, a1, a2, a3, fun w1 hf => ?_⟩
      have hb := hf.blk h3.blk (fun x => x)
      cases L with
      | leaf g2 A c es => exact mVal_leaf g 0 g2 e D nd cd w1 (hb.at_ (i := 10) rfl) (hb.at_ (i := 2) rfl) (fun w2 h2 => a4 w2 (hf.trans h2 (fun i x => x.elim)))
      | node g2 L2 R2 => exact mVal_node g 0 g2 e D nd cd w1 (hb.at_ (i := 10) rfl) (hb.at_ (i := 2) rfl) (fun w2 h2 => a4 w2 (hf.trans h2 (fun i x => x.elim)))
    · obtain ⟨D, nd, cd, a1, a2, a3, a4⟩ := trValue R h2 hG.2
      refine ⟨D, nd, cd, a1, a2, a3, fun w1 hf => ?_⟩
      have hb := hf.blk h3.blk (fun x => x)
      cases R with
      | leaf g2 A c es => exact mVal_leaf g 5 g2 e D nd cd w1 (hb.at_ (i := 10) rfl) (hb.at_ (i := 7) rfl) (fun w2 h2 => a4 w2 (hf.trans h2 (fun i x => x.elim)))
      | node g2 L2 R2 => exact mVal_node g 5 g2 e D nd cd w1 (hb.at_ (i := 10) rfl) (hb.at_ (i := 7) rfl) (fun w2 h2 => a4 w2 (hf.trans h2 (fun i x => x.elim)))
set_option maxRecDepth 100000 in
theorem wrap_nil (s : Value) (w : World) : Calls Tryz.prog 75 #[.nilIface, s] w fun E w' => E = .returned .nilIface ∧ w = w' := by
  go_enter Tryz.func75, Tryz.ntmps75
  go_wp2
  go_returns
  exact ⟨rfl, rfl⟩
set_option maxRecDepth 100000 in
set_option maxHeartbeats 2000000 in
theorem mCls_ll (g g2 g3 : Nat) (cs : List Value) (w : World) (hb : Blk w g 83 cs) (e2 : cs[2]? = some (.iface 52 (.pointer (some ⟨g2, 0, none⟩)))) (e7 : cs[7]? = some (.iface 52 (.pointer (some ⟨g3, 0, none⟩))))
    (hc : ∀ w1, Drew w w1 → Calls Tryz.prog 58 #[.pointer (some ⟨g2, 0, none⟩)] w1 fun E w' => E = .returned .nilIface ∧ Drew w1 w')
    (hd : ∀ w1, Drew w w1 → Calls Tryz.prog 58 #[.pointer (some ⟨g3, 0, none⟩)] w1 fun E w' => E = .returned .nilIface ∧ Drew w1 w') :
    Calls Tryz.prog 68 #[.pointer (some ⟨g, 0, none⟩)] w fun E w' => E = .returned .nilIface ∧ Drew w w' := by
  have H := Lib.hid hb
  have HE := Lib.hid (And.intro e2 e7)
  have HC := Lib.hid hc
  have HD := Lib.hid hd
  have u2 := hb.at_ e2
  clear hb hc hd e2 e7
  go_enter Tryz.func68, Tryz.ntmps68
  go_wp2_with fail
  refine (HC.out w ⟨0, rfl⟩).mono ?_
  rintro E w1 ⟨rfl, hd1⟩
  have HD1 := Lib.hid hd1
  have u7 := (H.out.drewD hd1).at_ HE.out.2
  clear hd1 u2
  go_wp2_with fail
  refine (HD.out w1 HD1.out).mono ?_
  rintro E w2 ⟨rfl, n2, rfl⟩
  have HD2 : Hid (Drew w (w1.drewN n2)) := HD1.out.by_ n2
  clear u7
  go_wp2_with fail
  refine (wrap_nil _ _).mono ?_
  rintro E w3 ⟨rfl, rfl⟩
  go_wp2
  go_returns
  exact ⟨rfl, HD2.out⟩
set_option maxRecDepth 100000 in
set_option maxHeartbeats 2000000 in
theorem mCls_ln (g g2 g3 : Nat) (cs : List Value) (w : World) (hb : Blk w g 83 cs) (e2 : cs[2]? = some (.iface 52 (.pointer (some ⟨g2, 0, none⟩)))) (e7 : cs[7]? = some (.iface 77 (.pointer (some ⟨g3, 0, none⟩))))
    (hc : ∀ w1, Drew w w1 → Calls Tryz.prog 58 #[.pointer (some ⟨g2, 0, none⟩)] w1 fun E w' => E = .returned .nilIface ∧ Drew w1 w')
    (hd : ∀ w1, Drew w w1 → Calls Tryz.prog 68 #[.pointer (some ⟨g3, 0, none⟩)] w1 fun E w' => E = .returned .nilIface ∧ Drew w1 w') :
    Calls Tryz.prog 68 #[.pointer (some ⟨g, 0, none⟩)] w fun E w' => E = .returned .nilIface ∧ Drew w w' := by
  have H := Lib.hid hb
  have HE := Lib.hid (And.intro e2 e7)
  have HC := Lib.hid hc
  have HD := Lib.hid hd
  have u2 := hb.at_ e2
  clear hb hc hd e2 e7
  go_enter Tryz.func68, Tryz.ntmps68
  go_wp2_with fail
  refine (HC.out w ⟨0, rfl⟩).mono ?_
  rintro E w1 ⟨rfl, hd1⟩
  have HD1 := Lib.hid hd1
  have u7 := (H.out.drewD hd1).at_ HE.out.2
  clear hd1 u2
  go_wp2_with fail
  refine (HD.out w1 HD1.out).mono ?_
  rintro E w2 ⟨rfl, n2, rfl⟩
  have HD2 : Hid (Drew w (w1.drewN n2)) := HD1.out.by_ n2
  clear u7
  go_wp2_with fail
  refine (wrap_nil _ _).mono ?_
  rintro E w3 ⟨rfl, rfl⟩
  go_wp2
  go_returns
  exact ⟨rfl, HD2.out⟩
set_option maxRecDepth 100000 in
set_option maxHeartbeats 2000000 in
theorem mCls_nl (g g2 g3 : Nat) (cs : List Value) (w : World) (hb : Blk w g 83 cs) (e2 : cs[2]? = some (.iface 77 (.pointer (some ⟨g2, 0, none⟩)))) (e7 : cs[7]? = some (.iface 52 (.pointer (some ⟨g3, 0, none⟩))))
    (hc : ∀ w1, Drew w w1 → Calls Tryz.prog 68 #[.pointer (some ⟨g2, 0, none⟩)] w1 fun E w' => E = .returned .nilIface ∧ Drew w1 w')
    (hd : ∀ w1, Drew w w1 → Calls Tryz.prog 58 #[.pointer (some ⟨g3, 0, none⟩)] w1 fun E w' => E = .returned .nilIface ∧ Drew w1 w') :
    Calls Tryz.prog 68 #[.pointer (some ⟨g, 0, none⟩)] w fun E w' => E = .returned .nilIface ∧ Drew w w' := by
  have H := Lib.hid hb
  have HE := Lib.hid (And.intro e2 e7)
  have HC := Lib.hid hc
  have HD := Lib.hid hd
  have u2 := hb.at_ e2
  clear hb hc hd e2 e7
  go_enter Tryz.func68, Tryz.ntmps68
  go_wp2_with fail
  refine (HC.out w ⟨0, rfl⟩).mono ?_
  rintro E w1 ⟨rfl, hd1⟩
  have HD1 := Lib.hid hd1
  have u7 := (H.out.drewD hd1).at_ HE.out.2
  clear hd1 u2
  go_wp2_with fail
  refine (HD.out w1 HD1.out).mono ?_
  rintro E w2 ⟨rfl, n2, rfl⟩
  have HD2 : Hid (Drew w (w1.drewN n2)) := HD1.out.by_ n2
  clear u7
  go_wp2_with fail
  refine (wrap_nil _ _).mono ?_
  rintro E w3 ⟨rfl, rfl⟩
  go_wp2
  go_returns
  exact ⟨rfl, HD2.out⟩
set_option maxRecDepth 100000 in
set_option maxHeartbeats 2000000 in
theorem mCls_nn (g g2 g3 : Nat) (cs : List Value) (w : World) (hb : Blk w g 83 cs) (e2 : cs[2]? = some (.iface 77 (.pointer (some ⟨g2, 0, none⟩)))) (e7 : cs[7]? = some (.iface 77 (.pointer (some ⟨g3, 0, none⟩))))
    (hc : ∀ w1, Drew w w1 → Calls Tryz.prog 68 #[.pointer (some ⟨g2, 0, none⟩)] w1 fun E w' => E = .returned .nilIface ∧ Drew w1 w')
    (hd : ∀ w1, Drew w w1 → Calls Tryz.prog 68 #[.pointer (some ⟨g3, 0, none⟩)] w1 fun E w' => E = .returned .nilIface ∧ Drew w1 w') :
    Calls Tryz.prog 68 #[.pointer (some ⟨g, 0, none⟩)] w fun E w' => E = .returned .nilIface ∧ Drew w w' := by
  have H := Lib.hid hb
  have HE := Lib.hid (And.intro e2 e7)
  have HC := Lib.hid hc
  have HD := Lib.hid hd
  have u2 := hb.at_ e2
  clear hb hc hd e2 e7
  go_enter Tryz.func68, Tryz.ntmps68
  go_wp2_with fail
  refine (HC.out w ⟨0, rfl⟩).mono ?_
  rintro E w1 ⟨rfl, hd1⟩
  have HD1 := Lib.hid hd1
  have u7 := (H.out.drewD hd1).at_ HE.out.2
  clear hd1 u2
  go_wp2_with fail
  refine (HD.out w1 HD1.out).mono ?_
  rintro E w2 ⟨rfl, n2, rfl⟩
  have HD2 : Hid (Drew w (w1.drewN n2)) := HD1.out.by_ n2
  clear u7
  go_wp2_with fail
  refine (wrap_nil _ _).mono ?_
  rintro E w3 ⟨rfl, rfl⟩
  go_wp2
  go_returns
  exact ⟨rfl, HD2.out⟩
theorem trClose {U : Nat → Prop} {rev : Bool} : ∀ (T : Tr) {S : Nat → Prop} {w : World} {m : Option (List Ent)}, T.Ok U rev w S m → Calls Tryz.prog T.fCls #[T.adr] w fun E w' => E = .returned .nilIface ∧ Drew w w'
  | .leaf g A c es, S, w, m, h => lClose g w
  | .node g L R, S, w, m, h => by
    obtain ⟨SL, SR, mL, mR, v1, K1, v2, K2, s, cu, h1, h2, h3, h4⟩ := h
    have a1 : ∀ w1, Drew w w1 → _ := fun w1 hd => trClose L (show L.Ok U rev w1 SL mL by obtain ⟨n, rfl⟩ := hd; exact h1.frS ((FrS.refl noB w).drewN n) noB_in noB_out)
    have a2 : ∀ w1, Drew w w1 → _ := fun w1 hd => trClose R (show R.Ok U rev w1 SR mR by obtain ⟨n, rfl⟩ := hd; exact h2.frS ((FrS.refl noB w).drewN n) noB_in noB_out)
    cases L with
    | leaf g2 A c es =>
      cases R with
      | leaf g3 A3 c3 es3 => exact mCls_ll g g2 g3 _ w h3.blk rfl rfl a1 a2
      | node g3 L3 R3 => exact mCls_ln g g2 g3 _ w h3.blk rfl rfl a1 a2
    | node g2 L2 R2 =>
      cases R with
      | leaf g3 A3 c3 es3 => exact mCls_nl g g2 g3 _ w h3.blk rfl rfl a1 a2
      | node g3 L3 R3 => exact mCls_nn g g2 g3 _ w h3.blk rfl rfl a1 a2
end Go.Proofs.YtegaigpolhdicaaGreat
