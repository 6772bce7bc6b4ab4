/- A side of a merging iterator: its key; who is small. -/
import Derived.Test.YtegaigpolhdicaaGreatA4
import Derived.Test.YtegaigpolhdicaaGreatGM
import Derived.Handy
import Derived.LaidEqlPtr
namespace Go.Proofs.YtegaigpolhdicaaGreat
open Go.RowKit
set_option linter.unusedVariables false
set_option linter.unusedSimpArgs false
theorem head_nil (rev : Bool) {rl rr : List Ent} (h : mergeD rev rl rr = []) : rl = [] ∧ rr = [] := by
  cases rl with
  | nil => exact ⟨rfl, h⟩
  | cons a l =>
    rw [mergeD_two] at h
    cases List.append_eq_nil_iff.1 h with
    | intro _ h2 => cases h2
/-- The small side has the head. -/
theorem sml_head {rev s : Bool} {rl rr : List Ent} {e : Ent} {r : List Ent} (h : Sml rev s rl rr) (he : mergeD rev rl rr = e :: r) : (s = true ∧ ∃ l, rl = e :: l ∧ r = mergeD rev l rr) ∨ (s = false ∧ ∃ l, rr = e :: l ∧ r = mergeD rev rl l) := by
  cases rl with
  | nil =>
    cases rr with
    | nil => cases he
    | cons b rr =>
      have h' : b :: rr = e :: r := he
      injection h' with h1 h2
      subst h1
      subst h2
      exact .inr ⟨h, _, rfl, rfl⟩
  | cons a rl =>
    cases rr with
    | nil =>
      rw [mergeD_nil_r] at he
      injection he with h1 h2
      subst h1
      subst h2
      exact .inl ⟨h, _, rfl, (mergeD_nil_r rev _).symm⟩
    | cons b rr =>
      rcases h with ⟨h1, h2⟩ | ⟨h1, h2⟩
      · rw [mergeD_lt _ _ h2] at he
        injection he with h3 h4
        subst h3
        exact .inl ⟨h1, _, rfl, h4.symm⟩
      · rw [mergeD_gt _ _ h2] at he
        injection he with h3 h4
        subst h3
        exact .inr ⟨h1, _, rfl, h4.symm⟩
def offS (s : Bool) : Nat := bif s then 0 else 5
/-- What the small side of a node tells. -/
theorem node_small {U S : Nat → Prop} {rev : Bool} {w : World} {g : Nat} {L R : Tr} {r : List Ent} (h : Tr.Ok U rev w (.node g L R) S (some r)) :
    ∃ s Ks, w.cell? ⟨g, 10, none⟩ = some (.pointer (some ⟨g, offS s, none⟩)) ∧ w.cell? ⟨g, offS s, none⟩ = some (.bool (nonE r)) ∧ w.cell? ⟨g, offS s + 1, none⟩ = some Ks ∧ HeadK U w Ks r := by
  obtain ⟨SL, SR, mL, mR, v1, K1, v2, K2, s, cu, h1, h2, h3, h4⟩ := h
  obtain ⟨rl, rr, rfl, rfl, hr, hs, o1, o2, rfl, rfl, k1, k2, hc⟩ := h4 r rfl
  have e10 := h3.blk.at_ (i := 10) rfl
  cases hr0 : r with
  | nil =>
    rw [hr0] at hr
    obtain ⟨rfl, rfl⟩ := head_nil rev hr.symm
    cases s with
    | true => exact ⟨true, K1, e10, h3.blk.at_ (i := 0) rfl, h3.blk.at_ (i := 1) rfl, trivial⟩
    | false => exact ⟨false, K2, e10, h3.blk.at_ (i := 5) rfl, h3.blk.at_ (i := 6) rfl, trivial⟩
  | cons e r' =>
    rw [hr0] at hr
    rcases sml_head hs hr.symm with ⟨rfl, l, rfl, _⟩ | ⟨rfl, l, rfl, _⟩
    · exact ⟨true, K1, e10, h3.blk.at_ (i := 0) rfl, h3.blk.at_ (i := 1) rfl, k1⟩
    · exact ⟨false, K2, e10, h3.blk.at_ (i := 5) rfl, h3.blk.at_ (i := 6) rfl, k2⟩
def SetP (U : Nat → Prop) (w : World) (g o : Nat) (cs : List Value) (K : Value) (r : List Ent) (E : Ending) (w' : World) : Prop :=
  E = .returned (.tuple #[]) ∧ ∃ K', Blk w' g 83 ((cs.set o (.bool (nonE r))).set (o + 1) K') ∧ FrS (· = g) w w' ∧ (r = [] → K' = K) ∧ HeadK U w' K' r
theorem set_same {cs : List Value} {i : Nat} {K : Value} (h : cs[i]? = some K) : cs.set i K = cs := by
  obtain ⟨hl, rfl⟩ := List.getElem?_eq_some_iff.1 h
  exact List.set_getElem_self hl
theorem set_other {cs : List Value} {o : Nat} {K v : Value} (h : cs[o + 1]? = some K) : (cs.set o v).set (o + 1) K = cs.set o v :=
  set_same (by rw [List.getElem?_set_ne (by omega)]; exact h)
set_option maxRecDepth 100000 in
set_option maxHeartbeats 4000000 in
theorem setKey_any (U S : Nat → Prop) (rev : Bool) (w : World) (g o : Nat) (T : Tr) (cs : List Value) (r : List Ent) (v K : Value) (hb : Blk w g 83 cs) (e0 : cs[o]? = some v) (e1 : cs[o + 1]? = some K) (e2 : cs[o + 2]? = some T.ifc) (e3 : cs[o + 3]? = some T.mp) (e4 : cs[o + 4]? = some (.pointer none))
    (hT : T.Ok U rev w S (some r)) (hG : T.Good rev) (hgS : ¬ S g) (hgU : U g) :
    Calls Tryz.prog 83 #[.pointer (some ⟨g, o, none⟩)] w (SetP U w g o cs K r) := by
  have H := Lib.hid hb
  have u3 := hb.at_ e3
  have u4 := hb.at_ e4
  have u2 := hb.at_ e2
  have u0 := hb.at_ e0
  have u1 := hb.at_ e1
  have z0 := hb.frozen o
  have z1 := hb.frozen (o + 1)
  have HO := Lib.hid hT
  have HG := Lib.hid hG
  have HS := Lib.hid hgS
  have HU := Lib.hid hgU
  have HE := Lib.hid (And.intro e0 e1)
  have hol : o + 4 < cs.length := (List.getElem?_eq_some_iff.1 e4).1
  clear hT hG hgS hgU hb e0 e1 e2 e3 e4
  cases T with
  | node g2 L R =>
    have hne : g ≠ g2 := fun e => HS.out (by have := HO.out.gS; rw [e]; exact this)
    obtain ⟨s, Ks, c10, cv, ck, hk⟩ := node_small HO.out
    have c10' : (w.setCell ⟨g, o, none⟩ (.bool (nonE r))).cell? ⟨g2, 10, none⟩ = some (.pointer (some ⟨g2, offS s, none⟩)) := cell_far (fun e => hne e.symm) c10
    have ck' : (w.setCell ⟨g, o, none⟩ (.bool (nonE r))).cell? ⟨g2, offS s + 1, none⟩ = some Ks := cell_far (fun e => hne e.symm) ck
    have u3' : (w.setCell ⟨g, o, none⟩ (.bool (nonE r))).cell? ⟨g, o + 3, none⟩ = some (.pointer (some ⟨g2, 0, none⟩)) := (World.cell?_setCell_other _ _ _ _ (fun e => by injection e with _ e; omega)).trans u3
    rw [show (Tr.node g2 L R).mp = .pointer (some ⟨g2, 0, none⟩) from rfl] at u3
    have u1' : (w.setCell ⟨g, o, none⟩ (.bool (nonE r))).cell? ⟨g, o + 1, none⟩ = some K := (World.cell?_setCell_other _ _ _ _ (fun e => by injection e with _ e; omega)).trans u1
    clear u2 u4
    have HHK := Lib.hid hk
    clear hk
    cases r with
    | nil =>
      rw [show nonE [] = false from rfl] at *
      go_enter Tryz.func83, Tryz.ntmps83
      go_wp2
      go_end0
      refine ⟨rfl, K, ?_, (FrS.refl (· = g) w).andSet ⟨g, o, none⟩ _ rfl, fun _ => rfl, trivial⟩
      rw [set_other HE.out.2]
      exact H.out.set_ o _
    | cons e r' =>
      rw [show nonE (e :: r') = true from rfl] at *
      obtain ⟨kA, kn, kc, rfl⟩ : ∃ A n c, Ks = .slice A n c := by
        obtain ⟨A, n, c, h, _⟩ := HHK.out
        exact ⟨A, n, c, h⟩
      go_enter Tryz.func83, Tryz.ntmps83
      go_wp2
      go_end0
      have hf : FrS (· = g) w ((w.setCell ⟨g, o, none⟩ (.bool true)).setCell ⟨g, o + 1, none⟩ (.slice kA kn kc)) := ((FrS.refl (· = g) w).andSet ⟨g, o, none⟩ _ rfl).andSet ⟨g, o + 1, none⟩ _ rfl
      exact ⟨rfl, _, (H.out.set_ o _).set_ (o + 1) _, hf, (fun h => by cases h), HHK.out.on hf (fix_one HU.out)⟩
  | leaf g2 A c es =>
    rw [show (Tr.leaf g2 A c es).mp = .pointer none from rfl] at u3
    rw [show (Tr.leaf g2 A c es).ifc = .iface 52 (.pointer (some ⟨g2, 0, none⟩)) from rfl] at u2
    have u2' : ∀ b m, ((w.drewN m).setCell ⟨g, o, none⟩ (.bool b)).cell? ⟨g, o + 2, none⟩ = some (.iface 52 (.pointer (some ⟨g2, 0, none⟩))) := fun b m => (World.cell?_setCell_other _ _ _ _ (fun e => by injection e with _ e; omega)).trans u2
    have u1' : ∀ b m, ((w.drewN m).setCell ⟨g, o, none⟩ (.bool b)).cell? ⟨g, o + 1, none⟩ = some K := fun b m => (World.cell?_setCell_other _ _ _ _ (fun e => by injection e with _ e; omega)).trans u1
    cases r with
    | nil =>
      go_enter Tryz.func83, Tryz.ntmps83
      go_wp2_with fail
      refine (leafValid HO.out).mono ?_
      rintro E w1 ⟨rfl, m1, rfl⟩
      rw [show nonE [] = false from rfl]
      go_wp2
      go_end0
      refine ⟨rfl, K, ?_, ((FrS.refl (· = g) w).drewN m1).andSet ⟨g, o, none⟩ _ rfl, fun _ => rfl, trivial⟩
      rw [set_other HE.out.2]
      exact (H.out.drewN m1).set_ o _
    | cons e r' =>
      go_enter Tryz.func83, Tryz.ntmps83
      go_wp2_with fail
      refine (leafValid HO.out).mono ?_
      rintro E w1 ⟨rfl, m1, rfl⟩
      rw [show nonE (e :: r') = true from rfl]
      have hf1 : FrS (· = g) w ((w.drewN m1).setCell ⟨g, o, none⟩ (.bool true)) := ((FrS.refl (· = g) w).drewN m1).andSet ⟨g, o, none⟩ _ rfl
      have HF1 := Lib.hid hf1
      have u2'' := u2' true m1
      have u1'' := u1' true m1
      obtain ⟨K', hK', hcall⟩ := leafKey (HO.out.frS hf1 (fix_one HU.out) (fun i hi e => HS.out (e ▸ hi))) HG.out
      have HK' := Lib.hid hK'
      obtain ⟨kA, kn, kc, rfl⟩ : ∃ A n c, K' = .slice A n c := by
        obtain ⟨A, n, c, h, _⟩ := hK'
        exact ⟨A, n, c, h⟩
      have HCL := Lib.hid hcall
      clear hK' hcall hf1
      go_wp2_with fail
      refine HCL.out.mono ?_
      rintro E w2 ⟨rfl, m2, rfl⟩
      clear HCL
      go_wp2
      go_end0
      have hf2 := (HF1.out.drewN m2).andSet ⟨g, o + 1, none⟩ (.slice kA kn kc) rfl
      exact ⟨rfl, _, (((H.out.drewN m1).set_ o _).drewN m2).set_ (o + 1) _, hf2, (fun h => by cases h), HK'.out.on (((FrS.refl (· = g) _).drewN m2).andSet ⟨g, o + 1, none⟩ _ rfl) (fix_one HU.out)⟩
end Go.Proofs.YtegaigpolhdicaaGreat
