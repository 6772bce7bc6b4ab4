/- A side of a merging iterator goes on, to its beginning, to a key. -/
import Derived.Test.YtegaigpolhdicaaGreatA5
namespace Go.Proofs.YtegaigpolhdicaaGreat
open Go.RowKit
set_option linter.unusedVariables false
set_option linter.unusedSimpArgs false
def Tr.fNext : Tr → Nat
  | .leaf _ _ _ _ => 60
  | .node _ _ _ => 70
def Tr.fRew : Tr → Nat
  | .leaf _ _ _ _ => 61
  | .node _ _ _ => 71
def Tr.fSeek : Tr → Nat
  | .leaf _ _ _ _ => 62
  | .node _ _ _ => 72
def NewU (U : Nat → Prop) (w : World) : Prop := ∀ i, w.heap.size ≤ i → U i
theorem NewU.on {U S : Nat → Prop} {w w' : World} (h : NewU U w) (hf : FrS S w w') : NewU U w' := fun i hi => h i (Nat.le_trans hf.size hi)
/-- What the operations of an iterator do. -/
structure OpsT (T : Tr) : Prop where
  next : ∀ {U S : Nat → Prop} {rev : Bool} {w : World} {e : Ent} {r : List Ent}, T.Ok U rev w S (some (e :: r)) → T.Good rev → Bnd U S w → NewU U w → Calls Tryz.prog T.fNext #[T.adr] w (OpP U rev w T S r)
  rew : ∀ {U S : Nat → Prop} {rev : Bool} {w : World} {m : Option (List Ent)}, T.Ok U rev w S m → T.Good rev → Bnd U S w → NewU U w → Calls Tryz.prog T.fRew #[T.adr] w (OpP U rev w T S (T.all rev))
  seek : ∀ {U S : Nat → Prop} {rev : Bool} {w : World} {m : Option (List Ent)} {KA : Option Addr} {nk ck : Nat} {k : List Int} {x : Int}, T.Ok U rev w S m → T.Good rev → Bnd U S w → NewU U w → Fix S w (fun W => Sl W KA nk (nums .u8 (keyB k x))) → nk ≤ ck → KeyOk k x → Calls Tryz.prog T.fSeek #[T.adr, .slice KA nk ck] w (OpP U rev w T S (fromD rev (kEnt k x) (T.all rev)))
theorem opsLeaf (g : Nat) (A : Option Addr) (c : Nat) (es : List ER) : OpsT (.leaf g A c es) :=
  ⟨fun h hg hb hn => leafNext h hg (hb g h.gS).1, fun h hg hb hn => leafRewind h hg (hb g h.gS).1, fun h hg hb hn hk hc ko => leafSeek h hg (hb g h.gS).1 hk hc ko⟩
theorem Bnd.gro {U S : Nat → Prop} {w w' : World} (h : Bnd U S w) (hn : NewU U w) (hs : w.heap.size ≤ w'.heap.size) : Bnd U (gro S w w') w' := fun i hi => by
  rcases hi with hi | hi
  · exact ⟨(h i hi).1, Nat.lt_of_lt_of_le (h i hi).2 hs⟩
  · exact ⟨hn i hi.1, hi.2⟩
def NodP (U : Nat → Prop) (rev : Bool) (w : World) (g o : Nat) (cs : List Value) (T : Tr) (S : Nat → Prop) (K : Value) (r : List Ent) (E : Ending) (w' : World) : Prop :=
  E = .returned (.tuple #[]) ∧ ∃ K', Blk w' g 83 ((cs.set o (.bool (nonE r))).set (o + 1) K') ∧ T.Ok U rev w' (gro S w w') (some r) ∧ FrS (fun i => S i ∨ i = g) w w' ∧ (r = [] → K' = K) ∧ HeadK U w' K' r
theorem gro_not {S : Nat → Prop} {w w' : World} {g : Nat} (h : ¬ S g) (hg : g < w.heap.size) : ¬ gro S w w' g := fun hx => hx.elim h (fun h2 => by omega)
theorem nod_of {U S : Nat → Prop} {rev : Bool} {w w1 w2 : World} {g o : Nat} {cs : List Value} {T : Tr} {K : Value} {r : List Ent} {E : Ending} (hop : OpS U rev w T S r w1) (hs : SetP U w1 g o cs K r E w2) (hg : ¬ S g) (hl : g < w.heap.size) (hU : U g) : NodP U rev w g o cs T S K r E w2 := by
  obtain ⟨rfl, K', k1, k2, k3, k4⟩ := hs
  refine ⟨rfl, K', k1, ?_, ?_, k3, k4⟩
  · refine (hop.ok.frS k2 (fix_one hU) (fun i hi e => gro_not hg hl (e ▸ hi))).more (fun i hi => ?_)
    rcases hi with hi | hi
    · exact .inl hi
    · exact .inr ⟨hi.1, Nat.lt_of_lt_of_le hi.2 k2.size⟩
  · exact (hop.fr.mono (fun i hi => .inl (.inl hi))).trans k2 (fun i hi => .inl (.inr hi))
section
variable {U S : Nat → Prop} {rev : Bool} {w : World} {g o : Nat} {T : Tr} {cs : List Value} {v K : Value}
set_option maxRecDepth 100000 in
set_option maxHeartbeats 4000000 in
theorem nodeNext {e : Ent} {r : List Ent} (hb : Blk w g 83 cs) (e0 : cs[o]? = some v) (e1 : cs[o + 1]? = some K) (e2 : cs[o + 2]? = some T.ifc) (e3 : cs[o + 3]? = some T.mp) (e4 : cs[o + 4]? = some (.pointer none))
    (hT : T.Ok U rev w S (some (e :: r))) (hG : T.Good rev) (hO : OpsT T) (hB : Bnd U S w) (hN : NewU U w) (hgS : ¬ S g) (hgU : U g) :
    Calls Tryz.prog 77 #[.pointer (some ⟨g, o, none⟩)] w (NodP U rev w g o cs T S K r) := by
  have H := Lib.hid hb
  have HLT : Hid (g < w.heap.size) := hb.lt
  have u3 := hb.at_ e3
  have u4 := hb.at_ e4
  have u2 := hb.at_ e2
  have HG := Lib.hid hG
  have HS := Lib.hid hgS
  have HU := Lib.hid hgU
  have HE := Lib.hid (And.intro e0 (And.intro e1 (And.intro e2 (And.intro e3 e4))))
  have hcall := hO.next hT hG hB hN
  clear hT hG hgS hgU hb hB hN e0 e1 e2 e3 e4
  cases T with
  | node g2 L R =>
    rw [show (Tr.node g2 L R).mp = .pointer (some ⟨g2, 0, none⟩) from rfl] at u3
    have HC : Hid (Calls Tryz.prog 70 #[.pointer (some ⟨g2, 0, none⟩)] w (OpP U rev w (.node g2 L R) S r)) := hcall
    clear u2 u4 hcall
    go_enter Tryz.func77, Tryz.ntmps77
    go_wp2_with fail
    refine HC.out.mono ?_
    rintro E w1 ⟨rfl, hop⟩
    have HOP := Lib.hid hop
    have HB1 := Lib.hid (hop.fr.blk H.out HS.out)
    clear hop HC
    go_wp2_with fail
    refine (setKey_any U (gro S w w1) rev w1 g o (.node g2 L R) cs r v K HB1.out HE.out.1 HE.out.2.1 HE.out.2.2.1 HE.out.2.2.2.1 HE.out.2.2.2.2 HOP.out.ok HG.out (gro_not HS.out HLT.out) HU.out).mono ?_
    rintro E w2 hs
    obtain rfl := hs.1
    have HQ := Lib.hid (nod_of HOP.out hs HS.out HLT.out HU.out)
    clear hs
    go_wp2
    go_end0
    exact HQ.out
  | leaf g2 A c es =>
    rw [show (Tr.leaf g2 A c es).mp = .pointer none from rfl] at u3
    rw [show (Tr.leaf g2 A c es).ifc = .iface 52 (.pointer (some ⟨g2, 0, none⟩)) from rfl] at u2
    have HC : Hid (Calls Tryz.prog 60 #[.pointer (some ⟨g2, 0, none⟩)] w (OpP U rev w (.leaf g2 A c es) S r)) := hcall
    clear hcall
    go_enter Tryz.func77, Tryz.ntmps77
    go_wp2_with fail
    refine HC.out.mono ?_
    rintro E w1 ⟨rfl, hop⟩
    have HOP := Lib.hid hop
    have HB1 := Lib.hid (hop.fr.blk H.out HS.out)
    clear hop HC u2 u3 u4
    go_wp2_with fail
    refine (setKey_any U (gro S w w1) rev w1 g o (.leaf g2 A c es) cs r v K HB1.out HE.out.1 HE.out.2.1 HE.out.2.2.1 HE.out.2.2.2.1 HE.out.2.2.2.2 HOP.out.ok HG.out (gro_not HS.out HLT.out) HU.out).mono ?_
    rintro E w2 hs
    obtain rfl := hs.1
    have HQ := Lib.hid (nod_of HOP.out hs HS.out HLT.out HU.out)
    clear hs
    go_wp2
    go_end0
    exact HQ.out
set_option maxRecDepth 100000 in
set_option maxHeartbeats 4000000 in
theorem nodeRewind {m : Option (List Ent)} (hb : Blk w g 83 cs) (e0 : cs[o]? = some v) (e1 : cs[o + 1]? = some K) (e2 : cs[o + 2]? = some T.ifc) (e3 : cs[o + 3]? = some T.mp) (e4 : cs[o + 4]? = some (.pointer none))
    (hT : T.Ok U rev w S m) (hG : T.Good rev) (hO : OpsT T) (hB : Bnd U S w) (hN : NewU U w) (hgS : ¬ S g) (hgU : U g) :
    Calls Tryz.prog 80 #[.pointer (some ⟨g, o, none⟩)] w (NodP U rev w g o cs T S K (T.all rev)) := by
  have H := Lib.hid hb
  have HLT : Hid (g < w.heap.size) := hb.lt
  have u2 := hb.at_ e2
  have HG := Lib.hid hG
  have HS := Lib.hid hgS
  have HU := Lib.hid hgU
  have HE := Lib.hid (And.intro e0 (And.intro e1 (And.intro e2 (And.intro e3 e4))))
  have hcall := hO.rew hT hG hB hN
  clear hT hG hgS hgU hb hB hN e0 e1 e2 e3 e4
  cases T with
  | node g2 L R =>
    rw [show (Tr.node g2 L R).ifc = .iface 77 (.pointer (some ⟨g2, 0, none⟩)) from rfl] at u2
    have HC : Hid (Calls Tryz.prog 71 #[.pointer (some ⟨g2, 0, none⟩)] w (OpP U rev w (.node g2 L R) S (Tr.all rev (.node g2 L R)))) := hcall
    clear hcall
    generalize Tr.all rev (.node g2 L R) = r at *
    go_enter Tryz.func80, Tryz.ntmps80
    go_wp2_with fail
    refine HC.out.mono ?_
    rintro E w1 ⟨rfl, hop⟩
    have HOP := Lib.hid hop
    have HB1 := Lib.hid (hop.fr.blk H.out HS.out)
    clear hop HC u2
    go_wp2_with fail
    refine (setKey_any U (gro S w w1) rev w1 g o (.node g2 L R) cs r v K HB1.out HE.out.1 HE.out.2.1 HE.out.2.2.1 HE.out.2.2.2.1 HE.out.2.2.2.2 HOP.out.ok HG.out (gro_not HS.out HLT.out) HU.out).mono ?_
    rintro E w2 hs
    obtain rfl := hs.1
    have HQ := Lib.hid (nod_of HOP.out hs HS.out HLT.out HU.out)
    clear hs
    go_wp2
    go_end0
    exact HQ.out
  | leaf g2 A c es =>
    rw [show (Tr.leaf g2 A c es).ifc = .iface 52 (.pointer (some ⟨g2, 0, none⟩)) from rfl] at u2
    have HC : Hid (Calls Tryz.prog 61 #[.pointer (some ⟨g2, 0, none⟩)] w (OpP U rev w (.leaf g2 A c es) S (Tr.all rev (.leaf g2 A c es)))) := hcall
    clear hcall
    generalize Tr.all rev (.leaf g2 A c es) = r at *
    go_enter Tryz.func80, Tryz.ntmps80
    go_wp2_with fail
    refine HC.out.mono ?_
    rintro E w1 ⟨rfl, hop⟩
    have HOP := Lib.hid hop
    have HB1 := Lib.hid (hop.fr.blk H.out HS.out)
    clear hop HC u2
    go_wp2_with fail
    refine (setKey_any U (gro S w w1) rev w1 g o (.leaf g2 A c es) cs r v K HB1.out HE.out.1 HE.out.2.1 HE.out.2.2.1 HE.out.2.2.2.1 HE.out.2.2.2.2 HOP.out.ok HG.out (gro_not HS.out HLT.out) HU.out).mono ?_
    rintro E w2 hs
    obtain rfl := hs.1
    have HQ := Lib.hid (nod_of HOP.out hs HS.out HLT.out HU.out)
    clear hs
    go_wp2
    go_end0
    exact HQ.out
set_option maxRecDepth 100000 in
set_option maxHeartbeats 4000000 in
theorem nodeSeek {m : Option (List Ent)} {KA : Option Addr} {nk ck : Nat} {k : List Int} {x : Int} (hb : Blk w g 83 cs) (e0 : cs[o]? = some v) (e1 : cs[o + 1]? = some K) (e2 : cs[o + 2]? = some T.ifc) (e3 : cs[o + 3]? = some T.mp) (e4 : cs[o + 4]? = some (.pointer none))
    (hT : T.Ok U rev w S m) (hG : T.Good rev) (hO : OpsT T) (hB : Bnd U S w) (hN : NewU U w) (hgS : ¬ S g) (hgU : U g)
    (hk : Fix S w (fun W => Sl W KA nk (nums .u8 (keyB k x)))) (hnc : nk ≤ ck) (kok : KeyOk k x) :
    Calls Tryz.prog 81 #[.pointer (some ⟨g, o, none⟩), .slice KA nk ck] w (NodP U rev w g o cs T S K (fromD rev (kEnt k x) (T.all rev))) := by
  have H := Lib.hid hb
  have HLT : Hid (g < w.heap.size) := hb.lt
  have u2 := hb.at_ e2
  have HG := Lib.hid hG
  have HS := Lib.hid hgS
  have HU := Lib.hid hgU
  have HE := Lib.hid (And.intro e0 (And.intro e1 (And.intro e2 (And.intro e3 e4))))
  have hcall := hO.seek hT hG hB hN hk hnc kok
  clear hT hG hgS hgU hb hB hN e0 e1 e2 e3 e4 hk kok
  cases T with
  | node g2 L R =>
    rw [show (Tr.node g2 L R).ifc = .iface 77 (.pointer (some ⟨g2, 0, none⟩)) from rfl] at u2
    have HC : Hid (Calls Tryz.prog 72 #[.pointer (some ⟨g2, 0, none⟩), .slice KA nk ck] w (OpP U rev w (.node g2 L R) S (fromD rev (kEnt k x) (Tr.all rev (.node g2 L R))))) := hcall
    clear hcall
    generalize fromD rev (kEnt k x) (Tr.all rev (.node g2 L R)) = r at *
    go_enter Tryz.func81, Tryz.ntmps81
    go_wp2_with fail
    refine HC.out.mono ?_
    rintro E w1 ⟨rfl, hop⟩
    have HOP := Lib.hid hop
    have HB1 := Lib.hid (hop.fr.blk H.out HS.out)
    clear hop HC u2
    go_wp2_with fail
    refine (setKey_any U (gro S w w1) rev w1 g o (.node g2 L R) cs r v K HB1.out HE.out.1 HE.out.2.1 HE.out.2.2.1 HE.out.2.2.2.1 HE.out.2.2.2.2 HOP.out.ok HG.out (gro_not HS.out HLT.out) HU.out).mono ?_
    rintro E w2 hs
    obtain rfl := hs.1
    have HQ := Lib.hid (nod_of HOP.out hs HS.out HLT.out HU.out)
    clear hs
    go_wp2
    go_end0
    exact HQ.out
  | leaf g2 A c es =>
    rw [show (Tr.leaf g2 A c es).ifc = .iface 52 (.pointer (some ⟨g2, 0, none⟩)) from rfl] at u2
    have HC : Hid (Calls Tryz.prog 62 #[.pointer (some ⟨g2, 0, none⟩), .slice KA nk ck] w (OpP U rev w (.leaf g2 A c es) S (fromD rev (kEnt k x) (Tr.all rev (.leaf g2 A c es))))) := hcall
    clear hcall
    generalize fromD rev (kEnt k x) (Tr.all rev (.leaf g2 A c es)) = r at *
    go_enter Tryz.func81, Tryz.ntmps81
    go_wp2_with fail
    refine HC.out.mono ?_
    rintro E w1 ⟨rfl, hop⟩
    have HOP := Lib.hid hop
    have HB1 := Lib.hid (hop.fr.blk H.out HS.out)
    clear hop HC u2
    go_wp2_with fail
    refine (setKey_any U (gro S w w1) rev w1 g o (.leaf g2 A c es) cs r v K HB1.out HE.out.1 HE.out.2.1 HE.out.2.2.1 HE.out.2.2.2.1 HE.out.2.2.2.2 HOP.out.ok HG.out (gro_not HS.out HLT.out) HU.out).mono ?_
    rintro E w2 hs
    obtain rfl := hs.1
    have HQ := Lib.hid (nod_of HOP.out hs HS.out HLT.out HU.out)
    clear hs
    go_wp2
    go_end0
    exact HQ.out
end
end Go.Proofs.YtegaigpolhdicaaGreat
