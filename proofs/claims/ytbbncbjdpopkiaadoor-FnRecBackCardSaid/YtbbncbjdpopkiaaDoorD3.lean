/- A record read from bytes, as the print tells it. -/
import Derived.Test.YtbbncbjdpopkiaaDoorB8
import Derived.Test.YtbbncbjdpopkiaaDoorD2
namespace Go.Proofs.YtbbncbjdpopkiaaDoorQ.Ext
open Go.RowKit Go.Proofs.YtbbncbjdpopkiaaDoorW.PrintWords
set_option linter.unusedVariables false
/-- The head of a record, and what stands behind it. -/
def headRest (l : List Int) : Int × Int × Int × Int × Int × List Int := match l with
  | m :: u :: r =>
    let a := YtbbncbjdpopkiaaDoor.uvarL r 0 0
    let r1 := r.drop a.2.toNat
    let b := YtbbncbjdpopkiaaDoor.uvarL r1 0 0
    let r2 := r1.drop b.2.toNat
    let c := YtbbncbjdpopkiaaDoor.uvarL r2 0 0
    (a.1, b.1, c.1, m, u, r2.drop c.2.toNat)
  | _ => (0, 0, 0, 0, 0, [])
theorem headRest_of (k d e m u : Int) (r : List Int) (hk0 : 0 ≤ k) (hk : k ≤ 4294967295) (hd0 : 0 ≤ d) (hd : d ≤ 4294967295) (he0 : 0 ≤ e) (he : Hid (e ≤ 18446744073709551615)) : headRest (YtbbncbjdpopkiaaDoor.headB k d e m u ++ r) = (k, d, e, m, u, r) := by
  have e0 : YtbbncbjdpopkiaaDoor.headB k d e m u ++ r = m :: u :: (YtbbncbjdpopkiaaDoor.vint 9 k ++ (YtbbncbjdpopkiaaDoor.vint 9 d ++ (YtbbncbjdpopkiaaDoor.vint 9 e ++ r))) := by simp [YtbbncbjdpopkiaaDoor.headB]
  rw [e0]
  unfold headRest
  simp only
  rw [YtbbncbjdpopkiaaDoor.uvar_back k _ hk0 (by omega)]
  simp only [Int.toNat_natCast, List.drop_left]
  rw [YtbbncbjdpopkiaaDoor.uvar_back d _ hd0 (by omega)]
  simp only [Int.toNat_natCast, List.drop_left]
  rw [YtbbncbjdpopkiaaDoor.uvar_back e _ he0 he.out]
  simp only [Int.toNat_natCast, List.drop_left]
def impl_DecodeRec.f (l0 : List Int) : Option (List Int × List Int × Int × Int × Int) :=
  let h := headRest l0
  let k := h.1.toNat
  let d := h.2.1.toNat
  let r := h.2.2.2.2.2
  if (l0 = YtbbncbjdpopkiaaDoor.headB h.1 h.2.1 h.2.2.1 h.2.2.2.1 h.2.2.2.2.1 ++ r ∧ l0.length ≤ 1000000 ∧ bytb l0 = true) ∧ (0 ≤ h.1 ∧ h.1 ≤ 100000 ∧ 0 ≤ h.2.1 ∧ h.2.1 ≤ 100000) ∧ k + d < r.length ∧ u64ok h.2.2.1 = true then some (r.take k, (r.drop k).take d, h.2.2.1, h.2.2.2.1, h.2.2.2.2.1) else none
theorem impl_DecodeRec.calls (A0 : Option Addr) (c0 : Nat) (l0 : List Int) (r1 : List Int) (r2 : List Int) (r3 : Int) (r4 : Int) (r5 : Int) (w : World) (hr0 : Kd.C (Kd.int .u8) w A0 l0.length l0) (hc0 : l0.length ≤ c0) (h : impl_DecodeRec.f l0 = some (r1, r2, r3, r4, r5)) :
    Calls Tryd.prog 27 #[.slice A0 l0.length c0] w fun e w' => ∃ v0_ v1_ : Value, e = .returned (.agg #[v0_, v1_, .int .u64 r3, .int .u8 r4, .int .u8 r5]) ∧ Kd.R (Kd.int .u8) 5 w' w.heap.size (fun k_ => some k_ ≠ v1_.ownBlock) v0_ r1 ∧ Kd.R (Kd.int .u8) 5 w' w.heap.size (fun k_ => some k_ ≠ v0_.ownBlock) v1_ r2 ∧ Below w.heap.size w w' := by
  unfold impl_DecodeRec.f at h
  generalize headRest l0 = hh at h
  obtain ⟨k, d, e, m, u, r⟩ := hh
  simp only at h
  obtain ⟨⟨⟨h0, h1, h2⟩, ⟨h3, h4, h5, h6⟩, h7, h8⟩, h9⟩ := if_some h
  simp only [Prod.mk.injEq] at h9
  obtain ⟨rfl, rfl, rfl, rfl, rfl⟩ := h9
  have l1 : (r.take k.toNat).length = k.toNat := by rw [List.length_take]; omega
  have l2 : ((r.drop k.toNat).take d.toNat).length = d.toNat := by rw [List.length_take, List.length_drop]; omega
  have ek : ((r.take k.toNat).length : Int) = k := by omega
  have ed : (((r.drop k.toNat).take d.toNat).length : Int) = d := by omega
  have e1 : l0 = YtbbncbjdpopkiaaDoor.headB ((r.take k.toNat).length : Int) (((r.drop k.toNat).take d.toNat).length : Int) e m u ++ (r.take k.toNat ++ ((r.drop k.toNat).take d.toNat ++ (r.drop k.toNat).drop d.toNat)) := by
    rw [List.take_append_drop, List.take_append_drop, ek, ed]
    exact h0
  have hs := sl_of_C hr0
  have hb := byt_of h2
  generalize hn : l0.length = n at *
  rw [e1] at hs hb
  exact (YtbbncbjdpopkiaaDoor.decodeRec_any A0 n c0 e m u _ _ _ w hs (by omega) hb (by omega) (by omega) (by rw [List.length_drop, List.length_drop]; omega) (u64ok_of h8).1 (u64ok_of h8).2)
end Go.Proofs.YtbbncbjdpopkiaaDoorQ.Ext
