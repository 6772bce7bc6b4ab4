/- Records in bytes, as the print tells them. -/
import Derived.Test.YtbbncbjdpopkiaaDoorGX
import Derived.Test.YtbbncbjdpopkiaaDoorB7
namespace Go.Proofs.YtbbncbjdpopkiaaDoorQ.Ext
open Go.RowKit Go.Proofs.YtbbncbjdpopkiaaDoorW.PrintWords
set_option linter.unusedVariables false
def in8 (x : Int) : Bool := decide (0 ≤ x) && decide (x ≤ 255)
theorem in8_of {x : Int} (h : in8 x = true) : YtbbncbjdpopkiaaDoor.In8 x := by
  unfold in8 at h
  simp at h
  exact h
theorem in8_mk {x : Int} (h : 0 ≤ x ∧ x ≤ 255) : in8 x = true := by
  unfold in8
  simp [h.1, h.2]
def spec_Castagnoli.f (l0 : List Int) : Option Int := if l0.length ≤ 1000000 ∧ bytb l0 = true then some (YtbbncbjdpopkiaaDoor.crcOut l0) else none
theorem spec_Castagnoli.calls (A0 : Option Addr) (c0 : Nat) (l0 : List Int) (r : Int) (w : World) (hr0 : Kd.C (Kd.int .u8) w A0 l0.length l0) (hc0 : l0.length ≤ c0) (h : spec_Castagnoli.f l0 = some r) :
    Calls Tryd.prog 10 #[.slice A0 l0.length c0] w fun e w' => e = .returned (.int .u32 r) ∧ Below w.heap.size w w' := by
  obtain ⟨⟨h0, h1⟩, rfl⟩ := if_some h
  exact (YtbbncbjdpopkiaaDoor.specCastagnoli_any A0 _ c0 l0 w (sl_of_C hr0) (byt_of h1) h0).mono fun e w' hp => ⟨hp.1, hp.2 ▸ Below.refl _ _⟩
def spec_HeadBytes.f (a0_0 : Int) (a0_1 : Int) (a0_2 : Int) (a0_3 : Int) (a0_4 : Int) : Option (List Int) := if (0 ≤ a0_0 ∧ a0_0 ≤ 4294967295) ∧ (0 ≤ a0_1 ∧ a0_1 ≤ 4294967295) ∧ u64ok a0_2 = true then some (YtbbncbjdpopkiaaDoor.headB a0_0 a0_1 a0_2 a0_3 a0_4) else none
theorem spec_HeadBytes.calls (a0_0 : Int) (a0_1 : Int) (a0_2 : Int) (a0_3 : Int) (a0_4 : Int) (r : List Int) (w : World) (h : spec_HeadBytes.f a0_0 a0_1 a0_2 a0_3 a0_4 = some r) :
    Calls Tryd.prog 40 #[.agg #[.int .u32 a0_0, .int .u32 a0_1, .int .u64 a0_2, .int .u8 a0_3, .int .u8 a0_4]] w fun e w' => ∃ v0_ : Value, e = .returned (v0_) ∧ Kd.R (Kd.int .u8) 5 w' w.heap.size (fun _ => True) v0_ r ∧ Below w.heap.size w w' := by
  obtain ⟨⟨⟨h0, h1⟩, ⟨h2, h3⟩, h4⟩, rfl⟩ := if_some h
  exact (YtbbncbjdpopkiaaDoor.specHead_any a0_0 a0_1 a0_2 a0_3 a0_4 w h0 h1 h2 h3 (u64ok_of h4).1 (u64ok_of h4).2).mono fun e w' hm => made_R hm
def spec_KeyBytes.f (l0 : List Int) (a1 : Int) : Option (List Int) := if l0.length ≤ 1000000 ∧ u64ok a1 = true then some (YtbbncbjdpopkiaaDoor.keyB l0 a1) else none
theorem spec_KeyBytes.calls (A0 : Option Addr) (c0 : Nat) (l0 : List Int) (a1 : Int) (r : List Int) (w : World) (hr0 : Kd.C (Kd.int .u8) w A0 l0.length l0) (hc0 : l0.length ≤ c0) (h : spec_KeyBytes.f l0 a1 = some r) :
    Calls Tryd.prog 57 #[.slice A0 l0.length c0, .int .u64 a1] w fun e w' => ∃ v0_ : Value, e = .returned (v0_) ∧ Kd.R (Kd.int .u8) 5 w' w.heap.size (fun _ => True) v0_ r ∧ Below w.heap.size w w' := by
  obtain ⟨⟨h0, h1⟩, rfl⟩ := if_some h
  exact (YtbbncbjdpopkiaaDoor.specKeyBytes_any A0 _ c0 l0 a1 w (sl_of_C hr0) hc0 h0 (u64ok_of h1).1 (u64ok_of h1).2).mono fun e w' hm => made_R hm
def badgerlog_EncodeEntry.f (l0_0 : List Int) (l0_1 : List Int) (a0_2 : Int) (a0_3 : Int) (a0_4 : Int) : Option (List Int) := if (l0_0.length ≤ 100000 ∧ l0_1.length ≤ 100000) ∧ (bytb l0_0 = true ∧ bytb l0_1 = true) ∧ u64ok a0_2 = true ∧ in8 a0_3 = true ∧ in8 a0_4 = true then some (YtbbncbjdpopkiaaDoor.recB a0_3 a0_4 a0_2 l0_0 l0_1) else none
theorem badgerlog_EncodeEntry.calls (A0_0 : Option Addr) (c0_0 : Nat) (l0_0 : List Int) (A0_1 : Option Addr) (c0_1 : Nat) (l0_1 : List Int) (a0_2 : Int) (a0_3 : Int) (a0_4 : Int) (r : List Int) (w : World) (hr0_0 : Kd.C (Kd.int .u8) w A0_0 l0_0.length l0_0) (hc0_0 : l0_0.length ≤ c0_0) (hr0_1 : Kd.C (Kd.int .u8) w A0_1 l0_1.length l0_1) (hc0_1 : l0_1.length ≤ c0_1) (h : badgerlog_EncodeEntry.f l0_0 l0_1 a0_2 a0_3 a0_4 = some r) :
    Calls Tryd.prog 38 #[.agg #[.slice A0_0 l0_0.length c0_0, .slice A0_1 l0_1.length c0_1, .int .u64 a0_2, .int .u8 a0_3, .int .u8 a0_4]] w fun e w' => ∃ v0_ : Value, e = .returned (v0_) ∧ Kd.R (Kd.int .u8) 5 w' w.heap.size (fun _ => True) v0_ r ∧ Below w.heap.size w w' := by
  obtain ⟨⟨⟨h0, h1⟩, ⟨h2, h3⟩, h4, h5, h6⟩, rfl⟩ := if_some h
  exact (YtbbncbjdpopkiaaDoor.encEntry_any _ c0_0 _ c0_1 A0_0 A0_1 a0_3 a0_4 a0_2 l0_0 l0_1 w (sl_of_C hr0_0) (sl_of_C hr0_1) h0 h1 (byt_of h2) (byt_of h3) (u64ok_of h4).1 (u64ok_of h4).2 (in8_of h5) (in8_of h6)).mono fun e w' hm => made_R hm
def impl_EncodeRec.f (l0_0 : List Int) (l0_1 : List Int) (a0_2 : Int) (a0_3 : Int) (a0_4 : Int) : Option (List Int) := if (l0_0.length ≤ 100000 ∧ l0_1.length ≤ 100000) ∧ (bytb l0_0 = true ∧ bytb l0_1 = true) ∧ u64ok a0_2 = true ∧ in8 a0_3 = true ∧ in8 a0_4 = true then some (YtbbncbjdpopkiaaDoor.recB a0_3 a0_4 a0_2 l0_0 l0_1) else none
theorem impl_EncodeRec.calls (A0_0 : Option Addr) (c0_0 : Nat) (l0_0 : List Int) (A0_1 : Option Addr) (c0_1 : Nat) (l0_1 : List Int) (a0_2 : Int) (a0_3 : Int) (a0_4 : Int) (r : List Int) (w : World) (hr0_0 : Kd.C (Kd.int .u8) w A0_0 l0_0.length l0_0) (hc0_0 : l0_0.length ≤ c0_0) (hr0_1 : Kd.C (Kd.int .u8) w A0_1 l0_1.length l0_1) (hc0_1 : l0_1.length ≤ c0_1) (h : impl_EncodeRec.f l0_0 l0_1 a0_2 a0_3 a0_4 = some r) :
    Calls Tryd.prog 20 #[.agg #[.slice A0_0 l0_0.length c0_0, .slice A0_1 l0_1.length c0_1, .int .u64 a0_2, .int .u8 a0_3, .int .u8 a0_4]] w fun e w' => ∃ v0_ : Value, e = .returned (v0_) ∧ Kd.R (Kd.int .u8) 5 w' w.heap.size (fun _ => True) v0_ r ∧ Below w.heap.size w w' := by
  obtain ⟨⟨⟨h0, h1⟩, ⟨h2, h3⟩, h4, h5, h6⟩, rfl⟩ := if_some h
  exact (YtbbncbjdpopkiaaDoor.encodeRec_any _ c0_0 _ c0_1 A0_0 A0_1 a0_3 a0_4 a0_2 l0_0 l0_1 w (sl_of_C hr0_0) (sl_of_C hr0_1) hc0_0 hc0_1 h0 h1 (byt_of h2) (byt_of h3) (u64ok_of h4).1 (u64ok_of h4).2 (in8_of h5) (in8_of h6)).mono fun e w' hm => made_R hm
end Go.Proofs.YtbbncbjdpopkiaaDoorQ.Ext
