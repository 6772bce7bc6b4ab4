/- Contracts: keys with versions as the thin package and the reference have them. -/
import Derived.Test.YtadhdimleabljaaC4
namespace Go.Proofs.Ytadhdimleabljaa
open Go.RowKit
set_option linter.unusedVariables false
set_option linter.unusedSimpArgs false

/-- A slice value that reads as bytes. -/
def SV (w : World) (v : Value) (l : List Int) : Prop := ∃ B c, v = .slice B l.length c ∧ l.length ≤ c ∧ Sl w B l.length (nums .u8 l)
theorem SV.below {w w' : World} {v : Value} {l : List Int} (h : SV w v l) (hb : Below w.heap.size w w') : SV w' v l := by
  obtain ⟨B, c, e, h1, h2⟩ := h
  exact ⟨B, c, e, h1, h2.below hb⟩
theorem SV.of_own {w : World} {base e n : Nat} {v : Value} {l : List Int} (h : w.ownsRow base e 1 v n (nums .u8 l)) : SV w v l := by
  have hn : l.length = n := by have := h.1; rw [nums_length] at this; omega
  subst hn
  obtain ⟨A, c, rfl, hc, hs⟩ := own_sl h
  exact ⟨A, c, rfl, hc, hs⟩
theorem SV.mk' {w : World} {A : Option Addr} {n c : Nat} {l : List Int} (h : Sl w A n (nums .u8 l)) (hc : n ≤ c) : SV w (.slice A n c) l := by
  have hn : l.length = n := by have := h.1; rw [nums_length] at this; omega
  subst hn
  exact ⟨A, c, rfl, hc, h⟩
theorem sls_new (w : World) (t : Nat) (vs : List Value) (ls : List (List Int)) (hl : ls.length = vs.length) (h : ∀ (j : Nat) (l : List Int), ls[j]? = some l → ∃ v, vs[j]? = some v ∧ SV w v l) :
    Sls (w.alloc (.cells vs.toArray t)) (some ⟨w.heap.size, 0, none⟩) vs.length ls :=
  ⟨hl, fun _ => ⟨w.heap.size, 0, rfl, fun j l hj => by
    obtain ⟨v, hv, B, c, rfl, h1, h2⟩ := h j l hj
    refine ⟨B, c, ?_, h1, h2.alloc _⟩
    rw [Nat.zero_add, (Blk.new w t vs).cell]
    exact hv⟩⟩
theorem sls_one (w : World) (t : Nat) (v : Value) (l : List Int) (h : SV w v l) : Sls (w.alloc (.cells #[v] t)) (some ⟨w.heap.size, 0, none⟩) 1 [l] :=
  sls_new w t [v] [l] rfl (fun j k hj => by
    match j, hj with
    | 0, hj => exact ⟨v, rfl, by simp at hj; subst hj; exact h⟩
    | j + 1, hj => simp at hj)
theorem sls_two (w : World) (t : Nat) (v u : Value) (l k : List Int) (h : SV w v l) (h2 : SV w u k) : Sls (w.alloc (.cells #[v, u] t)) (some ⟨w.heap.size, 0, none⟩) 2 [l, k] :=
  sls_new w t [v, u] [l, k] rfl (fun j m hj => by
    match j, hj with
    | 0, hj => exact ⟨v, rfl, by simp at hj; subst hj; exact h⟩
    | 1, hj => exact ⟨u, rfl, by simp at hj; subst hj; exact h2⟩
    | j + 2, hj => simp at hj)

/-- What a call that makes bytes hands back, as a slice value that reads as them. -/
theorem Made.sv {w w' : World} {e : Nat} {l : List Int} {E : Ending} (h : Made w e (nums .u8 l) E w') : ∃ A c, E = .returned (.slice A l.length c) ∧ l.length ≤ c ∧ Hid (Sl w' A l.length (nums .u8 l)) ∧ Hid (Below w.heap.size w w') ∧ Hid (w'.ownsRow w.heap.size e 1 (.slice A l.length c) l.length (nums .u8 l)) := by
  obtain ⟨v, rfl, ho, hb⟩ := h
  rw [nums_length] at ho
  obtain ⟨A, c, rfl, hc, hs⟩ := own_sl ho
  exact ⟨A, c, rfl, hc, hs, hb, ho⟩
theorem own_weaken' {w : World} {base base' : Nat} {e : Nat} {size n : Nat} {v : Value} {xs : List Value} (h : w.ownsRow base e size v n xs) (hb : base' ≤ base) : w.ownsRow base' e size v n xs := by
  obtain ⟨h1, h2⟩ := h
  refine ⟨h1, ?_⟩
  rcases h2 with h2 | ⟨g, cap, cur, e1, hg, r⟩
  · exact .inl h2
  · exact .inr ⟨g, cap, cur, e1, by omega, r⟩
theorem Made.mk' {w w1 w2 : World} {e : Nat} {l : List Int} {A : Option Addr} {c : Nat} (hb1 : Below w.heap.size w w1) (hb : Below w1.heap.size w1 w2) (ho : w2.ownsRow w1.heap.size e 1 (.slice A l.length c) l.length (nums .u8 l)) : Made w e (nums .u8 l) (.returned (.slice A l.length c)) w2 :=
  ⟨_, rfl, by rw [nums_length]; exact own_weaken' ho hb1.size, hb1.trans (hb.mono hb1.size)⟩

theorem keyB_len (l : List Int) (ts : Int) : (keyB l ts).length = l.length + 8 := by rw [keyB, List.length_append, be64_len]

theorem withVersion_any (A : Option Addr) (n c : Nat) (l : List Int) (ts : Int) (w : World) (h : Sl w A n (nums .u8 l)) (hn : n ≤ 1000000) (hv : 0 ≤ ts) (hv2 : Hid (ts ≤ 18446744073709551615)) :
    Calls Try.prog 31 #[.slice A n c, .int .u64 ts] w (Made w 5 (nums .u8 (keyB l ts))) := by
  have hlen : l.length = n := by have := h.1; rwa [nums_length] at this
  have Hl := Lib.hid hlen
  clear hlen
  have H : Hid (Sl w A n (nums .u8 l)) := h
  clear h
  go_enter Try.func31, Try.ntmps31
  go_wp2_with fail
  refine (own_any A n c l w H.out (by omega)).mono ?_
  intro e w1 h1
  obtain ⟨A1, c1, rfl, hc1, hs1, hb1, ho1⟩ := h1.sv
  clear h1
  go_wp2_with fail
  refine (keyWithTs_any A1 _ c1 l ts w1 hs1.out (by rw [Hl.out]; omega) hv hv2).mono ?_
  intro e w2 h2
  obtain ⟨A2, c2, rfl, hc2, hs2, hb2, ho2⟩ := h2.sv
  clear h2
  go_wp2_with fail
  refine (own_any A2 _ c2 (keyB l ts) w2 hs2.out (by rw [keyB_len, Hl.out]; omega)).mono ?_
  intro e w3 h3
  obtain ⟨A3, c3, rfl, hc3, hs3, hb3, ho3⟩ := h3.sv
  clear h3
  go_wp2
  go_ret
  exact Made.mk' (hb1.out.trans (hb2.out.mono hb1.out.size)) hb3.out ho3.out

set_option maxRecDepth 100000 in
theorem specKeyBytes_any (A : Option Addr) (n c : Nat) (l : List Int) (ts : Int) (w : World) (h : Sl w A n (nums .u8 l)) (hc : n ≤ c) (hn : n ≤ 1000000) (hv : 0 ≤ ts) (hv2 : Hid (ts ≤ 18446744073709551615)) :
    Calls Try.prog 32 #[.slice A n c, .int .u64 ts] w (Made w 5 (nums .u8 (keyB l ts))) := by
  have hlen : l.length = n := by have := h.1; rwa [nums_length] at this
  have Hl := Lib.hid hlen
  clear hlen
  have H : Hid (Sl w A n (nums .u8 l)) := h
  clear h
  go_enter Try.func32, Try.ntmps32
  go_wp2_with fail
  rw [wrapU64 (18446744073709551615 - ts) (by have := hv2.out; omega) (by omega)]
  refine (high_any (18446744073709551615 - ts) 8 w (by have := hv2.out; omega) (by omega)).mono ?_
  intro e w1 h1
  rw [highL_eight _ (by have := hv2.out; omega) (by omega)] at h1
  obtain ⟨A1, c1, rfl, hc1, hs1, hb1, ho1⟩ := h1.sv
  clear h1
  go_wp2_with fail
  have hj : Sls (w1.alloc (.cells #[.slice A n c, .slice A1 (be64 (18446744073709551615 - ts)).length c1] 26)) (some ⟨w1.heap.size, 0, none⟩) 2 [l, be64 (18446744073709551615 - ts)] :=
    sls_two _ _ _ _ _ _ (SV.mk' (H.out.below hb1.out) hc) (SV.mk' hs1.out hc1)
  refine (join_any _ 2 2 [l, be64 (18446744073709551615 - ts)] _ hj (by omega) ?d1).mono ?_
  case d1 => show _ ≤ _; simp [be64_len]; have := Hl.out; omega
  intro e w2 h2
  have e1 : [l, be64 (18446744073709551615 - ts)].flatten = keyB l ts := by simp [keyB]
  rw [e1] at h2
  clear e1 hj
  obtain ⟨A2, c2, rfl, hc2, hs2, hb2, ho2⟩ := h2.sv
  clear h2
  go_wp2
  go_ret
  exact Made.mk' (hb1.out.alloc hb1.out.size _) hb2.out ho2.out
theorem bl_trans {w w1 w2 : World} (h : Below w.heap.size w w1) (k : Below w1.heap.size w1 w2) : Below w.heap.size w w2 := h.trans (k.mono h.size)
theorem bl_alloc {w w1 : World} (h : Below w.heap.size w w1) (o : Obj) : Below w.heap.size w (w1.alloc o) := h.alloc h.size o
theorem bl_drewN {w w1 : World} (h : Below w.heap.size w w1) (n : Nat) : Below w.heap.size w (w1.drewN n) := ⟨h.os, h.tape, h.output, h.size, h.block⟩
theorem bl_drew {w w1 : World} (h : Below w.heap.size w w1) : Below w.heap.size w w1.drew := ⟨h.os, h.tape, h.output, h.size, h.block⟩

end Go.Proofs.Ytadhdimleabljaa
