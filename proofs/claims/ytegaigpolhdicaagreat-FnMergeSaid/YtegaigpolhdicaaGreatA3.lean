/- An iterator over a list: its functions. -/
import Derived.Test.YtegaigpolhdicaaGreatA2
import Derived.Deep.QuietTactic
namespace Go.Proofs.YtegaigpolhdicaaGreat
open Go.RowKit
set_option linter.unusedVariables false
set_option linter.unusedSimpArgs false
def lcells (A : Option Addr) (n c : Nat) (rev : Bool) (a : Int) : List Value := [.slice A n c, .bool rev, .int .i64 a]
set_option maxRecDepth 100000 in
theorem lValid (g n c : Nat) (A : Option Addr) (rev : Bool) (a : Int) (w : World) (h : Blk w g 56 (lcells A n c rev a)) :
    Calls Tryz.prog 63 #[.pointer (some ⟨g, 0, none⟩)] w fun E w' => E = .returned (.bool (decide (0 ≤ a ∧ a < n))) ∧ Drew w w' := by
  have u0 := h.at_ (i := 0) rfl
  have u2 := h.at_ (i := 2) rfl
  by_cases h0 : 0 ≤ a
  · by_cases h1 : a < n
    · rw [decide_eq_true (show 0 ≤ a ∧ a < n from ⟨h0, h1⟩)]
      have d0 : decide (0 ≤ a) = true := decide_eq_true h0
      have d1 : decide (a < (n : Int)) = true := decide_eq_true h1
      clear h
      go_enter Tryz.func63, Tryz.ntmps63
      go_wp2_with fail
      go_quiet (fail)
      go_wp2
      go_ret
      exact ⟨rfl, _, rfl⟩
    · rw [decide_eq_false (show ¬ (0 ≤ a ∧ a < n) from fun x => h1 x.2)]
      have d0 : decide (0 ≤ a) = true := decide_eq_true h0
      have d1 : decide (a < (n : Int)) = false := decide_eq_false h1
      clear h
      go_enter Tryz.func63, Tryz.ntmps63
      go_wp2_with fail
      go_quiet (fail)
      go_wp2
      go_ret
      exact ⟨rfl, _, rfl⟩
  · rw [decide_eq_false (show ¬ (0 ≤ a ∧ a < n) from fun x => h0 x.1)]
    have d0 : decide (0 ≤ a) = false := decide_eq_false h0
    clear h
    go_enter Tryz.func63, Tryz.ntmps63
    go_wp2_with fail
    go_quiet (fail)
    go_wp2
    go_ret
    exact ⟨rfl, _, rfl⟩
theorem lClose (g : Nat) (w : World) :
    Calls Tryz.prog 58 #[.pointer (some ⟨g, 0, none⟩)] w fun E w' => E = .returned .nilIface ∧ Drew w w' := by
  go_enter Tryz.func58, Tryz.ntmps58
  go_wp2
  go_ret
  exact ⟨rfl, 0, rfl⟩
theorem lNext (g n c : Nat) (A : Option Addr) (rev : Bool) (a : Int) (w : World) (h : Blk w g 56 (lcells A n c rev a)) (h0 : -1 ≤ a) (h1 : a ≤ 100) :
    Calls Tryz.prog 60 #[.pointer (some ⟨g, 0, none⟩)] w fun E w' => E = .returned (.tuple #[]) ∧ Blk w' g 56 (lcells A n c rev (bif rev then a - 1 else a + 1)) ∧ FrS (· = g) w w' := by
  have H := Lib.hid h
  have u1 := h.at_ (i := 1) rfl
  have u2 := h.at_ (i := 2) rfl
  have z2 := h.frozen 2
  clear h
  cases rev with
  | false =>
    go_enter Tryz.func60, Tryz.ntmps60
    go_wp2
    go_end0
    exact ⟨rfl, H.out.set_ 2 _, (FrS.refl _ w).andSet _ _ rfl⟩
  | true =>
    go_enter Tryz.func60, Tryz.ntmps60
    go_wp2
    go_end0
    exact ⟨rfl, H.out.set_ 2 _, (FrS.refl _ w).andSet _ _ rfl⟩
theorem lRewind (g n c : Nat) (A : Option Addr) (rev : Bool) (a : Int) (w : World) (h : Blk w g 56 (lcells A n c rev a)) (hn : n ≤ 100) :
    Calls Tryz.prog 61 #[.pointer (some ⟨g, 0, none⟩)] w fun E w' => E = .returned (.tuple #[]) ∧ Blk w' g 56 (lcells A n c rev (bif rev then (n : Int) - 1 else 0)) ∧ FrS (· = g) w w' := by
  have H := Lib.hid h
  have u0 := h.at_ (i := 0) rfl
  have u1 := h.at_ (i := 1) rfl
  have u2 := h.at_ (i := 2) rfl
  have z2 := h.frozen 2
  clear h
  cases rev with
  | false =>
    go_enter Tryz.func61, Tryz.ntmps61
    go_wp2
    go_end0
    exact ⟨rfl, H.out.set_ 2 _, (FrS.refl _ w).andSet _ _ rfl⟩
  | true =>
    go_enter Tryz.func61, Tryz.ntmps61
    go_wp2
    go_end0
    exact ⟨rfl, (H.out.set_ 2 _).set_ 2 _, ((FrS.refl (· = g) w).andSet ⟨g, 2, none⟩ _ rfl).andSet ⟨g, 2, none⟩ _ rfl⟩
set_option maxRecDepth 100000 in
theorem lKey (g c i : Nat) (A : Option Addr) (rev : Bool) (es : List ER) (q : ER) (w : World) (h : Blk w g 56 (lcells A es.length c rev (i : Int))) (ht : Ters w A es) (hi : es[i]? = some q) (hn : es.length ≤ 80) :
    Calls Tryz.prog 59 #[.pointer (some ⟨g, 0, none⟩)] w fun E w' => E = .returned (.slice q.Ak q.nk q.ck) ∧ Drew w w' := by
  have u0 := h.at_ (i := 0) rfl
  have u2 := h.at_ (i := 2) rfl
  have hil := (List.getElem?_eq_some_iff.1 hi).1
  obtain ⟨ga, o, rfl⟩ := ht.addr (by omega)
  have k0 : w.cell? ⟨ga, o + i * 6, none⟩ = some (.slice q.Ak q.nk q.ck) := ht.at_ hi (j := 0) rfl
  clear h ht hi
  go_enter Tryz.func59, Tryz.ntmps59
  go_wp2_with fail
  go_quiet (fail)
  go_wp2
  go_ret
  exact ⟨rfl, _, rfl⟩
set_option maxRecDepth 100000 in
theorem lValue (g c i : Nat) (A : Option Addr) (rev : Bool) (es : List ER) (q : ER) (w : World) (h : Blk w g 56 (lcells A es.length c rev (i : Int))) (ht : Ters w A es) (hi : es[i]? = some q) (hn : es.length ≤ 80) :
    Calls Tryz.prog 64 #[.pointer (some ⟨g, 0, none⟩)] w fun E w' => E = .returned (.agg #[.int .u8 q.e.m, .int .u8 q.e.u, .int .u64 q.e.x, .slice q.Ad q.nd q.cd, .int .u64 0]) ∧ Below w.heap.size w w' := by
  have hil := (List.getElem?_eq_some_iff.1 hi).1
  obtain ⟨ga, o, rfl⟩ := ht.addr (by omega)
  have HW := Lib.hid (And.intro (h.alloc (.cells #[.int .u8 0, .int .u8 0, .int .u64 0, .slice none 0 0, .int .u64 0] 66)) (And.intro (ht.sl.alloc (.cells #[.int .u8 0, .int .u8 0, .int .u64 0, .slice none 0 0, .int .u64 0] 66)) (fun r hr => (⟨(ht.each r hr).key.alloc _, (ht.each r hr).dat.alloc _, (ht.each r hr).hk, (ht.each r hr).hd⟩ : ER.TIn (w.alloc (.cells #[.int .u8 0, .int .u8 0, .int .u64 0, .slice none 0 0, .int .u64 0] 66)) r))))
  have HR : Hid (Blk (w.alloc (.cells #[.int .u8 0, .int .u8 0, .int .u64 0, .slice none 0 0, .int .u64 0] 66)) w.heap.size 66 [.int .u8 0, .int .u8 0, .int .u64 0, .slice none 0 0, .int .u64 0]) := Blk.new w _ _
  have HB : Hid (Below w.heap.size w (w.alloc (.cells #[.int .u8 0, .int .u8 0, .int .u64 0, .slice none 0 0, .int .u64 0] 66))) := (Below.refl w.heap.size w).alloc (Nat.le_refl _) _
  have HI := Lib.hid hi
  clear h ht hi
  go_enter Tryz.func64, Tryz.ntmps64
  go_wp2_with fail
  generalize w.alloc (.cells #[.int .u8 0, .int .u8 0, .int .u64 0, .slice none 0 0, .int .u64 0] 66) = w0 at *
  have ht : Ters w0.drew (some ⟨ga, o, none⟩) es := ⟨HW.out.2.1, fun r hr => ⟨(HW.out.2.2 r hr).key, (HW.out.2.2 r hr).dat, (HW.out.2.2 r hr).hk, (HW.out.2.2 r hr).hd⟩⟩
  have u0 : w0.drew.cell? ⟨g, 0, none⟩ = _ := HW.out.1.at_ (i := 0) rfl
  have u2 : w0.drew.cell? ⟨g, 2, none⟩ = _ := HW.out.1.at_ (i := 2) rfl
  have k1 : w0.drew.cell? ⟨ga, o + i * 6 + 1, none⟩ = some (.int .u8 q.e.m) := ht.at_ HI.out (j := 1) rfl
  have k2 : w0.drew.cell? ⟨ga, o + i * 6 + 2, none⟩ = some (.int .u8 q.e.u) := ht.at_ HI.out (j := 2) rfl
  have k3 : w0.drew.cell? ⟨ga, o + i * 6 + 3, none⟩ = some (.int .u64 q.e.x) := ht.at_ HI.out (j := 3) rfl
  have k4 : w0.drew.cell? ⟨ga, o + i * 6 + 4, none⟩ = some (.slice q.Ad q.nd q.cd) := ht.at_ HI.out (j := 4) rfl
  have k5 : w0.drew.cell? ⟨ga, o + i * 6 + 5, none⟩ = some (.int .u64 0) := ht.at_ HI.out (j := 5) rfl
  clear ht
  have hia : (i : Int) < (es.length : Int) := by omega
  go_still_tail 11, (by kernel_rfl)
  change wpList _ _ _ _ _ w0.drew
  clear u0 u2 k1 k2 k3 k4 k5
  have hr3 : Blk w0.drew w.heap.size 66 [.int .u8 0, .int .u8 0, .int .u64 0, .slice none 0 0, .int .u64 0] := HR.out
  have HB3 : Hid (Below w.heap.size w w0.drew) := HB.out.drew
  generalize w0.drew = w3 at *
  have r0 := hr3.at_ (i := 0) rfl
  have r1 := hr3.at_ (i := 1) rfl
  have r2 := hr3.at_ (i := 2) rfl
  have r3 := hr3.at_ (i := 3) rfl
  have r4 := hr3.at_ (i := 4) rfl
  have z0 := hr3.frozen 0
  have z1 := hr3.frozen 1
  have z2 := hr3.frozen 2
  have z3 := hr3.frozen 3
  have z4 := hr3.frozen 4
  clear hr3
  go_wp2
  refine bodyPost_ret (v := .agg #[.int .u8 q.e.m, .int .u8 q.e.u, .int .u64 q.e.x, .slice q.Ad q.nd q.cd, .int .u64 0]) (by simp [results, Tryz.results64, go_sem, r0, r1, r2, r3, r4, z0, z1, z2, z3, z4]) rfl ?_
  exact ⟨rfl, ((((HB3.out.setCell (Nat.le_refl _) _).setCell (Nat.le_refl _) _).setCell (Nat.le_refl _) _).setCell (Nat.le_refl _) _).setCell (Nat.le_refl _) _⟩
/-! What is left of a list. -/
theorem remL_cons {rev : Bool} {es : List ER} {a : Int} (h0 : 0 ≤ a) (h1 : a < es.length) : ∃ q, es[a.toNat]? = some q ∧ remL rev es a = q.e :: remL rev es (bif rev then a - 1 else a + 1) := by
  have hl : a.toNat < es.length := by omega
  refine ⟨es[a.toNat], List.getElem?_eq_getElem hl, ?_⟩
  have hl2 : a.toNat < (es.map ER.e).length := by rw [List.length_map]; exact hl
  cases rev with
  | false =>
    show (es.map ER.e).drop a.toNat = _ :: (es.map ER.e).drop (a + 1).toNat
    rw [show (a + 1).toNat = a.toNat + 1 by omega, List.drop_eq_getElem_cons hl2, List.getElem_map]
  | true =>
    show ((es.map ER.e).take (a + 1).toNat).reverse = _ :: ((es.map ER.e).take (a - 1 + 1).toNat).reverse
    rw [show (a + 1).toNat = a.toNat + 1 by omega, show (a - 1 + 1).toNat = a.toNat by omega, List.take_succ_eq_append_getElem hl2, List.reverse_append, List.getElem_map]
    rfl
theorem remL_nil {rev : Bool} {es : List ER} {a : Int} (h : ¬ (0 ≤ a ∧ a < es.length)) (h0 : rev = true → a < es.length) (h1 : rev = false → 0 ≤ a) : remL rev es a = [] := by
  cases rev with
  | false =>
    have := h1 rfl
    show (es.map ER.e).drop a.toNat = []
    exact List.drop_eq_nil_of_le (by rw [List.length_map]; omega)
  | true =>
    have := h0 rfl
    show ((es.map ER.e).take (a + 1).toNat).reverse = []
    rw [show (a + 1).toNat = 0 by omega]
    rfl
theorem remL_start (rev : Bool) (g : Nat) (A : Option Addr) (c : Nat) (es : List ER) : remL rev es (bif rev then (es.length : Int) - 1 else 0) = Tr.all rev (.leaf g A c es) := by
  cases rev with
  | false => rfl
  | true =>
    show ((es.map ER.e).take ((es.length : Int) - 1 + 1).toNat).reverse = (es.map ER.e).reverse
    rw [List.take_of_length_le (by rw [List.length_map]; omega)]
end Go.Proofs.YtegaigpolhdicaaGreat
