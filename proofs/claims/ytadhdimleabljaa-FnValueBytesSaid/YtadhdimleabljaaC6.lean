/- Contracts: bytes.Compare, bytes.Equal, and reading numbers with the highest byte first. -/
import Derived.Test.YtadhdimleabljaaC5
import Derived.Lib.Bytealg
namespace Go.Proofs.Ytadhdimleabljaa
open Go.RowKit
set_option linter.unusedVariables false
set_option linter.unusedSimpArgs false

/-- All are bytes. -/
def Byt (l : List Int) : Prop := ∀ x ∈ l, 0 ≤ x ∧ x ≤ 255
theorem Byt.of_wf {l : List Int} (h : ∀ x ∈ l, (Lit.int .u8 x).wf = true) : Byt l := fun x hx => wf8 (h x hx)
theorem Byt.take {l : List Int} (h : Byt l) (n : Nat) : Byt (l.take n) := fun x hx => h x (List.mem_of_mem_take hx)
theorem Byt.drop {l : List Int} (h : Byt l) (n : Nat) : Byt (l.drop n) := fun x hx => h x (List.mem_of_mem_drop hx)
theorem Byt.append {l m : List Int} (h : Byt l) (k : Byt m) : Byt (l ++ m) := fun x hx => by
  rcases List.mem_append.1 hx with hx | hx
  · exact h x hx
  · exact k x hx
theorem byt16 {v : Int} (h0 : 0 ≤ v) (h1 : v ≤ 65535) : Byt (be16 v) := by
  intro x hx; simp [be16] at hx; omega
theorem byt32 {v : Int} (h0 : 0 ≤ v) (h1 : v ≤ 4294967295) : Byt (be32 v) := (byt16 (by omega) (by omega)).append (byt16 (by omega) (by omega))
theorem byt64 {v : Int} (h0 : 0 ≤ v) (h1 : Hid (v ≤ 18446744073709551615)) : Byt (be64 v) := by
  have := h1.out
  exact (byt32 (by omega) (by omega)).append (byt32 (by omega) (by omega))
theorem bytKey {l : List Int} {ts : Int} (h : Byt l) (h0 : 0 ≤ ts) (h1 : Hid (ts ≤ 18446744073709551615)) : Byt (keyB l ts) :=
  h.append (byt64 (by have := h1.out; omega) (by show _ ≤ _; omega))

def u8of (x : Int) : UInt8 := UInt8.ofNat x.toNat
theorem u8of_eq {x y : Int} (hx : 0 ≤ x ∧ x ≤ 255) (hy : 0 ≤ y ∧ y ≤ 255) : u8of x = u8of y ↔ x = y := by
  constructor
  · intro h
    have := congrArg UInt8.toNat h
    simp [u8of] at this
    omega
  · rintro rfl; rfl
theorem u8of_lt {x y : Int} (hx : 0 ≤ x ∧ x ≤ 255) (hy : 0 ≤ y ∧ y ≤ 255) : u8of x < u8of y ↔ x < y := by
  rw [UInt8.lt_iff_toNat_lt]
  simp [u8of]
  omega
theorem cmpBytes (l m : List Int) (hl : Byt l) (hm : Byt m) : Lib.compareBytes (l.map u8of) (m.map u8of) = cmpL l m := by
  induction l generalizing m with
  | nil => cases m <;> simp [Lib.compareBytes, cmpL]
  | cons a l ih =>
    cases m with
    | nil => simp [Lib.compareBytes, cmpL]
    | cons b m =>
      have ha := hl a (by simp)
      have hb := hm b (by simp)
      simp only [List.map_cons, Lib.compareBytes, cmpL, u8of_lt ha hb, u8of_lt hb ha]
      rw [ih m (fun x hx => hl x (by simp [hx])) (fun x hx => hm x (by simp [hx]))]
      rcases Int.lt_trichotomy a b with h | h | h
      · rw [if_pos h, if_neg (by omega), if_pos h]
      · rw [if_neg (by omega), if_neg (by omega), if_pos h]
      · rw [if_neg (by omega), if_pos h, if_neg (by omega), if_neg (by omega)]
theorem run_loadBytes {P : Program} (w : World) (g o : Nat) (l : List Int) (acc : ByteArray) (h : ∀ j x, l[j]? = some x → w.cell? ⟨g, o + j, none⟩ = some (.int .u8 x)) :
    (Extern.Bytes.loadBytes ⟨g, o, none⟩ l.length acc).run P w = .ok (l.foldl (fun r n => r.push (UInt8.ofNat n.toNat)) acc) w := by
  induction l generalizing o acc with
  | nil => rfl
  | cons a l ih =>
    have h0 := h 0 a rfl
    simp only [Nat.add_zero] at h0
    rw [List.length_cons, Extern.Bytes.loadBytes]
    simp only [Sem.run_bind, load, Sem.run, h0, Sem.run_pure, Result.andThen, add_none]
    exact ih (o + 1) _ (fun j x hj => by rw [show o + 1 + j = o + (j + 1) from by omega]; exact h (j + 1) x hj)
theorem bytesOf_sl {P : Program} {w : World} {A : Option Addr} {n : Nat} (c : Nat) {l : List Int} (h : Sl w A n (nums .u8 l)) :
    (Extern.Bytes.bytesOf (.slice A n c)).run P w = .ok (strOfNums l) w := by
  have hl : l.length = n := by have := h.1; rwa [nums_length] at this
  subst hl
  rcases Nat.eq_zero_or_pos l.length with h0 | h0
  · have : l = [] := List.eq_nil_of_length_eq_zero h0
    subst this
    cases A <;> rfl
  · obtain ⟨g, o, rfl, hc⟩ := h.2 h0
    show (Extern.Bytes.loadBytes ⟨g, o, none⟩ l.length .empty).run P w = _
    rw [run_loadBytes w g o l _ (fun j x hj => hc j _ (by simp [nums, hj])), foldl_push_bytes]
    simp [strOfNums, ByteArray.empty, ByteArray.emptyWithCapacity]
    rfl
theorem run_compareSl {P : Program} {w : World} {A B : Option Addr} {n m c d : Nat} {l k : List Int} (h : Sl w A n (nums .u8 l)) (h2 : Sl w B m (nums .u8 k)) (hl : Byt l) (hk : Byt k) :
    (Extern.BytealgCompare.compare #[.slice A n c, .slice B m d]).run P w = .ok (.int .i64 (cmpL l k)) w := by
  change Sem.run P (do pure (goInt (Extern.BytealgCompare.cmp (← Extern.Bytes.bytesOf (.slice A n c)) (← Extern.Bytes.bytesOf (.slice B m d))))) w = _
  simp only [Sem.run_bind, Sem.run_pure, Result.andThen, bytesOf_sl c h, bytesOf_sl d h2]
  rw [Lib.cmp_eq, strOfNums_data, strOfNums_data]
  have := cmpBytes l k hl hk
  unfold u8of at this
  rw [this]
  rfl

set_option maxRecDepth 100000 in
theorem bytesCompare_any (A B : Option Addr) (n m c d : Nat) (l k : List Int) (w : World) (h : Sl w A n (nums .u8 l)) (h2 : Sl w B m (nums .u8 k)) (hl : Byt l) (hk : Byt k) :
    Calls Try.prog 141 #[.slice A n c, .slice B m d] w fun e w' => e = .returned (.int .i64 (cmpL l k)) ∧ w = w' := by
  have H1 : Hid (Sl w A n (nums .u8 l)) := h
  have H2 : Hid (Sl w B m (nums .u8 k)) := h2
  have H3 : Hid (Byt l) := hl
  have H4 : Hid (Byt k) := hk
  clear h h2 hl hk
  go_enter Try.func141, Try.ntmps141
  go_wp2
  rw [run_callFunc_extern Try.func163 (by kernel_rfl) (by kernel_rfl) (by kernel_rfl) (e := Extern.BytealgCompare.compare) (by kernel_rfl), run_compareSl H1.out H2.out H3.out H4.out]
  simp only [Result.andThen]
  rw [Oper.upon_value]
  go_wp2
  go_ret
  exact ⟨rfl, rfl⟩

theorem convert_sl {P : Program} {w : World} {A : Option Addr} {n : Nat} {l : List Int} (h : Sl w A n (nums .u8 l)) (c : Nat) (src e dst : TypeId) (hs : P.underlying src = some (.slice e)) (he : P.underlying e = some (.int .u8)) (hd : P.underlying dst = some .string) :
    (convert src dst (.slice A n c)).run P w = .ok (.string (strOfNums l)) w := by
  have hl : l.length = n := by have := h.1; rwa [nums_length] at this
  subst hl
  rcases Nat.eq_zero_or_pos l.length with h0 | h0
  · have : l = [] := List.eq_nil_of_length_eq_zero h0
    subst this
    cases A with
    | none => exact run_convert_bytes_nil w src e hs he _ c dst hd
    | some a =>
      have hl : (loadCells a 0).run P w = .ok #[] w := by simpa using run_loadCells_list (P := P) w a [] (by simp)
      rw [run_convert_bytes_string w src dst e _ _ c hs he hd, List.length_nil, run_bytesToString w a 0 c [] (by simpa using hl)]
      rfl
  · obtain ⟨g, o, rfl, hc⟩ := h.2 h0
    exact run_convert_bytes_arg w src e hs he g o _ c l rfl (fun i hi => hc i _ (nums_get _ _ _ hi)) dst hd
theorem map_u8_inj {l m : List Int} (hl : Byt l) (hm : Byt m) (h : l.map u8of = m.map u8of) : l = m := by
  induction l generalizing m with
  | nil => cases m with
    | nil => rfl
    | cons b m => simp at h
  | cons a l ih =>
    cases m with
    | nil => simp at h
    | cons b m =>
      simp only [List.map_cons, List.cons.injEq] at h
      rw [(u8of_eq (hl a (by simp)) (hm b (by simp))).1 h.1, ih (fun x hx => hl x (by simp [hx])) (fun x hx => hm x (by simp [hx])) h.2]
theorem strOfNums_inj {l m : List Int} (hl : Byt l) (hm : Byt m) : ((strOfNums l).toList == (strOfNums m).toList) = decide (l = m) := by
  rw [ByteArray.toList_eq, ByteArray.toList_eq, strOfNums_data, strOfNums_data, Bool.eq_iff_iff]
  simp only [beq_iff_eq, decide_eq_true_eq]
  exact ⟨fun h => map_u8_inj hl hm h, fun h => by rw [h]⟩
set_option maxRecDepth 100000 in
theorem bytesEqual_any (A B : Option Addr) (n m c d : Nat) (l k : List Int) (w : World) (h : Sl w A n (nums .u8 l)) (h2 : Sl w B m (nums .u8 k)) (hl : Byt l) (hk : Byt k) :
    Calls Try.prog 145 #[.slice A n c, .slice B m d] w fun e w' => e = .returned (.bool (decide (l = k))) ∧ w = w' := by
  have c1 : (convert 26 9 (.slice A n c)).run Try.prog w = .ok (.string (strOfNums l)) w := convert_sl h c _ _ _ Try.underlying26 Try.underlying5 Try.underlying9
  have c2 : (convert 26 9 (.slice B m d)).run Try.prog w = .ok (.string (strOfNums k)) w := convert_sl h2 d _ _ _ Try.underlying26 Try.underlying5 Try.underlying9
  have H3 : Hid (((strOfNums l).toList == (strOfNums k).toList) = decide (l = k)) := strOfNums_inj hl hk
  clear h h2 hl hk
  go_enter Try.func145, Try.ntmps145
  go_wp2
  go_ret
  exact ⟨by rw [← H3.out]; rfl, rfl⟩

/-- Numbers out of bytes, the highest one first. -/
theorem or_join16 (a b : Int) (ha : 0 ≤ a ∧ a ≤ 255) (hb : 0 ≤ b ∧ b ≤ 255) : bits .or .u16 b (a * 256) = a * 256 + b := by
  rw [u16_or _ _ (by omega) (by omega) (by omega) (by omega), Nat.or_comm, nat_join 8 (a * 256).toNat b.toNat (by omega) (by omega)]
  omega
set_option maxRecDepth 100000 in
theorem be16_any (A : Option Addr) (n c : Nat) (a b : Int) (r : List Int) (w : World) (h : Sl w A n (nums .u8 (a :: b :: r))) (hab : (0 ≤ a ∧ a ≤ 255) ∧ (0 ≤ b ∧ b ≤ 255)) :
    Calls Try.prog 153 #[.slice A n c] w fun e w' => e = .returned (.int .u16 (a * 256 + b)) ∧ Drew w w' := by
  have hlen : r.length + 2 = n := by have := h.1; rw [nums_length] at this; simpa using this
  obtain ⟨g, o, rfl, hc⟩ := h.2 (by omega)
  have hc0 : w.cell? ⟨g, o, none⟩ = some (.int .u8 a) := hc 0 _ rfl
  have hc1 : w.cell? ⟨g, o + 1, none⟩ = some (.int .u8 b) := hc 1 _ rfl
  have HJ : Hid (bits .or .u16 b (a * 256) = a * 256 + b) := or_join16 a b hab.1 hab.2
  have h2 : 2 ≤ n := by omega
  obtain ⟨⟨ha0, ha1⟩, hb0, hb1⟩ := hab
  clear h hc hlen
  go_enter Try.func153, Try.ntmps153
  go_wp2
  go_quiet (fail)
  go_wp2
  go_ret
  exact ⟨by rw [← HJ.out]; rfl, ⟨nq, rfl⟩⟩

def un16 (a b : Int) : Int := a * 256 + b
def un32 (a b c d : Int) : Int := un16 a b * 65536 + un16 c d
def In8 (x : Int) : Prop := 0 ≤ x ∧ x ≤ 255
theorem or_join32 (a b : Int) (ha : 0 ≤ a ∧ a ≤ 65535) (hb : 0 ≤ b ∧ b ≤ 65535) : bits .or .u32 b (a * 65536) = a * 65536 + b := by
  rw [u32_or _ _ (by omega) (by omega) (by omega) (by omega), Nat.or_comm, nat_join 16 (a * 65536).toNat b.toNat (by omega) (by omega)]
  omega
theorem or_join64 (a b : Int) (ha : 0 ≤ a ∧ a ≤ 4294967295) (hb : 0 ≤ b ∧ b ≤ 4294967295) : bits .or .u64 b (a * 4294967296) = a * 4294967296 + b := by
  rw [u64_or _ _ (by omega) (by omega) (by omega) (by omega), Nat.or_comm, nat_join 32 (a * 4294967296).toNat b.toNat (by omega) (by omega)]
  omega
theorem in16 {a b : Int} (ha : In8 a) (hb : In8 b) : 0 ≤ un16 a b ∧ un16 a b ≤ 65535 := by unfold un16; unfold In8 at ha hb; omega
theorem in32 {a b c d : Int} (ha : In8 a) (hb : In8 b) (hc : In8 c) (hd : In8 d) : 0 ≤ un32 a b c d ∧ un32 a b c d ≤ 4294967295 := by
  have := in16 ha hb; have := in16 hc hd; unfold un32; omega
set_option maxRecDepth 100000 in
theorem be32_any (A : Option Addr) (n c : Nat) (a0 a1 a2 a3 : Int) (r : List Int) (w : World) (h : Sl w A n (nums .u8 (a0 :: a1 :: a2 :: a3 :: r))) (hc : n ≤ c) (h0 : In8 a0) (h1 : In8 a1) (h2 : In8 a2) (h3 : In8 a3) :
    Calls Try.prog 154 #[.slice A n c] w fun e w' => e = .returned (.int .u32 (un32 a0 a1 a2 a3)) ∧ Drew w w' := by
  have hlen : r.length + 4 = n := by have := h.1; rw [nums_length] at this; simpa using this
  obtain ⟨g, o, rfl, _⟩ := h.2 (by omega)
  have hn : 4 ≤ n := by omega
  have hd := (h.take (m := 4) hn).drop (m := 2) (c := c) (by omega) (by omega)
  have HD : Hid (Sl w (some ⟨g, o + 2, none⟩) 2 (nums .u8 [a2, a3])) := by
    rw [if_neg (by omega)] at hd
    show Sl _ _ _ _
    simpa [nums, add_none, Addr.add] using hd
  have H : Hid (Sl w (some ⟨g, o, none⟩) n (nums .u8 (a0 :: a1 :: a2 :: a3 :: r))) := h
  have b1 := in16 h0 h1
  have b2 := in16 h2 h3
  have HJ : Hid (bits .or .u32 (un16 a2 a3) (un16 a0 a1 * 65536) = un32 a0 a1 a2 a3) := or_join32 _ _ b1 b2
  have I0 : Hid (In8 a0) := h0
  have I1 : Hid (In8 a1) := h1
  have I2 : Hid (In8 a2) := h2
  have I3 : Hid (In8 a3) := h3
  clear hd h h0 h1 h2 h3 hlen
  obtain ⟨b1l, b1h⟩ := b1
  obtain ⟨b2l, b2h⟩ := b2
  go_enter Try.func154, Try.ntmps154
  go_wp2_with fail
  refine (be16_any _ 2 (c - 2) a2 a3 [] w HD.out ⟨I2.out, I3.out⟩).mono ?_
  rintro e w1 ⟨rfl, ⟨j, rfl⟩⟩
  rw [show a2 * 256 + a3 = un16 a2 a3 from rfl]
  go_wp2_with fail
  refine (be16_any _ n c a0 a1 _ _ (H.out.drewN j) ⟨I0.out, I1.out⟩).mono ?_
  rintro e w1 ⟨rfl, ⟨k, rfl⟩⟩
  rw [show a0 * 256 + a1 = un16 a0 a1 from rfl]
  go_wp2
  go_ret
  exact ⟨by rw [← HJ.out]; rfl, ⟨j + k, rfl⟩⟩
def un64 (a0 a1 a2 a3 a4 a5 a6 a7 : Int) : Int := un32 a0 a1 a2 a3 * 4294967296 + un32 a4 a5 a6 a7
set_option maxRecDepth 100000 in
theorem be64_any (A : Option Addr) (n c : Nat) (a0 a1 a2 a3 a4 a5 a6 a7 : Int) (r : List Int) (w : World) (h : Sl w A n (nums .u8 (a0 :: a1 :: a2 :: a3 :: a4 :: a5 :: a6 :: a7 :: r))) (hc : n ≤ c)
    (h0 : In8 a0) (h1 : In8 a1) (h2 : In8 a2) (h3 : In8 a3) (h4 : In8 a4) (h5 : In8 a5) (h6 : In8 a6) (h7 : In8 a7) :
    Calls Try.prog 150 #[.slice A n c] w fun e w' => e = .returned (.int .u64 (un64 a0 a1 a2 a3 a4 a5 a6 a7)) ∧ Drew w w' := by
  have hlen : r.length + 8 = n := by have := h.1; rw [nums_length] at this; simpa using this
  obtain ⟨g, o, rfl, _⟩ := h.2 (by omega)
  have hn : 8 ≤ n := by omega
  have hd := (h.take (m := 8) hn).drop (m := 4) (c := c) (by omega) (by omega)
  have HD : Hid (Sl w (some ⟨g, o + 4, none⟩) 4 (nums .u8 [a4, a5, a6, a7])) := by
    rw [if_neg (by omega)] at hd
    show Sl _ _ _ _
    simpa [nums, add_none, Addr.add] using hd
  have H : Hid (Sl w (some ⟨g, o, none⟩) n (nums .u8 (a0 :: a1 :: a2 :: a3 :: a4 :: a5 :: a6 :: a7 :: r))) := h
  have b1 := in32 h0 h1 h2 h3
  have b2 := in32 h4 h5 h6 h7
  have HJ : Hid (bits .or .u64 (un32 a4 a5 a6 a7) (un32 a0 a1 a2 a3 * 4294967296) = un64 a0 a1 a2 a3 a4 a5 a6 a7) := or_join64 _ _ b1 b2
  have I : Hid (In8 a0 ∧ In8 a1 ∧ In8 a2 ∧ In8 a3 ∧ In8 a4 ∧ In8 a5 ∧ In8 a6 ∧ In8 a7) := ⟨h0, h1, h2, h3, h4, h5, h6, h7⟩
  clear hd h h0 h1 h2 h3 h4 h5 h6 h7 hlen
  obtain ⟨b1l, b1h⟩ := b1
  obtain ⟨b2l, b2h⟩ := b2
  have hc4 : 4 ≤ c - 4 := by omega
  go_enter Try.func150, Try.ntmps150
  go_wp2_with fail
  refine (be32_any _ 4 (c - 4) a4 a5 a6 a7 [] w HD.out hc4 I.out.2.2.2.2.1 I.out.2.2.2.2.2.1 I.out.2.2.2.2.2.2.1 I.out.2.2.2.2.2.2.2).mono ?_
  rintro e w1 ⟨rfl, ⟨j, rfl⟩⟩
  go_wp2_with fail
  refine (be32_any _ n c a0 a1 a2 a3 _ _ (H.out.drewN j) hc I.out.1 I.out.2.1 I.out.2.2.1 I.out.2.2.2.1).mono ?_
  rintro e w1 ⟨rfl, ⟨k, rfl⟩⟩
  go_wp2
  go_ret
  exact ⟨by rw [← HJ.out]; rfl, ⟨j + k, rfl⟩⟩
theorem be64_shape (v : Int) : ∃ a0 a1 a2 a3 a4 a5 a6 a7, be64 v = [a0, a1, a2, a3, a4, a5, a6, a7] ∧ (0 ≤ v → v ≤ 18446744073709551615 → un64 a0 a1 a2 a3 a4 a5 a6 a7 = v) :=
  ⟨_, _, _, _, _, _, _, _, rfl, fun h0 h1 => by simp only [un64, un32, un16]; omega⟩
set_option maxRecDepth 100000 in
theorem parseTs_any (A : Option Addr) (n c : Nat) (l : List Int) (ts : Int) (w : World) (h : Sl w A n (nums .u8 (keyB l ts))) (hc : n ≤ c) (hpos : 0 < l.length) (hn : n ≤ 1000000) (hv : 0 ≤ ts) (hv2 : Hid (ts ≤ 18446744073709551615)) :
    Calls Try.prog 113 #[.slice A n c] w fun e w' => e = .returned (.int .u64 ts) ∧ Drew w w' := by
  have hlen : l.length + 8 = n := by have := h.1; rw [nums_length, keyB_len] at this; exact this
  have h9 : 8 < n := by omega
  obtain ⟨a0, a1, a2, a3, a4, a5, a6, a7, he, hu⟩ := be64_shape (18446744073709551615 - ts)
  have hb : Byt (be64 (18446744073709551615 - ts)) := byt64 (by have := hv2.out; omega) (by show _ ≤ _; omega)
  have hu2 := hu (by have := hv2.out; omega) (by omega)
  rw [he] at hb
  have hd := h.drop (m := n - 8) (c := c) (by omega) hc
  rw [← nums_drop, keyB, List.drop_left' (by omega), he, if_neg (by omega)] at hd
  obtain ⟨g, o, rfl, _⟩ := h.2 (by omega)
  have HD : Hid (Sl w (some ⟨g, o + (n - 8), none⟩) (n - (n - 8)) (nums .u8 [a0, a1, a2, a3, a4, a5, a6, a7])) := by
    show Sl _ _ _ _
    simpa [add_none] using hd
  have HU := Lib.hid hu2
  have HB := Lib.hid hb
  have hc8 : n - (n - 8) ≤ c - (n - 8) := by omega
  clear hd h hu hu2 hb he hlen
  go_enter Try.func113, Try.ntmps113
  go_wp2_with fail
  refine (be64_any _ _ _ a0 a1 a2 a3 a4 a5 a6 a7 [] w HD.out hc8 (HB.out _ (by simp)) (HB.out _ (by simp)) (HB.out _ (by simp)) (HB.out _ (by simp)) (HB.out _ (by simp)) (HB.out _ (by simp)) (HB.out _ (by simp)) (HB.out _ (by simp))).mono ?_
  rintro e w1 ⟨rfl, ⟨k, rfl⟩⟩
  rw [HU.out]
  go_wp2
  go_ret
  refine ⟨?_, ⟨k, rfl⟩⟩
  have e1 : IntKind.u64.wrap (18446744073709551615 - (18446744073709551615 - ts)) = ts := by rw [wrapU64 _ (by omega) (by have := hv2.out; omega)]; omega
  show Ending.returned (.int .u64 (IntKind.u64.wrap (18446744073709551615 - (18446744073709551615 - ts)))) = _
  rw [e1]

/-- The slice ahead of the last eight bytes. -/
theorem parseKey_any (A : Option Addr) (n c : Nat) (w : World) (h8 : 8 ≤ n) (hc : n ≤ c) (hn : n ≤ 1000000) :
    Calls Try.prog 112 #[.slice A n c] w fun e w' => e = .returned (.slice A (n - 8) c) ∧ w = w' := by
  go_enter Try.func112, Try.ntmps112
  go_wp2
  go_ret
  exact ⟨rfl, rfl⟩
end Go.Proofs.Ytadhdimleabljaa
