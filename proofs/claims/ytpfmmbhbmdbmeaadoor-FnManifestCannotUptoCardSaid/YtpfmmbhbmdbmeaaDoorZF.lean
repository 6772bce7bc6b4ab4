/- Manifests read again: the head. -/
import Derived.Test.YtpfmmbhbmdbmeaaDoorZE
import Derived.Test.YtpfmmbhbmdbmeaaDoorZC
import Derived.Lib.SlBytesConst
import Derived.Lib.SmallJoins
namespace Go.Proofs.YtpfmmbhbmdbmeaaDoor
open Go.RowKit
set_option linter.unusedVariables false
set_option linter.unusedSimpArgs false
/-- The errors that the package keeps. -/
structure ErrG (w : World) (ae au : Addr) : Prop where
  eof : w.cell? ⟨1, 0, none⟩ = some (.iface 106 (.pointer (some ae)))
  une : w.cell? ⟨2, 0, none⟩ = some (.iface 106 (.pointer (some au)))
  bad : ∃ te pe, w.cell? ⟨3, 0, none⟩ = some (.iface te pe)
  ne : au ≠ ae
  be : ∃ c t, w.heap[ae.block]? = some (.cells c t (0, 0))
  bu : ∃ c t, w.heap[au.block]? = some (.cells c t (0, 0))
  big : 5 ≤ w.heap.size
def RepNo (w : World) (E : Ending) (w' : World) : Prop := (∃ te pe, E = .returned (.tuple #[.agg #[.slice none 0 0, .map none, .int .i64 0, .int .i64 0], .int .i64 0, .iface te pe])) ∧ Below w.heap.size w w'
def z8 : List Value := [.int .u8 0, .int .u8 0, .int .u8 0, .int .u8 0, .int .u8 0, .int .u8 0, .int .u8 0, .int .u8 0]
structure RpS (w w4 : World) (A : Option Addr) (n c : Nat) (l : List Int) (s : Nat) : Prop where
  rd : RdS w4 (s + 1 + 1) (s + 1) n c 0 A l
  man : Blk w4 s 54 [.slice none 0 0, .map none, .int .i64 0, .int .i64 0]
  buf : Blk w4 (s + 1 + 1 + 1) 92 z8
  bel : Below w.heap.size w w4
  apt : ∀ g o, A = some ⟨g, o, none⟩ → 0 < n → g ≠ s + 1 + 1 + 1
theorem rp_state (w : World) (A : Option Addr) (n c : Nat) (l : List Int) (hs : Sl w A n (nums .u8 l)) (hc : n ≤ c) (hn : n ≤ 1000000) : RpS w ((((w.alloc (.cells #[.slice none 0 0, .map none, .int .i64 0, .int .i64 0] 54)).alloc (.cells #[.slice A n c, .int .i64 0] 89)).alloc (.cells #[.pointer (some ⟨w.heap.size + 1, 0, none⟩), .int .i64 0] 91)).alloc (.cells #[.int .u8 0, .int .u8 0, .int .u8 0, .int .u8 0, .int .u8 0, .int .u8 0, .int .u8 0, .int .u8 0] 92)) A n c l w.heap.size := by
  have h1 := Blk.new w 54 [.slice none 0 0, .map none, .int .i64 0, .int .i64 0]
  have h2 := Blk.new (w.alloc (.cells #[.slice none 0 0, .map none, .int .i64 0, .int .i64 0] 54)) 89 [.slice A n c, .int .i64 0]
  have h3 := Blk.new ((w.alloc (.cells #[.slice none 0 0, .map none, .int .i64 0, .int .i64 0] 54)).alloc (.cells #[.slice A n c, .int .i64 0] 89)) 91 [.pointer (some ⟨w.heap.size + 1, 0, none⟩), .int .i64 0]
  have h4 := Blk.new (((w.alloc (.cells #[.slice none 0 0, .map none, .int .i64 0, .int .i64 0] 54)).alloc (.cells #[.slice A n c, .int .i64 0] 89)).alloc (.cells #[.pointer (some ⟨w.heap.size + 1, 0, none⟩), .int .i64 0] 91)) 92 z8
  simp only [World.size_alloc] at h2 h3 h4
  have hlt : ∀ g o, A = some ⟨g, o, none⟩ → 0 < n → g < w.heap.size := fun g o e h0 => hs.lt e h0
  refine ⟨⟨h3.alloc _, (h2.alloc _).alloc _, (((hs.alloc _).alloc _).alloc _).alloc _, hc, Nat.zero_le _, by omega, hn, fun g o e h0 => ?_⟩, ((h1.alloc _).alloc _).alloc _, h4, ?_, fun g o e h0 => ?_⟩
  · have := hlt g o e h0; omega
  · refine ((((Below.refl _ _).alloc (Nat.le_refl _) _).alloc ?_ _).alloc ?_ _).alloc ?_ _ <;> simp only [World.size_alloc] <;> omega
  · have := hlt g o e h0; omega
theorem ErrG.below {w w' : World} {ae au : Addr} (h : ErrG w ae au) (hb : Below w.heap.size w w') : ErrG w' ae au := by
  have key : ∀ a c t, w.heap[Addr.block a]? = some (.cells c t (0, 0)) → w'.heap[Addr.block a]? = some (.cells c t (0, 0)) := fun a c t e => by
    rw [hb.block _ (by rcases Nat.lt_or_ge a.block w.heap.size with h' | h'; exact h'; simp [Array.getElem?_eq_none h'] at e)]
    exact e
  obtain ⟨te, pe, hx⟩ := h.bad
  obtain ⟨c1, t1, h1⟩ := h.be
  obtain ⟨c2, t2, h2⟩ := h.bu
  exact ⟨cell_belM h.eof hb, cell_belM h.une hb, ⟨te, pe, cell_belM hx hb⟩, h.ne, ⟨c1, t1, key _ _ _ h1⟩, ⟨c2, t2, key _ _ _ h2⟩, Nat.le_trans h.big hb.size⟩
set_option maxRecDepth 100000 in
theorem eqErrO {w : World} {ae au : Addr} (h : ErrG w ae au) : (binOp .eql 56 (.iface 106 (.pointer (some au))) (.iface 106 (.pointer (some ae)))).run Tryd.prog w = .ok (.bool false) w := by
  obtain ⟨i, hi, hc⟩ := info_some errInfo.1
  obtain ⟨j, hj, hz⟩ := info_some errInfo.2
  obtain ⟨c1, t1, h1⟩ := h.be
  obtain ⟨c2, t2, h2⟩ := h.bu
  exact run_eql_iface_ptr_other w Tryd.underlying56 errU hi hc hj (by rw [hz]; decide) h.ne h2 h1
set_option maxRecDepth 100000 in
theorem errNew_any (s : ByteArray) (w : World) : Calls Tryd.prog 41 #[.string s] w (fun E w' => (∃ a, E = .returned (.iface 106 (.pointer (some a)))) ∧ Below w.heap.size w w') := by
  go_enter Tryd.func41, Tryd.ntmps41
  go_wp2
  go_ret
  exact ⟨⟨_, rfl⟩, (Below.refl _ _).alloc (Nat.le_refl _) _⟩
set_option maxRecDepth 100000 in
theorem bytesToU16_any (A : Option Addr) (n c : Nat) (a b : Int) (r : List Int) (w : World) (h : Sl w A n (nums .u8 (a :: b :: r))) (hab : (0 ≤ a ∧ a ≤ 255) ∧ (0 ≤ b ∧ b ≤ 255)) :
    Calls Tryd.prog 40 #[.slice A n c] w fun e w' => e = .returned (.int .u16 (a * 256 + b)) ∧ Frm [] w w' := by
  go_enter Tryd.func40, Tryd.ntmps40
  go_wp2_with fail
  refine (be16_any A n c a b r w h hab).mono ?_
  rintro E w1 ⟨rfl, hd⟩
  have HD : Hid (Frm [] w w1) := Frm.of_below hd.below
  clear hd
  go_wp2
  go_ret
  exact ⟨rfl, HD.out⟩
set_option maxRecDepth 100000 in
theorem bytesToU32_any (A : Option Addr) (n c : Nat) (a0 a1 a2 a3 : Int) (r : List Int) (w : World) (h : Sl w A n (nums .u8 (a0 :: a1 :: a2 :: a3 :: r))) (hc : n ≤ c) (h0 : In8 a0) (h1 : In8 a1) (h2 : In8 a2) (h3 : In8 a3) :
    Calls Tryd.prog 42 #[.slice A n c] w fun e w' => e = .returned (.int .u32 (un32 a0 a1 a2 a3)) ∧ Frm [] w w' := by
  go_enter Tryd.func42, Tryd.ntmps42
  go_wp2_with fail
  refine (be32_any A n c a0 a1 a2 a3 r w h hc h0 h1 h2 h3).mono ?_
  rintro E w1 ⟨rfl, hd⟩
  have HD : Hid (Frm [] w w1) := Frm.of_below hd.below
  clear hd
  go_wp2
  go_ret
  exact ⟨rfl, HD.out⟩
theorem un32_be32 (v : Int) (h0 : 0 ≤ v) (h1 : v ≤ 4294967295) : ∃ a0 a1 a2 a3, be32 v = [a0, a1, a2, a3] ∧ un32 a0 a1 a2 a3 = v ∧ In8 a0 ∧ In8 a1 ∧ In8 a2 ∧ In8 a3 := by
  refine ⟨_, _, _, _, rfl, ?_, ?_, ?_, ?_, ?_⟩
  · unfold un32 un16; omega
  all_goals unfold In8; omega
set_option maxRecDepth 100000 in
set_option maxHeartbeats 4000000 in
theorem replay_mark (mk mark : Int) (A : Option Addr) (n c : Nat) (l body : List Int) (ae au : Addr) (w : World) (hs : Sl w A n (nums .u8 l)) (hc : n ≤ c) (hn : n ≤ 1000000) (hl : l = headM mk ++ body) (hm : 0 ≤ mk ∧ mk ≤ 65535) (hne : mk ≠ mark) (hg : ErrG w ae au) :
    Calls Tryd.prog 30 #[.slice A n c, .int .u16 mark] w (RepNo w) := by
  have HS := Lib.hid hs
  have HG := Lib.hid hg
  have ha := arr8
  have kc := fun (w : World) (C : Array Value) (n c : Nat) => Lib.run_convert_bytes_const (P := Tryd.prog) w 30 5 C n c Tryd.underlying30 Tryd.underlying5
  clear hs hg
  go_enter Tryd.func30, Tryd.ntmps30
  go_wp2_with fail
  have HP := Lib.hid (rp_state w A n c l HS.out hc hn)
  generalize ((((w.alloc (.cells #[.slice none 0 0, .map none, .int .i64 0, .int .i64 0] 54)).alloc (.cells #[.slice A n c, .int .i64 0] 89)).alloc (.cells #[.pointer (some ⟨w.heap.size + 1, 0, none⟩), .int .i64 0] 91)).alloc (.cells #[.int .u8 0, .int .u8 0, .int .u8 0, .int .u8 0, .int .u8 0, .int .u8 0, .int .u8 0, .int .u8 0] 92)) = w4 at *
  generalize hsz : w.heap.size = s at *
  have HSZ := Lib.hid hsz
  clear hsz
  have HUW : Hid (Below w.heap.size w w4) := HP.out.bel
  refine (readFull_ok (s + 1 + 1) (s + 1) (s + 1 + 1 + 1) 92 8 n c 0 A z8 l w4 HP.out.rd HP.out.buf rfl (by omega) HP.out.apt (by omega) (by have h := HS.out.1; rw [nums_length, hl, List.length_append] at h; have : (headM mk).length = 8 := rfl; omega)).mono ?_
  rintro E w5 ⟨rfl, hr5, hb5, hf5⟩
  have HB5 : Hid (Blk w5 (s + 1 + 1 + 1) 92 (nums .u8 (headM mk))) := by
    have e : (l.drop 0).take 8 = headM mk := by rw [hl]; rfl
    rw [e] at hb5
    exact hb5
  have HU5 : Hid (Below w.heap.size w w5) := HP.out.bel.trans (hf5.below HP.out.bel.size (fun i hi => by rw [HSZ.out]; simp only [List.mem_cons, List.not_mem_nil, or_false] at hi; omega))
  have HM5 := Lib.hid (HP.out.man.frm hf5 (by simp only [List.mem_cons, List.not_mem_nil, or_false]; omega))
  have HX4 : Hid (Sl w5 (some ⟨s + 1 + 1 + 1, 0, none⟩) 4 (nums .u8 [66, 100, 103, 114])) := by
    have h := HB5.out.sl (off := 0) (n := 4) (by rw [nums_length]; show 0 + 4 ≤ 8; omega)
    exact h
  clear hr5 hb5 hf5 HP
  have HY4 : Hid (Sl (w5.alloc (.cells #[.int .u8 66, .int .u8 100, .int .u8 103, .int .u8 114] 5 (4, 5))) (some ⟨w5.heap.size, 0, none⟩) 4 (nums .u8 [66, 100, 103, 114])) := ⟨rfl, fun _ => ⟨_, 0, rfl, fun j u hu => by rw [Nat.zero_add]; have h := World.cell?_alloc_mark w5 #[.int .u8 66, .int .u8 100, .int .u8 103, .int .u8 114] 5 (4, 5) j; rw [h]; simpa [nums] using hu⟩⟩
  have HX6 : Hid (Sl (w5.alloc (.cells #[.int .u8 66, .int .u8 100, .int .u8 103, .int .u8 114] 5 (4, 5))) (some ⟨s + 1 + 1 + 1, 0, none⟩) 4 (nums .u8 [66, 100, 103, 114])) := HX4.out.alloc _
  have HB6 : Hid (Blk (w5.alloc (.cells #[.int .u8 66, .int .u8 100, .int .u8 103, .int .u8 114] 5 (4, 5))) (s + 1 + 1 + 1) 92 (nums .u8 (headM mk))) := HB5.out.alloc _
  have HM6 : Hid (Blk (w5.alloc (.cells #[.int .u8 66, .int .u8 100, .int .u8 103, .int .u8 114] 5 (4, 5))) s 54 [.slice none 0 0, .map none, .int .i64 0, .int .i64 0]) := HM5.out.alloc _
  have HU6 : Hid (Below w.heap.size w (w5.alloc (.cells #[.int .u8 66, .int .u8 100, .int .u8 103, .int .u8 114] 5 (4, 5)))) := HU5.out.alloc HU5.out.size _
  have hmk : mk / 256 * 256 + mk % 256 = mk := by omega
  have hb1 : 0 ≤ mk / 256 ∧ mk / 256 ≤ 255 := by omega
  have hb2 : 0 ≤ mk % 256 ∧ mk % 256 ≤ 255 := by omega
  clear HX4 HB5 HM5 HU5
  go_wp2_with fail
  generalize w5.alloc (.cells #[.int .u8 66, .int .u8 100, .int .u8 103, .int .u8 114] 5 (4, 5)) = w6 at *
  generalize w5.heap.size = g6 at *
  refine (bytesEqual_any _ _ 4 4 8 4 _ _ w6 HX6.out HY4.out (by unfold Byt; decide) (by unfold Byt; decide)).mono ?_
  rintro E wx ⟨hE, hwx⟩
  subst hwx
  rw [decide_eq_true rfl] at hE
  subst hE
  clear HY4 HX6
  go_wp2_with fail
  refine (bytesToU16_any (some ⟨s + 1 + 1 + 1, 4, none⟩) 2 4 (mk / 256) (mk % 256) [] w6 (by have h := HB6.out.sl (off := 4) (n := 2) (by rw [nums_length]; show 4 + 2 ≤ 8; omega); exact h) ⟨hb1, hb2⟩).mono ?_
  rintro E w7 ⟨hE, hf7⟩
  rw [hmk] at hE
  subst hE
  have HB7 := Lib.hid (HB6.out.frm hf7 (by simp))
  have HM7 := Lib.hid (HM6.out.frm hf7 (by simp))
  have HU7 : Hid (Below w.heap.size w w7) := HU6.out.trans (hf7.below HU6.out.size (fun i hi => by cases hi))
  clear hf7 HB6 HM6 HU6
  go_wp2_with fail
  refine (bytesToU16_any (some ⟨s + 1 + 1 + 1, 6, none⟩) 2 2 0 8 [] w7 (by have h := HB7.out.sl (off := 6) (n := 2) (by rw [nums_length]; show 6 + 2 ≤ 8; omega); exact h) ⟨by omega, by omega⟩).mono ?_
  rintro E w8 ⟨rfl, hf8⟩
  have HM8 := Lib.hid (HM7.out.frm hf8 (by simp))
  have HU8 : Hid (Below w.heap.size w w8) := HU7.out.trans (hf8.below HU7.out.size (fun i hi => by cases hi))
  clear hf8 HB7 HM7 HU7
  go_wp2_with fail
  refine (errNew_any _ w8).mono ?_
  rintro E w9 ⟨⟨a9, rfl⟩, hb9⟩
  have HM9 := Lib.hid (HM8.out.frm (Frm.of_below hb9) (by simp))
  have HU9 : Hid (Below w.heap.size w w9) := HU8.out.trans (hb9.mono HU8.out.size)
  have q0 := HM9.out.at_ (i := 0) rfl
  have q1 := HM9.out.at_ (i := 1) rfl
  have q2 := HM9.out.at_ (i := 2) rfl
  have q3 := HM9.out.at_ (i := 3) rfl
  have z0 := HM9.out.frozen 0
  have z1 := HM9.out.frozen 1
  have z2 := HM9.out.frozen 2
  have z3 := HM9.out.frozen 3
  have HSS : Hid (w.heap.size ≤ s) := Nat.le_of_eq HSZ.out
  have HR : Hid (Below w.heap.size w ((((w9.setCell ⟨s, 0, none⟩ (.slice none 0 0)).setCell ⟨s, 1, none⟩ (.map none)).setCell ⟨s, 2, none⟩ (.int .i64 0)).setCell ⟨s, 3, none⟩ (.int .i64 0))) := (((HU9.out.setCell HSS.out _).setCell HSS.out _).setCell HSS.out _).setCell HSS.out _
  clear hb9 HM8 HU8
  go_wp2
  refine bodyPost_ret (v := .tuple #[.agg #[.slice none 0 0, .map none, .int .i64 0, .int .i64 0], .int .i64 0, .iface 106 (.pointer (some a9))]) (by simp [results, Tryd.results30, go_sem, q0, q1, q2, q3, z0, z1, z2, z3]) rfl ?_
  exact ⟨⟨_, _, rfl⟩, HR.out⟩
end Go.Proofs.YtpfmmbhbmdbmeaaDoor
