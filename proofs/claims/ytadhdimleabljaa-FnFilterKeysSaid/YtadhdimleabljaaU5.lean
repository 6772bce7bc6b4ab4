/- Filters of hashes: how one is made. -/
import Derived.Test.YtadhdimleabljaaU4
namespace Go.Proofs.Ytadhdimleabljaa
open Go.RowKit
set_option linter.unusedVariables false
set_option linter.unusedSimpArgs false
/-- One bit set; the places of a hash, one behind the other; all hashes. -/
def bitPut (fl : List Int) (bp : Nat) : List Int := fl.set (bp / 8) (bits .or .u8 (fl.getD (bp / 8) 0) (2 ^ (bp % 8)))
def hashAt (h d : Int) : Nat → Int
  | 0 => h
  | j + 1 => (hashAt h d j + d) % 4294967296
def probes (fl : List Int) (nb : Nat) (h d : Int) : Nat → List Int
  | 0 => fl
  | j + 1 => bitPut (probes fl nb h d j) ((hashAt h d j).toNat % nb)
def deltaOf (h : Int) : Int := bits .or .u32 (h / 131072) (h * 32768 % 4294967296)
def putHash (nb k : Nat) (fl : List Int) (h : Int) : List Int := probes fl nb h (deltaOf h) k
def filt (nb k : Nat) (l : List Int) (n : Nat) : List Int := l.foldl (putHash nb k) (List.replicate n 0)
def In32' (x : Int) : Prop := 0 ≤ x ∧ x ≤ 4294967295
theorem delta_in (h : Int) (h0 : 0 ≤ h) (h1 : h ≤ 4294967295) : 0 ≤ deltaOf h ∧ deltaOf h ≤ 4294967295 := by
  unfold deltaOf
  rw [u32_or _ _ (by omega) (by omega) (by omega) (by omega)]
  have : (h / 131072).toNat ||| (h * 32768 % 4294967296).toNat < 2 ^ 32 := Nat.or_lt_two_pow (by omega) (by omega)
  omega
theorem hashAt_in (h d : Int) (j : Nat) (h0 : 0 ≤ h) (h1 : h ≤ 4294967295) : 0 ≤ hashAt h d j ∧ hashAt h d j ≤ 4294967295 := by
  cases j with
  | zero => exact ⟨h0, h1⟩
  | succ j => unfold hashAt; omega
def AllB (fl : List Int) : Prop := ∀ x ∈ fl, 0 ≤ x ∧ x ≤ 255
theorem or8_in (a : Int) (e : Nat) (ha : 0 ≤ a ∧ a ≤ 255) (he : e < 8) : 0 ≤ bits .or .u8 a (2 ^ e) ∧ bits .or .u8 a (2 ^ e) ≤ 255 := by
  have hp : (2 : Int) ^ e < 256 := by
    have : e = 0 ∨ e = 1 ∨ e = 2 ∨ e = 3 ∨ e = 4 ∨ e = 5 ∨ e = 6 ∨ e = 7 := by omega
    rcases this with h | h | h | h | h | h | h | h <;> subst h <;> decide
  have hp0 : (0 : Int) ≤ 2 ^ e := Int.pow_nonneg (by omega)
  rw [u8_or a (2 ^ e) ha.1 (by omega) hp0 (by omega)]
  have : a.toNat ||| ((2 : Int) ^ e).toNat < 2 ^ 8 := Nat.or_lt_two_pow (by omega) (by omega)
  omega
theorem bitPut_len (fl : List Int) (bp : Nat) : (bitPut fl bp).length = fl.length := by simp [bitPut]
theorem bitPut_in (fl : List Int) (bp : Nat) (h : AllB fl) : AllB (bitPut fl bp) := by
  intro x hx
  rcases List.mem_or_eq_of_mem_set hx with hx | hx
  · exact h x hx
  · subst hx
    refine or8_in _ _ ?_ (Nat.mod_lt _ (by omega))
    rw [List.getD_eq_getElem?_getD]
    cases hq : fl[bp / 8]? with
    | none => simp
    | some y => exact h y (List.mem_of_getElem? hq)
theorem probes_len (fl : List Int) (nb : Nat) (h d : Int) (j : Nat) : (probes fl nb h d j).length = fl.length := by
  induction j with
  | zero => rfl
  | succ j ih => rw [probes, bitPut_len, ih]
theorem probes_in (fl : List Int) (nb : Nat) (h d : Int) (j : Nat) (hf : AllB fl) : AllB (probes fl nb h d j) := by
  induction j with
  | zero => exact hf
  | succ j ih => exact bitPut_in _ _ ih
theorem fold_len (nb k : Nat) (l fl : List Int) : (l.foldl (putHash nb k) fl).length = fl.length := by
  induction l generalizing fl with
  | nil => rfl
  | cons x l ih => rw [List.foldl_cons, ih, putHash, probes_len]
theorem fold_in (nb k : Nat) (l fl : List Int) (hf : AllB fl) : AllB (l.foldl (putHash nb k) fl) := by
  induction l generalizing fl with
  | nil => exact hf
  | cons x l ih => exact ih _ (probes_in _ _ _ _ _ hf)
theorem filt_snoc (nb k : Nat) (l : List Int) (x : Int) (n : Nat) : filt nb k (l ++ [x]) n = putHash nb k (filt nb k l n) x := by simp [filt]
/-- How many places each hash has: what the machine's floating point tells for so many bits. -/
def kFl (b : Nat) : Nat := b * 69 / 100
def kOf (b : Nat) : Nat := if kFl b < 1 then 1 else kFl b
def FloatAt (b : Nat) : Prop := ∃ X Y : Value,
    (∀ w, (convert 3 183 (.int .i64 (b : Int))).run Try.prog w = .ok X w) ∧ (∀ w, (binOp .mul 183 X (.float .f64 4604390187031047700)).run Try.prog w = .ok Y w) ∧ (∀ w, (convert 183 22 Y).run Try.prog w = .ok (.int .u32 (kFl b : Nat)) w)
theorem float_all : ∀ b : Nat, 1 ≤ b → b ≤ 30 → FloatAt b
  | 0, h, _ => absurd h (by omega)
  | 1, _, _ => ⟨.float .f64 4607182418800017408, .float .f64 4604390187031047700, fun _ => by kernel_rfl, fun _ => by kernel_rfl, fun _ => by kernel_rfl⟩
  | 2, _, _ => ⟨.float .f64 4611686018427387904, .float .f64 4608893786658418196, fun _ => by kernel_rfl, fun _ => by kernel_rfl, fun _ => by kernel_rfl⟩
  | 3, _, _ => ⟨.float .f64 4613937818241073152, .float .f64 4611843644414345871, fun _ => by kernel_rfl, fun _ => by kernel_rfl, fun _ => by kernel_rfl⟩
  | 4, _, _ => ⟨.float .f64 4616189618054758400, .float .f64 4613397386285788692, fun _ => by kernel_rfl, fun _ => by kernel_rfl, fun _ => by kernel_rfl⟩
  | 5, _, _ => ⟨.float .f64 4617315517961601024, .float .f64 4614951128157231513, fun _ => by kernel_rfl, fun _ => by kernel_rfl, fun _ => by kernel_rfl⟩
  | 6, _, _ => ⟨.float .f64 4618441417868443648, .float .f64 4616347244041716367, fun _ => by kernel_rfl, fun _ => by kernel_rfl, fun _ => by kernel_rfl⟩
  | 7, _, _ => ⟨.float .f64 4619567317775286272, .float .f64 4617124114977437778, fun _ => by kernel_rfl, fun _ => by kernel_rfl, fun _ => by kernel_rfl⟩
  | 8, _, _ => ⟨.float .f64 4620693217682128896, .float .f64 4617900985913159188, fun _ => by kernel_rfl, fun _ => by kernel_rfl, fun _ => by kernel_rfl⟩
  | 9, _, _ => ⟨.float .f64 4621256167635550208, .float .f64 4618677856848880598, fun _ => by kernel_rfl, fun _ => by kernel_rfl, fun _ => by kernel_rfl⟩
  | 10, _, _ => ⟨.float .f64 4621819117588971520, .float .f64 4619454727784602009, fun _ => by kernel_rfl, fun _ => by kernel_rfl, fun _ => by kernel_rfl⟩
  | 11, _, _ => ⟨.float .f64 4622382067542392832, .float .f64 4620231598720323420, fun _ => by kernel_rfl, fun _ => by kernel_rfl, fun _ => by kernel_rfl⟩
  | 12, _, _ => ⟨.float .f64 4622945017495814144, .float .f64 4620850843669086863, fun _ => by kernel_rfl, fun _ => by kernel_rfl, fun _ => by kernel_rfl⟩
  | 13, _, _ => ⟨.float .f64 4623507967449235456, .float .f64 4621239279136947568, fun _ => by kernel_rfl, fun _ => by kernel_rfl, fun _ => by kernel_rfl⟩
  | 14, _, _ => ⟨.float .f64 4624070917402656768, .float .f64 4621627714604808274, fun _ => by kernel_rfl, fun _ => by kernel_rfl, fun _ => by kernel_rfl⟩
  | 15, _, _ => ⟨.float .f64 4624633867356078080, .float .f64 4622016150072668979, fun _ => by kernel_rfl, fun _ => by kernel_rfl, fun _ => by kernel_rfl⟩
  | 16, _, _ => ⟨.float .f64 4625196817309499392, .float .f64 4622404585540529684, fun _ => by kernel_rfl, fun _ => by kernel_rfl, fun _ => by kernel_rfl⟩
  | 17, _, _ => ⟨.float .f64 4625478292286210048, .float .f64 4622793021008390389, fun _ => by kernel_rfl, fun _ => by kernel_rfl, fun _ => by kernel_rfl⟩
  | 18, _, _ => ⟨.float .f64 4625759767262920704, .float .f64 4623181456476251094, fun _ => by kernel_rfl, fun _ => by kernel_rfl, fun _ => by kernel_rfl⟩
  | 19, _, _ => ⟨.float .f64 4626041242239631360, .float .f64 4623569891944111800, fun _ => by kernel_rfl, fun _ => by kernel_rfl, fun _ => by kernel_rfl⟩
  | 20, _, _ => ⟨.float .f64 4626322717216342016, .float .f64 4623958327411972505, fun _ => by kernel_rfl, fun _ => by kernel_rfl, fun _ => by kernel_rfl⟩
  | 21, _, _ => ⟨.float .f64 4626604192193052672, .float .f64 4624346762879833210, fun _ => by kernel_rfl, fun _ => by kernel_rfl, fun _ => by kernel_rfl⟩
  | 22, _, _ => ⟨.float .f64 4626885667169763328, .float .f64 4624735198347693916, fun _ => by kernel_rfl, fun _ => by kernel_rfl, fun _ => by kernel_rfl⟩
  | 23, _, _ => ⟨.float .f64 4627167142146473984, .float .f64 4625123633815554621, fun _ => by kernel_rfl, fun _ => by kernel_rfl, fun _ => by kernel_rfl⟩
  | 24, _, _ => ⟨.float .f64 4627448617123184640, .float .f64 4625354443296457359, fun _ => by kernel_rfl, fun _ => by kernel_rfl, fun _ => by kernel_rfl⟩
  | 25, _, _ => ⟨.float .f64 4627730092099895296, .float .f64 4625548661030387712, fun _ => by kernel_rfl, fun _ => by kernel_rfl, fun _ => by kernel_rfl⟩
  | 26, _, _ => ⟨.float .f64 4628011567076605952, .float .f64 4625742878764318064, fun _ => by kernel_rfl, fun _ => by kernel_rfl, fun _ => by kernel_rfl⟩
  | 27, _, _ => ⟨.float .f64 4628293042053316608, .float .f64 4625937096498248417, fun _ => by kernel_rfl, fun _ => by kernel_rfl, fun _ => by kernel_rfl⟩
  | 28, _, _ => ⟨.float .f64 4628574517030027264, .float .f64 4626131314232178770, fun _ => by kernel_rfl, fun _ => by kernel_rfl, fun _ => by kernel_rfl⟩
  | 29, _, _ => ⟨.float .f64 4628855992006737920, .float .f64 4626325531966109122, fun _ => by kernel_rfl, fun _ => by kernel_rfl, fun _ => by kernel_rfl⟩
  | 30, _, _ => ⟨.float .f64 4629137466983448576, .float .f64 4626519749700039475, fun _ => by kernel_rfl, fun _ => by kernel_rfl, fun _ => by kernel_rfl⟩
  | n + 31, _, h => absurd h (by omega)
/-- How many bytes a filter has ahead of its last one. -/
def nbOf (n b : Nat) : Nat := ((if n * b < 64 then 64 else n * b) + 7) / 8
theorem bitPut_blk {w : World} {g : Nat} {fl : List Int} (h : Blk w g 5 (nums .u8 fl)) (i8 e8 bp : Nat) (z : Int) (hi : i8 = bp / 8) (he : e8 = bp % 8) (hz : z = fl.getD i8 0) :
    Blk (w.setCell ⟨g, i8, none⟩ (.int .u8 (bits .or .u8 z (2 ^ e8 % 256)))) g 5 (nums .u8 (bitPut fl bp)) := by
  have e8lt : e8 < 8 := by omega
  have hp : (2 : Int) ^ e8 % 256 = 2 ^ e8 := by
    have : e8 = 0 ∨ e8 = 1 ∨ e8 = 2 ∨ e8 = 3 ∨ e8 = 4 ∨ e8 = 5 ∨ e8 = 6 ∨ e8 = 7 := by omega
    rcases this with h | h | h | h | h | h | h | h <;> rw [h] <;> rfl
  have := h.set_ i8 (.int .u8 (bits .or .u8 z (2 ^ e8 % 256)))
  rw [hp] at this ⊢
  rw [hz, hi, he] at this ⊢
  simpa [bitPut, nums, List.map_set] using this
/-- A filter's bytes. -/
def filterL (nb K : Nat) (l : List Int) : List Int := (filt (nb * 8) K l (nb + 1)).set nb K
theorem bitPut_take (fl : List Int) (bp N : Nat) (h : bp / 8 < N) : (bitPut fl bp).take N = bitPut (fl.take N) bp := by
  unfold bitPut
  rw [List.take_set, List.getD_eq_getElem?_getD, List.getD_eq_getElem?_getD, List.getElem?_take_of_lt h]
theorem probes_take (fl : List Int) (nb : Nat) (h d : Int) (j N : Nat) (hn : 0 < nb) (hN : nb * 8 / 8 < N) : (probes fl (nb * 8) h d j).take N = probes (fl.take N) (nb * 8) h d j := by
  induction j with
  | zero => rfl
  | succ j ih =>
    have : (hashAt h d j).toNat % (nb * 8) < nb * 8 := Nat.mod_lt _ (by omega)
    rw [probes, bitPut_take _ _ _ (by omega), ih, probes]
theorem filt_take (nb K : Nat) (l : List Int) (cp N : Nat) (hn : 0 < nb) (hN : nb < N) (hc : N ≤ cp) : (filt (nb * 8) K l cp).take N = filt (nb * 8) K l N := by
  unfold filt
  have e : List.replicate N (0 : Int) = (List.replicate cp (0 : Int)).take N := by rw [List.take_replicate, Nat.min_eq_left hc]
  rw [e]
  generalize List.replicate cp (0 : Int) = fl
  clear e
  induction l generalizing fl with
  | nil => rfl
  | cons x l ih => rw [List.foldl_cons, List.foldl_cons, ih, putHash, probes_take _ _ _ _ _ _ hn (by omega), putHash]
theorem filter_gave {w wr : World} {g cp N nb K : Nat} {l : List Int} (h : Blk wr g 5 (nums .u8 (filt (nb * 8) K l cp))) (hg : w.heap.size ≤ g) (hb : Below w.heap.size w wr) (hl : (filt (nb * 8) K l cp).length = cp) (hN : N = nb + 1 ∧ 0 < nb) (hc : N ≤ cp) :
    Gave w (filterL nb K l) (.returned (.slice (some ⟨g, 0, none⟩) N cp)) (wr.setCell ⟨g, nb, none⟩ (.int .u8 K)) := by
  obtain ⟨rfl, hn⟩ := hN
  have hs := h.set_ nb (.int .u8 K)
  have hlen : (filterL nb K l).length = nb + 1 := by unfold filterL; rw [List.length_set]; unfold filt; rw [fold_len]; simp
  have := hs.sl (off := 0) (n := nb + 1) (by rw [List.length_set, nums_length, hl]; omega)
  rw [List.drop_zero] at this
  have e : List.take (nb + 1) ((nums .u8 (filt (nb * 8) K l cp)).set nb (.int .u8 K)) = nums .u8 (filterL nb K l) := by
    unfold filterL
    rw [← filt_take nb K l cp (nb + 1) hn (by omega) hc]
    simp [nums, List.map_set, List.take_set, List.map_take]
  rw [e] at this
  refine ⟨some ⟨g, 0, none⟩, cp, by rw [hlen], by rw [hlen]; exact hc, ?_, hb.setCell hg _⟩
  rw [hlen]
  exact this
set_option maxRecDepth 100000 in
set_option maxHeartbeats 1000000 in
theorem appendFilter_any (A : Option Addr) (n c : Nat) (l : List Int) (b : Nat) (w : World) (h : Sl w A n (nums .u32 l)) (hwf : ∀ x ∈ l, 0 ≤ x ∧ x ≤ 4294967295) (hn : n ≤ 300) (h0 : 1 ≤ b) (h1 : b ≤ 30) :
    Calls Try.prog 159 #[.slice none 0 0, .slice A n c, .int .i64 b] w (Gave w (filterL (nbOf n b) (kOf b) l)) := by
  obtain ⟨X, Y, hX, hY, hZ⟩ := float_all b h0 h1
  have hM : n * b ≤ 9000 := by have := Nat.mul_le_mul hn h1; omega
  have hk20 : kFl b ≤ 20 := by unfold kFl; omega
  have hnbe : nbOf n b = ((if n * b < 64 then 64 else n * b) + 7) / 8 := rfl
  have hke : kOf b = if kFl b < 1 then 1 else kFl b := rfl
  obtain ⟨M, hMe⟩ : ∃ M, M = n * b := ⟨_, rfl⟩
  have hMw : IntKind.i64.wrap ((n : Int) * (b : Int)) = (M : Int) := by
    rw [← Int.natCast_mul, ← hMe]
    exact IntWalk.i64_in _ (by omega)
  obtain ⟨kf, hkf⟩ : ∃ kf, kf = kFl b := ⟨_, rfl⟩
  rw [← hkf] at hZ hk20 hke
  rw [← hMe] at hM hnbe
  have H := Lib.hid h
  have HWF := Lib.hid hwf
  clear h hwf hMe hkf
  by_cases hk1 : kf < 1
  · rw [if_pos hk1] at hke
    by_cases hM64 : M < 64
    · rw [if_pos hM64] at hnbe
      have HN : Hid (filterL 8 1 l = filterL (nbOf n b) (kOf b) l) := by show _ = _; rw [hnbe, hke]
      clear hnbe hke
      go_enter Try.func159, Try.ntmps159
      go_wp2_with fail
      refine (extend_any (9) w (by omega) (by omega)).mono ?_
      rintro E wx ⟨g, cp, rfl, hg, hbk, hcp, hcp2, hbx⟩
      have HBK : Hid (Blk wx g 5 (nums .u8 (filt (8 * 8) (1) (l.take 0) cp))) := by
        show Blk _ _ _ _
        have e : nums .u8 (filt (8 * 8) (1) (l.take 0) cp) = List.replicate cp (.int .u8 0) := by simp [filt, nums]
        rw [e]; exact hbk
      have HBX := Lib.hid hbx
      have HGG := Lib.hid hg
      clear hbk hbx hg
      go_wp2
      go_loopg [12, 13, 14, 15, 46] n (fun q v12 v13 v14 v15 v46 wr => ∃ i : Nat, v46 = .int .i64 i ∧ i ≤ n ∧ Hid (i + q = n) ∧ Hid (Blk wr g 5 (nums .u8 (filt (8 * 8) (1) (l.take i) cp))) ∧ Hid (Below w.heap.size w wr))
      case atStart => exact ⟨0, rfl, by omega, by simp [Hid], HBK, HBX⟩
      case round =>
        obtain ⟨i, rfl, hi, hq, hb, hbel⟩ := hrel
        by_cases hin : i < n
        · obtain ⟨gl, o, x, rfl, hlx, hcx⟩ := (H.out.below hbel.out).num hin
          have hx := HWF.out x (List.mem_of_getElem? hlx.out)
          obtain ⟨hx0, hx1⟩ := hx
          have hd := delta_in x hx0 hx1
          obtain ⟨d, hdd⟩ : ∃ d, d = deltaOf x := ⟨_, rfl⟩
          rw [← hdd] at hd
          obtain ⟨hd0, hd1⟩ := hd
          have hde : bits .or .u32 (x / 131072) (x * 32768 % 4294967296) = d := hdd.symm
          have HDD := Lib.hid hdd
          clear hdd
          obtain ⟨gkO, rfl⟩ : ∃ q, gk = q + 1 := ⟨gk - 1, by have := hq.out; omega⟩
          have hgk := hq
          have HB0 := hb
          obtain ⟨wo, rfl⟩ : ∃ wo : World, wo = wr := ⟨_, rfl⟩
          obtain ⟨fl, hfl⟩ : ∃ fl, fl = filt (8 * 8) (1) (l.take i) cp := ⟨_, rfl⟩
          rw [← hfl] at hb HB0
          have hflen : fl.length = cp := by rw [hfl]; unfold filt; rw [fold_len]; simp
          have hfin : AllB fl := by rw [hfl]; exact fold_in _ _ _ _ (by intro y hy; rw [List.eq_of_mem_replicate hy]; omega)
          have HFL := Lib.hid (And.intro hfl (And.intro hflen hfin))
          clear hfl hflen hfin
          go_wp2
          go_loopg [12, 14, 15] (1) (fun q2 v12 v14 v15 wr2 => ∃ j : Nat, v12 = .int .u32 (hashAt x d j) ∧ v14 = .int .u32 j ∧ j ≤ 1 ∧ Hid (j + q2 = 1) ∧ Hid (Blk wr2 g 5 (nums .u8 (probes fl (8 * 8) x d j))) ∧ Hid (Below w.heap.size w wr2))
          case atStart => exact ⟨0, rfl, rfl, by omega, by simp [Hid], HB0, hbel⟩
          case round =>
            obtain ⟨j, rfl, rfl, hj, hq2, hb2, hbel2⟩ := hrel
            by_cases hjk : j < 1
            · have hha := hashAt_in x d j hx0 hx1
              obtain ⟨y, hy⟩ : ∃ y, y = hashAt x d j := ⟨_, rfl⟩
              rw [← hy] at hha ⊢
              obtain ⟨hy0, hy1⟩ := hha
              obtain ⟨bp, hbp⟩ : ∃ bp : Nat, bp = y.toNat % (8 * 8) := ⟨_, rfl⟩
              have hbplt : bp < 8 * 8 := by rw [hbp]; exact Nat.mod_lt _ (by omega)
              obtain ⟨i8, hi8⟩ : ∃ i8 : Nat, i8 = bp / 8 := ⟨_, rfl⟩
              obtain ⟨e8, he8⟩ : ∃ e8 : Nat, e8 = bp % 8 := ⟨_, rfl⟩
              have r1 : y % (64) = (bp : Int) := by omega
              have r2 : (bp : Int) / 8 = (i8 : Int) := by omega
              have r3 : (bp : Int) % 8 = (e8 : Int) := by omega
              have e8lt : e8 < 8 := by omega
              have i8lt : i8 < 8 := by omega
              obtain ⟨z, hz⟩ : ∃ z, z = (probes fl (8 * 8) x d j).getD i8 0 := ⟨_, rfl⟩
              have hlen2 : (probes fl (8 * 8) x d j).length = cp := by rw [probes_len]; exact HFL.out.2.1
              have hcell : wr.cell? ⟨g, i8, none⟩ = some (.int .u8 z) := by
                rw [hb2.out.cell, hz, nums_get _ _ _ (by omega)]
              have hz2 : 0 ≤ z ∧ z ≤ 255 := by
                rw [hz, List.getD_eq_getElem?_getD, List.getElem?_eq_getElem (by omega)]
                exact probes_in _ _ _ _ _ HFL.out.2.2 _ (List.getElem_mem _)
              obtain ⟨hz0, hz1⟩ := hz2
              have hfz := hb2.out.frozen i8
              have hset := bitPut_blk hb2.out i8 e8 bp z hi8 he8 hz
              have HSET : Hid (Blk (wr.setCell ⟨g, i8, none⟩ (.int .u8 (bits .or .u8 z (2 ^ e8 % 256)))) g 5 (nums .u8 (probes fl (8 * 8) x d (j + 1)))) := by
                show Blk _ _ _ _
                rw [probes, ← hy, ← hbp]
                exact hset
              have HY : Hid ((y + d) % 4294967296 = hashAt x d (j + 1)) := by show _ = _; rw [hashAt, ← hy]
              have HBS : Hid (Below w.heap.size w (wr.setCell ⟨g, i8, none⟩ (.int .u8 (bits .or .u8 z (2 ^ e8 % 256))))) := hbel2.out.setCell HGG.out _
              clear hy hbp hi8 he8 hz hlen2 hset
              go_wp2
              cases gk with
              | zero => exact absurd hq2.out (by omega)
              | succ k2 =>
                go_roundg k2
                case measure => omega
                case rel => exact ⟨j + 1, by rw [HY.out], by go_num, by omega, by have := hq2.out; show _ = _; omega, HSET, HBS⟩
            · obtain rfl : j = 1 := by omega
              have HNX : Hid (Blk wr g 5 (nums .u8 (filt (8 * 8) (1) (l.take (i + 1)) cp))) := by
                obtain ⟨g1, e1⟩ := List.getElem?_eq_some_iff.1 hlx.out
                show Blk _ _ _ _
                rw [List.take_succ_eq_append_getElem g1, e1, filt_snoc, ← HFL.out.1, putHash, ← HDD.out]
                exact hb2.out
              go_wp2
              go_roundg gkO
              case measure => omega
              case rel => exact ⟨i + 1, by go_num, by omega, by have := hgk.out; show _ = _; omega, HNX, hbel2⟩
        · obtain rfl : i = n := by omega
          have hfl : filt (8 * 8) (1) (l.take i) cp = filt (8 * 8) (1) l cp := by rw [List.take_of_length_le (by have := H.out.1; rw [nums_length] at this; omega)]
          have hflen : (filt (8 * 8) (1) l cp).length = cp := by unfold filt; rw [fold_len]; simp
          rw [hfl] at hb
          obtain ⟨z, hcell⟩ : ∃ z, wr.cell? ⟨g, 8, none⟩ = some z := by
            have : 8 < (nums .u8 (filt (8 * 8) (1) l cp)).length := by rw [nums_length, hflen]; omega
            exact ⟨_, by rw [hb.out.cell, List.getElem?_eq_getElem this]⟩
          have hfz := hb.out.frozen (8)
          have HFIN := Lib.hid (filter_gave (N := 9) (nb := 8) (K := 1) hb.out HGG.out hbel.out hflen (by omega) (by omega))
          clear hfl hflen
          go_wp2
          go_ret
          have := HFIN.out
          rw [HN.out] at this
          exact this
    · rw [if_neg hM64] at hnbe
      obtain ⟨nb, hnb⟩ : ∃ nb, nb = (M + 7) / 8 := ⟨_, rfl⟩
      have HN : Hid (filterL nb 1 l = filterL (nbOf n b) (kOf b) l) := by show _ = _; rw [hnbe, hke, hnb]
      clear hnbe hke
      have hnb1 : 8 ≤ nb := by omega
      have hnb2 : nb ≤ 1125 := by omega
      have w1 : IntKind.i64.wrap ((M : Int) + 7) = (M : Int) + 7 := IntWalk.i64_in _ (by omega)
      have w2 : ((M : Int) + 7) / 8 = (nb : Int) := by omega
      have w3 : IntKind.i64.wrap ((nb : Int) * 8) = (nb : Int) * 8 := IntWalk.i64_in _ (by omega)
      have w4 : IntKind.i64.wrap ((nb : Int) + 1) = ((nb + 1 : Nat) : Int) := by rw [IntWalk.i64_in _ (by omega)]; omega
      have w5 : ((nb : Int) * 8) % 4294967296 = (nb : Int) * 8 := by omega
      have w6 : (nb : Int) < ((nb + 1 : Nat) : Int) := by omega
      have w7 : ((nb : Int) * 8 == 0) = false := by simp; omega
      clear hnb
      go_enter Try.func159, Try.ntmps159
      go_wp2_with fail
      refine (extend_any (nb + 1) w (by omega) (by omega)).mono ?_
      rintro E wx ⟨g, cp, rfl, hg, hbk, hcp, hcp2, hbx⟩
      have HBK : Hid (Blk wx g 5 (nums .u8 (filt (nb * 8) (1) (l.take 0) cp))) := by
        show Blk _ _ _ _
        have e : nums .u8 (filt (nb * 8) (1) (l.take 0) cp) = List.replicate cp (.int .u8 0) := by simp [filt, nums]
        rw [e]; exact hbk
      have HBX := Lib.hid hbx
      have HGG := Lib.hid hg
      clear hbk hbx hg
      go_wp2
      go_loopg [12, 13, 14, 15, 46] n (fun q v12 v13 v14 v15 v46 wr => ∃ i : Nat, v46 = .int .i64 i ∧ i ≤ n ∧ Hid (i + q = n) ∧ Hid (Blk wr g 5 (nums .u8 (filt (nb * 8) (1) (l.take i) cp))) ∧ Hid (Below w.heap.size w wr))
      case atStart => exact ⟨0, rfl, by omega, by simp [Hid], HBK, HBX⟩
      case round =>
        obtain ⟨i, rfl, hi, hq, hb, hbel⟩ := hrel
        by_cases hin : i < n
        · obtain ⟨gl, o, x, rfl, hlx, hcx⟩ := (H.out.below hbel.out).num hin
          have hx := HWF.out x (List.mem_of_getElem? hlx.out)
          obtain ⟨hx0, hx1⟩ := hx
          have hd := delta_in x hx0 hx1
          obtain ⟨d, hdd⟩ : ∃ d, d = deltaOf x := ⟨_, rfl⟩
          rw [← hdd] at hd
          obtain ⟨hd0, hd1⟩ := hd
          have hde : bits .or .u32 (x / 131072) (x * 32768 % 4294967296) = d := hdd.symm
          have HDD := Lib.hid hdd
          clear hdd
          obtain ⟨gkO, rfl⟩ : ∃ q, gk = q + 1 := ⟨gk - 1, by have := hq.out; omega⟩
          have hgk := hq
          have HB0 := hb
          obtain ⟨wo, rfl⟩ : ∃ wo : World, wo = wr := ⟨_, rfl⟩
          obtain ⟨fl, hfl⟩ : ∃ fl, fl = filt (nb * 8) (1) (l.take i) cp := ⟨_, rfl⟩
          rw [← hfl] at hb HB0
          have hflen : fl.length = cp := by rw [hfl]; unfold filt; rw [fold_len]; simp
          have hfin : AllB fl := by rw [hfl]; exact fold_in _ _ _ _ (by intro y hy; rw [List.eq_of_mem_replicate hy]; omega)
          have HFL := Lib.hid (And.intro hfl (And.intro hflen hfin))
          clear hfl hflen hfin
          go_wp2
          go_loopg [12, 14, 15] (1) (fun q2 v12 v14 v15 wr2 => ∃ j : Nat, v12 = .int .u32 (hashAt x d j) ∧ v14 = .int .u32 j ∧ j ≤ 1 ∧ Hid (j + q2 = 1) ∧ Hid (Blk wr2 g 5 (nums .u8 (probes fl (nb * 8) x d j))) ∧ Hid (Below w.heap.size w wr2))
          case atStart => exact ⟨0, rfl, rfl, by omega, by simp [Hid], HB0, hbel⟩
          case round =>
            obtain ⟨j, rfl, rfl, hj, hq2, hb2, hbel2⟩ := hrel
            by_cases hjk : j < 1
            · have hha := hashAt_in x d j hx0 hx1
              obtain ⟨y, hy⟩ : ∃ y, y = hashAt x d j := ⟨_, rfl⟩
              rw [← hy] at hha ⊢
              obtain ⟨hy0, hy1⟩ := hha
              obtain ⟨bp, hbp⟩ : ∃ bp : Nat, bp = y.toNat % (nb * 8) := ⟨_, rfl⟩
              have hbplt : bp < nb * 8 := by rw [hbp]; exact Nat.mod_lt _ (by omega)
              obtain ⟨i8, hi8⟩ : ∃ i8 : Nat, i8 = bp / 8 := ⟨_, rfl⟩
              obtain ⟨e8, he8⟩ : ∃ e8 : Nat, e8 = bp % 8 := ⟨_, rfl⟩
              have r1 : y % ((nb : Int) * 8) = (bp : Int) := by rw [hbp, show ((y.toNat % (nb * 8) : Nat) : Int) = (y.toNat : Int) % ((nb : Int) * 8) from rfl, Int.toNat_of_nonneg hy0]
              have r2 : (bp : Int) / 8 = (i8 : Int) := by omega
              have r3 : (bp : Int) % 8 = (e8 : Int) := by omega
              have e8lt : e8 < 8 := by omega
              have i8lt : i8 < nb := by omega
              obtain ⟨z, hz⟩ : ∃ z, z = (probes fl (nb * 8) x d j).getD i8 0 := ⟨_, rfl⟩
              have hlen2 : (probes fl (nb * 8) x d j).length = cp := by rw [probes_len]; exact HFL.out.2.1
              have hcell : wr.cell? ⟨g, i8, none⟩ = some (.int .u8 z) := by
                rw [hb2.out.cell, hz, nums_get _ _ _ (by omega)]
              have hz2 : 0 ≤ z ∧ z ≤ 255 := by
                rw [hz, List.getD_eq_getElem?_getD, List.getElem?_eq_getElem (by omega)]
                exact probes_in _ _ _ _ _ HFL.out.2.2 _ (List.getElem_mem _)
              obtain ⟨hz0, hz1⟩ := hz2
              have hfz := hb2.out.frozen i8
              have hset := bitPut_blk hb2.out i8 e8 bp z hi8 he8 hz
              have HSET : Hid (Blk (wr.setCell ⟨g, i8, none⟩ (.int .u8 (bits .or .u8 z (2 ^ e8 % 256)))) g 5 (nums .u8 (probes fl (nb * 8) x d (j + 1)))) := by
                show Blk _ _ _ _
                rw [probes, ← hy, ← hbp]
                exact hset
              have HY : Hid ((y + d) % 4294967296 = hashAt x d (j + 1)) := by show _ = _; rw [hashAt, ← hy]
              have HBS : Hid (Below w.heap.size w (wr.setCell ⟨g, i8, none⟩ (.int .u8 (bits .or .u8 z (2 ^ e8 % 256))))) := hbel2.out.setCell HGG.out _
              clear hy hbp hi8 he8 hz hlen2 hset
              go_wp2
              cases gk with
              | zero => exact absurd hq2.out (by omega)
              | succ k2 =>
                go_roundg k2
                case measure => omega
                case rel => exact ⟨j + 1, by rw [HY.out], by go_num, by omega, by have := hq2.out; show _ = _; omega, HSET, HBS⟩
            · obtain rfl : j = 1 := by omega
              have HNX : Hid (Blk wr g 5 (nums .u8 (filt (nb * 8) (1) (l.take (i + 1)) cp))) := by
                obtain ⟨g1, e1⟩ := List.getElem?_eq_some_iff.1 hlx.out
                show Blk _ _ _ _
                rw [List.take_succ_eq_append_getElem g1, e1, filt_snoc, ← HFL.out.1, putHash, ← HDD.out]
                exact hb2.out
              go_wp2
              go_roundg gkO
              case measure => omega
              case rel => exact ⟨i + 1, by go_num, by omega, by have := hgk.out; show _ = _; omega, HNX, hbel2⟩
        · obtain rfl : i = n := by omega
          have hfl : filt (nb * 8) (1) (l.take i) cp = filt (nb * 8) (1) l cp := by rw [List.take_of_length_le (by have := H.out.1; rw [nums_length] at this; omega)]
          have hflen : (filt (nb * 8) (1) l cp).length = cp := by unfold filt; rw [fold_len]; simp
          rw [hfl] at hb
          obtain ⟨z, hcell⟩ : ∃ z, wr.cell? ⟨g, nb, none⟩ = some z := by
            have : nb < (nums .u8 (filt (nb * 8) (1) l cp)).length := by rw [nums_length, hflen]; omega
            exact ⟨_, by rw [hb.out.cell, List.getElem?_eq_getElem this]⟩
          have hfz := hb.out.frozen (nb)
          have HFIN := Lib.hid (filter_gave (N := nb + 1) (nb := nb) (K := 1) hb.out HGG.out hbel.out hflen (by omega) (by omega))
          clear hfl hflen
          go_wp2
          go_ret
          have := HFIN.out
          rw [HN.out] at this
          exact this
  · rw [if_neg hk1] at hke
    by_cases hM64 : M < 64
    · rw [if_pos hM64] at hnbe
      have HN : Hid (filterL 8 kf l = filterL (nbOf n b) (kOf b) l) := by show _ = _; rw [hnbe, hke]
      have kw : (kf : Int) % 256 = (kf : Int) := by omega
      clear hnbe hke
      go_enter Try.func159, Try.ntmps159
      go_wp2_with fail
      refine (extend_any (9) w (by omega) (by omega)).mono ?_
      rintro E wx ⟨g, cp, rfl, hg, hbk, hcp, hcp2, hbx⟩
      have HBK : Hid (Blk wx g 5 (nums .u8 (filt (8 * 8) (kf) (l.take 0) cp))) := by
        show Blk _ _ _ _
        have e : nums .u8 (filt (8 * 8) (kf) (l.take 0) cp) = List.replicate cp (.int .u8 0) := by simp [filt, nums]
        rw [e]; exact hbk
      have HBX := Lib.hid hbx
      have HGG := Lib.hid hg
      clear hbk hbx hg
      go_wp2
      go_loopg [12, 13, 14, 15, 46] n (fun q v12 v13 v14 v15 v46 wr => ∃ i : Nat, v46 = .int .i64 i ∧ i ≤ n ∧ Hid (i + q = n) ∧ Hid (Blk wr g 5 (nums .u8 (filt (8 * 8) (kf) (l.take i) cp))) ∧ Hid (Below w.heap.size w wr))
      case atStart => exact ⟨0, rfl, by omega, by simp [Hid], HBK, HBX⟩
      case round =>
        obtain ⟨i, rfl, hi, hq, hb, hbel⟩ := hrel
        by_cases hin : i < n
        · obtain ⟨gl, o, x, rfl, hlx, hcx⟩ := (H.out.below hbel.out).num hin
          have hx := HWF.out x (List.mem_of_getElem? hlx.out)
          obtain ⟨hx0, hx1⟩ := hx
          have hd := delta_in x hx0 hx1
          obtain ⟨d, hdd⟩ : ∃ d, d = deltaOf x := ⟨_, rfl⟩
          rw [← hdd] at hd
          obtain ⟨hd0, hd1⟩ := hd
          have hde : bits .or .u32 (x / 131072) (x * 32768 % 4294967296) = d := hdd.symm
          have HDD := Lib.hid hdd
          clear hdd
          obtain ⟨gkO, rfl⟩ : ∃ q, gk = q + 1 := ⟨gk - 1, by have := hq.out; omega⟩
          have hgk := hq
          have HB0 := hb
          obtain ⟨wo, rfl⟩ : ∃ wo : World, wo = wr := ⟨_, rfl⟩
          obtain ⟨fl, hfl⟩ : ∃ fl, fl = filt (8 * 8) (kf) (l.take i) cp := ⟨_, rfl⟩
          rw [← hfl] at hb HB0
          have hflen : fl.length = cp := by rw [hfl]; unfold filt; rw [fold_len]; simp
          have hfin : AllB fl := by rw [hfl]; exact fold_in _ _ _ _ (by intro y hy; rw [List.eq_of_mem_replicate hy]; omega)
          have HFL := Lib.hid (And.intro hfl (And.intro hflen hfin))
          clear hfl hflen hfin
          go_wp2
          go_loopg [12, 14, 15] (kf) (fun q2 v12 v14 v15 wr2 => ∃ j : Nat, v12 = .int .u32 (hashAt x d j) ∧ v14 = .int .u32 j ∧ j ≤ kf ∧ Hid (j + q2 = kf) ∧ Hid (Blk wr2 g 5 (nums .u8 (probes fl (8 * 8) x d j))) ∧ Hid (Below w.heap.size w wr2))
          case atStart => exact ⟨0, rfl, rfl, by omega, by simp [Hid], HB0, hbel⟩
          case round =>
            obtain ⟨j, rfl, rfl, hj, hq2, hb2, hbel2⟩ := hrel
            by_cases hjk : j < kf
            · have hha := hashAt_in x d j hx0 hx1
              obtain ⟨y, hy⟩ : ∃ y, y = hashAt x d j := ⟨_, rfl⟩
              rw [← hy] at hha ⊢
              obtain ⟨hy0, hy1⟩ := hha
              obtain ⟨bp, hbp⟩ : ∃ bp : Nat, bp = y.toNat % (8 * 8) := ⟨_, rfl⟩
              have hbplt : bp < 8 * 8 := by rw [hbp]; exact Nat.mod_lt _ (by omega)
              obtain ⟨i8, hi8⟩ : ∃ i8 : Nat, i8 = bp / 8 := ⟨_, rfl⟩
              obtain ⟨e8, he8⟩ : ∃ e8 : Nat, e8 = bp % 8 := ⟨_, rfl⟩
              have r1 : y % (64) = (bp : Int) := by omega
              have r2 : (bp : Int) / 8 = (i8 : Int) := by omega
              have r3 : (bp : Int) % 8 = (e8 : Int) := by omega
              have e8lt : e8 < 8 := by omega
              have i8lt : i8 < 8 := by omega
              obtain ⟨z, hz⟩ : ∃ z, z = (probes fl (8 * 8) x d j).getD i8 0 := ⟨_, rfl⟩
              have hlen2 : (probes fl (8 * 8) x d j).length = cp := by rw [probes_len]; exact HFL.out.2.1
              have hcell : wr.cell? ⟨g, i8, none⟩ = some (.int .u8 z) := by
                rw [hb2.out.cell, hz, nums_get _ _ _ (by omega)]
              have hz2 : 0 ≤ z ∧ z ≤ 255 := by
                rw [hz, List.getD_eq_getElem?_getD, List.getElem?_eq_getElem (by omega)]
                exact probes_in _ _ _ _ _ HFL.out.2.2 _ (List.getElem_mem _)
              obtain ⟨hz0, hz1⟩ := hz2
              have hfz := hb2.out.frozen i8
              have hset := bitPut_blk hb2.out i8 e8 bp z hi8 he8 hz
              have HSET : Hid (Blk (wr.setCell ⟨g, i8, none⟩ (.int .u8 (bits .or .u8 z (2 ^ e8 % 256)))) g 5 (nums .u8 (probes fl (8 * 8) x d (j + 1)))) := by
                show Blk _ _ _ _
                rw [probes, ← hy, ← hbp]
                exact hset
              have HY : Hid ((y + d) % 4294967296 = hashAt x d (j + 1)) := by show _ = _; rw [hashAt, ← hy]
              have HBS : Hid (Below w.heap.size w (wr.setCell ⟨g, i8, none⟩ (.int .u8 (bits .or .u8 z (2 ^ e8 % 256))))) := hbel2.out.setCell HGG.out _
              clear hy hbp hi8 he8 hz hlen2 hset
              go_wp2
              cases gk with
              | zero => exact absurd hq2.out (by omega)
              | succ k2 =>
                go_roundg k2
                case measure => omega
                case rel => exact ⟨j + 1, by rw [HY.out], by go_num, by omega, by have := hq2.out; show _ = _; omega, HSET, HBS⟩
            · obtain rfl : kf = j := by omega
              have HNX : Hid (Blk wr g 5 (nums .u8 (filt (8 * 8) (kf) (l.take (i + 1)) cp))) := by
                obtain ⟨g1, e1⟩ := List.getElem?_eq_some_iff.1 hlx.out
                show Blk _ _ _ _
                rw [List.take_succ_eq_append_getElem g1, e1, filt_snoc, ← HFL.out.1, putHash, ← HDD.out]
                exact hb2.out
              go_wp2
              go_roundg gkO
              case measure => omega
              case rel => exact ⟨i + 1, by go_num, by omega, by have := hgk.out; show _ = _; omega, HNX, hbel2⟩
        · obtain rfl : i = n := by omega
          have hfl : filt (8 * 8) (kf) (l.take i) cp = filt (8 * 8) (kf) l cp := by rw [List.take_of_length_le (by have := H.out.1; rw [nums_length] at this; omega)]
          have hflen : (filt (8 * 8) (kf) l cp).length = cp := by unfold filt; rw [fold_len]; simp
          rw [hfl] at hb
          obtain ⟨z, hcell⟩ : ∃ z, wr.cell? ⟨g, 8, none⟩ = some z := by
            have : 8 < (nums .u8 (filt (8 * 8) (kf) l cp)).length := by rw [nums_length, hflen]; omega
            exact ⟨_, by rw [hb.out.cell, List.getElem?_eq_getElem this]⟩
          have hfz := hb.out.frozen (8)
          have HFIN := Lib.hid (filter_gave (N := 9) (nb := 8) (K := kf) hb.out HGG.out hbel.out hflen (by omega) (by omega))
          clear hfl hflen
          go_wp2
          go_ret
          have := HFIN.out
          rw [HN.out] at this
          exact this
    · rw [if_neg hM64] at hnbe
      obtain ⟨nb, hnb⟩ : ∃ nb, nb = (M + 7) / 8 := ⟨_, rfl⟩
      have HN : Hid (filterL nb kf l = filterL (nbOf n b) (kOf b) l) := by show _ = _; rw [hnbe, hke, hnb]
      have kw : (kf : Int) % 256 = (kf : Int) := by omega
      clear hnbe hke
      have hnb1 : 8 ≤ nb := by omega
      have hnb2 : nb ≤ 1125 := by omega
      have w1 : IntKind.i64.wrap ((M : Int) + 7) = (M : Int) + 7 := IntWalk.i64_in _ (by omega)
      have w2 : ((M : Int) + 7) / 8 = (nb : Int) := by omega
      have w3 : IntKind.i64.wrap ((nb : Int) * 8) = (nb : Int) * 8 := IntWalk.i64_in _ (by omega)
      have w4 : IntKind.i64.wrap ((nb : Int) + 1) = ((nb + 1 : Nat) : Int) := by rw [IntWalk.i64_in _ (by omega)]; omega
      have w5 : ((nb : Int) * 8) % 4294967296 = (nb : Int) * 8 := by omega
      have w6 : (nb : Int) < ((nb + 1 : Nat) : Int) := by omega
      have w7 : ((nb : Int) * 8 == 0) = false := by simp; omega
      clear hnb
      go_enter Try.func159, Try.ntmps159
      go_wp2_with fail
      refine (extend_any (nb + 1) w (by omega) (by omega)).mono ?_
      rintro E wx ⟨g, cp, rfl, hg, hbk, hcp, hcp2, hbx⟩
      have HBK : Hid (Blk wx g 5 (nums .u8 (filt (nb * 8) (kf) (l.take 0) cp))) := by
        show Blk _ _ _ _
        have e : nums .u8 (filt (nb * 8) (kf) (l.take 0) cp) = List.replicate cp (.int .u8 0) := by simp [filt, nums]
        rw [e]; exact hbk
      have HBX := Lib.hid hbx
      have HGG := Lib.hid hg
      clear hbk hbx hg
      go_wp2
      go_loopg [12, 13, 14, 15, 46] n (fun q v12 v13 v14 v15 v46 wr => ∃ i : Nat, v46 = .int .i64 i ∧ i ≤ n ∧ Hid (i + q = n) ∧ Hid (Blk wr g 5 (nums .u8 (filt (nb * 8) (kf) (l.take i) cp))) ∧ Hid (Below w.heap.size w wr))
      case atStart => exact ⟨0, rfl, by omega, by simp [Hid], HBK, HBX⟩
      case round =>
        obtain ⟨i, rfl, hi, hq, hb, hbel⟩ := hrel
        by_cases hin : i < n
        · obtain ⟨gl, o, x, rfl, hlx, hcx⟩ := (H.out.below hbel.out).num hin
          have hx := HWF.out x (List.mem_of_getElem? hlx.out)
          obtain ⟨hx0, hx1⟩ := hx
          have hd := delta_in x hx0 hx1
          obtain ⟨d, hdd⟩ : ∃ d, d = deltaOf x := ⟨_, rfl⟩
          rw [← hdd] at hd
          obtain ⟨hd0, hd1⟩ := hd
          have hde : bits .or .u32 (x / 131072) (x * 32768 % 4294967296) = d := hdd.symm
          have HDD := Lib.hid hdd
          clear hdd
          obtain ⟨gkO, rfl⟩ : ∃ q, gk = q + 1 := ⟨gk - 1, by have := hq.out; omega⟩
          have hgk := hq
          have HB0 := hb
          obtain ⟨wo, rfl⟩ : ∃ wo : World, wo = wr := ⟨_, rfl⟩
          obtain ⟨fl, hfl⟩ : ∃ fl, fl = filt (nb * 8) (kf) (l.take i) cp := ⟨_, rfl⟩
          rw [← hfl] at hb HB0
          have hflen : fl.length = cp := by rw [hfl]; unfold filt; rw [fold_len]; simp
          have hfin : AllB fl := by rw [hfl]; exact fold_in _ _ _ _ (by intro y hy; rw [List.eq_of_mem_replicate hy]; omega)
          have HFL := Lib.hid (And.intro hfl (And.intro hflen hfin))
          clear hfl hflen hfin
          go_wp2
          go_loopg [12, 14, 15] (kf) (fun q2 v12 v14 v15 wr2 => ∃ j : Nat, v12 = .int .u32 (hashAt x d j) ∧ v14 = .int .u32 j ∧ j ≤ kf ∧ Hid (j + q2 = kf) ∧ Hid (Blk wr2 g 5 (nums .u8 (probes fl (nb * 8) x d j))) ∧ Hid (Below w.heap.size w wr2))
          case atStart => exact ⟨0, rfl, rfl, by omega, by simp [Hid], HB0, hbel⟩
          case round =>
            obtain ⟨j, rfl, rfl, hj, hq2, hb2, hbel2⟩ := hrel
            by_cases hjk : j < kf
            · have hha := hashAt_in x d j hx0 hx1
              obtain ⟨y, hy⟩ : ∃ y, y = hashAt x d j := ⟨_, rfl⟩
              rw [← hy] at hha ⊢
              obtain ⟨hy0, hy1⟩ := hha
              obtain ⟨bp, hbp⟩ : ∃ bp : Nat, bp = y.toNat % (nb * 8) := ⟨_, rfl⟩
              have hbplt : bp < nb * 8 := by rw [hbp]; exact Nat.mod_lt _ (by omega)
              obtain ⟨i8, hi8⟩ : ∃ i8 : Nat, i8 = bp / 8 := ⟨_, rfl⟩
              obtain ⟨e8, he8⟩ : ∃ e8 : Nat, e8 = bp % 8 := ⟨_, rfl⟩
              have r1 : y % ((nb : Int) * 8) = (bp : Int) := by rw [hbp, show ((y.toNat % (nb * 8) : Nat) : Int) = (y.toNat : Int) % ((nb : Int) * 8) from rfl, Int.toNat_of_nonneg hy0]
              have r2 : (bp : Int) / 8 = (i8 : Int) := by omega
              have r3 : (bp : Int) % 8 = (e8 : Int) := by omega
              have e8lt : e8 < 8 := by omega
              have i8lt : i8 < nb := by omega
              obtain ⟨z, hz⟩ : ∃ z, z = (probes fl (nb * 8) x d j).getD i8 0 := ⟨_, rfl⟩
              have hlen2 : (probes fl (nb * 8) x d j).length = cp := by rw [probes_len]; exact HFL.out.2.1
              have hcell : wr.cell? ⟨g, i8, none⟩ = some (.int .u8 z) := by
                rw [hb2.out.cell, hz, nums_get _ _ _ (by omega)]
              have hz2 : 0 ≤ z ∧ z ≤ 255 := by
                rw [hz, List.getD_eq_getElem?_getD, List.getElem?_eq_getElem (by omega)]
                exact probes_in _ _ _ _ _ HFL.out.2.2 _ (List.getElem_mem _)
              obtain ⟨hz0, hz1⟩ := hz2
              have hfz := hb2.out.frozen i8
              have hset := bitPut_blk hb2.out i8 e8 bp z hi8 he8 hz
              have HSET : Hid (Blk (wr.setCell ⟨g, i8, none⟩ (.int .u8 (bits .or .u8 z (2 ^ e8 % 256)))) g 5 (nums .u8 (probes fl (nb * 8) x d (j + 1)))) := by
                show Blk _ _ _ _
                rw [probes, ← hy, ← hbp]
                exact hset
              have HY : Hid ((y + d) % 4294967296 = hashAt x d (j + 1)) := by show _ = _; rw [hashAt, ← hy]
              have HBS : Hid (Below w.heap.size w (wr.setCell ⟨g, i8, none⟩ (.int .u8 (bits .or .u8 z (2 ^ e8 % 256))))) := hbel2.out.setCell HGG.out _
              clear hy hbp hi8 he8 hz hlen2 hset
              go_wp2
              cases gk with
              | zero => exact absurd hq2.out (by omega)
              | succ k2 =>
                go_roundg k2
                case measure => omega
                case rel => exact ⟨j + 1, by rw [HY.out], by go_num, by omega, by have := hq2.out; show _ = _; omega, HSET, HBS⟩
            · obtain rfl : kf = j := by omega
              have HNX : Hid (Blk wr g 5 (nums .u8 (filt (nb * 8) (kf) (l.take (i + 1)) cp))) := by
                obtain ⟨g1, e1⟩ := List.getElem?_eq_some_iff.1 hlx.out
                show Blk _ _ _ _
                rw [List.take_succ_eq_append_getElem g1, e1, filt_snoc, ← HFL.out.1, putHash, ← HDD.out]
                exact hb2.out
              go_wp2
              go_roundg gkO
              case measure => omega
              case rel => exact ⟨i + 1, by go_num, by omega, by have := hgk.out; show _ = _; omega, HNX, hbel2⟩
        · obtain rfl : i = n := by omega
          have hfl : filt (nb * 8) (kf) (l.take i) cp = filt (nb * 8) (kf) l cp := by rw [List.take_of_length_le (by have := H.out.1; rw [nums_length] at this; omega)]
          have hflen : (filt (nb * 8) (kf) l cp).length = cp := by unfold filt; rw [fold_len]; simp
          rw [hfl] at hb
          obtain ⟨z, hcell⟩ : ∃ z, wr.cell? ⟨g, nb, none⟩ = some z := by
            have : nb < (nums .u8 (filt (nb * 8) (kf) l cp)).length := by rw [nums_length, hflen]; omega
            exact ⟨_, by rw [hb.out.cell, List.getElem?_eq_getElem this]⟩
          have hfz := hb.out.frozen (nb)
          have HFIN := Lib.hid (filter_gave (N := nb + 1) (nb := nb) (K := kf) hb.out HGG.out hbel.out hflen (by omega) (by omega))
          clear hfl hflen
          go_wp2
          go_ret
          have := HFIN.out
          rw [HN.out] at this
          exact this
end Go.Proofs.Ytadhdimleabljaa
